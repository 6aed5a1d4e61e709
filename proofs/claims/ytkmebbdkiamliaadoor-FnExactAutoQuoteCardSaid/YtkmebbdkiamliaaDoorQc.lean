/- What calls of the program's AutoQuote do at a text of printed signs, and what the law FnExactAutoQuote answers. Conditions: the tables of Go's library lie in memory. -/
import Derived.Test.YtkmebbdkiamliaaDoorQb
import Derived.Test.YtkmebbdkiamliaaDoorShelfQ
namespace Go.Proofs.YtkmebbdkiamliaaDoor.Q
open Go.RowKit Go.Proofs.YtkmebbdkiamliaaDoor.PPrintable Go.Proofs.YtkmebbdkiamliaaDoor.PMustQuote Go.Proofs.YtkmebbdkiamliaaDoor.PQuote Go.Proofs.YtkmebbdkiamliaaDoor.PzzContains Go.Proofs.YtkmebbdkiamliaaDoorW.PrintWords

/-! ### strconv.Quote at a text of printed signs -/

def nums (l : List UInt8) : List Int := l.map fun c => (c.toNat : Int)

theorem quoteStep_at (T : Lib.PrintTabs) (s : ByteArray) (c : UInt8) (r : List UInt8) (e : lst s = c :: r) (hc : isPr c = true) :
    Utf8.decode s 0 = (c.toNat, 1) ∧ Lib.quoteStep T s = nums (esc c) := by
  have hz : 0 < s.size := by rw [← lst_length, e]; simp
  have hg : s[0]'hz = c := by
    have h1 : (lst s)[0]'(by rw [lst_length]; exact hz) = c := by simp only [e, List.getElem_cons_zero]
    exact h1
  unfold isPr at hc
  simp only [Bool.and_eq_true, decide_eq_true_eq] at hc
  have hd : Utf8.decode s 0 = (c.toNat, 1) := by
    rw [decode_ascii s 0 hz (by rw [hg]; omega), hg]
  refine ⟨hd, ?_⟩
  unfold Lib.quoteStep
  rw [hd, if_neg (by simp only; omega)]
  simp only
  unfold Lib.escRune esc
  by_cases h : (c.toNat : Int) = 34 ∨ (c.toNat : Int) = 92
  · rw [if_pos h, if_pos h]; rfl
  · rw [if_neg h, if_neg h]
    have hp : Lib.isPrintR T (c.toNat : Int) = true := by
      unfold Lib.isPrintR Lib.isPrintLatin
      rw [if_pos (by omega), decide_eq_true hc.1, decide_eq_true hc.2]
      rfl
    rw [if_pos hp]
    unfold Lib.encodeRuneZ
    rw [if_pos (by omega)]
    rfl

theorem quoteFrom_at (T : Lib.PrintTabs) (f : Nat) : ∀ s : ByteArray, s.size ≤ f → prB s = true → Lib.quoteFrom T f s = nums ((lst s).flatMap esc) := by
  induction f with
  | zero =>
    intro s h _
    have : lst s = [] := List.eq_nil_of_length_eq_zero (by rw [lst_length]; omega)
    rw [this]; rfl
  | succ f ih =>
    intro s h hp
    unfold Lib.quoteFrom
    by_cases h0 : 0 < s.size
    · obtain ⟨c, _, e⟩ := drop_at s 0 h0
      rw [List.drop_zero] at e
      have hp' := hp
      unfold prB at hp'
      rw [e, List.all_cons, Bool.and_eq_true] at hp'
      obtain ⟨e1, e2⟩ := quoteStep_at T s c _ e hp'.1
      have el : lst (s.extract 1 s.size) = (lst s).drop 1 := by
        rw [lst_extract, List.take_of_length_le (by rw [List.length_drop, lst_length]; omega)]
      rw [if_pos h0, e2, e1]
      simp only
      rw [ih (s.extract 1 s.size) (by rw [← lst_length, el, List.length_drop, lst_length]; omega) (by unfold prB; rw [el]; exact hp'.2), el]
      conv => rhs; rw [e]
      unfold nums
      rw [List.flatMap_cons, List.map_append]
    · rw [if_neg h0]
      have : lst s = [] := List.eq_nil_of_length_eq_zero (by rw [lst_length]; omega)
      rw [this]; rfl

theorem quote_lst (T : Lib.PrintTabs) (s : ByteArray) (hp : prB s = true) : lst (strOfNums (Lib.quoteZ T s)) = quoL (lst s) := by
  unfold Lib.quoteZ
  rw [quoteFrom_at T s.size s (by omega) hp]
  show List.map (fun n => UInt8.ofNat n.toNat) (34 :: (nums ((lst s).flatMap esc) ++ [34])) = _
  unfold quoL nums
  rw [List.map_cons, List.map_append, List.map_map]
  congr 1
  congr 1
  conv => rhs; rw [← List.map_id ((lst s).flatMap esc)]
  apply List.map_congr_left
  intro c _
  simp

theorem bytes_ext {a b : ByteArray} (h : lst a = lst b) : a = b := by
  obtain ⟨⟨x⟩⟩ := a
  obtain ⟨⟨y⟩⟩ := b
  have : x = y := h
  rw [this]

/-- What is known of memory: the tables of Go's library. -/
structure Mem (P : List Int) (T : Lib.PrintTabs) (w : World) : Prop where
  props : Props P w
  prints : Lib.PrintTabsAt 8 9 10 11 T w
  utf8 : Lib.Utf8Tabs 6 7 w

theorem pr_ascii (s : ByteArray) (hp : prB s = true) (k : Nat) (hk : k < s.size) : bt s (k : Int) ≤ 126 := by
  obtain ⟨c, hc, e⟩ := drop_at s k hk
  have : c ∈ lst s := List.mem_of_mem_drop (by rw [e]; simp)
  have := List.all_eq_true.mp hp c this
  unfold isPr at this
  simp only [Bool.and_eq_true, decide_eq_true_eq] at this
  rw [hc]
  exact this.2

theorem ret_str {a b : ByteArray} (h : a = b) : Ending.returned (.string a) = .returned (.string b) := by rw [h]

/-- What AutoQuote answers at a text of printed signs. -/
def autoB (s q : ByteArray) : ByteArray := if mustB s = true then q else s

theorem cell_kept {w w' : World} (hb : Below w.heap.size w w') {a : Addr} {v : Value} (h : w.cell? a = some v) : w'.cell? a = some v := by
  have lt : a.block < w.heap.size := by
    rcases Nat.lt_or_ge a.block w.heap.size with h' | h'
    · exact h'
    · simp [World.cell?, Array.getElem?_eq_none h'] at h
  rw [hb.cell lt]
  exact h

theorem slice_kept {g : Nat} {k : IntKind} {t : List Nat} {w w' : World} (h : Lib.TabSlice g k t w) (hb : Below w.heap.size w w') : Lib.TabSlice g k t w' := by
  obtain ⟨R, o, c, h1, h2⟩ := h
  exact ⟨R, o, c, cell_kept hb h1, fun j hj => cell_kept hb (h2 j hj)⟩

theorem Mem.below {P : List Int} {T : Lib.PrintTabs} {w w' : World} (h : Mem P T w) (hb : Below w.heap.size w w') : Mem P T w' := by
  obtain ⟨h1, ⟨a1, a2, a3, a4, a5⟩, h3⟩ := h
  exact ⟨h1.below hb, ⟨slice_kept a1 hb, slice_kept a2 hb, slice_kept a3 hb, slice_kept a4 hb, a5⟩, Go.Proofs.Utf8Tabs_below h3 hb⟩

set_option maxHeartbeats 4000000 in
set_option maxRecDepth 100000 in
theorem autoQuote_is (P : List Int) (T : Lib.PrintTabs) (s q : ByteArray) (w : World) (hs : s.size ≤ 2147483647) (hp : prB s = true) (hM : Hid (Mem P T w)) (hq : Hid (strOfNums (Lib.quoteZ T s) = q)) :
    Calls Tryd.prog 11 #[.string s] w fun e w' => e = .returned (.string (autoB s q)) ∧ Below w.heap.size w w' := by
  have ha : Hid (∀ k : Nat, k < s.size → bt s (k : Int) ≤ 126) := Lib.hid (pr_ascii s hp)
  have hP : Hid (Props P w) := Lib.hid hM.out.props
  have hz : 10 * s.size + 12 ≤ 140737488355328 := by omega
  obtain ⟨m, hm⟩ : ∃ m, mustB s = m := ⟨_, rfl⟩
  have R : Hid (mustB s = m) := Lib.hid hm
  have Q : ∀ w1, Below w.heap.size w w1 → Calls Tryd.prog 15 #[.string s] w1 fun e w' => e = .returned (.string q) ∧ Below w1.heap.size w1 w' := by
    intro w1 hb
    have := Tryd.strconv_Quote T s w1 hz (hM.out.below hb).prints (hM.out.below hb).utf8
    rw [hq.out] at this
    exact this
  cases m with
  | true =>
    have RE : Hid (q = autoB s q) := Lib.hid (by unfold autoB; rw [if_pos hm])
    clear hm hp
    go_enter Tryd.func11, Tryd.ntmps11
    go_wp2_with (first | (go_at_call 14; (with_reducible refine (mustQuote_is P s true _ hs ha hP R).mono ?_); rintro e w1 ⟨rfl, hb1⟩; have Q1 := Q w1 hb1; clear Q) | (go_at_call 15; (with_reducible refine Q1.mono ?_); rintro e w2 ⟨rfl, hb2⟩))
    go_ret
    exact ⟨ret_str RE.out, hb1.trans (hb2.mono hb1.size)⟩
  | false =>
    have RE : Hid (s = autoB s q) := Lib.hid (by unfold autoB; rw [if_neg (by rw [hm]; simp)])
    clear hm hp Q
    go_enter Tryd.func11, Tryd.ntmps11
    go_wp2_with (go_at_call 14; (with_reducible refine (mustQuote_is P s false _ hs ha hP R).mono ?_); rintro e w1 ⟨rfl, hb1⟩)
    go_ret
    exact ⟨ret_str RE.out, hb1⟩

theorem implAuto_is (P : List Int) (T : Lib.PrintTabs) (s q : ByteArray) (w : World) (hs : s.size ≤ 2147483647) (hp : prB s = true) (hM : Hid (Mem P T w)) (hq : Hid (strOfNums (Lib.quoteZ T s) = q)) :
    Calls Tryd.prog 6 #[.string s] w fun e w' => e = .returned (.string (autoB s q)) ∧ Below w.heap.size w w' := by
  go_enter Tryd.func6, Tryd.ntmps6
  go_wp2_with (go_at_call 11; (with_reducible refine (autoQuote_is P T s q _ hs hp hM hq).mono ?_); rintro e w1 ⟨rfl, hb1⟩)
  go_ret
  exact ⟨rfl, hb1⟩

/-- The call at a text of which all is known: its answer under a name. -/
theorem implAuto_at (P : List Int) (T : Lib.PrintTabs) (s q r : ByteArray) (w : World) (hs : s.size ≤ 2147483647) (hp : prB s = true) (hM : Hid (Mem P T w)) (hq : Hid (strOfNums (Lib.quoteZ T s) = q)) (hr : Hid (autoB s q = r)) :
    Calls Tryd.prog 6 #[.string s] w fun e w' => e = .returned (.string r) ∧ Below w.heap.size w w' := by
  have h := hr.out
  subst h
  exact implAuto_is P T s q w hs hp hM hq

abbrev ab : ByteArray := ⟨#[97, 32, 98]⟩
abbrev qab : ByteArray := ⟨#[34, 97, 32, 98, 34]⟩

theorem ab_quote (T : Lib.PrintTabs) : strOfNums (Lib.quoteZ T ab) = qab := bytes_ext (by rw [quote_lst T ab (by decide)]; decide)
theorem ab_auto : autoB ab qab = qab := by unfold autoB; rw [if_pos (by decide)]

theorem printable_is (s : ByteArray) (b : Bool) (w : World) (hs : s.size ≤ 2147483647) (H : Hid (prB s = b)) : Calls Tryd.prog 5 #[.string s] w fun e w' => e = .returned (.bool b) ∧ Drawn0 w w' := by
  have h := H.out
  subst h
  exact spec_Printable.calls _ s _ w (printable_tells s (by omega))

theorem must_is (s : ByteArray) (b : Bool) (w : World) (hs : s.size ≤ 2147483647) (H : Hid (mustB s = b)) : Calls Tryd.prog 7 #[.string s] w fun e w' => e = .returned (.bool b) ∧ Drawn0 w w' := by
  have h := H.out
  subst h
  exact spec_MustQuote.calls _ s _ w (must_tells s hs)

theorem quote_is (T : Lib.PrintTabs) (s q : ByteArray) (w : World) (hs : s.size ≤ 2147483647) (hp : prB s = true) (hq : Hid (strOfNums (Lib.quoteZ T s) = q)) : Calls Tryd.prog 8 #[.string s] w fun e w' => e = .returned (.string q) ∧ Drawn0 w w' := by
  obtain ⟨r, h1, h2⟩ := quote_tells s hs
  have : r = q := bytes_ext (by rw [h2, ← hq.out, quote_lst T s hp])
  subst this
  exact spec_Quote.calls _ s _ w h1

theorem drawn_below (w : World) (n : Nat) : Below w.heap.size w (w.drewN n) := (Drawn0.step (Drawn0.refl _) n).below

set_option maxHeartbeats 4000000 in
set_option maxRecDepth 100000 in
theorem autoLaw_any (P : List Int) (T : Lib.PrintTabs) (s : ByteArray) (w : World) (hM : Hid (Mem P T w)) :
    Calls Tryd.prog 3 #[.string s] w fun e w' => e = .returned (.bool true) ∧ Below w.heap.size w w' := by
  by_cases c : 2147483647 < s.size
  · have b1 : decide (2147483647 < (s.size : Int)) = true := decide_eq_true (by omega)
    have b2 : decide (2147483647 < s.size) = true := decide_eq_true c
    clear c
    go_enter Tryd.func3, Tryd.ntmps3
    go_wp2
    go_ret
    exact ⟨rfl, Below.refl _ _⟩
  · have b1 : decide (2147483647 < (s.size : Int)) = false := decide_eq_false (by omega)
    have b2 : decide (2147483647 < s.size) = false := decide_eq_false c
    have hs : s.size ≤ 2147483647 := by omega
    have zab : ab.size ≤ 2147483647 := by decide
    have pab : prB ab = true := by decide
    have A : ∀ w1, Below w.heap.size w w1 → Calls Tryd.prog 6 #[.string ab] w1 fun e w' => e = .returned (.string qab) ∧ Below w1.heap.size w1 w' :=
      fun w1 hb => implAuto_at P T ab qab qab w1 zab pab (Lib.hid (hM.out.below hb)) (Lib.hid (ab_quote T)) (Lib.hid ab_auto)
    clear c
    obtain ⟨p, hp⟩ : ∃ p, prB s = p := ⟨_, rfl⟩
    have HP := Lib.hid hp
    cases p with
    | false =>
      clear hp
      go_enter Tryd.func3, Tryd.ntmps3
      go_wp2_with (first | (go_at_call 5; (with_reducible refine (printable_is s false _ hs HP).mono ?_); rintro e w1 ⟨rfl, ⟨n, rfl⟩⟩; have A1 := A _ (drawn_below w n); clear A) | (go_at_call 6; (with_reducible refine A1.mono ?_); rintro e w2 ⟨rfl, hb2⟩))
      go_ret
      exact ⟨rfl, (drawn_below w _).trans (hb2.mono (drawn_below w _).size)⟩
    | true =>
      obtain ⟨q, hq⟩ : ∃ q, strOfNums (Lib.quoteZ T s) = q := ⟨_, rfl⟩
      have HQ := Lib.hid hq
      obtain ⟨m, hm⟩ : ∃ m, mustB s = m := ⟨_, rfl⟩
      have HMm := Lib.hid hm
      clear hq
      cases m with
      | true =>
        have S : ∀ w1, Below w.heap.size w w1 → Calls Tryd.prog 6 #[.string s] w1 fun e w' => e = .returned (.string q) ∧ Below w1.heap.size w1 w' :=
          fun w1 hb => implAuto_at P T s q q w1 hs hp (Lib.hid (hM.out.below hb)) HQ (Lib.hid (by unfold autoB; rw [if_pos hm]))
        have hpp := Lib.hid hp
        clear hp hm
        go_enter Tryd.func3, Tryd.ntmps3
        go_wp2_with (first | (go_at_call 5; (with_reducible refine (printable_is s true _ hs HP).mono ?_); rintro e w1 ⟨rfl, ⟨n1, rfl⟩⟩) | (go_at_call 7; (with_reducible refine (must_is s true _ hs HMm).mono ?_); rintro e w1 ⟨rfl, ⟨n2, rfl⟩⟩) | (go_at_call 8; (with_reducible refine (quote_is T s q _ hs hpp.out HQ).mono ?_); rintro e w1 ⟨rfl, ⟨n3, rfl⟩⟩) | (go_at_call 6; first | ((with_reducible refine (S _ (drawn_below w _)).mono ?_); rintro e w2 ⟨rfl, hb2⟩; have A1 := A w2 ((drawn_below w _).trans (hb2.mono (drawn_below w _).size)); clear A S) | ((with_reducible refine A1.mono ?_); rintro e w3 ⟨rfl, hb3⟩)))
        go_ret
        exact ⟨rfl, ((drawn_below w _).trans (hb2.mono (drawn_below w _).size)).trans (hb3.mono ((drawn_below w _).trans (hb2.mono (drawn_below w _).size)).size)⟩
      | false =>
        have S : ∀ w1, Below w.heap.size w w1 → Calls Tryd.prog 6 #[.string s] w1 fun e w' => e = .returned (.string s) ∧ Below w1.heap.size w1 w' :=
          fun w1 hb => implAuto_at P T s q s w1 hs hp (Lib.hid (hM.out.below hb)) HQ (Lib.hid (by unfold autoB; rw [if_neg (by rw [hm]; simp)]))
        clear hp hm
        go_enter Tryd.func3, Tryd.ntmps3
        go_wp2_with (first | (go_at_call 5; (with_reducible refine (printable_is s true _ hs HP).mono ?_); rintro e w1 ⟨rfl, ⟨n1, rfl⟩⟩) | (go_at_call 7; (with_reducible refine (must_is s false _ hs HMm).mono ?_); rintro e w1 ⟨rfl, ⟨n2, rfl⟩⟩) | (go_at_call 6; first | ((with_reducible refine (S _ (drawn_below w _)).mono ?_); rintro e w2 ⟨rfl, hb2⟩; have A1 := A w2 ((drawn_below w _).trans (hb2.mono (drawn_below w _).size)); clear A S) | ((with_reducible refine A1.mono ?_); rintro e w3 ⟨rfl, hb3⟩)))
        go_ret
        exact ⟨rfl, ((drawn_below w _).trans (hb2.mono (drawn_below w _).size)).trans (hb3.mono ((drawn_below w _).trans (hb2.mono (drawn_below w _).size)).size)⟩

end Go.Proofs.YtkmebbdkiamliaaDoor.Q
