/- The law FnExactMustQuote: its walk. Conditions: the tables of white space and of unicode's properties lie in memory. -/
import Derived.Test.YtkmebbdkiamliaaDoorQb
import Derived.Test.YtkmebbdkiamliaaDoorMc
import Derived.LoopTactic
namespace Go.Proofs.YtkmebbdkiamliaaDoor.Q
open Go.RowKit Go.Proofs.YtkmebbdkiamliaaDoor.PMustQuote Go.Proofs.YtkmebbdkiamliaaDoorW.PrintWords

theorem btAt (s : ByteArray) (k : Nat) (x : Int) (hx : x = bt s (k : Int)) : ∀ h : k < s.size, ((s[k]'h).toNat : Int) = x := by
  intro h
  rw [hx, bt_get s k h]
  rfl

/-- All bytes so far are ASCII up to the tilde. -/
def AscTo (s : ByteArray) (k : Nat) : Prop := ∀ j : Nat, j < k → bt s (j : Int) ≤ 126

theorem asc_next (s : ByteArray) (k : Nat) (x : Int) (h : AscTo s k) (hx : x = bt s (k : Int)) (h1 : ¬ 126 < x) : AscTo s (k + 1) := by
  intro j hj
  by_cases e : j = k
  · rw [e, ← hx]; omega
  · exact h j (by omega)

theorem asc_all (s : ByteArray) (k : Nat) (h : AscTo s k) (hk : s.size ≤ k) : ∀ j : Nat, j < s.size → bt s (j : Int) ≤ 126 := fun j hj => h j (by omega)

/-- What is known of memory. -/
structure MemM (P : List Int) (w : World) : Prop where
  props : Props P w
  tab : M.Tab w

theorem MemM.below {P : List Int} {w w' : World} (h : MemM P w) (hb : Below w.heap.size w w') : MemM P w' := ⟨h.props.below hb, h.tab.below hb⟩

set_option maxHeartbeats 4000000 in
set_option maxRecDepth 100000 in
theorem implMust_is (P : List Int) (s : ByteArray) (r : Bool) (w : World) (hs : s.size ≤ 2147483647) (ha : Hid (∀ k : Nat, k < s.size → bt s (k : Int) ≤ 126)) (hM : Hid (MemM P w)) (R : Hid (mustB s = r)) :
    Calls Tryd.prog 10 #[.string s] w fun e w' => e = .returned (.bool r) ∧ Below w.heap.size w w' := by
  have hP : Hid (Props P w) := Lib.hid hM.out.props
  go_enter Tryd.func10, Tryd.ntmps10
  go_wp2_with (go_at_call 14; (with_reducible refine (mustQuote_is P s r _ hs ha hP R).mono ?_); rintro e w1 ⟨rfl, hb1⟩)
  go_ret
  exact ⟨rfl, hb1⟩

theorem must_at (s : ByteArray) (b : Bool) (w : World) (hs : s.size ≤ 2147483647) (H : Hid (mustB s = b)) : Calls Tryd.prog 7 #[.string s] w fun e w' => e = .returned (.bool b) ∧ Drawn0 w w' := by
  have h := H.out
  subst h
  exact spec_MustQuote.calls _ s _ w (must_tells s hs)

abbrev abm : ByteArray := ⟨#[97, 32, 98]⟩
theorem abm_must : mustB abm = true := by decide
theorem abm_asc : ∀ k : Nat, k < abm.size → bt abm (k : Int) ≤ 126 := by
  intro k hk
  have hk' : k < 3 := hk
  rcases (by omega : k = 0 ∨ k = 1 ∨ k = 2) with rfl | rfl | rfl <;> decide
theorem drawnBelow (w : World) (n : Nat) : Below w.heap.size w (w.drewN n) := (Drawn0.step (Drawn0.refl _) n).below

set_option maxHeartbeats 4000000 in
set_option maxRecDepth 100000 in
theorem exactMQ_any (P : List Int) (s : ByteArray) (w : World) (hM : Hid (MemM P w)) : Calls Tryd.prog 4 #[.string s] w fun e w' => e = .returned (.bool true) ∧ Below w.heap.size w w' := by
  have ht : Hid (M.Tab w) := Lib.hid hM.out.tab
  by_cases c1 : 2147483647 < s.size
  · have b1 : decide (2147483647 < (s.size : Int)) = true := decide_eq_true (by omega)
    have b2 : decide (2147483647 < s.size) = true := decide_eq_true c1
    clear c1
    go_enter Tryd.func4, Tryd.ntmps4
    go_wp2
    go_ret
    exact ⟨rfl, Below.refl _ _⟩
  · have b1 : decide (2147483647 < (s.size : Int)) = false := decide_eq_false (by omega)
    have b2 : decide (2147483647 < s.size) = false := decide_eq_false c1
    have hs : s.size ≤ 2147483647 := by omega
    clear c1
    go_enter Tryd.func4, Tryd.ntmps4
    go_wp2
    go_loop [3] (fun v => ∃ k : Nat, v = .int .i64 (k : Int) ∧ k ≤ s.size ∧ Hid (AscTo s k)) (fun v => s.size - (intOf v).toNat)
    case atStart => exact ⟨0, rfl, by omega, Lib.hid (fun j hj => by omega)⟩
    case round =>
      obtain ⟨k, rfl, hk, HG⟩ := hrel
      by_cases hlt : k < s.size
      · have q1 : (k < s.size) = True := eq_true hlt
        have qi1 : ((k : Int) < (s.size : Int)) = True := eq_true (by omega)
        have d1 : decide ((k : Int) < (s.size : Int)) = true := decide_eq_true (by omega)
        obtain ⟨x, hx⟩ : ∃ x, x = bt s (k : Int) := ⟨_, rfl⟩
        have hx1 := btAt s k x hx
        have HX := Lib.hid hx
        clear hx
        by_cases e1 : 126 < x
        · have t1 : decide (126 < x) = true := decide_eq_true e1
          clear e1
          go_wp2_with (go_at_call 9; (with_reducible refine (M.paths_any _ ht).mono ?_); rintro e w2 ⟨rfl, hb2⟩)
          go_ret
          exact ⟨rfl, hb2⟩
        · have t1 : decide (126 < x) = false := decide_eq_false e1
          have HN : Hid (AscTo s (k + 1)) := Lib.hid (asc_next s k x HG.out HX.out e1)
          clear e1
          go_wp2
          go_round
          case rel => exact ⟨k + 1, by go_num, by omega, HN⟩
          case measure => simp [intOf]; omega
      · have d1 : decide ((k : Int) < (s.size : Int)) = false := decide_eq_false (by omega)
        have ha : Hid (∀ j : Nat, j < s.size → bt s (j : Int) ≤ 126) := Lib.hid (asc_all s k HG.out (by omega))
        have zab : abm.size ≤ 2147483647 := by decide
        obtain ⟨m, hm⟩ : ∃ m, mustB s = m := ⟨_, rfl⟩
        have R := Lib.hid hm
        have I1 : ∀ w1, Below w.heap.size w w1 → Calls Tryd.prog 10 #[.string s] w1 fun e w' => e = .returned (.bool m) ∧ Below w1.heap.size w1 w' :=
          fun w1 hb => implMust_is P s m w1 hs ha (Lib.hid (hM.out.below hb)) R
        have I2 : ∀ w1, Below w.heap.size w w1 → Calls Tryd.prog 10 #[.string abm] w1 fun e w' => e = .returned (.bool true) ∧ Below w1.heap.size w1 w' :=
          fun w1 hb => implMust_is P abm true w1 zab (Lib.hid abm_asc) (Lib.hid (hM.out.below hb)) (Lib.hid abm_must)
        have I3 : ∀ w1, Below w.heap.size w w1 → Calls Tryd.prog 9 #[] w1 fun e w' => e = .returned (.bool true) ∧ Below w1.heap.size w1 w' :=
          fun w1 hb => M.paths_any w1 (Lib.hid (ht.out.below hb))
        clear hm
        cases m with
        | true =>
          go_wp2_with (first | (go_at_call 10; (with_reducible refine (I1 _ (Below.refl _ _)).mono ?_); rintro e w1 ⟨rfl, hb1⟩; clear I1) | (go_at_call 7; (with_reducible refine (must_at s true _ hs R).mono ?_); rintro e w2 ⟨rfl, ⟨n2, rfl⟩⟩; have hb2 := hb1.trans ((drawnBelow _ n2).mono hb1.size); have J2 := I2 _ hb2; clear I2) | (go_at_call 10; (with_reducible refine J2.mono ?_); rintro e w3 ⟨rfl, hb3⟩; have hb4 := hb2.trans (hb3.mono hb2.size); have J3 := I3 _ hb4) | (go_at_call 9; (with_reducible refine J3.mono ?_); rintro e w5 ⟨rfl, hb5⟩; have hb6 := hb4.trans (hb5.mono hb4.size)))
          go_ret
          exact ⟨rfl, hb6⟩
        | false =>
          go_wp2_with (first | (go_at_call 10; (with_reducible refine (I1 _ (Below.refl _ _)).mono ?_); rintro e w1 ⟨rfl, hb1⟩; clear I1) | (go_at_call 7; (with_reducible refine (must_at s false _ hs R).mono ?_); rintro e w2 ⟨rfl, ⟨n2, rfl⟩⟩; have hb2 := hb1.trans ((drawnBelow _ n2).mono hb1.size); have J2 := I2 _ hb2; clear I2) | (go_at_call 10; (with_reducible refine J2.mono ?_); rintro e w3 ⟨rfl, hb3⟩; have hb4 := hb2.trans (hb3.mono hb2.size); have J3 := I3 _ hb4) | (go_at_call 9; (with_reducible refine J3.mono ?_); rintro e w5 ⟨rfl, hb5⟩; have hb6 := hb4.trans (hb5.mono hb4.size)))
          go_ret
          exact ⟨rfl, hb6⟩

end Go.Proofs.YtkmebbdkiamliaaDoor.Q
