/- The reference's conditions on trees, in plain words: each answers from some number of rounds on; what is known of a tree that is ok. Conditions: texts and lists of at most 2147483647. -/
import Derived.Test.YtbifcpokkfiagaaDoorFf2
import Derived.Test.YtbifcpokkfiagaaDoorPFmx1
import Derived.Test.YtbifcpokkfiagaaDoorPFmx2
import Derived.Test.YtbifcpokkfiagaaDoorPFmx3
import Derived.Test.YtbifcpokkfiagaaDoorPFmx4
import Derived.Test.YtbifcpokkfiagaaDoorPFmx5
namespace Go.Proofs.YtbifcpokkfiagaaDoor.F
open Go.RowKit Go.Proofs.YtbifcpokkfiagaaDoorW.PrintWords Go.Proofs.YtbifcpokkfiagaaDoor.PFm
set_option linter.unusedVariables false

/-- From some number of rounds on the answer is one, and it is as told. -/
def EvP {α : Type} (g : Nat → Option α) (P : α → Prop) : Prop := ∃ r, P r ∧ Ev g r

theorem EvP.now {α : Type} {P : α → Prop} (r : α) (h : P r) : EvP (fun _ => some r) P := ⟨r, h, Ev.now r⟩
theorem EvP.step {α : Type} {g f : Nat → Option α} {P : α → Prop} (h : ∀ k, g (k + 1) = f k) (k : EvP f P) : EvP g P := by
  obtain ⟨r, h1, h2⟩ := k
  exact ⟨r, h1, Ev.step h h2⟩
theorem EvP.bind {α β : Type} {g : Nat → Option α} {f : Nat → α → Option β} {P : α → Prop} {Q : β → Prop} (h : EvP g P) (k : ∀ a, P a → EvP (fun n => f n a) Q) : EvP (fun n => (g n).bind (f n)) Q := by
  obtain ⟨a, h1, h2⟩ := h
  obtain ⟨r, h3, h4⟩ := k a h1
  exact ⟨r, h3, Ev.bind h2 h4⟩
theorem EvP.congr {α : Type} {g f : Nat → Option α} {P : α → Prop} (h : ∀ k, g k = f k) (k : EvP f P) : EvP g P := by
  obtain ⟨r, h1, h2⟩ := k
  exact ⟨r, h1, Ev.congr h h2⟩
theorem EvP.imp {α : Type} {g : Nat → Option α} {P Q : α → Prop} (h : EvP g P) (k : ∀ r, P r → Q r) : EvP g Q := by
  obtain ⟨r, h1, h2⟩ := h
  exact ⟨r, k r h1, h2⟩
theorem EvP.pos {α : Type} {c : Prop} [Decidable c] {g f : Nat → Option α} {P : α → Prop} (hc : c) (h : EvP g P) : EvP (fun k => if c then g k else f k) P := EvP.congr (fun _ => if_pos hc) h
theorem EvP.neg {α : Type} {c : Prop} [Decidable c] {g f : Nat → Option α} {P : α → Prop} (hc : ¬ c) (h : EvP f P) : EvP (fun k => if c then g k else f k) P := EvP.congr (fun _ => if_neg hc) h
theorem EvP.cond {α : Type} {c : Prop} [Decidable c] {g f : Nat → Option α} {P : α → Prop} (h1 : c → EvP g P) (h2 : ¬ c → EvP f P) : EvP (fun k => if c then g k else f k) P := by
  by_cases hc : c
  · exact EvP.pos hc (h1 hc)
  · exact EvP.neg hc (h2 hc)
theorem EvP.opt {α : Type} {o : Option α} {P : α → Prop} (h : ∃ r, o = some r ∧ P r) : EvP (fun _ => o) P := by
  obtain ⟨r, h1, h2⟩ := h
  exact EvP.congr (fun _ => h1) (EvP.now r h2)
theorem EvP.rounds {α : Type} {g : Nat → Option α} {P : α → Prop} (h : EvP g P) : ∃ k r, g k = some r ∧ P r := by
  obtain ⟨r, h1, h2⟩ := h
  obtain ⟨k, h3⟩ := h2.rounds
  exact ⟨k, r, h3, h1⟩
/-- An answer of no: nothing is claimed. -/
theorem EvP.no {P : Prop} : EvP (fun _ => some false) (fun r => r = true → P) := EvP.now _ (fun h => absurd h (by simp))

theorem wrap_up {i : Nat} (h : i ≤ 9223372036854775806) : wrap64 ((i : Int) + 1) = ((i + 1 : Nat) : Int) := by
  unfold wrap64
  omega

abbrev lst (s : ByteArray) : List UInt8 := s.data.toList
theorem lst_length (s : ByteArray) : (lst s).length = s.size := by rw [Lib.size_eq]
theorem lst_extract (s : ByteArray) (a b : Nat) : lst (s.extract a b) = ((lst s).drop a).take (b - a) := Lib.extract_data s a b
theorem bt_get (s : ByteArray) (i : Nat) (h : i < s.size) : bt s (i : Int) = (((lst s)[i]'(by rw [lst_length]; exact h)).toNat : Int) := by
  unfold bt
  have h' : (i : Int).toNat < s.size := by simpa using h
  rw [dif_pos h']
  rfl
theorem drop_at (s : ByteArray) (i : Nat) (h : i < s.size) : ∃ c, bt s (i : Int) = (c.toNat : Int) ∧ (lst s).drop i = c :: (lst s).drop (i + 1) := by
  have h' : i < (lst s).length := by rw [lst_length]; exact h
  exact ⟨(lst s)[i], bt_get s i h, List.drop_eq_getElem_cons h'⟩
theorem rdOf_get (ps : List ByteArray) (j : Nat) (h : j < ps.length) : rdOf ByteArray.empty ps (j : Int) = ps[j] := by
  unfold rdOf
  have : (j : Int).toNat = j := by omega
  rw [this, List.getD_eq_getElem?_getD, List.getElem?_eq_getElem h]
  rfl
theorem rd35_get (ps : List S35) (j : Nat) (h : j < ps.length) : rd_T35 ps (j : Int) = ps[j] := by
  unfold rd_T35
  have : (j : Int).toNat = j := by omega
  rw [this, List.getD_eq_getElem?_getD, List.getElem?_eq_getElem h]
  rfl
theorem rd30_get (ps : List S30) (j : Nat) (h : j < ps.length) : rd_T30 ps (j : Int) = ps[j] := by
  unfold rd_T30
  have : (j : Int).toNat = j := by omega
  rw [this, List.getD_eq_getElem?_getD, List.getElem?_eq_getElem h]
  rfl
theorem toList_nil (s : ByteArray) : s.toList = [] ↔ lst s = [] := by rw [toList_data]

abbrev M : Nat := 2147483647

/-! ### sizes -/
def FitL (l : List ByteArray) : Prop := l.length ≤ M ∧ ∀ t ∈ l, t.size ≤ M
def Fit35 (x : S35) : Prop := FitL x.f0 ∧ FitL x.f1 ∧ x.f2.size ≤ M
def Fit30 (x : S30) : Prop := FitL x.f1 ∧ (x.f2.length ≤ M ∧ ∀ t ∈ x.f2, Fit35 t) ∧ FitL x.f3 ∧ x.f4.size ≤ M

theorem mem_drop_cons {α : Type} {P : α → Prop} {xs : List α} {i : Nat} (hi : i < xs.length) (h0 : P xs[i]) (h : ∀ x ∈ xs.drop (i + 1), P x) : ∀ x ∈ xs.drop i, P x := by
  rw [List.drop_eq_getElem_cons hi]
  intro x hx
  rcases List.mem_cons.mp hx with rfl | hx
  · exact h0
  · exact h x hx

theorem t_fits10 (l : List ByteArray) : EvP (fun k => laws_zzFits10.f k l) (fun r => r = true → FitL l) := by
  unfold laws_zzFits10.f
  refine EvP.cond (fun _ => EvP.no) (fun hl => ?_)
  have hl' : l.length ≤ M := by show l.length ≤ 2147483647; omega
  have H : ∀ d i : Nat, i ≤ l.length → l.length - i = d → EvP (fun k => laws_zzFits10.l0 k l (l.length : Int) (i : Int)) (fun r => r = true → ∀ t ∈ l.drop i, t.size ≤ M) := by
    intro d
    induction d with
    | zero =>
      intro i h1 hd
      exact EvP.step (fun k => laws_zzFits10.l0.eq_2 l (l.length : Int) (i : Int) k) (EvP.neg (by omega) (EvP.now _ (fun _ => by rw [List.drop_eq_nil_of_le (by omega)]; simp)))
    | succ d ih =>
      intro i h1 hd
      have hi : i < l.length := by omega
      have hn := ih (i + 1) (by omega) (by omega)
      rw [← wrap_up (by show i ≤ 9223372036854775806; simp only [M] at hl'; omega)] at hn
      refine EvP.step (fun k => laws_zzFits10.l0.eq_2 l (l.length : Int) (i : Int) k) (EvP.pos (by omega) (EvP.pos (by omega) (EvP.pos (by omega) (EvP.cond (fun _ => EvP.no) (fun hs => hn.imp (fun r hr h => ?_))))))
      rw [rdOf_get l i hi] at hs
      exact mem_drop_cons hi (by show l[i].size ≤ 2147483647; omega) (hr h)
  have h0 := H l.length 0 (by omega) (by omega)
  exact h0.imp (fun r hr h => ⟨hl', by simpa using hr h⟩)

theorem t_fits14 (x : S35) : EvP (fun k => laws_zzFits14.f k x.f0 x.f1 x.f2) (fun r => r = true → Fit35 x) := by
  unfold laws_zzFits14.f
  refine EvP.bind (t_fits10 x.f0) (fun a ha => EvP.cond (fun h0 => EvP.bind (t_fits10 x.f1) (fun b hb => EvP.cond (fun h1 => EvP.cond (fun _ => EvP.no) (fun h2 => EvP.now _ (fun _ => ⟨ha h0, hb h1, ?_⟩))) (fun _ => EvP.no))) (fun _ => EvP.no))
  show x.f2.size ≤ 2147483647
  omega

theorem t_fits13 (l : List S35) : EvP (fun k => laws_zzFits13.f k l) (fun r => r = true → l.length ≤ M ∧ ∀ t ∈ l, Fit35 t) := by
  unfold laws_zzFits13.f
  refine EvP.cond (fun _ => EvP.no) (fun hl => ?_)
  have hl' : l.length ≤ M := by show l.length ≤ 2147483647; omega
  have H : ∀ d i : Nat, i ≤ l.length → l.length - i = d → EvP (fun k => laws_zzFits13.l0 k l (l.length : Int) (i : Int)) (fun r => r = true → ∀ t ∈ l.drop i, Fit35 t) := by
    intro d
    induction d with
    | zero =>
      intro i h1 hd
      exact EvP.step (fun k => laws_zzFits13.l0.eq_2 l (l.length : Int) (i : Int) k) (EvP.neg (by omega) (EvP.now _ (fun _ => by rw [List.drop_eq_nil_of_le (by omega)]; simp)))
    | succ d ih =>
      intro i h1 hd
      have hi : i < l.length := by omega
      have hn := ih (i + 1) (by omega) (by omega)
      rw [← wrap_up (by show i ≤ 9223372036854775806; simp only [M] at hl'; omega)] at hn
      refine EvP.step (fun k => laws_zzFits13.l0.eq_2 l (l.length : Int) (i : Int) k) (EvP.pos (by omega) (EvP.pos (by omega) (EvP.pos (by omega) ?_)))
      rw [rd35_get l i hi]
      exact EvP.bind (t_fits14 l[i]) (fun a ha => EvP.cond (fun h0 => hn.imp (fun r hr h => mem_drop_cons hi (ha h0) (hr h))) (fun _ => EvP.no))
  have h0 := H l.length 0 (by omega) (by omega)
  exact h0.imp (fun r hr h => ⟨hl', by simpa using hr h⟩)

theorem t_fits12 (x : S30) : EvP (fun k => laws_zzFits12.f k x.f0 x.f1 x.f2 x.f3 x.f4) (fun r => r = true → Fit30 x) := by
  unfold laws_zzFits12.f
  refine EvP.bind (t_fits10 x.f1) (fun a ha => EvP.cond (fun h0 => EvP.bind (t_fits13 x.f2) (fun b hb => EvP.cond (fun h1 => EvP.bind (t_fits10 x.f3) (fun c hc => EvP.cond (fun h2 => EvP.cond (fun _ => EvP.no) (fun h3 => EvP.now _ (fun _ => ⟨ha h0, hb h1, hc h2, ?_⟩))) (fun _ => EvP.no))) (fun _ => EvP.no))) (fun _ => EvP.no))
  show x.f4.size ≤ 2147483647
  omega

theorem t_fits11 (l : List S30) : EvP (fun k => laws_zzFits11.f k l) (fun r => r = true → l.length ≤ M ∧ ∀ t ∈ l, Fit30 t) := by
  unfold laws_zzFits11.f
  refine EvP.cond (fun _ => EvP.no) (fun hl => ?_)
  have hl' : l.length ≤ M := by show l.length ≤ 2147483647; omega
  have H : ∀ d i : Nat, i ≤ l.length → l.length - i = d → EvP (fun k => laws_zzFits11.l0 k l (l.length : Int) (i : Int)) (fun r => r = true → ∀ t ∈ l.drop i, Fit30 t) := by
    intro d
    induction d with
    | zero =>
      intro i h1 hd
      exact EvP.step (fun k => laws_zzFits11.l0.eq_2 l (l.length : Int) (i : Int) k) (EvP.neg (by omega) (EvP.now _ (fun _ => by rw [List.drop_eq_nil_of_le (by omega)]; simp)))
    | succ d ih =>
      intro i h1 hd
      have hi : i < l.length := by omega
      have hn := ih (i + 1) (by omega) (by omega)
      rw [← wrap_up (by show i ≤ 9223372036854775806; simp only [M] at hl'; omega)] at hn
      refine EvP.step (fun k => laws_zzFits11.l0.eq_2 l (l.length : Int) (i : Int) k) (EvP.pos (by omega) (EvP.pos (by omega) (EvP.pos (by omega) ?_)))
      rw [rd30_get l i hi]
      exact EvP.bind (t_fits12 l[i]) (fun a ha => EvP.cond (fun h0 => hn.imp (fun r hr h => mem_drop_cons hi (ha h0) (hr h))) (fun _ => EvP.no))
  have h0 := H l.length 0 (by omega) (by omega)
  exact h0.imp (fun r hr h => ⟨hl', by simpa using hr h⟩)

/-! ### words -/
def okb (c : UInt8) : Prop := c = 46 ∨ (48 ≤ c.toNat ∧ c.toNat ≤ 57) ∨ (97 ≤ c.toNat ∧ c.toNat ≤ 122)

theorem t_letter (c : UInt8) : ∃ r, spec_letter.f (c.toNat : Int) = some r ∧ (r = true → 97 ≤ c.toNat ∧ c.toNat ≤ 122) := by
  unfold spec_letter.f
  by_cases h : (c.toNat : Int) ≥ 97
  · rw [if_pos h]; exact ⟨_, rfl, fun hr => ⟨by omega, by have := of_decide_eq_true hr; omega⟩⟩
  · rw [if_neg h]; exact ⟨_, rfl, fun hr => absurd hr (by simp)⟩
theorem t_digit (c : UInt8) : ∃ r, spec_digit.f (c.toNat : Int) = some r ∧ (r = true → 48 ≤ c.toNat ∧ c.toNat ≤ 57) := by
  unfold spec_digit.f
  by_cases h : (c.toNat : Int) ≥ 48
  · rw [if_pos h]; exact ⟨_, rfl, fun hr => ⟨by omega, by have := of_decide_eq_true hr; omega⟩⟩
  · rw [if_neg h]; exact ⟨_, rfl, fun hr => absurd hr (by simp)⟩

theorem t_word_l (s : ByteArray) (hs : s.size ≤ M) (d : Nat) : ∀ i : Nat, i ≤ s.size → s.size - i = d → EvP (fun k => spec_WordOk.l0 k s (i : Int)) (fun r => r = true → (∀ c ∈ (lst s).drop i, okb c) ∧ lst s ≠ [] ∧ (lst s).length ≤ 50) := by
  have hs' : s.size ≤ 2147483647 := hs
  induction d with
  | zero =>
    intro i h1 hd
    refine EvP.step (fun k => spec_WordOk.l0.eq_2 s (i : Int) k) (EvP.neg (by omega) (EvP.cond (fun _ => EvP.no) (fun h => EvP.now _ (fun hr => ⟨?_, fun e => h ((toList_nil s).mpr e), ?_⟩))))
    · rw [List.drop_eq_nil_of_le (by rw [lst_length]; omega)]
      simp
    · rw [lst_length]
      have := of_decide_eq_true hr
      omega
  | succ d ih =>
    intro i h1 hd
    obtain ⟨c, hc, e⟩ := drop_at s i (by omega)
    have hn := ih (i + 1) (by omega) (by omega)
    rw [← wrap_up (by omega)] at hn
    have go : okb c → EvP (fun k => spec_WordOk.l0 k s (wrap64 ((i : Int) + 1))) (fun r => r = true → (∀ c ∈ (lst s).drop i, okb c) ∧ lst s ≠ [] ∧ (lst s).length ≤ 50) := fun hok => hn.imp (fun r hr h => by
      obtain ⟨h1, h2⟩ := hr h
      refine ⟨?_, h2⟩
      rw [e]
      intro x hx
      rcases List.mem_cons.mp hx with rfl | hx
      · exact hok
      · exact h1 x hx)
    refine EvP.step (fun k => spec_WordOk.l0.eq_2 s (i : Int) k) (EvP.pos (by omega) (EvP.pos (by omega) ?_))
    rw [hc]
    refine EvP.bind (EvP.opt (t_letter c)) (fun b hb => EvP.cond (fun h => go (Or.inr (Or.inr (hb h)))) (fun _ => EvP.bind (EvP.opt (t_digit c)) (fun b hb => EvP.cond (fun h => go (Or.inr (Or.inl (hb h)))) (fun _ => EvP.cond (fun h => go (Or.inl ?_)) (fun _ => EvP.no)))))
    apply UInt8.toNat_inj.mp
    show c.toNat = 46
    omega
theorem t_word (s : ByteArray) (hs : s.size ≤ M) : EvP (fun k => spec_WordOk.f k s) (fun r => r = true → Word (lst s)) :=
  (t_word_l s hs s.size 0 (by omega) (by omega)).imp (fun r hr h => by
    obtain ⟨h1, h2, h3⟩ := hr h
    exact ⟨h2, by rw [List.drop_zero] at h1; exact h1, h3⟩)

/-! ### parts between signs -/
def cutL (x : UInt8) : List UInt8 → List (List UInt8)
  | [] => [[]]
  | c :: r => if c = x then [] :: cutL x r else match cutL x r with
    | h :: t => (c :: h) :: t
    | [] => [[c]]
theorem cutL_cons (x c : UInt8) (r : List UInt8) : cutL x (c :: r) = if c = x then [] :: cutL x r else match cutL x r with
    | h :: t => (c :: h) :: t
    | [] => [[c]] := rfl
theorem cutL_ne (x : UInt8) (l : List UInt8) : cutL x l ≠ [] := by
  cases l with
  | nil => simp [cutL]
  | cons c r =>
    unfold cutL
    split
    · simp
    · split <;> simp
theorem cutL_plain (x : UInt8) (l : List UInt8) (h : x ∉ l) : cutL x l = [l] := by
  induction l with
  | nil => rfl
  | cons c r ih =>
    unfold cutL
    rw [if_neg (fun e => h (by rw [e]; simp)), ih (fun e => h (by simp [e]))]
theorem cutL_at (x : UInt8) (l r : List UInt8) (h : x ∉ l) : cutL x (l ++ x :: r) = l :: cutL x r := by
  induction l with
  | nil => simp [cutL]
  | cons c t ih =>
    rw [List.cons_append, cutL_cons, if_neg (fun e => h (by rw [e]; simp)), ih (fun e => h (by simp [e]))]
theorem cutL_len (x : UInt8) (l : List UInt8) : (cutL x l).length ≤ l.length + 1 := by
  induction l with
  | nil => simp [cutL]
  | cons c r ih =>
    rw [cutL_cons]
    split
    · simp; omega
    · split
      · rename_i a t e; rw [e] at ih; simp at ih ⊢; omega
      · simp
theorem cutL_le (x : UInt8) (l : List UInt8) : ∀ p ∈ cutL x l, p.length ≤ l.length := by
  induction l with
  | nil => intro p h; simp [cutL] at h; simp [h]
  | cons c r ih =>
    intro p h
    rw [cutL_cons] at h
    split at h
    · rcases List.mem_cons.mp h with h | h
      · simp [h]
      · have := ih p h; simp; omega
    · split at h
      · rename_i a t e
        rcases List.mem_cons.mp h with h | h
        · have := ih a (by rw [e]; simp)
          rw [h]; simp; omega
        · have := ih p (by rw [e]; simp [h])
          simp; omega
      · simp at h; simp [h]

theorem cut_l0 (s : ByteArray) (hs : s.size ≤ 2147483647) (x : UInt8) (d : Nat) : ∀ (k fr i : Nat) (acc : List ByteArray), fr ≤ i → i ≤ s.size → acc.length ≤ fr → x ∉ ((lst s).drop fr).take (i - fr) → s.size - i = d → d < k →
    ∃ ps, spec_Cut.l0 k s (x.toNat : Int) acc (fr : Int) (i : Int) = some (acc ++ ps) ∧ ps.map lst = cutL x ((lst s).drop fr) := by
  induction d with
  | zero =>
    intro k fr i acc h0 h1 ha hn hd hk
    obtain ⟨k, rfl⟩ : ∃ m, k = m + 1 := ⟨k - 1, by omega⟩
    simp only [spec_Cut.l0]
    rw [if_neg (by omega), if_pos (by omega), if_pos (by omega), if_pos (by omega)]
    refine ⟨_, rfl, ?_⟩
    have e : ((lst s).drop fr).take (i - fr) = (lst s).drop fr := List.take_of_length_le (by rw [List.length_drop, lst_length]; omega)
    rw [e] at hn
    rw [cutL_plain x _ hn, List.map_cons, List.map_nil, lst_extract, List.take_of_length_le (by rw [List.length_drop, lst_length]; simp)]
    rfl
  | succ d ih =>
    intro k fr i acc h0 h1 ha hn hd hk
    obtain ⟨k, rfl⟩ : ∃ m, k = m + 1 := ⟨k - 1, by omega⟩
    obtain ⟨c, hc, e⟩ := drop_at s i (by omega)
    have e2 : (lst s).drop fr = ((lst s).drop fr).take (i - fr) ++ c :: (lst s).drop (i + 1) := by
      rw [← e]
      conv => lhs; rw [← List.take_append_drop (i - fr) ((lst s).drop fr)]
      rw [List.drop_drop, show fr + (i - fr) = i by omega]
    simp only [spec_Cut.l0]
    rw [if_pos (by omega), if_pos (by omega), hc]
    by_cases hx : c = x
    · rw [if_pos (by rw [hx]), if_pos (by omega), if_pos (by omega), if_pos (by omega), if_pos (by omega), wrap_up (by omega)]
      obtain ⟨ps, p1, p2⟩ := ih k (i + 1) (i + 1) (acc ++ [s.extract (fr : Int).toNat (i : Int).toNat]) (by omega) (by omega) (by simp; omega) (by simp) (by omega) (by omega)
      refine ⟨_ :: ps, by rw [p1, List.append_assoc]; rfl, ?_⟩
      rw [e2, hx, cutL_at x _ _ hn, List.map_cons, p2, lst_extract]
      rfl
    · have hx' : ¬ (c.toNat : Int) = (x.toNat : Int) := fun h => hx (UInt8.toNat_inj.mp (by omega))
      rw [if_neg hx', wrap_up (by omega)]
      refine ih k fr (i + 1) acc (by omega) (by omega) ha ?_ (by omega) (by omega)
      intro h
      have e3 : ((lst s).drop fr).take (i + 1 - fr) = ((lst s).drop fr).take (i - fr) ++ [c] := by
        have hl : i - fr < ((lst s).drop fr).length := by rw [List.length_drop, lst_length]; omega
        rw [show i + 1 - fr = (i - fr) + 1 by omega, List.take_succ_eq_append_getElem hl]
        congr 2
        rw [List.getElem_drop]
        have h6 : (lst s)[i]? = some c := by
          have := congrArg (fun l => l[0]?) e
          simpa using this
        simp only [show fr + (i - fr) = i by omega]
        exact (List.getElem_eq_iff _).mpr h6
      rw [e3] at h
      rcases List.mem_append.mp h with h | h
      · exact hn h
      · exact hx (List.mem_singleton.mp h).symm

theorem t_cut (s : ByteArray) (hs : s.size ≤ M) (x : UInt8) : EvP (fun k => spec_Cut.f k s (x.toNat : Int)) (fun ps => ps.map lst = cutL x (lst s)) := by
  obtain ⟨ps, h1, h2⟩ := cut_l0 s hs x s.size (s.size + 1) 0 0 [] (by omega) (by omega) (by simp) (by simp) (by omega) (by omega)
  refine ⟨ps, by simpa using h2, Ev.of (fun k => spec_Cut.mono s _ k) (k := s.size + 1) ?_⟩
  unfold spec_Cut.f
  simpa using h1

/-- What parts that are words tell of the whole. -/
theorem cut_words : ∀ (l h : List UInt8) (t : List (List UInt8)), cutL 32 l = h :: t → (∀ c ∈ h, okb c) → (∀ p ∈ t, Word p) → (∀ c ∈ l, c = 32 ∨ okb c) ∧ l.length ≤ h.length + 51 * t.length ∧ ((t = [] ∧ l = h) ∨ ∃ p c, l = p ++ [c] ∧ okb c) := by
  intro l
  induction l with
  | nil =>
    intro h t e h1 h2
    simp [cutL] at e
    obtain ⟨rfl, rfl⟩ := e
    exact ⟨by simp, by simp, Or.inl ⟨rfl, rfl⟩⟩
  | cons c r ih =>
    intro h t e h1 h2
    rw [cutL_cons] at e
    obtain ⟨h', t', e'⟩ : ∃ h' t', cutL 32 r = h' :: t' := by
      cases hr : cutL 32 r with
      | nil => exact absurd hr (cutL_ne 32 r)
      | cons a b => exact ⟨a, b, rfl⟩
    by_cases hc : c = 32
    · rw [if_pos hc, e'] at e
      injection e with e1 e2
      subst e1
      subst e2
      have hw : Word h' := h2 h' (by simp)
      obtain ⟨i1, i2, i3⟩ := ih h' t' e' hw.ok (fun p hp => h2 p (by simp [hp]))
      refine ⟨?_, ?_, Or.inr ?_⟩
      · intro x hx
        rcases List.mem_cons.mp hx with rfl | hx
        · exact Or.inl hc
        · exact i1 x hx
      · have := hw.len
        simp only [List.length_cons, List.length_nil] at *
        omega
      · rcases i3 with ⟨rfl, rfl⟩ | ⟨p, d, rfl, hd⟩
        · rcases List.eq_nil_or_concat r with hr | ⟨p, d, hr⟩
          · exact absurd hr hw.ne
          · have hr' : r = p ++ [d] := by rw [hr]; simp
            subst hr'
            exact ⟨c :: p, d, rfl, hw.ok d (by simp)⟩
        · exact ⟨c :: p, d, rfl, hd⟩
    · rw [if_neg hc, e'] at e
      injection e with e1 e2
      subst e2
      subst e1
      obtain ⟨i1, i2, i3⟩ := ih h' t' e' (fun x hx => h1 x (by simp [hx])) h2
      refine ⟨?_, ?_, ?_⟩
      · intro x hx
        rcases List.mem_cons.mp hx with rfl | hx
        · exact Or.inr (h1 x (by simp))
        · exact i1 x hx
      · simp only [List.length_cons]
        omega
      · rcases i3 with ⟨h3, rfl⟩ | ⟨p, d, rfl, hd⟩
        · exact Or.inl ⟨h3, rfl⟩
        · exact Or.inr ⟨c :: p, d, rfl, hd⟩

/-- Words with blanks between: the text of a comment. -/
def Why (l : List UInt8) : Prop := (∀ c ∈ l, c = 32 ∨ okb c) ∧ l.length ≤ 1100 ∧ ∃ p c, l = p ++ [c] ∧ okb c

theorem t_why_l (s : ByteArray) (ps : List ByteArray) (hl : ps.length ≤ 2147483648) (hp : ∀ p ∈ ps, p.size ≤ M) (d : Nat) : ∀ i : Nat, i ≤ ps.length → ps.length - i = d → EvP (fun k => spec_WhyOk.l0 k s ps ps (ps.length : Int) (i : Int)) (fun r => r = true → lst s = [] ∨ ((∀ p ∈ ps.drop i, Word (lst p)) ∧ ps.length ≤ 20)) := by
  induction d with
  | zero =>
    intro i h1 hd
    refine EvP.step (fun k => spec_WhyOk.l0.eq_2 s ps ps (ps.length : Int) (i : Int) k) (EvP.neg (by omega) (EvP.now _ (fun h => Or.inr ⟨?_, ?_⟩)))
    · rw [List.drop_eq_nil_of_le (by omega)]
      simp
    · have := of_decide_eq_true h
      omega
  | succ d ih =>
    intro i h1 hd
    have hi : i < ps.length := by omega
    have hn := ih (i + 1) (by omega) (by omega)
    rw [← wrap_up (by omega)] at hn
    have hz := hp ps[i] (List.getElem_mem hi)
    refine EvP.step (fun k => spec_WhyOk.l0.eq_2 s ps ps (ps.length : Int) (i : Int) k) (EvP.pos (by omega) (EvP.pos (by omega) (EvP.pos (by omega) ?_)))
    rw [rdOf_get ps i hi]
    refine EvP.bind (t_word ps[i] hz) (fun b hb => EvP.cond (fun h => hn.imp (fun r hr h' => ?_)) (fun _ => EvP.now _ (fun h => Or.inl ?_)))
    · rcases hr h' with h2 | ⟨h2, h3⟩
      · exact Or.inl h2
      · exact Or.inr ⟨mem_drop_cons hi (hb h) h2, h3⟩
    · rw [beq_iff_eq] at h
      exact (toList_nil s).mp h

theorem t_why (s : ByteArray) (hs : s.size ≤ M) : EvP (fun k => spec_WhyOk.f k s) (fun r => r = true → lst s = [] ∨ Why (lst s)) := by
  have hs' : s.size ≤ 2147483647 := hs
  refine EvP.bind (g := fun k => spec_Cut.f k s 32) (t_cut s hs 32) (fun ps h => ?_)
  have h1 := cutL_len 32 (lst s)
  rw [← h, List.length_map, lst_length] at h1
  have h2 : ∀ p ∈ ps, p.size ≤ M := by
    intro p hp
    have h1 : lst p ∈ cutL 32 (lst s) := by rw [← h]; exact List.mem_map_of_mem hp
    have := cutL_le 32 (lst s) _ h1
    rw [lst_length, lst_length] at this
    exact Nat.le_trans this hs
  refine (t_why_l s ps (by omega) h2 ps.length 0 (by omega) (by omega)).imp (fun r hr h' => ?_)
  rcases hr h' with h3 | ⟨h3, h4⟩
  · exact Or.inl h3
  · right
    rw [List.drop_zero] at h3
    obtain ⟨a, t, e⟩ : ∃ a t, ps = a :: t := by
      cases ps with
      | nil => exact absurd h.symm (cutL_ne 32 (lst s))
      | cons a t => exact ⟨a, t, rfl⟩
    subst e
    have ha := h3 a (by simp)
    obtain ⟨i1, i2, i3⟩ := cut_words (lst s) (lst a) (t.map lst) (by rw [← h]; rfl) ha.ok (fun p hp => by
      obtain ⟨q, hq, rfl⟩ := List.mem_map.mp hp
      exact h3 q (by simp [hq]))
    have hal := ha.len
    refine ⟨i1, ?_, ?_⟩
    · rw [List.length_map] at i2
      rw [List.length_cons] at h4
      omega
    · rcases i3 with ⟨-, i3⟩ | i3
      · rcases List.eq_nil_or_concat (lst s) with hr | ⟨p, d, hr⟩
        · rw [i3] at hr
          exact absurd hr ha.ne
        · have hr' : lst s = p ++ [d] := by rw [hr]; simp
          refine ⟨p, d, hr', ?_⟩
          have hd : d ∈ lst a := by rw [← i3, hr']; simp
          exact ha.ok d hd
      · exact i3

/-! ### comments -/
theorem t_begins (a b : ByteArray) : ∃ r, spec_Begins.f a b = some r ∧ (r = true → lst b <+: lst a) := by
  unfold spec_Begins.f
  by_cases h : (a.size : Int) ≥ (b.size : Int)
  · rw [if_pos h, if_pos (by omega), if_pos (by omega)]
    refine ⟨_, rfl, fun hr => ?_⟩
    have t : ((b.size : Int)).toNat = b.size := by omega
    rw [t, beq_iff_eq, toList_data, toList_data] at hr
    have e : lst (a.extract 0 b.size) = (lst a).take b.size := by rw [lst_extract, List.drop_zero]; rfl
    have hr' : lst (a.extract 0 b.size) = lst b := hr
    rw [← hr', e]
    exact List.take_prefix _ _
  · rw [if_neg h]
    exact ⟨_, rfl, fun hr => absurd hr (by simp)⟩

theorem okb_sp {c : UInt8} (h : okb c) : Lib.isSp c = false ∧ c.toNat < 128 := by
  unfold okb at h
  refine ⟨?_, ?_⟩
  · unfold Lib.isSp
    simp only [Bool.or_eq_false_iff, beq_eq_false_iff_ne]
    refine ⟨⟨⟨⟨⟨?_, ?_⟩, ?_⟩, ?_⟩, ?_⟩, ?_⟩ <;> (rintro rfl; revert h; decide)
  · rcases h with rfl | ⟨h1, h2⟩ | ⟨h1, h2⟩
    · decide
    · omega
    · omega

theorem com_of {l w : List UInt8} (e : l = [47, 47, 32] ++ w) (h : Why w) : Com l := by
  obtain ⟨h1, h2, p, c, h3, h4⟩ := h
  subst e
  refine ⟨?_, ⟨47, _, rfl, by decide⟩, ⟨[47, 47, 32] ++ p, c, by rw [h3]; simp, (okb_sp h4).1⟩, ?_⟩
  · intro x hx
    rcases List.mem_append.mp hx with hx | hx
    · simp at hx
      rcases hx with rfl | rfl <;> decide
    · rcases h1 x hx with rfl | h
      · decide
      · exact (okb_sp h).2
  · simp only [List.length_append, List.length_cons, List.length_nil]
    omega

theorem t_com_l (l : List ByteArray) (hl : l.length ≤ M) (hs : ∀ t ∈ l, t.size ≤ M) (d : Nat) : ∀ i : Nat, i ≤ l.length → l.length - i = d → EvP (fun k => spec_commentsOk.l0 k l l (l.length : Int) (i : Int)) (fun r => r = true → (∀ t ∈ l.drop i, Com (lst t)) ∧ l.length ≤ 10) := by
  have hl' : l.length ≤ 2147483647 := hl
  induction d with
  | zero =>
    intro i h1 hd
    refine EvP.step (fun k => spec_commentsOk.l0.eq_2 l l (l.length : Int) (i : Int) k) (EvP.neg (by omega) (EvP.now _ (fun h => ⟨?_, ?_⟩)))
    · rw [List.drop_eq_nil_of_le (by omega)]
      simp
    · have := of_decide_eq_true h
      omega
  | succ d ih =>
    intro i h1 hd
    have hi : i < l.length := by omega
    have hn := ih (i + 1) (by omega) (by omega)
    rw [← wrap_up (by omega)] at hn
    refine EvP.step (fun k => spec_commentsOk.l0.eq_2 l l (l.length : Int) (i : Int) k) (EvP.pos (by omega) (EvP.pos (by omega) (EvP.pos (by omega) ?_)))
    rw [rdOf_get l i hi]
    have hz := hs l[i] (List.getElem_mem hi)
    refine EvP.bind (EvP.opt (t_begins l[i] ⟨#[47, 47, 32]⟩)) (fun b hb => EvP.cond (fun h => EvP.cond (fun _ => EvP.no) (fun hne => ?_)) (fun _ => EvP.no))
    obtain ⟨w, hw⟩ := hb h
    have hw' : lst l[i] = [47, 47, 32] ++ w := hw.symm
    have h3 : 3 ≤ l[i].size := by rw [← lst_length, hw']; simp
    refine EvP.pos (by omega) ?_
    have hex : lst (l[i].extract 3 l[i].size) = w := by
      rw [lst_extract, hw']
      have : l[i].size = w.length + 3 := by rw [← lst_length, hw']; simp
      simp [this]
    refine EvP.bind (t_why (l[i].extract 3 l[i].size) ?_) (fun b2 hb2 => EvP.cond (fun h2 => hn.imp (fun r hr h' => ?_)) (fun _ => EvP.no))
    · rw [← lst_length, hex]
      have : l[i].size = w.length + 3 := by rw [← lst_length, hw']; simp
      have hz' : l[i].size ≤ 2147483647 := hz
      show w.length ≤ 2147483647
      omega
    · obtain ⟨h5, h6⟩ := hr h'
      refine ⟨mem_drop_cons hi ?_ h5, h6⟩
      rcases hb2 h2 with h7 | h7
      · rw [hex] at h7
        exact absurd (by rw [toList_data]; show lst l[i] = _; rw [hw', h7]; rfl) hne
      · rw [hex] at h7
        exact com_of hw' h7
theorem t_com (l : List ByteArray) (hf : FitL l) : EvP (fun k => spec_commentsOk.f k l) (fun r => r = true → (∀ t ∈ l, Com (lst t)) ∧ l.length ≤ 10) :=
  (t_com_l l hf.1 hf.2 l.length 0 (by omega) (by omega)).imp (fun r hr h => by
    have := hr h
    rwa [List.drop_zero] at this)

/-! ### lines -/
theorem t_line_l (tk bs : List ByteArray) (s : ByteArray) (ht : FitL tk) (hb : FitL bs) (hs : s.size ≤ M) (d : Nat) : ∀ i : Nat, i ≤ tk.length → tk.length - i = d → EvP (fun k => spec_LineOk.l0 k tk (tk.length : Int) (i : Int) tk bs s) (fun r => r = true → (∀ t ∈ tk.drop i, Word (lst t)) ∧ 1 ≤ tk.length ∧ tk.length ≤ 10 ∧ (∀ t ∈ bs, Com (lst t)) ∧ bs.length ≤ 10 ∧ ∀ x, sufO s = some x → Com (lst x)) := by
  have hl' : tk.length ≤ 2147483647 := ht.1
  induction d with
  | zero =>
    intro i h1 hd
    have hd0 : ∀ t ∈ tk.drop i, Word (lst t) := by
      rw [List.drop_eq_nil_of_le (by omega)]
      simp
    refine EvP.step (fun k => spec_LineOk.l0.eq_2 tk (tk.length : Int) (i : Int) tk bs s k) (EvP.neg (by omega) (EvP.cond (fun g1 => EvP.cond (fun g2 => EvP.bind (t_com bs hb) (fun b hb' => EvP.cond (fun g3 => EvP.cond (fun g4 => EvP.now _ (fun _ => ?_)) (fun g4 => EvP.bind (t_com [s] ⟨by show 1 ≤ 2147483647; omega, by simpa using hs⟩) (fun b2 hb2 => EvP.now _ (fun g5 => ?_)))) (fun _ => EvP.no))) (fun _ => EvP.no)) (fun _ => EvP.no)))
    · obtain ⟨h5, h6⟩ := hb' g3
      refine ⟨hd0, by omega, by omega, h5, h6, fun x hx => ?_⟩
      unfold sufO at hx
      rw [if_pos g4] at hx
      simp at hx
    · obtain ⟨h5, h6⟩ := hb' g3
      obtain ⟨h7, -⟩ := hb2 g5
      refine ⟨hd0, by omega, by omega, h5, h6, fun x hx => ?_⟩
      unfold sufO at hx
      rw [if_neg g4] at hx
      injection hx with hx
      subst hx
      exact h7 s (by simp)
  | succ d ih =>
    intro i h1 hd
    have hi : i < tk.length := by omega
    have hn := ih (i + 1) (by omega) (by omega)
    rw [← wrap_up (by omega)] at hn
    refine EvP.step (fun k => spec_LineOk.l0.eq_2 tk (tk.length : Int) (i : Int) tk bs s k) (EvP.pos (by omega) (EvP.pos (by omega) (EvP.pos (by omega) ?_)))
    rw [rdOf_get tk i hi]
    refine EvP.bind (t_word tk[i] (ht.2 _ (List.getElem_mem hi))) (fun b hb' => EvP.cond (fun h => hn.imp (fun r hr h' => ?_)) (fun _ => EvP.no))
    obtain ⟨h5, h6⟩ := hr h'
    exact ⟨mem_drop_cons hi (hb' h) h5, h6⟩
theorem t_line (tk bs : List ByteArray) (s : ByteArray) (ht : FitL tk) (hb : FitL bs) (hs : s.size ≤ M) : EvP (fun k => spec_LineOk.f k tk bs s) (fun r => r = true → LnOk ⟨bs, s, tk⟩) :=
  (t_line_l tk bs s ht hb hs tk.length 0 (by omega) (by omega)).imp (fun r hr h => by
    obtain ⟨h1, h2, h3, h4, h5, h6⟩ := hr h
    rw [List.drop_zero] at h1
    exact ⟨h4, h6, fun e => by simp only at e; rw [e] at h2; simp at h2, h1, h5, h3⟩)

theorem t_has (l : List ByteArray) (s : ByteArray) (hl : l.length ≤ M) (d : Nat) : ∀ i : Nat, i ≤ l.length → l.length - i = d → EvP (fun k => spec_has.l0 k s l (l.length : Int) (i : Int)) (fun _ => True) := by
  have hl' : l.length ≤ 2147483647 := hl
  induction d with
  | zero =>
    intro i h1 hd
    exact EvP.step (fun k => spec_has.l0.eq_2 s l (l.length : Int) (i : Int) k) (EvP.neg (by omega) (EvP.now _ trivial))
  | succ d ih =>
    intro i h1 hd
    have hn := ih (i + 1) (by omega) (by omega)
    rw [← wrap_up (by omega)] at hn
    exact EvP.step (fun k => spec_has.l0.eq_2 s l (l.length : Int) (i : Int) k) (EvP.pos (by omega) (EvP.pos (by omega) (EvP.pos (by omega) (EvP.cond (fun _ => EvP.now _ trivial) (fun _ => hn)))))
theorem t_known (s : ByteArray) : EvP (fun k => spec_Known.f k s) (fun _ => True) := by
  unfold spec_Known.f
  refine EvP.bind (P := fun _ => True) ?_ (fun a _ => EvP.now _ trivial)
  exact t_has _ s (by show 10 ≤ 2147483647; omega) 10 0 (by simp) (by simp)

/-! ### trees -/
theorem stOf_line' {s : S30} (h2 : s.f0 ≠ 2) (h1 : s.f0 ≠ 1) : stOf s = .line ⟨s.f3, s.f4, s.f1⟩ := by unfold stOf; rw [if_neg h2, if_neg h1]
theorem stOf_com' {s : S30} (h2 : s.f0 = 2) : stOf s = .com s.f3 := by unfold stOf; rw [if_pos h2]
theorem stOf_blk' {s : S30} (h1 : s.f0 = 1) : stOf s = .blk s.f3 s.f1 (s.f2.map lnOf) s.f4 := by unfold stOf; rw [if_neg (by omega), if_pos h1]

/-- A statement that is ok. -/
def S30Ok (s : S30) : Prop := Small s ∧ StOk (stOf s) ∧ (s.f0 = 0 ∨ s.f0 = 1 ∨ s.f0 = 2) ∧ (s.f0 = 0 → s.f2 = []) ∧ (s.f0 = 2 → s.f1 = [] ∧ s.f2 = [] ∧ s.f4.toList = [])

theorem t_tree_l1 (x0 : List S30) (x : S30) (n : Nat) (i : Nat) (hi : i ≤ 2147483647) (hx : Fit30 x) {P : Bool → Prop}
    (hn : EvP (fun k => spec_TreeOk.l0 k x0 x0 (n : Int) (wrap64 ((i : Int) + 1))) P) (hP : P false) (d : Nat) : ∀ j : Nat, j ≤ x.f2.length → x.f2.length - j = d → EvP (fun k => spec_TreeOk.l1 k x0 x0 (n : Int) (i : Int) x.f2 (x.f2.length : Int) (j : Int)) (fun r => (P r ∧ ∀ l ∈ x.f2.drop j, LnOk (lnOf l)) ∨ r = false) := by
  have hl' : x.f2.length ≤ 2147483647 := hx.2.1.1
  induction d with
  | zero =>
    intro j h1 hd
    refine EvP.step (fun k => spec_TreeOk.l1.eq_2 x0 x0 (n : Int) (i : Int) x.f2 (x.f2.length : Int) (j : Int) k) (EvP.neg (by omega) (hn.imp (fun r hr => Or.inl ⟨hr, ?_⟩)))
    rw [List.drop_eq_nil_of_le (by omega)]
    simp
  | succ d ih =>
    intro j h1 hd
    have hj : j < x.f2.length := by omega
    have hm := ih (j + 1) (by omega) (by omega)
    rw [← wrap_up (by omega)] at hm
    refine EvP.step (fun k => spec_TreeOk.l1.eq_2 x0 x0 (n : Int) (i : Int) x.f2 (x.f2.length : Int) (j : Int) k) (EvP.pos (by omega) (EvP.pos (by omega) (EvP.pos (by omega) ?_)))
    rw [rd35_get x.f2 j hj]
    have hf := hx.2.1.2 _ (List.getElem_mem hj)
    refine EvP.bind (t_line x.f2[j].f0 x.f2[j].f1 x.f2[j].f2 hf.1 hf.2.1 hf.2.2) (fun b hb => EvP.cond (fun h => hm.imp (fun r hr => ?_)) (fun _ => EvP.now _ (Or.inr rfl)))
    rcases hr with ⟨h5, h6⟩ | h5
    · exact Or.inl ⟨h5, mem_drop_cons hj (hb h) h6⟩
    · exact Or.inr h5

theorem small_ln {s : S30} (h : LnOk ⟨s.f3, s.f4, s.f1⟩) (h20 : s.f2.length ≤ 20) (hl : ∀ l ∈ s.f2, LnOk (lnOf l)) : Small s :=
  ⟨h.lt, h20, h.lb, fun l hm => (hl l hm).lt, fun l hm => (hl l hm).lb⟩

theorem t_tree_l (x0 : List S30) (hl : x0.length ≤ M) (hf : ∀ t ∈ x0, Fit30 t) (d : Nat) : ∀ i : Nat, i ≤ x0.length → x0.length - i = d → EvP (fun k => spec_TreeOk.l0 k x0 x0 (x0.length : Int) (i : Int)) (fun r => r = true → (∀ t ∈ x0.drop i, S30Ok t) ∧ x0.length ≤ 50) := by
  have hl' : x0.length ≤ 2147483647 := hl
  induction d with
  | zero =>
    intro i h1 hd
    refine EvP.step (fun k => spec_TreeOk.l0.eq_2 x0 x0 (x0.length : Int) (i : Int) k) (EvP.neg (by omega) (EvP.now _ (fun h => ⟨?_, ?_⟩)))
    · rw [List.drop_eq_nil_of_le (by omega)]
      simp
    · have := of_decide_eq_true h
      omega
  | succ d ih =>
    intro i h1 hd
    have hi : i < x0.length := by omega
    have hn := ih (i + 1) (by omega) (by omega)
    rw [← wrap_up (by omega)] at hn
    have hx := hf x0[i] (List.getElem_mem hi)
    refine EvP.step (fun k => spec_TreeOk.l0.eq_2 x0 x0 (x0.length : Int) (i : Int) k) (EvP.pos (by omega) (EvP.pos (by omega) (EvP.pos (by omega) ?_)))
    rw [rd30_get x0 i hi]
    obtain ⟨s, hs⟩ : ∃ s, s = x0[i] := ⟨_, rfl⟩
    rw [← hs] at hx ⊢
    have fin : ∀ r, (r = true → (∀ t ∈ x0.drop (i + 1), S30Ok t) ∧ x0.length ≤ 50) → S30Ok s → r = true → (∀ t ∈ x0.drop i, S30Ok t) ∧ x0.length ≤ 50 := fun r hr hok h => by
      obtain ⟨h5, h6⟩ := hr h
      exact ⟨mem_drop_cons hi (by rw [← hs]; exact hok) h5, h6⟩
    have bad : ∀ (a : Int) (b : List ByteArray) (c : List S35) (d : List ByteArray) (e : ByteArray), EvP (fun k => spec_TreeOk.j1 k x0 x0 (x0.length : Int) (i : Int) true a b c d e) (fun r => r = true → (∀ t ∈ x0.drop i, S30Ok t) ∧ x0.length ≤ 50) := fun a b c d e =>
      EvP.step (fun k => spec_TreeOk.j1.eq_2 x0 x0 (x0.length : Int) (i : Int) true a b c d e k) (EvP.pos rfl EvP.no)
    have good : (s.f0 = 0 → s.f2 = []) → (s.f0 = 0 ∨ s.f0 = 1) → LnOk ⟨s.f3, s.f4, s.f1⟩ → EvP (fun k => spec_TreeOk.j1 k x0 x0 (x0.length : Int) (i : Int) (decide ((s.f2.length : Int) > 20)) s.f0 s.f1 s.f2 s.f3 s.f4) (fun r => r = true → (∀ t ∈ x0.drop i, S30Ok t) ∧ x0.length ≤ 50) := fun h0 h01 hln => by
      refine EvP.step (fun k => spec_TreeOk.j1.eq_2 x0 x0 (x0.length : Int) (i : Int) _ s.f0 s.f1 s.f2 s.f3 s.f4 k) (EvP.cond (fun _ => EvP.no) (fun h20 => ?_))
      have h20' : s.f2.length ≤ 20 := by
        rcases Nat.lt_or_ge 20 s.f2.length with h | h
        · exact absurd (decide_eq_true (by omega)) h20
        · exact h
      refine (t_tree_l1 x0 s x0.length i (by omega) hx hn (fun h => absurd h (by simp)) s.f2.length 0 (by omega) (by omega)).imp (fun r hr h => ?_)
      rcases hr with ⟨h5, h6⟩ | h5
      · rw [List.drop_zero] at h6
        refine fin r h5 ⟨small_ln hln h20' h6, ?_, ?_, h0, fun h => by omega⟩ h
        · rcases h01 with h | h
          · rw [stOf_line' (by omega) (by omega)]
            exact hln
          · rw [stOf_blk' h]
            refine ⟨hln.bs, hln.lb, hln.ne, hln.toks, hln.lt, ?_, by rw [List.length_map]; exact h20', hln.suf⟩
            intro d hd
            obtain ⟨l, hl, rfl⟩ := List.mem_map.mp hd
            exact h6 l hl
        · omega
      · rw [h5] at h
        exact absurd h (by simp)
    refine EvP.cond (fun k2 => EvP.bind (t_com s.f3 hx.2.2.1) (fun b hb => EvP.cond (fun g1 => EvP.cond (fun _ => EvP.no) (fun g2 => EvP.cond (fun g3 => EvP.cond (fun _ => EvP.no) (fun g4 => hn.imp (fun r hr h => ?_))) (fun _ => EvP.no))) (fun _ => EvP.no))) (fun k2 => ?_)
    · have l1 : s.f1.length ≤ 2147483647 := hx.1.1
      have l2 : s.f2.length ≤ 2147483647 := hx.2.1.1
      have e0 : s.f1.length = 0 ∧ s.f2.length = 0 := by
        unfold wrap64 at g4
        omega
      have e1 : s.f1 = [] := List.eq_nil_of_length_eq_zero e0.1
      have e2 : s.f2 = [] := List.eq_nil_of_length_eq_zero e0.2
      obtain ⟨h5, h6⟩ := hb g1
      refine fin r hr ⟨⟨by omega, by omega, h6, by rw [e2]; simp, by rw [e2]; simp⟩, ?_, Or.inr (Or.inr k2), fun h => by omega, fun _ => ⟨e1, e2, g3⟩⟩ h
      rw [stOf_com' k2]
      refine ⟨fun e => g2 ?_, h5, h6⟩
      rw [e]
      rfl
    · refine EvP.bind (t_line s.f1 s.f3 s.f4 hx.1 hx.2.2.1 hx.2.2.2) (fun b hb => EvP.cond (fun g1 => ?_) (fun _ => bad _ _ _ _ _))
      have hln := hb g1
      have hne : 0 < s.f1.length := List.length_pos_iff.mpr hln.ne
      refine EvP.pos (by omega) (EvP.bind (t_known _) (fun b2 _ => EvP.cond (fun _ => bad _ _ _ _ _) (fun _ => EvP.cond (fun k0 => EvP.cond (fun _ => bad _ _ _ _ _) (fun g2 => good (fun _ => List.eq_nil_of_length_eq_zero (by omega)) (Or.inl k0) hln)) (fun k0 => EvP.cond (fun k1 => good (fun h => absurd h k0) (Or.inr k1) hln) (fun _ => bad _ _ _ _ _)))))

theorem t_tree (x0 : List S30) (hl : x0.length ≤ M) (hf : ∀ t ∈ x0, Fit30 t) : EvP (fun k => spec_TreeOk.f k x0) (fun r => r = true → (∀ t ∈ x0, S30Ok t) ∧ x0.length ≤ 50) :=
  (t_tree_l x0 hl hf x0.length 0 (by omega) (by omega)).imp (fun r hr h => by
    have := hr h
    rwa [List.drop_zero] at this)

end Go.Proofs.YtbifcpokkfiagaaDoor.F
