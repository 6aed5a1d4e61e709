/- The statements' size conditions and the reference's ContentOk answer for every content; what they tell of it. Conditions: lists of at most 9223372036854775807 parts. -/
import Derived.Test.YtlnmchehnhgfnaaDoorZTb
import Derived.Test.YtlnmchehnhgfnaaDoorZCo
import Derived.Test.YtlnmchehnhgfnaaDoorZPContx1
namespace Go.Proofs.YtlnmchehnhgfnaaDoor.M
open Go.RowKit Go.Proofs.YtlnmchehnhgfnaaDoorW.PrintWords Go.Proofs.YtlnmchehnhgfnaaDoor.PCont
theorem z_f3 (a b : ByteArray) (c : Bool) : ∃ r, laws_zzFits3.f a b c = some r ∧ (r = true → a.size ≤ 2147483647 ∧ b.size ≤ 2147483647) := by
  unfold laws_zzFits3.f
  split
  · exact ⟨_, rfl, fun h => absurd h (by simp)⟩
  · split
    · exact ⟨_, rfl, fun h => absurd h (by simp)⟩
    · exact ⟨_, rfl, fun _ => by omega⟩
theorem z_f5 (a b : ByteArray) : ∃ r, laws_zzFits5.f a b = some r ∧ (r = true → a.size ≤ 2147483647 ∧ b.size ≤ 2147483647) := by
  unfold laws_zzFits5.f
  split
  · exact ⟨_, rfl, fun h => absurd h (by simp)⟩
  · split
    · exact ⟨_, rfl, fun h => absurd h (by simp)⟩
    · exact ⟨_, rfl, fun _ => by omega⟩
theorem z_f7 (a b c d : ByteArray) : ∃ r, laws_zzFits7.f a b c d = some r ∧ (r = true → (a.size ≤ 2147483647 ∧ b.size ≤ 2147483647) ∧ c.size ≤ 2147483647 ∧ d.size ≤ 2147483647) := by
  unfold laws_zzFits7.f
  obtain ⟨r1, h1, g1⟩ := z_f5 a b
  obtain ⟨r2, h2, g2⟩ := z_f5 c d
  rw [h1, h2, Option.bind_some, Option.bind_some]
  cases r1 with
  | false => exact ⟨_, rfl, fun h => absurd h (by simp)⟩
  | true =>
    cases r2 with
    | false => exact ⟨_, rfl, fun h => absurd h (by simp)⟩
    | true => exact ⟨_, rfl, fun _ => ⟨g1 rfl, g2 rfl⟩⟩
theorem z_f9 (a b c : ByteArray) : ∃ r, laws_zzFits9.f a b c = some r ∧ (r = true → a.size ≤ 2147483647 ∧ b.size ≤ 2147483647 ∧ c.size ≤ 2147483647) := by
  unfold laws_zzFits9.f
  split
  · exact ⟨_, rfl, fun h => absurd h (by simp)⟩
  · split
    · exact ⟨_, rfl, fun h => absurd h (by simp)⟩
    · split
      · exact ⟨_, rfl, fun h => absurd h (by simp)⟩
      · exact ⟨_, rfl, fun _ => by omega⟩
theorem z_l2 (xs : List S46) (hl : xs.length ≤ 2147483647) (d : Nat) : ∀ i : Nat, i ≤ xs.length → xs.length - i = d → EvP (fun k => laws_zzFits2.l0 k xs (xs.length : Int) (i : Int)) (fun r => r = true → ∀ x ∈ xs.drop i, x.f0.size ≤ 2147483647 ∧ x.f1.size ≤ 2147483647) := by
  induction d with
  | zero =>
    intro i h1 hd
    refine EvP.step (fun k => laws_zzFits2.l0.eq_2 xs (xs.length : Int) (i : Int) k) (EvP.neg (by omega) (EvP.now _ (fun _ x hx => ?_)))
    rw [List.drop_eq_nil_of_le (by omega)] at hx
    exact absurd hx (by simp)
  | succ d ih =>
    intro i h1 hd
    have hi : i < xs.length := by omega
    refine EvP.step (fun k => laws_zzFits2.l0.eq_2 xs (xs.length : Int) (i : Int) k) (EvP.pos (by omega) (EvP.pos (by omega) (EvP.pos (by omega) ?_)))
    rw [rd46 xs i hi, wrap_up (by omega)]
    refine EvP.bind (EvP.opt (z_f3 _ _ _)) (fun b hb => EvP.cond (fun h => ?_) (fun _ => EvP.now _ (fun h => absurd h (by simp))))
    refine (ih (i + 1) (by omega) (by omega)).imp (fun r hr ht x hx => ?_)
    rw [List.drop_eq_getElem_cons hi] at hx
    rcases List.mem_cons.mp hx with hx | hx
    · rw [hx]; exact hb h
    · exact hr ht x hx
theorem z_f2 (xs : List S46) : EvP (fun k => laws_zzFits2.f k xs) (fun r => r = true → xs.length ≤ 2147483647 ∧ ∀ x ∈ xs, x.f0.size ≤ 2147483647 ∧ x.f1.size ≤ 2147483647) := by
  refine EvP.cond (fun _ => EvP.now _ (fun h => absurd h (by simp))) (fun h => ?_)
  refine (z_l2 xs (by omega) xs.length 0 (by omega) (by omega)).imp (fun r hr ht => ⟨by omega, ?_⟩)
  have := hr ht
  rw [List.drop_zero] at this
  exact this
theorem z_l4 (xs : List S48) (hl : xs.length ≤ 2147483647) (d : Nat) : ∀ i : Nat, i ≤ xs.length → xs.length - i = d → EvP (fun k => laws_zzFits4.l0 k xs (xs.length : Int) (i : Int)) (fun r => r = true → ∀ x ∈ xs.drop i, x.f0.size ≤ 2147483647 ∧ x.f1.size ≤ 2147483647) := by
  induction d with
  | zero =>
    intro i h1 hd
    refine EvP.step (fun k => laws_zzFits4.l0.eq_2 xs (xs.length : Int) (i : Int) k) (EvP.neg (by omega) (EvP.now _ (fun _ x hx => ?_)))
    rw [List.drop_eq_nil_of_le (by omega)] at hx
    exact absurd hx (by simp)
  | succ d ih =>
    intro i h1 hd
    have hi : i < xs.length := by omega
    refine EvP.step (fun k => laws_zzFits4.l0.eq_2 xs (xs.length : Int) (i : Int) k) (EvP.pos (by omega) (EvP.pos (by omega) (EvP.pos (by omega) ?_)))
    rw [rd48 xs i hi, wrap_up (by omega)]
    refine EvP.bind (EvP.opt (z_f5 _ _)) (fun b hb => EvP.cond (fun h => ?_) (fun _ => EvP.now _ (fun h => absurd h (by simp))))
    refine (ih (i + 1) (by omega) (by omega)).imp (fun r hr ht x hx => ?_)
    rw [List.drop_eq_getElem_cons hi] at hx
    rcases List.mem_cons.mp hx with hx | hx
    · rw [hx]; exact hb h
    · exact hr ht x hx
theorem z_f4 (xs : List S48) : EvP (fun k => laws_zzFits4.f k xs) (fun r => r = true → xs.length ≤ 2147483647 ∧ ∀ x ∈ xs, x.f0.size ≤ 2147483647 ∧ x.f1.size ≤ 2147483647) := by
  refine EvP.cond (fun _ => EvP.now _ (fun h => absurd h (by simp))) (fun h => ?_)
  refine (z_l4 xs (by omega) xs.length 0 (by omega) (by omega)).imp (fun r hr ht => ⟨by omega, ?_⟩)
  have := hr ht
  rw [List.drop_zero] at this
  exact this
theorem z_l6 (xs : List S50) (hl : xs.length ≤ 2147483647) (d : Nat) : ∀ i : Nat, i ≤ xs.length → xs.length - i = d → EvP (fun k => laws_zzFits6.l0 k xs (xs.length : Int) (i : Int)) (fun r => r = true → ∀ x ∈ xs.drop i, (x.f0.f0.size ≤ 2147483647 ∧ x.f0.f1.size ≤ 2147483647) ∧ x.f1.f0.size ≤ 2147483647 ∧ x.f1.f1.size ≤ 2147483647) := by
  induction d with
  | zero =>
    intro i h1 hd
    refine EvP.step (fun k => laws_zzFits6.l0.eq_2 xs (xs.length : Int) (i : Int) k) (EvP.neg (by omega) (EvP.now _ (fun _ x hx => ?_)))
    rw [List.drop_eq_nil_of_le (by omega)] at hx
    exact absurd hx (by simp)
  | succ d ih =>
    intro i h1 hd
    have hi : i < xs.length := by omega
    refine EvP.step (fun k => laws_zzFits6.l0.eq_2 xs (xs.length : Int) (i : Int) k) (EvP.pos (by omega) (EvP.pos (by omega) (EvP.pos (by omega) ?_)))
    rw [rd50 xs i hi, wrap_up (by omega)]
    refine EvP.bind (EvP.opt (z_f7 _ _ _ _)) (fun b hb => EvP.cond (fun h => ?_) (fun _ => EvP.now _ (fun h => absurd h (by simp))))
    refine (ih (i + 1) (by omega) (by omega)).imp (fun r hr ht x hx => ?_)
    rw [List.drop_eq_getElem_cons hi] at hx
    rcases List.mem_cons.mp hx with hx | hx
    · rw [hx]; exact hb h
    · exact hr ht x hx
theorem z_f6 (xs : List S50) : EvP (fun k => laws_zzFits6.f k xs) (fun r => r = true → xs.length ≤ 2147483647 ∧ ∀ x ∈ xs, (x.f0.f0.size ≤ 2147483647 ∧ x.f0.f1.size ≤ 2147483647) ∧ x.f1.f0.size ≤ 2147483647 ∧ x.f1.f1.size ≤ 2147483647) := by
  refine EvP.cond (fun _ => EvP.now _ (fun h => absurd h (by simp))) (fun h => ?_)
  refine (z_l6 xs (by omega) xs.length 0 (by omega) (by omega)).imp (fun r hr ht => ⟨by omega, ?_⟩)
  have := hr ht
  rw [List.drop_zero] at this
  exact this
theorem z_l8 (xs : List S53) (hl : xs.length ≤ 2147483647) (d : Nat) : ∀ i : Nat, i ≤ xs.length → xs.length - i = d → EvP (fun k => laws_zzFits8.l0 k xs (xs.length : Int) (i : Int)) (fun r => r = true → ∀ x ∈ xs.drop i, x.f0.size ≤ 2147483647 ∧ x.f1.size ≤ 2147483647 ∧ x.f2.size ≤ 2147483647) := by
  induction d with
  | zero =>
    intro i h1 hd
    refine EvP.step (fun k => laws_zzFits8.l0.eq_2 xs (xs.length : Int) (i : Int) k) (EvP.neg (by omega) (EvP.now _ (fun _ x hx => ?_)))
    rw [List.drop_eq_nil_of_le (by omega)] at hx
    exact absurd hx (by simp)
  | succ d ih =>
    intro i h1 hd
    have hi : i < xs.length := by omega
    refine EvP.step (fun k => laws_zzFits8.l0.eq_2 xs (xs.length : Int) (i : Int) k) (EvP.pos (by omega) (EvP.pos (by omega) (EvP.pos (by omega) ?_)))
    rw [rd53 xs i hi, wrap_up (by omega)]
    refine EvP.bind (EvP.opt (z_f9 _ _ _)) (fun b hb => EvP.cond (fun h => ?_) (fun _ => EvP.now _ (fun h => absurd h (by simp))))
    refine (ih (i + 1) (by omega) (by omega)).imp (fun r hr ht x hx => ?_)
    rw [List.drop_eq_getElem_cons hi] at hx
    rcases List.mem_cons.mp hx with hx | hx
    · rw [hx]; exact hb h
    · exact hr ht x hx
theorem z_f8 (xs : List S53) : EvP (fun k => laws_zzFits8.f k xs) (fun r => r = true → xs.length ≤ 2147483647 ∧ ∀ x ∈ xs, x.f0.size ≤ 2147483647 ∧ x.f1.size ≤ 2147483647 ∧ x.f2.size ≤ 2147483647) := by
  refine EvP.cond (fun _ => EvP.now _ (fun h => absurd h (by simp))) (fun h => ?_)
  refine (z_l8 xs (by omega) xs.length 0 (by omega) (by omega)).imp (fun r hr ht => ⟨by omega, ?_⟩)
  have := hr ht
  rw [List.drop_zero] at this
  exact this
theorem z_l10 (xs : List ByteArray) (hl : xs.length ≤ 2147483647) (d : Nat) : ∀ i : Nat, i ≤ xs.length → xs.length - i = d → EvP (fun k => laws_zzFits10.l0 k xs (xs.length : Int) (i : Int)) (fun r => r = true → ∀ x ∈ xs.drop i, x.size ≤ 2147483647) := by
  induction d with
  | zero =>
    intro i h1 hd
    refine EvP.step (fun k => laws_zzFits10.l0.eq_2 xs (xs.length : Int) (i : Int) k) (EvP.neg (by omega) (EvP.now _ (fun _ x hx => ?_)))
    rw [List.drop_eq_nil_of_le (by omega)] at hx
    exact absurd hx (by simp)
  | succ d ih =>
    intro i h1 hd
    have hi : i < xs.length := by omega
    refine EvP.step (fun k => laws_zzFits10.l0.eq_2 xs (xs.length : Int) (i : Int) k) (EvP.pos (by omega) (EvP.pos (by omega) (EvP.pos (by omega) ?_)))
    rw [rdOf_get xs i hi, wrap_up (by omega)]
    refine EvP.cond (fun _ => EvP.now _ (fun h => absurd h (by simp))) (fun h => ?_)
    refine (ih (i + 1) (by omega) (by omega)).imp (fun r hr ht x hx => ?_)
    rw [List.drop_eq_getElem_cons hi] at hx
    rcases List.mem_cons.mp hx with hx | hx
    · rw [hx]; omega
    · exact hr ht x hx
theorem z_f10 (xs : List ByteArray) : EvP (fun k => laws_zzFits10.f k xs) (fun r => r = true → xs.length ≤ 2147483647 ∧ ∀ x ∈ xs, x.size ≤ 2147483647) := by
  refine EvP.cond (fun _ => EvP.now _ (fun h => absurd h (by simp))) (fun h => ?_)
  refine (z_l10 xs (by omega) xs.length 0 (by omega) (by omega)).imp (fun r hr ht => ⟨by omega, ?_⟩)
  have := hr ht
  rw [List.drop_zero] at this
  exact this
/-- A content within the sizes. -/
structure Fit (s0 s1 s2 : ByteArray) (l3 : List S46) (l4 : List S48) (l5 : List S50) (l6 : List S53) (l7 l8 : List ByteArray) : Prop where
  t0 : s0.size ≤ 2147483647
  t1 : s1.size ≤ 2147483647
  t2 : s2.size ≤ 2147483647
  n3 : l3.length ≤ 2147483647
  h3 : ∀ x ∈ l3, x.f0.size ≤ 2147483647 ∧ x.f1.size ≤ 2147483647
  n4 : l4.length ≤ 2147483647
  h4 : ∀ x ∈ l4, x.f0.size ≤ 2147483647 ∧ x.f1.size ≤ 2147483647
  n5 : l5.length ≤ 2147483647
  h5 : ∀ x ∈ l5, (x.f0.f0.size ≤ 2147483647 ∧ x.f0.f1.size ≤ 2147483647) ∧ x.f1.f0.size ≤ 2147483647 ∧ x.f1.f1.size ≤ 2147483647
  n6 : l6.length ≤ 2147483647
  h6 : ∀ x ∈ l6, x.f0.size ≤ 2147483647 ∧ x.f1.size ≤ 2147483647 ∧ x.f2.size ≤ 2147483647
  n7 : l7.length ≤ 2147483647
  h7 : ∀ x ∈ l7, x.size ≤ 2147483647
  n8 : l8.length ≤ 2147483647
  h8 : ∀ x ∈ l8, x.size ≤ 2147483647
theorem z_f1 (s0 s1 s2 : ByteArray) (l3 : List S46) (l4 : List S48) (l5 : List S50) (l6 : List S53) (l7 l8 : List ByteArray) : EvP (fun k => laws_zzFits1.f k s0 s1 s2 l3 l4 l5 l6 l7 l8) (fun r => r = true → Fit s0 s1 s2 l3 l4 l5 l6 l7 l8) := by
  have no : ∀ {P : Prop}, (false = true → P) := fun h => absurd h (by simp)
  refine EvP.cond (fun _ => EvP.now _ no) (fun h0 => EvP.cond (fun _ => EvP.now _ no) (fun h1 => EvP.cond (fun _ => EvP.now _ no) (fun h2 => ?_)))
  refine EvP.bind (z_f2 l3) (fun b3 g3 => EvP.cond (fun c3 => ?_) (fun _ => EvP.now _ no))
  refine EvP.bind (z_f4 l4) (fun b4 g4 => EvP.cond (fun c4 => ?_) (fun _ => EvP.now _ no))
  refine EvP.bind (z_f6 l5) (fun b5 g5 => EvP.cond (fun c5 => ?_) (fun _ => EvP.now _ no))
  refine EvP.bind (z_f8 l6) (fun b6 g6 => EvP.cond (fun c6 => ?_) (fun _ => EvP.now _ no))
  refine EvP.bind (z_f10 l7) (fun b7 g7 => EvP.cond (fun c7 => ?_) (fun _ => EvP.now _ no))
  refine EvP.bind (z_f10 l8) (fun b8 g8 => EvP.cond (fun c8 => EvP.now _ (fun _ => ?_)) (fun _ => EvP.now _ no))
  exact ⟨by omega, by omega, by omega, (g3 c3).1, (g3 c3).2, (g4 c4).1, (g4 c4).2, (g5 c5).1, (g5 c5).2, (g6 c6).1, (g6 c6).2, (g7 c7).1, (g7 c7).2, (g8 c8).1, (g8 c8).2⟩
/-- What is known of a content that is one: its lists. -/
structure Few (l3 : List S46) (l4 : List S48) (l5 : List S50) (l6 : List S53) (l7 l8 : List ByteArray) : Prop where
  n3 : l3.length ≤ 100
  n4 : l4.length ≤ 100
  n5 : l5.length ≤ 100
  n6 : l6.length ≤ 100
  n7 : l7.length ≤ 100
  n8 : l8.length ≤ 100
theorem c_l5 (s0 s1 s2 : ByteArray) (l3 : List S46) (l4 : List S48) (l5 : List S50) (l6 : List S53) (l7 l8 : List ByteArray) (hf : Fit s0 s1 s2 l3 l4 l5 l6 l7 l8) (d : Nat) : ∀ i : Nat, i ≤ l8.length → l8.length - i = d → EvP (fun k => spec_ContentOk.l5 k l8 (l8.length : Int) (i : Int) s0 s1 s2 l3 l4 l5 l6 l7 l8) (fun r => r = true → Few l3 l4 l5 l6 l7 l8) := by
  have hn : l8.length ≤ 2147483647 := hf.n8
  induction d with
  | zero =>
    intro i h1 hd
    refine EvP.step (fun k => spec_ContentOk.l5.eq_2 l8 (l8.length : Int) (i : Int) s0 s1 s2 l3 l4 l5 l6 l7 l8 k) (EvP.neg (by omega) ?_)
    refine EvP.now _ (fun h => ?_)
    have h2 := of_decide_eq_true h
    have m1 : ∀ a b : Int, a ≤ mx a b ∧ b ≤ mx a b := fun a b => by unfold mx; split <;> omega
    have a1 := m1 (l3.length : Int) (l4.length : Int)
    have a2 := m1 (mx (l3.length : Int) (l4.length : Int)) (l5.length : Int)
    have a3 := m1 (mx (mx (l3.length : Int) (l4.length : Int)) (l5.length : Int)) (l6.length : Int)
    have a4 := m1 (mx (mx (mx (l3.length : Int) (l4.length : Int)) (l5.length : Int)) (l6.length : Int)) (l7.length : Int)
    have a5 := m1 (mx (mx (mx (mx (l3.length : Int) (l4.length : Int)) (l5.length : Int)) (l6.length : Int)) (l7.length : Int)) (l8.length : Int)
    exact ⟨by omega, by omega, by omega, by omega, by omega, by omega⟩
  | succ d ih =>
    intro i h1 hd
    have hi : i < l8.length := by omega
    have hx := hf.h8 l8[i] (List.getElem_mem hi)
    have hih := ih (i + 1) (by omega) (by omega)
    refine EvP.step (fun k => spec_ContentOk.l5.eq_2 l8 (l8.length : Int) (i : Int) s0 s1 s2 l3 l4 l5 l6 l7 l8 k) (EvP.pos (by omega) (EvP.pos (by omega) (EvP.pos (by omega) ?_)))
    rw [rdOf_get l8 i hi, wrap_up (by omega)]
    exact EvP.bind (t_path _ hx) (fun b _ => EvP.cond (fun _ => hih) (fun _ => EvP.now _ (fun h => absurd h (by simp))))
theorem c_l4 (s0 s1 s2 : ByteArray) (l3 : List S46) (l4 : List S48) (l5 : List S50) (l6 : List S53) (l7 l8 : List ByteArray) (hf : Fit s0 s1 s2 l3 l4 l5 l6 l7 l8) (d : Nat) : ∀ i : Nat, i ≤ l7.length → l7.length - i = d → EvP (fun k => spec_ContentOk.l4 k l7 (l7.length : Int) (i : Int) s0 s1 s2 l3 l4 l5 l6 l7 l8) (fun r => r = true → Few l3 l4 l5 l6 l7 l8) := by
  have hn : l7.length ≤ 2147483647 := hf.n7
  induction d with
  | zero =>
    intro i h1 hd
    refine EvP.step (fun k => spec_ContentOk.l4.eq_2 l7 (l7.length : Int) (i : Int) s0 s1 s2 l3 l4 l5 l6 l7 l8 k) (EvP.neg (by omega) ?_)
    exact c_l5 s0 s1 s2 l3 l4 l5 l6 l7 l8 hf l8.length 0 (by omega) (by omega)
  | succ d ih =>
    intro i h1 hd
    have hi : i < l7.length := by omega
    have hx := hf.h7 l7[i] (List.getElem_mem hi)
    have hih := ih (i + 1) (by omega) (by omega)
    refine EvP.step (fun k => spec_ContentOk.l4.eq_2 l7 (l7.length : Int) (i : Int) s0 s1 s2 l3 l4 l5 l6 l7 l8 k) (EvP.pos (by omega) (EvP.pos (by omega) (EvP.pos (by omega) ?_)))
    rw [rdOf_get l7 i hi, wrap_up (by omega)]
    exact EvP.bind (t_path _ hx) (fun b _ => EvP.cond (fun _ => hih) (fun _ => EvP.now _ (fun h => absurd h (by simp))))
theorem c_l3 (s0 s1 s2 : ByteArray) (l3 : List S46) (l4 : List S48) (l5 : List S50) (l6 : List S53) (l7 l8 : List ByteArray) (hf : Fit s0 s1 s2 l3 l4 l5 l6 l7 l8) (d : Nat) : ∀ i : Nat, i ≤ l6.length → l6.length - i = d → EvP (fun k => spec_ContentOk.l3 k l6 (l6.length : Int) (i : Int) s0 s1 s2 l3 l4 l5 l6 l7 l8) (fun r => r = true → Few l3 l4 l5 l6 l7 l8) := by
  have hn : l6.length ≤ 2147483647 := hf.n6
  induction d with
  | zero =>
    intro i h1 hd
    refine EvP.step (fun k => spec_ContentOk.l3.eq_2 l6 (l6.length : Int) (i : Int) s0 s1 s2 l3 l4 l5 l6 l7 l8 k) (EvP.neg (by omega) ?_)
    exact c_l4 s0 s1 s2 l3 l4 l5 l6 l7 l8 hf l7.length 0 (by omega) (by omega)
  | succ d ih =>
    intro i h1 hd
    have hi : i < l6.length := by omega
    have hx := hf.h6 l6[i] (List.getElem_mem hi)
    have hih := ih (i + 1) (by omega) (by omega)
    refine EvP.step (fun k => spec_ContentOk.l3.eq_2 l6 (l6.length : Int) (i : Int) s0 s1 s2 l3 l4 l5 l6 l7 l8 k) (EvP.pos (by omega) (EvP.pos (by omega) (EvP.pos (by omega) ?_)))
    rw [rd53 l6 i hi, wrap_up (by omega)]
    exact EvP.bind (t_ver _ hx.1) (fun b _ => EvP.cond (fun _ => EvP.bind (t_ver _ hx.2.1) (fun b _ => EvP.cond (fun _ => EvP.bind (t_why _ hx.2.2) (fun b _ => EvP.cond (fun _ => hih) (fun _ => EvP.now _ (fun h => absurd h (by simp))))) (fun _ => EvP.now _ (fun h => absurd h (by simp))))) (fun _ => EvP.now _ (fun h => absurd h (by simp))))
theorem c_l2 (s0 s1 s2 : ByteArray) (l3 : List S46) (l4 : List S48) (l5 : List S50) (l6 : List S53) (l7 l8 : List ByteArray) (hf : Fit s0 s1 s2 l3 l4 l5 l6 l7 l8) (d : Nat) : ∀ i : Nat, i ≤ l5.length → l5.length - i = d → EvP (fun k => spec_ContentOk.l2 k l5 (l5.length : Int) (i : Int) s0 s1 s2 l3 l4 l5 l6 l7 l8) (fun r => r = true → Few l3 l4 l5 l6 l7 l8) := by
  have hn : l5.length ≤ 2147483647 := hf.n5
  induction d with
  | zero =>
    intro i h1 hd
    refine EvP.step (fun k => spec_ContentOk.l2.eq_2 l5 (l5.length : Int) (i : Int) s0 s1 s2 l3 l4 l5 l6 l7 l8 k) (EvP.neg (by omega) ?_)
    exact c_l3 s0 s1 s2 l3 l4 l5 l6 l7 l8 hf l6.length 0 (by omega) (by omega)
  | succ d ih =>
    intro i h1 hd
    have hi : i < l5.length := by omega
    have hx := hf.h5 l5[i] (List.getElem_mem hi)
    have hih := ih (i + 1) (by omega) (by omega)
    refine EvP.step (fun k => spec_ContentOk.l2.eq_2 l5 (l5.length : Int) (i : Int) s0 s1 s2 l3 l4 l5 l6 l7 l8 k) (EvP.pos (by omega) (EvP.pos (by omega) (EvP.pos (by omega) ?_)))
    rw [rd50 l5 i hi, wrap_up (by omega)]
    exact EvP.bind (t_rep _ _ _ _ hx.1.1 hx.1.2 hx.2.1 hx.2.2) (fun b _ => EvP.cond (fun _ => hih) (fun _ => EvP.now _ (fun h => absurd h (by simp))))
theorem c_l1 (s0 s1 s2 : ByteArray) (l3 : List S46) (l4 : List S48) (l5 : List S50) (l6 : List S53) (l7 l8 : List ByteArray) (hf : Fit s0 s1 s2 l3 l4 l5 l6 l7 l8) (d : Nat) : ∀ i : Nat, i ≤ l4.length → l4.length - i = d → EvP (fun k => spec_ContentOk.l1 k l4 (l4.length : Int) (i : Int) s0 s1 s2 l3 l4 l5 l6 l7 l8) (fun r => r = true → Few l3 l4 l5 l6 l7 l8) := by
  have hn : l4.length ≤ 2147483647 := hf.n4
  induction d with
  | zero =>
    intro i h1 hd
    refine EvP.step (fun k => spec_ContentOk.l1.eq_2 l4 (l4.length : Int) (i : Int) s0 s1 s2 l3 l4 l5 l6 l7 l8 k) (EvP.neg (by omega) ?_)
    exact c_l2 s0 s1 s2 l3 l4 l5 l6 l7 l8 hf l5.length 0 (by omega) (by omega)
  | succ d ih =>
    intro i h1 hd
    have hi : i < l4.length := by omega
    have hx := hf.h4 l4[i] (List.getElem_mem hi)
    have hih := ih (i + 1) (by omega) (by omega)
    refine EvP.step (fun k => spec_ContentOk.l1.eq_2 l4 (l4.length : Int) (i : Int) s0 s1 s2 l3 l4 l5 l6 l7 l8 k) (EvP.pos (by omega) (EvP.pos (by omega) (EvP.pos (by omega) ?_)))
    rw [rd48 l4 i hi, wrap_up (by omega)]
    exact EvP.bind (t_path _ hx.1) (fun b _ => EvP.cond (fun _ => EvP.bind (t_ver _ hx.2) (fun b _ => EvP.cond (fun _ => hih) (fun _ => EvP.now _ (fun h => absurd h (by simp))))) (fun _ => EvP.now _ (fun h => absurd h (by simp))))
theorem c_l0 (s0 s1 s2 : ByteArray) (l3 : List S46) (l4 : List S48) (l5 : List S50) (l6 : List S53) (l7 l8 : List ByteArray) (hf : Fit s0 s1 s2 l3 l4 l5 l6 l7 l8) (d : Nat) : ∀ i : Nat, i ≤ l3.length → l3.length - i = d → EvP (fun k => spec_ContentOk.l0 k l3 (l3.length : Int) (i : Int) s0 s1 s2 l3 l4 l5 l6 l7 l8) (fun r => r = true → Few l3 l4 l5 l6 l7 l8) := by
  have hn : l3.length ≤ 2147483647 := hf.n3
  induction d with
  | zero =>
    intro i h1 hd
    refine EvP.step (fun k => spec_ContentOk.l0.eq_2 l3 (l3.length : Int) (i : Int) s0 s1 s2 l3 l4 l5 l6 l7 l8 k) (EvP.neg (by omega) ?_)
    exact c_l1 s0 s1 s2 l3 l4 l5 l6 l7 l8 hf l4.length 0 (by omega) (by omega)
  | succ d ih =>
    intro i h1 hd
    have hi : i < l3.length := by omega
    have hx := hf.h3 l3[i] (List.getElem_mem hi)
    have hih := ih (i + 1) (by omega) (by omega)
    refine EvP.step (fun k => spec_ContentOk.l0.eq_2 l3 (l3.length : Int) (i : Int) s0 s1 s2 l3 l4 l5 l6 l7 l8 k) (EvP.pos (by omega) (EvP.pos (by omega) (EvP.pos (by omega) ?_)))
    rw [rd46 l3 i hi, wrap_up (by omega)]
    exact EvP.bind (t_path _ hx.1) (fun b _ => EvP.cond (fun _ => EvP.bind (t_ver _ hx.2) (fun b _ => EvP.cond (fun _ => hih) (fun _ => EvP.now _ (fun h => absurd h (by simp))))) (fun _ => EvP.now _ (fun h => absurd h (by simp))))
theorem c_j0 (s0 s1 s2 : ByteArray) (l3 : List S46) (l4 : List S48) (l5 : List S50) (l6 : List S53) (l7 l8 : List ByteArray) (hf : Fit s0 s1 s2 l3 l4 l5 l6 l7 l8) (b : Bool) : EvP (fun k => spec_ContentOk.j0 k b s0 s1 s2 l3 l4 l5 l6 l7 l8) (fun r => r = true → Few l3 l4 l5 l6 l7 l8) :=
  EvP.step (fun k => spec_ContentOk.j0.eq_2 b s0 s1 s2 l3 l4 l5 l6 l7 l8 k) (EvP.cond (fun _ => EvP.now _ (fun h => absurd h (by simp))) (fun _ => c_l0 s0 s1 s2 l3 l4 l5 l6 l7 l8 hf l3.length 0 (by omega) (by omega)))
theorem c_f (s0 s1 s2 : ByteArray) (l3 : List S46) (l4 : List S48) (l5 : List S50) (l6 : List S53) (l7 l8 : List ByteArray) (hf : Fit s0 s1 s2 l3 l4 l5 l6 l7 l8) : EvP (fun k => spec_ContentOk.f k s0 s1 s2 l3 l4 l5 l6 l7 l8) (fun r => r = true → PathGood (lst s0) ∧ Few l3 l4 l5 l6 l7 l8) := by
  have J := fun b => c_j0 s0 s1 s2 l3 l4 l5 l6 l7 l8 hf b
  refine EvP.bind (t_path s0 hf.t0) (fun p hp => EvP.cond (fun cp => ?_) (fun _ => ?_))
  · have J' : ∀ b, EvP (fun k => spec_ContentOk.j0 k b s0 s1 s2 l3 l4 l5 l6 l7 l8) (fun r => r = true → PathGood (lst s0) ∧ Few l3 l4 l5 l6 l7 l8) := fun b => (J b).imp (fun r hr h => ⟨hp cp, hr h⟩)
    have T2 : EvP (fun k => if s2.toList = ([] : List UInt8) then (spec_ContentOk.j0 k false s0 s1 s2 l3 l4 l5 l6 l7 l8) else ((spec_Toolchain.f s2).bind fun t192 => (if t192 = true then ((spec_WordOk.f k s2).bind fun t193 => (spec_ContentOk.j0 k (!t193) s0 s1 s2 l3 l4 l5 l6 l7 l8)) else (spec_ContentOk.j0 k true s0 s1 s2 l3 l4 l5 l6 l7 l8)))) (fun r => r = true → PathGood (lst s0) ∧ Few l3 l4 l5 l6 l7 l8) :=
      EvP.cond (fun _ => J' false) (fun _ => EvP.bind (EvP.opt (t_tool s2)) (fun t _ => EvP.cond (fun _ => EvP.bind (t_word s2 hf.t2) (fun t _ => J' (!t))) (fun _ => J' true)))
    refine EvP.cond (fun _ => T2) (fun _ => EvP.bind (t_gov s1 hf.t1) (fun t _ => EvP.cond (fun _ => EvP.cond (fun _ => J' true) (fun _ => T2)) (fun _ => J' true)))
  · have e : ∀ k, spec_ContentOk.j0 (k + 1) true s0 s1 s2 l3 l4 l5 l6 l7 l8 = some false := fun k => by rw [spec_ContentOk.j0.eq_2]; rfl
    exact EvP.step e (EvP.now _ (fun h => absurd h (by simp)))
end Go.Proofs.YtlnmchehnhgfnaaDoor.M
