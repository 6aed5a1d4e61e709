/- What a call of the program's matchGoVersion does: it answers what the plain function matchB tells. Conditions: a string of at most 140737488351232 bytes. -/
import Derived.Test.YthgbiopfpjleaaaGvA
import Derived.WalkSpells
import Derived.Outline
import Derived.Lib.Hide
namespace Go.Proofs.Ythgbiopfpjleaaa.Gv
open Go.RowKit Go.Proofs.Ythgbiopfpjleaaa.Pnumber Go.Proofs.YthgbiopfpjleaaaW.PrintWords Go.Proofs.YthgbiopfpjleaaaW.PrintLast

abbrev cutAt (s : ByteArray) (n : Nat) : ByteArray := s.extract n s.size

/-- How far letters go, and digits behind them. -/
def lows (s : ByteArray) : Nat := ((lst s).takeWhile low).length
def digs (s : ByteArray) : Nat := lows s + (((lst s).drop (lows s)).takeWhile dig).length

/-- What stands behind the numbers: nothing, or letters with digits behind them. -/
def tailB (s : ByteArray) : Bool := decide (s.size = 0) || (decide (0 < lows s) && decide (lows s < digs s) && decide (digs s = s.size))

/-- What is left behind two or three numbers, or nothing where they are none. -/
def headB (a : ByteArray) : Option ByteArray :=
  if a.size = 0 ∨ bt a 0 = 48 ∨ numLen (lst a) = 0 ∨ numLen (lst a) = a.size ∨ bt a (numLen (lst a) : Int) ≠ 46 then none
  else
    if numLen (lst (cutAt a (numLen (lst a) + 1))) = 0 then none
    else
      let s := cutAt (cutAt a (numLen (lst a) + 1)) (numLen (lst (cutAt a (numLen (lst a) + 1))))
      if 1 < s.size ∧ bt s 0 = 46 then
        if numLen (lst (cutAt s 1)) = 0 then none else some (cutAt s (1 + numLen (lst (cutAt s 1))))
      else some s

def matchB (a : ByteArray) : Bool := match headB a with
  | none => false
  | some s => tailB s

theorem cutAt_size (s : ByteArray) (n : Nat) : (cutAt s n).size = s.size - n := by
  rw [Lib.size_eq, Lib.extract_data, List.length_take, List.length_drop, ← Lib.size_eq]
  omega

theorem empty_iff (a : ByteArray) : a.toList = [] ↔ a.size = 0 := by
  rw [Lib.toList_data, Lib.size_eq]
  exact List.length_eq_zero_iff.symm

/-- The call of number, its answer under a name. -/
theorem num_is (s : ByteArray) (n : Nat) (w : World) (hs : s.size ≤ 140737488351232) (H : Hid (numLen (lst s) = n)) : Calls Try.prog 24 #[.string s] w fun e w' => e = .returned (.int .i64 (n : Int)) ∧ Drawn0 w w' := by
  have h := H.out
  subst h
  exact num_any s w hs

set_option maxHeartbeats 4000000 in
set_option maxRecDepth 100000 in
/-- The head of the walk, where no number stands at the begin. -/
theorem match_1 (a : ByteArray) (n1 : Nat) (w : World) (ha : a.size ≤ 140737488351232) (h1 : a.size ≠ 0) (h2 : bt a 0 ≠ 48) (N1 : Hid (numLen (lst a) = n1)) (hn : n1 ≤ a.size) (h3 : n1 = 0 ∨ n1 = a.size ∨ bt a (n1 : Int) ≠ 46) :
    Calls Try.prog 22 #[.string a] w fun e w' => e = .returned (.bool false) ∧ Drawn0 w w' := by
  have b1 : (a.toList == []) = false := by simp [empty_iff, h1]
  have q1 : (0 < a.size) = True := eq_true (by omega)
  have qi1 : (0 < (a.size : Int)) = True := eq_true (by omega)
  have hx1 : ∀ h : 0 < a.size, ((a[0]'h).toNat : Int) = bt a 0 := bt_at a 0
  have b2 : (bt a 0 == 48) = false := beq_eq_false_iff_ne.mpr h2
  by_cases c3 : n1 = 0
  · have b3 : ((n1 : Int) == 0) = true := by simp [c3]
    clear h1 h2 h3 c3
    go_enter Try.func22, Try.ntmps22
    go_wp2_with (go_at_call 24; refine (num_is a n1 _ ha N1).mono ?_; rintro e w' ⟨rfl, ⟨n, rfl⟩⟩)
    go_ret
    exact ⟨rfl, Drawn0.step (Drawn0.refl _) _⟩
  · have b3 : ((n1 : Int) == 0) = false := by simp [c3]
    by_cases c4 : n1 = a.size
    · have b4 : ((n1 : Int) == (a.size : Int)) = true := by simp [c4]
      clear h1 h2 h3 c3 c4
      go_enter Try.func22, Try.ntmps22
      go_wp2_with (go_at_call 24; refine (num_is a n1 _ ha N1).mono ?_; rintro e w' ⟨rfl, ⟨n, rfl⟩⟩)
      go_ret
      exact ⟨rfl, Drawn0.step (Drawn0.refl _) _⟩
    · have b4 : ((n1 : Int) == (a.size : Int)) = false := by simp; omega
      have h5 : bt a (n1 : Int) ≠ 46 := by omega
      have b5 : (bt a (n1 : Int) != 46) = true := bne_iff_ne.mpr h5
      have q2 : (n1 < a.size) = True := eq_true (by omega)
      have qi2 : ((n1 : Int) < (a.size : Int)) = True := eq_true (by omega)
      have qz2 : (0 ≤ (n1 : Int)) := by omega
      have hx2 : ∀ h : n1 < a.size, ((a[n1]'h).toNat : Int) = bt a (n1 : Int) := bt_at a n1
      clear h1 h2 h3 c3 c4 h5
      go_enter Try.func22, Try.ntmps22
      go_wp2_with (go_at_call 24; refine (num_is a n1 _ ha N1).mono ?_; rintro e w' ⟨rfl, ⟨n, rfl⟩⟩)
      go_ret
      exact ⟨rfl, Drawn0.step (Drawn0.refl _) _⟩

set_option maxHeartbeats 4000000 in
set_option maxRecDepth 100000 in
/-- The second number is none. -/
theorem match_2 (a s1 : ByteArray) (n1 : Nat) (w : World) (ha : a.size ≤ 140737488351232) (h1 : a.size ≠ 0) (h2 : bt a 0 ≠ 48) (N1 : Hid (numLen (lst a) = n1)) (hn : n1 < a.size) (h3 : n1 ≠ 0) (h4 : bt a (n1 : Int) = 46)
    (E1 : a.extract (n1 + 1) a.size = s1) (hs1 : s1.size ≤ 140737488351232) (N2 : Hid (numLen (lst s1) = 0)) :
    Calls Try.prog 22 #[.string a] w fun e w' => e = .returned (.bool false) ∧ Drawn0 w w' := by
  have b1 : (a.toList == []) = false := by simp [empty_iff, h1]
  have q1 : (0 < a.size) = True := eq_true (by omega)
  have qi1 : (0 < (a.size : Int)) = True := eq_true (by omega)
  have hx1 : ∀ h : 0 < a.size, ((a[0]'h).toNat : Int) = bt a 0 := bt_at a 0
  have b2 : (bt a 0 == 48) = false := beq_eq_false_iff_ne.mpr h2
  have b3 : ((n1 : Int) == 0) = false := by simp [h3]
  have b4 : ((n1 : Int) == (a.size : Int)) = false := by simp; omega
  have b5 : (bt a (n1 : Int) != 46) = false := by simp [h4]
  have q2 : (n1 < a.size) = True := eq_true (by omega)
  have qi2 : ((n1 : Int) < (a.size : Int)) = True := eq_true (by omega)
  have qz2 : (0 ≤ (n1 : Int)) := by omega
  have hx2 : ∀ h : n1 < a.size, ((a[n1]'h).toNat : Int) = bt a (n1 : Int) := bt_at a n1
  clear h1 h2 h3 h4
  go_enter Try.func22, Try.ntmps22
  go_wp2_with (go_at_call 24; first | ((with_reducible refine (num_is a n1 _ ha N1).mono ?_); rintro e w' ⟨rfl, ⟨n, rfl⟩⟩) | ((with_reducible refine (num_is s1 0 _ hs1 N2).mono ?_); rintro e w' ⟨rfl, ⟨n, rfl⟩⟩))
  go_ret
  exact ⟨rfl, by repeat (first | exact Drawn0.refl _ | apply Drawn0.step)⟩

theorem tw (P : UInt8 → Bool) : ∀ (l : List UInt8) (k : Nat), k < (l.takeWhile P).length → ∃ c, l[k]? = some c ∧ P c = true := by
  intro l
  induction l with
  | nil => intro k h; simp at h
  | cons x r ih =>
    intro k h
    rw [List.takeWhile_cons] at h
    by_cases hx : P x = true
    · rw [if_pos hx, List.length_cons] at h
      cases k with
      | zero => exact ⟨x, rfl, hx⟩
      | succ k => simpa using ih k (by omega)
    · rw [if_neg hx] at h
      simp at h

theorem tw_end (P : UInt8 → Bool) : ∀ (l : List UInt8) (c : UInt8), l[(l.takeWhile P).length]? = some c → P c = false := by
  intro l
  induction l with
  | nil => intro c h; simp at h
  | cons x r ih =>
    intro c h
    rw [List.takeWhile_cons] at h
    by_cases hx : P x = true
    · rw [if_pos hx, List.length_cons] at h
      exact ih c (by simpa using h)
    · rw [if_neg hx] at h
      have : x = c := by simpa using h
      rw [← this]
      simpa using hx

theorem bt_some (s : ByteArray) (k : Nat) (c : UInt8) (h : (lst s)[k]? = some c) : k < s.size ∧ bt s (k : Int) = (c.toNat : Int) := by
  obtain ⟨h1, h2⟩ := List.getElem?_eq_some_iff.mp h
  have h3 : k < s.size := by rw [← lst_length]; exact h1
  exact ⟨h3, by rw [bt_get s k h3, h2]⟩

theorem some_bt (s : ByteArray) (k : Nat) (h : k < s.size) : ∃ c, (lst s)[k]? = some c ∧ bt s (k : Int) = (c.toNat : Int) := by
  have h' : k < (lst s).length := by rw [lst_length]; exact h
  exact ⟨(lst s)[k], List.getElem?_eq_getElem h', bt_get s k h⟩

theorem low_true {c : UInt8} (h : low c = true) : 97 ≤ (c.toNat : Int) ∧ (c.toNat : Int) ≤ 122 := by
  unfold low at h
  simpa using h

theorem dig_true {c : UInt8} (h : dig c = true) : 48 ≤ (c.toNat : Int) ∧ (c.toNat : Int) ≤ 57 := by
  unfold dig at h
  simpa using h

theorem low_false {c : UInt8} (h : low c = false) : (c.toNat : Int) < 97 ∨ 122 < (c.toNat : Int) := by
  unfold low at h
  simp at h
  omega

theorem dig_false {c : UInt8} (h : dig c = false) : (c.toNat : Int) < 48 ∨ 57 < (c.toNat : Int) := by
  unfold dig at h
  simp at h
  omega

theorem lows_le (s : ByteArray) : lows s ≤ s.size := by
  unfold lows
  rw [← lst_length]
  exact (List.takeWhile_prefix _).length_le

theorem digs_le (s : ByteArray) : lows s ≤ digs s ∧ digs s ≤ s.size := by
  have h := lows_le s
  unfold digs
  refine ⟨by omega, ?_⟩
  have := (List.takeWhile_prefix (l := (lst s).drop (lows s)) dig).length_le
  rw [List.length_drop, lst_length] at this
  omega

theorem lows_in (s : ByteArray) (k : Nat) (h : k < lows s) : 97 ≤ bt s (k : Int) ∧ bt s (k : Int) ≤ 122 := by
  obtain ⟨c, h1, h2⟩ := tw low (lst s) k h
  rw [(bt_some s k c h1).2]
  exact low_true h2

theorem lows_out (s : ByteArray) (h : lows s < s.size) : bt s (lows s : Int) < 97 ∨ 122 < bt s (lows s : Int) := by
  obtain ⟨c, h1, h2⟩ := some_bt s (lows s) h
  rw [h2]
  exact low_false (tw_end low (lst s) c h1)

theorem digs_in (s : ByteArray) (k : Nat) (h0 : lows s ≤ k) (h : k < digs s) : 48 ≤ bt s (k : Int) ∧ bt s (k : Int) ≤ 57 := by
  unfold digs at h
  obtain ⟨c, h1, h2⟩ := tw dig ((lst s).drop (lows s)) (k - lows s) (by omega)
  rw [List.getElem?_drop, show lows s + (k - lows s) = k by omega] at h1
  rw [(bt_some s k c h1).2]
  exact dig_true h2

theorem digs_out (s : ByteArray) (h : digs s < s.size) : bt s (digs s : Int) < 48 ∨ 57 < bt s (digs s : Int) := by
  obtain ⟨c, h1, h2⟩ := some_bt s (digs s) h
  rw [h2]
  refine dig_false (tw_end dig ((lst s).drop (lows s)) c ?_)
  rw [List.getElem?_drop]
  exact h1


end Go.Proofs.Ythgbiopfpjleaaa.Gv
