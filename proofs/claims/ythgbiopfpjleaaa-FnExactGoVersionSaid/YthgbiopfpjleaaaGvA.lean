/- The plain words for versions of Go: the length of a number at the begin of a list of bytes, and what the program's function number answers. Conditions: a string of at most 140737488351232 bytes. -/
import Derived.Test.YthgbiopfpjleaaaPnumberx1
import Derived.Lib.PathFns
namespace Go.Proofs.Ythgbiopfpjleaaa.Gv
open Go.RowKit Go.Proofs.Ythgbiopfpjleaaa.Pnumber Go.Proofs.YthgbiopfpjleaaaW.PrintWords Go.Proofs.YthgbiopfpjleaaaW.PrintLast

abbrev lst (s : ByteArray) : List UInt8 := s.data.toList

def dig (c : UInt8) : Bool := decide (48 ≤ (c.toNat : Int)) && decide ((c.toNat : Int) ≤ 57)
def low (c : UInt8) : Bool := decide (97 ≤ (c.toNat : Int)) && decide ((c.toNat : Int) ≤ 122)

theorem lst_length (s : ByteArray) : (lst s).length = s.size := by
  rw [Lib.size_eq]

theorem bt_get (s : ByteArray) (i : Nat) (h : i < s.size) : bt s (i : Int) = (((lst s)[i]'(by rw [lst_length]; exact h)).toNat : Int) := by
  unfold bt
  have h' : (i : Int).toNat < s.size := by simpa using h
  rw [dif_pos h']
  rfl

theorem drop_at (s : ByteArray) (i : Nat) (h : i < s.size) : ∃ c, bt s (i : Int) = (c.toNat : Int) ∧ (lst s).drop i = c :: (lst s).drop (i + 1) := by
  have h' : i < (lst s).length := by rw [lst_length]; exact h
  exact ⟨(lst s)[i], bt_get s i h, List.drop_eq_getElem_cons h'⟩

theorem wrap_up {i : Nat} (h : i ≤ 140737488351232) : wrap64 ((i : Int) + 1) = ((i + 1 : Nat) : Int) := by
  unfold wrap64
  omega

/-- How many bytes at the begin are a number without zeros ahead of it. -/
def numLen : List UInt8 → Nat
  | [] => 0
  | c :: r => if dig c = true then (if c.toNat = 48 then 1 else 1 + (r.takeWhile dig).length) else 0

theorem numLen_cons (c : UInt8) (r : List UInt8) : numLen (c :: r) = if dig c = true then (if c.toNat = 48 then 1 else 1 + (r.takeWhile dig).length) else 0 := rfl

theorem num_l0 (s : ByteArray) (hs : s.size ≤ 140737488351232) (d : Nat) : ∀ (k i : Nat), i ≤ s.size → s.size - i = d → d < k →
    modfile_number.l0 k s (i : Int) = some ((i + (((lst s).drop i).takeWhile dig).length : Nat) : Int) := by
  induction d with
  | zero =>
    intro k i h1 hd hk
    obtain ⟨k, rfl⟩ : ∃ m, k = m + 1 := ⟨k - 1, by omega⟩
    have e : (lst s).drop i = [] := List.drop_eq_nil_of_le (by rw [lst_length]; omega)
    simp only [modfile_number.l0]
    rw [if_neg (by omega), e]
    rfl
  | succ d ih =>
    intro k i h1 hd hk
    obtain ⟨k, rfl⟩ : ∃ m, k = m + 1 := ⟨k - 1, by omega⟩
    obtain ⟨c, hc, e⟩ := drop_at s i (by omega)
    simp only [modfile_number.l0]
    rw [if_pos (by omega), if_pos (by omega), hc, e, List.takeWhile_cons]
    by_cases c1 : 48 ≤ (c.toNat : Int)
    · rw [if_pos c1]
      by_cases c2 : (c.toNat : Int) ≤ 57
      · rw [if_pos c2, wrap_up (by omega), ih k (i + 1) (by omega) (by omega) (by omega)]
        have hd : dig c = true := by unfold dig; rw [decide_eq_true c1, decide_eq_true c2]; rfl
        rw [if_pos hd, List.length_cons]
        congr 2
        omega
      · have hd : ¬ dig c = true := by unfold dig; rw [decide_eq_false c2]; simp
        rw [if_neg c2, if_neg hd]
        rfl
    · have hd : ¬ dig c = true := by unfold dig; rw [decide_eq_false c1]; simp
      rw [if_neg c1, if_neg hd]
      rfl

theorem num_tells (s : ByteArray) (hs : s.size ≤ 140737488351232) : modfile_number.f (s.size + 2) s = some ((numLen (lst s) : Nat) : Int) := by
  unfold modfile_number.f
  rw [Lib.toList_data]
  by_cases h : s.size = 0
  · have e : lst s = [] := List.eq_nil_of_length_eq_zero (by rw [lst_length]; exact h)
    have e' : s.data.toList = [] := e
    rw [if_pos e', e, h]
    rfl
  · have e' : ¬ s.data.toList = [] := by
      intro e
      have := lst_length s
      unfold lst at this
      rw [e] at this
      exact h this.symm
    rw [if_neg e', if_pos (by omega)]
    obtain ⟨c, hc, e⟩ := drop_at s 0 (by omega)
    rw [List.drop_zero] at e
    have hc' : bt s 0 = (c.toNat : Int) := hc
    rw [hc', e, numLen_cons]
    by_cases c1 : (c.toNat : Int) < 48
    · have hd : ¬ dig c = true := by unfold dig; rw [decide_eq_false (show ¬ 48 ≤ (c.toNat : Int) by omega)]; simp
      rw [if_pos c1, if_neg hd]
      rfl
    · rw [if_neg c1]
      by_cases c2 : 57 < (c.toNat : Int)
      · have hd : ¬ dig c = true := by unfold dig; rw [decide_eq_false (show ¬ (c.toNat : Int) ≤ 57 by omega)]; simp
        rw [if_neg hd, decide_eq_true c2]
        rfl
      · have hd : dig c = true := by unfold dig; rw [decide_eq_true (show 48 ≤ (c.toNat : Int) by omega), decide_eq_true (show (c.toNat : Int) ≤ 57 by omega)]; rfl
        rw [if_pos hd, decide_eq_false c2]
        simp only [modfile_number.j0]
        rw [if_neg (by simp), if_pos (by omega), hc']
        by_cases c3 : c.toNat = 48
        · rw [if_pos (by omega), if_pos c3]
          rfl
        · rw [if_neg (by omega), if_neg c3]
          have := num_l0 s hs s.size (s.size + 1) 0 (by omega) (by omega) (by omega)
          rw [List.drop_zero, e, List.takeWhile_cons, if_pos hd, List.length_cons] at this
          have t : modfile_number.l0 (s.size + 1) s 0 = modfile_number.l0 (s.size + 1) s ((0 : Nat) : Int) := rfl
          rw [t, this]
          congr 2
          omega

/-- What a call of the program's number does. -/
theorem num_any (s : ByteArray) (w : World) (hs : s.size ≤ 140737488351232) : Calls Try.prog 24 #[.string s] w fun e w' => e = .returned (.int .i64 ((numLen (lst s) : Nat) : Int)) ∧ Drawn0 w w' :=
  modfile_number.calls (s.size + 2) s _ w (num_tells s hs)

theorem numLen_le (l : List UInt8) : numLen l ≤ l.length := by
  unfold numLen
  split
  · simp
  · split
    · split
      · simp
      · have := (List.takeWhile_prefix (l := ‹List UInt8›) dig).length_le
        simp
        omega
    · simp

end Go.Proofs.Ythgbiopfpjleaaa.Gv
