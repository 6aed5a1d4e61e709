/- What a call of the program's matchGoVersion answers, in one plain function. Conditions: a string of at most 140737488351232 bytes. -/
import Derived.Test.YthgbiopfpjleaaaGvC
namespace Go.Proofs.Ythgbiopfpjleaaa.Gv
open Go.RowKit Go.Proofs.Ythgbiopfpjleaaa.Pnumber Go.Proofs.YthgbiopfpjleaaaW.PrintWords Go.Proofs.YthgbiopfpjleaaaW.PrintLast

theorem match_0 (a : ByteArray) (w : World) (h1 : a.size = 0) : Calls Try.prog 22 #[.string a] w fun e w' => e = .returned (.bool false) ∧ Drawn0 w w' := by
  have b1 : (a.toList == []) = true := by simp [empty_iff, h1]
  clear h1
  go_enter Try.func22, Try.ntmps22
  go_wp2
  go_ret
  exact ⟨rfl, Drawn0.refl _⟩

theorem match_00 (a : ByteArray) (w : World) (h1 : a.size ≠ 0) (h2 : bt a 0 = 48) : Calls Try.prog 22 #[.string a] w fun e w' => e = .returned (.bool false) ∧ Drawn0 w w' := by
  have b1 : (a.toList == []) = false := by simp [empty_iff, h1]
  have q1 : (0 < a.size) = True := eq_true (by omega)
  have qi1 : (0 < (a.size : Int)) = True := eq_true (by omega)
  have hx1 : ∀ h : 0 < a.size, ((a[0]'h).toNat : Int) = bt a 0 := bt_at a 0
  have b2 : (bt a 0 == 48) = true := by simp [h2]
  clear h1 h2
  go_enter Try.func22, Try.ntmps22
  go_wp2
  go_ret
  exact ⟨rfl, Drawn0.refl _⟩

theorem match_any (a : ByteArray) (w : World) (ha : a.size ≤ 140737488351232) : Calls Try.prog 22 #[.string a] w fun e w' => e = .returned (.bool (matchB a)) ∧ Drawn0 w w' := by
  have hn := numLen_le (lst a)
  rw [lst_length] at hn
  by_cases c : a.size = 0 ∨ bt a 0 = 48 ∨ numLen (lst a) = 0 ∨ numLen (lst a) = a.size ∨ bt a (numLen (lst a) : Int) ≠ 46
  · have R : matchB a = false := by unfold matchB headB; rw [if_pos c]
    rw [R]
    by_cases c1 : a.size = 0
    · exact match_0 a w c1
    · by_cases c2 : bt a 0 = 48
      · exact match_00 a w c1 c2
      · refine match_1 a _ w ha c1 c2 (Lib.hid rfl) hn ?_
        rcases c with c | c | c
        · exact absurd c c1
        · exact absurd c c2
        · exact c
  · have h1 : a.size ≠ 0 := fun h => c (Or.inl h)
    have h2 : bt a 0 ≠ 48 := fun h => c (Or.inr (Or.inl h))
    have h3 : numLen (lst a) ≠ 0 := fun h => c (Or.inr (Or.inr (Or.inl h)))
    have h4 : numLen (lst a) ≠ a.size := fun h => c (Or.inr (Or.inr (Or.inr (Or.inl h))))
    have h5 : bt a (numLen (lst a) : Int) = 46 := by
      by_cases h : bt a (numLen (lst a) : Int) = 46
      · exact h
      · exact absurd (Or.inr (Or.inr (Or.inr (Or.inr h)))) c
    have z1 := cutAt_size a (numLen (lst a) + 1)
    obtain ⟨s1, e1⟩ : ∃ s1, s1 = cutAt a (numLen (lst a) + 1) := ⟨_, rfl⟩
    have R0 : matchB a = (match (if numLen (lst s1) = 0 then none else if 1 < (cutAt s1 (numLen (lst s1))).size ∧ bt (cutAt s1 (numLen (lst s1))) 0 = 46 then if numLen (lst (cutAt (cutAt s1 (numLen (lst s1))) 1)) = 0 then none else some (cutAt (cutAt s1 (numLen (lst s1))) (1 + numLen (lst (cutAt (cutAt s1 (numLen (lst s1))) 1)))) else some (cutAt s1 (numLen (lst s1))) : Option ByteArray) with
        | none => false
        | some s => tailB s) := by unfold matchB headB; rw [if_neg c, ← e1]; rfl
    rw [R0]
    rw [← e1] at z1
    clear R0 c
    by_cases c2 : numLen (lst s1) = 0
    · rw [if_pos c2]
      exact match_2 a s1 _ w ha h1 h2 (Lib.hid rfl) (by omega) h3 h5 e1.symm (by omega) (Lib.hid c2)
    · rw [if_neg c2]
      have hn2 := numLen_le (lst s1)
      rw [lst_length] at hn2
      have z2 := cutAt_size s1 (numLen (lst s1))
      obtain ⟨s2, e2⟩ : ∃ s2, s2 = cutAt s1 (numLen (lst s1)) := ⟨_, rfl⟩
      rw [← e2] at z2
      rw [← e2]
      by_cases c3 : 1 < s2.size
      · by_cases c4 : bt s2 0 = 46
        · rw [if_pos ⟨c3, c4⟩]
          have z3 := cutAt_size s2 1
          obtain ⟨t, e3⟩ : ∃ t, t = cutAt s2 1 := ⟨_, rfl⟩
          rw [← e3] at z3
          rw [← e3]
          have hn3 := numLen_le (lst t)
          rw [lst_length] at hn3
          by_cases c5 : numLen (lst t) = 0
          · rw [if_pos c5]
            exact match_5 a s1 s2 _ _ w ha h1 h2 (Lib.hid rfl) (by omega) h3 h5 e1.symm (by omega) (Lib.hid rfl) c2 hn2 e2.symm (by omega) c3 c4 t e3.symm (by omega) (Lib.hid c5)
          · rw [if_neg c5]
            have z4 := cutAt_size s2 (1 + numLen (lst t))
            obtain ⟨s3, e4⟩ : ∃ s3, s3 = cutAt s2 (1 + numLen (lst t)) := ⟨_, rfl⟩
            rw [← e4] at z4
            rw [← e4]
            exact match_6 a s1 s2 _ _ w ha h1 h2 (Lib.hid rfl) (by omega) h3 h5 e1.symm (by omega) (Lib.hid rfl) c2 hn2 e2.symm (by omega) c3 c4 t s3 _ e3.symm (by omega) (Lib.hid rfl) c5 (by omega) e4.symm (by omega) _ (Lib.hid rfl)
        · rw [if_neg (fun h => c4 h.2)]
          exact match_4 a s1 s2 _ _ w ha h1 h2 (Lib.hid rfl) (by omega) h3 h5 e1.symm (by omega) (Lib.hid rfl) c2 hn2 e2.symm (by omega) c3 c4 _ (Lib.hid rfl)
      · rw [if_neg (fun h => c3 h.1)]
        exact match_3 a s1 s2 _ _ w ha h1 h2 (Lib.hid rfl) (by omega) h3 h5 e1.symm (by omega) (Lib.hid rfl) c2 hn2 e2.symm (by omega) c3 _ (Lib.hid rfl)

end Go.Proofs.Ythgbiopfpjleaaa.Gv
