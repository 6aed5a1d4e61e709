-- PRINTED BY print.sh 35421559b90ae4d0a3588c463048766b98c2df88dd9212a6774a882060cdf62d: not written by this session
import Derived.Test.YthgbiopfpjleaaaPnumberx0
namespace Go.Proofs.Ythgbiopfpjleaaa.Pnumber
open Go.RowKit Go.Proofs.YthgbiopfpjleaaaW.PrintWords Go.Proofs.YthgbiopfpjleaaaW.PrintLast Go.Proofs.YthgbiopfpjleaaaW.PrintMore
attribute [local go_sem] max2_int min2_int max_two min_two max_three min_three max_four min_four   -- for this text's walks alone
set_option linter.unusedVariables false
set_option linter.unusedSimpArgs false

/-! ### modfile_number: function 24 -/
mutual
def modfile_number.j0 : Nat → ByteArray → Bool → Option (Int)
  | 0, _, _ => none
  | k + 1, x0, x15 => if x15 = true then (some 0) else (if 0 < (x0.size : Int) then (if (bt x0 0) = 48 then (some 1) else (modfile_number.l0 k x0 0)) else (none))
def modfile_number.l0 : Nat → ByteArray → Int → Option (Int)
  | 0, _, _ => none
  | k + 1, x0, x3 => if x3 < (x0.size : Int) then (if 0 ≤ x3 then (if 48 ≤ (bt x0 x3) then (if (bt x0 x3) ≤ 57 then (modfile_number.l0 k x0 (wrap64 (x3 + 1))) else (some x3)) else (some x3)) else (none)) else (some x3)
end
def modfile_number.f (k : Nat) (a0 : ByteArray) : Option (Int) := if a0.toList = ([] : List UInt8) then (modfile_number.j0 k a0 true) else (if 0 < (a0.size : Int) then (if (bt a0 0) < 48 then (modfile_number.j0 k a0 true) else (modfile_number.j0 k a0 (decide (57 < (bt a0 0))))) else (none))
theorem modfile_number.mono_l : ∀ k, (∀ y0 y1, LeO (modfile_number.j0 k y0 y1) (modfile_number.j0 (k + 1) y0 y1)) ∧ (∀ y0 y1, LeO (modfile_number.l0 k y0 y1) (modfile_number.l0 (k + 1) y0 y1))
  | 0 => ⟨fun _ _ r h => by simp [modfile_number.j0] at h, fun _ _ r h => by simp [modfile_number.l0] at h⟩
  | k + 1 => by
    obtain ⟨ih0, ih1⟩ := modfile_number.mono_l k
    refine ⟨?_, ?_⟩
    · intro y0 y1
      unfold modfile_number.j0
      repeat' first
      | (with_reducible exact ih0 _ _)
      | (with_reducible exact ih1 _ _)
      | (with_reducible exact LeO.refl _)
      | (with_reducible exact LeO.none _)
      | (with_reducible refine LeO.ite ?_ ?_)
      | (with_reducible refine LeO.bind ?_ (fun _ => ?_))
      | exact ih0 _ _
      | exact ih1 _ _
      | exact LeO.none _
      | refine LeO.ite ?_ ?_
      | refine LeO.bind ?_ (fun _ => ?_)
    · intro y0 y1
      unfold modfile_number.l0
      repeat' first
      | (with_reducible exact ih0 _ _)
      | (with_reducible exact ih1 _ _)
      | (with_reducible exact LeO.refl _)
      | (with_reducible exact LeO.none _)
      | (with_reducible refine LeO.ite ?_ ?_)
      | (with_reducible refine LeO.bind ?_ (fun _ => ?_))
      | exact ih0 _ _
      | exact ih1 _ _
      | exact LeO.none _
      | refine LeO.ite ?_ ?_
      | refine LeO.bind ?_ (fun _ => ?_)
theorem modfile_number.mono : ∀ a0 k, LeO (modfile_number.f k a0) (modfile_number.f (k + 1) a0) := by
  intro a0 k
  obtain ⟨ih0, ih1⟩ := modfile_number.mono_l k
  unfold modfile_number.f
  repeat' first
      | (with_reducible exact ih0 _ _)
      | (with_reducible exact ih1 _ _)
      | (with_reducible exact LeO.refl _)
      | (with_reducible exact LeO.none _)
      | (with_reducible refine LeO.ite ?_ ?_)
      | (with_reducible refine LeO.bind ?_ (fun _ => ?_))
      | exact ih0 _ _
      | exact ih1 _ _
      | exact LeO.none _
      | refine LeO.ite ?_ ?_
      | refine LeO.bind ?_ (fun _ => ?_)
set_option maxHeartbeats 8000000 in
set_option maxRecDepth 100000 in
theorem modfile_number.calls (k : Nat) (a0 : ByteArray) (r : Int) (w : World) (h : modfile_number.f k a0 = some r) :
    Calls Try.prog 24 #[.string a0] w fun e w' => e = .returned (.int .i64 r) ∧ Drawn0 w w' := by
  have H : (if a0.toList = ([] : List UInt8) then (modfile_number.j0 k a0 true) else (if 0 < (a0.size : Int) then (if (bt a0 0) < 48 then (modfile_number.j0 k a0 true) else (modfile_number.j0 k a0 (decide (57 < (bt a0 0))))) else (none))) = some r := h
  clear h
  have HC2 := Aside0.mk H
  clear H
  go_enter Try.func24, Try.ntmps24
  go_upto_region 1 with (fail)
  go_cut [15] (fun v15 wc => ∃ (kq : Nat) (x15_1 : Bool), v15 = .bool x15_1 ∧ Aside0 (modfile_number.j0 kq a0 x15_1 = some r) ∧ Aside0 (kq ≤ k) ∧ Drawn0 w wc)
  case first =>
    have H := HC2.out
    clear HC2
    by_cases c3 : a0.toList = ([] : List UInt8)
    · rw [if_pos c3] at H
      have c3b0 : (a0.toList == ([] : List UInt8)) = true := beq_iff_eq.mpr c3
      have c3b1 : (a0.toList != ([] : List UInt8)) = false := bne_eq_false_iff_eq.mpr c3
      clear c3
      (first | rw [c3b0] | (simp only [i64_w, i32_w]; rw [c3b0]) | skip)
      have H' := Aside0.mk H
      clear H
      go_wp2
      go_meet
      case rel => exact ⟨_, (true), (by first | rfl | (simp; done) | (simp [*]; done)), H', ⟨by first | omega | exact Nat.le_refl _⟩, by repeat (first | exact Drawn0.refl _ | apply Drawn0.step)⟩
    · rw [if_neg c3] at H
      have c3b0 : (a0.toList == ([] : List UInt8)) = false := beq_eq_false_iff_ne.mpr c3
      have c3b1 : (a0.toList != ([] : List UInt8)) = true := bne_iff_ne.mpr c3
      (first | rw [c3b0] | (simp only [i64_w, i32_w]; rw [c3b0]) | skip)
      by_cases c4 : 0 < (a0.size : Int)
      · rw [if_pos c4] at H
        have c4b0 : decide (0 < (a0.size : Int)) = true := decide_eq_true c4
        have c4b1 : decide (0 < a0.size) = true := decide_eq_true (by omega)
        clear c4
        by_cases c6 : (bt a0 0) < 48
        · rw [if_pos c6] at H
          have c6b0 : decide ((bt a0 0) < 48) = true := decide_eq_true c6
          clear c6
          have H' := Aside0.mk H
          clear H
          have p5 : 0 ≤ (0 : Int) := (by omega)
          have q5 : 0 < a0.size := (by have : (0 : Int) < (a0.size : Int) := of_decide_eq_true (by first | (with_reducible assumption) | assumption); omega)
          have hx5 : ∀ h : 0 < a0.size, ((a0[0]'h).toNat : Int) = bt a0 0 := bt_at a0 0
          clear p5
          have qi5 : (0 < (a0.size : Int)) = True := eq_true (of_decide_eq_true (by first | (with_reducible assumption) | assumption))
          replace q5 := eq_true q5
          go_wp2
          go_meet
          case rel => exact ⟨_, (true), (by first | rfl | (simp; done) | (simp [*]; done)), H', ⟨by first | omega | exact Nat.le_refl _⟩, by repeat (first | exact Drawn0.refl _ | apply Drawn0.step)⟩
        · rw [if_neg c6] at H
          have c6b0 : decide ((bt a0 0) < 48) = false := decide_eq_false c6
          clear c6
          have H' := Aside0.mk H
          clear H
          have p5 : 0 ≤ (0 : Int) := (by omega)
          have q5 : 0 < a0.size := (by have : (0 : Int) < (a0.size : Int) := of_decide_eq_true (by first | (with_reducible assumption) | assumption); omega)
          have hx5 : ∀ h : 0 < a0.size, ((a0[0]'h).toNat : Int) = bt a0 0 := bt_at a0 0
          clear p5
          have qi5 : (0 < (a0.size : Int)) = True := eq_true (of_decide_eq_true (by first | (with_reducible assumption) | assumption))
          replace q5 := eq_true q5
          have p7 : 0 ≤ (0 : Int) := (by omega)
          have q7 : 0 < a0.size := (by have : (0 : Int) < (a0.size : Int) := of_decide_eq_true (by first | (with_reducible assumption) | assumption); omega)
          have hx7 : ∀ h : 0 < a0.size, ((a0[0]'h).toNat : Int) = bt a0 0 := bt_at a0 0
          clear p7
          have qi7 : (0 < (a0.size : Int)) = True := eq_true (of_decide_eq_true (by first | (with_reducible assumption) | assumption))
          replace q7 := eq_true q7
          go_wp2
          go_meet
          case rel => exact ⟨_, (decide (57 < (bt a0 0))), (by first | rfl | (simp; done) | (simp [*]; done)), H', ⟨by first | omega | exact Nat.le_refl _⟩, by repeat (first | exact Drawn0.refl _ | apply Drawn0.step)⟩
      · rw [if_neg c4] at H
        exact absurd H (by simp)
  case rest =>
    clear HC2
    try clear c2
    try clear p2
    try clear c3
    try clear c3b0
    try clear c3b1
    try clear c4
    try clear c4b0
    try clear c4b1
    try clear p5
    try clear q5
    try clear hx5
    try clear qi5
    try clear c6
    try clear c6b0
    try clear p7
    try clear q7
    try clear hx7
    try clear qi7
    try clear p5
    try clear p7
    try clear q5
    try clear q7
    obtain ⟨kq, x15_1, rfl, HA, HJ1, ⟨mc1, rfl⟩⟩ := hcut
    cases kq with
    | zero => exact absurd HA.out (by simp [modfile_number.j0])
    | succ kj1 =>
      have H := HA.out
      clear HA
      simp only [modfile_number.j0] at H
      by_cases c8 : x15_1 = true
      · subst c8
        have H1 : (some 0) = some r := by rw [if_pos rfl] at H; exact H
        clear H
        have H := H1
        clear H1
        obtain rfl := Option.some.inj H
        go_wp2
        go_ret
        exact ⟨by first | rfl | (simp; done) | (simp [*]; done), by repeat (first | exact Drawn0.refl _ | apply Drawn0.step)⟩
      · replace c8 := Bool.eq_false_iff.mpr c8
        subst c8
        have H1 : (if 0 < (a0.size : Int) then (if (bt a0 0) = 48 then (some 1) else (modfile_number.l0 kj1 a0 0)) else (none)) = some r := by rw [if_neg (show ¬ (false = true) by decide)] at H; exact H
        clear H
        have H := H1
        clear H1
        by_cases c9 : 0 < (a0.size : Int)
        · rw [if_pos c9] at H
          have c9b0 : decide (0 < (a0.size : Int)) = true := decide_eq_true c9
          have c9b1 : decide (0 < a0.size) = true := decide_eq_true (by omega)
          clear c9
          by_cases c11 : (bt a0 0) = 48
          · rw [if_pos c11] at H
            have c11b0 : ((bt a0 0) == 48) = true := beq_iff_eq.mpr c11
            have c11b1 : ((bt a0 0) != 48) = false := bne_eq_false_iff_eq.mpr c11
            clear c11
            obtain rfl := Option.some.inj H
            have p10 : 0 ≤ (0 : Int) := (by omega)
            have q10 : 0 < a0.size := (by have : (0 : Int) < (a0.size : Int) := of_decide_eq_true (by first | (with_reducible assumption) | assumption); omega)
            have hx10 : ∀ h : 0 < a0.size, ((a0[0]'h).toNat : Int) = bt a0 0 := bt_at a0 0
            clear p10
            have qi10 : (0 < (a0.size : Int)) = True := eq_true (of_decide_eq_true (by first | (with_reducible assumption) | assumption))
            replace q10 := eq_true q10
            go_wp2
            go_ret
            exact ⟨by first | rfl | (simp; done) | (simp [*]; done), by repeat (first | exact Drawn0.refl _ | apply Drawn0.step)⟩
          · rw [if_neg c11] at H
            have c11b0 : ((bt a0 0) == 48) = false := beq_eq_false_iff_ne.mpr c11
            have c11b1 : ((bt a0 0) != 48) = true := bne_iff_ne.mpr c11
            have H' := Aside0.mk H
            clear H
            have p10 : 0 ≤ (0 : Int) := (by omega)
            have q10 : 0 < a0.size := (by have : (0 : Int) < (a0.size : Int) := of_decide_eq_true (by first | (with_reducible assumption) | assumption); omega)
            have hx10 : ∀ h : 0 < a0.size, ((a0[0]'h).toNat : Int) = bt a0 0 := bt_at a0 0
            clear p10
            have qi10 : (0 < (a0.size : Int)) = True := eq_true (of_decide_eq_true (by first | (with_reducible assumption) | assumption))
            replace q10 := eq_true q10
            go_wp2
            go_loopg [3] kj1 (fun kq v3 w' => ∃ (x3_2 : Int), v3 = .int .i64 x3_2 ∧ Aside0 (modfile_number.l0 kq a0 x3_2 = some r) ∧ Aside0 (kq ≤ kj1) ∧ Drawn0 w w')
            case atStart => exact ⟨(0), (by first | rfl | (simp; done) | (simp [*]; done)), H', ⟨Nat.le_refl _⟩, by repeat (first | exact Drawn0.refl _ | apply Drawn0.step)⟩
            case round =>
              clear H'
              try clear c1
              try clear p1
              try clear q1
              try clear hx1
              try clear qi1
              try clear c2
              try clear p2
              try clear c3
              try clear c3b0
              try clear c3b1
              try clear c4
              try clear c4b0
              try clear c4b1
              try clear p5
              try clear q5
              try clear hx5
              try clear qi5
              try clear c6
              try clear c6b0
              try clear p7
              try clear q7
              try clear hx7
              try clear qi7
              try clear c8
              try clear c9
              try clear c9b0
              try clear c9b1
              try clear p10
              try clear q10
              try clear hx10
              try clear qi10
              try clear c11
              try clear c11b0
              try clear c11b1
              try clear p10
              try clear p2
              try clear p5
              try clear p7
              try clear q10
              try clear q5
              try clear q7
              obtain ⟨x3_2, rfl, HA, HK2, ⟨m2, rfl⟩⟩ := hrel
              cases gk with
              | zero => exact absurd HA.out (by simp [modfile_number.l0])
              | succ k2 =>
                have H := HA.out
                clear HA
                simp only [modfile_number.l0] at H
                by_cases c12 : x3_2 < (a0.size : Int)
                · rw [if_pos c12] at H
                  have c12b0 : decide (x3_2 < (a0.size : Int)) = true := decide_eq_true c12
                  clear c12
                  by_cases c13 : 0 ≤ x3_2
                  · rw [if_pos c13] at H
                    have c13b0 : decide (0 ≤ x3_2) = true := decide_eq_true c13
                    clear c13
                    by_cases c15 : 48 ≤ (bt a0 x3_2)
                    · rw [if_pos c15] at H
                      have c15b0 : decide (48 ≤ (bt a0 x3_2)) = true := decide_eq_true c15
                      clear c15
                      by_cases c17 : (bt a0 x3_2) ≤ 57
                      · rw [if_pos c17] at H
                        have c17b0 : decide ((bt a0 x3_2) ≤ 57) = true := decide_eq_true c17
                        clear c17
                        have H' := Aside0.mk H
                        clear H
                        have p14 : 0 ≤ (x3_2 : Int) := of_decide_eq_true (by first | (with_reducible assumption) | assumption)
                        have q14 : x3_2 < (a0.size : Int) := of_decide_eq_true (by first | (with_reducible assumption) | assumption)
                        have hx14 := bt_at a0 x3_2
                        replace p14 := eq_true p14
                        replace q14 := eq_true q14
                        have p16 : 0 ≤ (x3_2 : Int) := of_decide_eq_true (by first | (with_reducible assumption) | assumption)
                        have q16 : x3_2 < (a0.size : Int) := of_decide_eq_true (by first | (with_reducible assumption) | assumption)
                        have hx16 := bt_at a0 x3_2
                        replace p16 := eq_true p16
                        replace q16 := eq_true q16
                        go_wp2
                        go_roundg k2
                        case measure => have := HJ1.out; have := HK2.out; omega
                        case rel => exact ⟨(wrap64 (x3_2 + 1)), (by first | rfl | (simp; done) | (simp [*]; done)), H', ⟨by have := HJ1.out; have := HK2.out; omega⟩, by repeat (first | exact Drawn0.refl _ | apply Drawn0.step)⟩
                      · rw [if_neg c17] at H
                        have c17b0 : decide ((bt a0 x3_2) ≤ 57) = false := decide_eq_false c17
                        clear c17
                        obtain rfl := Option.some.inj H
                        have p14 : 0 ≤ (x3_2 : Int) := of_decide_eq_true (by first | (with_reducible assumption) | assumption)
                        have q14 : x3_2 < (a0.size : Int) := of_decide_eq_true (by first | (with_reducible assumption) | assumption)
                        have hx14 := bt_at a0 x3_2
                        replace p14 := eq_true p14
                        replace q14 := eq_true q14
                        have p16 : 0 ≤ (x3_2 : Int) := of_decide_eq_true (by first | (with_reducible assumption) | assumption)
                        have q16 : x3_2 < (a0.size : Int) := of_decide_eq_true (by first | (with_reducible assumption) | assumption)
                        have hx16 := bt_at a0 x3_2
                        replace p16 := eq_true p16
                        replace q16 := eq_true q16
                        go_wp2
                        go_ret
                        exact ⟨by first | rfl | (simp; done) | (simp [*]; done), by repeat (first | exact Drawn0.refl _ | apply Drawn0.step)⟩
                    · rw [if_neg c15] at H
                      have c15b0 : decide (48 ≤ (bt a0 x3_2)) = false := decide_eq_false c15
                      clear c15
                      obtain rfl := Option.some.inj H
                      have p14 : 0 ≤ (x3_2 : Int) := of_decide_eq_true (by first | (with_reducible assumption) | assumption)
                      have q14 : x3_2 < (a0.size : Int) := of_decide_eq_true (by first | (with_reducible assumption) | assumption)
                      have hx14 := bt_at a0 x3_2
                      replace p14 := eq_true p14
                      replace q14 := eq_true q14
                      go_wp2
                      go_ret
                      exact ⟨by first | rfl | (simp; done) | (simp [*]; done), by repeat (first | exact Drawn0.refl _ | apply Drawn0.step)⟩
                  · rw [if_neg c13] at H
                    exact absurd H (by simp)
                · rw [if_neg c12] at H
                  have c12b0 : decide (x3_2 < (a0.size : Int)) = false := decide_eq_false c12
                  clear c12
                  obtain rfl := Option.some.inj H
                  go_wp2
                  go_ret
                  exact ⟨by first | rfl | (simp; done) | (simp [*]; done), by repeat (first | exact Drawn0.refl _ | apply Drawn0.step)⟩
        · rw [if_neg c9] at H
          exact absurd H (by simp)

end Go.Proofs.Ythgbiopfpjleaaa.Pnumber
