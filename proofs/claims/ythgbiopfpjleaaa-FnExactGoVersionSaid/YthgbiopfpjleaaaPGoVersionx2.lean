-- PRINTED BY print.sh 35421559b90ae4d0a3588c463048766b98c2df88dd9212a6774a882060cdf62d: not written by this session
import Derived.Test.YthgbiopfpjleaaaPGoVersionx0
import Derived.Test.YthgbiopfpjleaaaPGoVersionx1
namespace Go.Proofs.Ythgbiopfpjleaaa.PGoVersion
open Go.RowKit Go.Proofs.YthgbiopfpjleaaaW.PrintWords Go.Proofs.YthgbiopfpjleaaaW.PrintLast Go.Proofs.YthgbiopfpjleaaaW.PrintMore
attribute [local go_sem] max2_int min2_int max_two min_two max_three min_three max_four min_four   -- for this text's walks alone
set_option linter.unusedVariables false
set_option linter.unusedSimpArgs false

/-! ### spec_GoVersion: function 11 -/
mutual
def spec_GoVersion.j1 : Nat → ByteArray → Int → Option (Bool)
  | 0, _, _ => none
  | k + 1, x0, x3 => spec_GoVersion.l1 k x0 x3 x3
def spec_GoVersion.j3 : Nat → ByteArray → Int → Int → Option (Bool)
  | 0, _, _, _ => none
  | k + 1, x0, x3, x4 => if x4 < x3 then (if x3 = (x0.size : Int) then (some false) else (if 0 ≤ x4 then (if x4 ≤ (x0.size : Int) then (spec_GoVersion.j4 k (x0.extract 0 (x4 : Int).toNat)) else (none)) else (none))) else (spec_GoVersion.j4 k x0)
def spec_GoVersion.j4 : Nat → ByteArray → Option (Bool)
  | 0, _ => none
  | k + 1, x0 => (spec_Cut.f k x0 46).bind fun t113 => (spec_GoVersion.l2 k t113 t113 (t113.length : Int) 0)
def spec_GoVersion.l2 : Nat → List ByteArray → List ByteArray → Int → Int → Option (Bool)
  | 0, _, _, _, _ => none
  | k + 1, x5, x45, x46, x47 => if x47 < x46 then (if 0 ≤ x47 then (if x47 < (x45.length : Int) then ((spec_long.f k (rdOf ByteArray.empty x45 x47)).bind fun t117 => (if t117 = true then (spec_GoVersion.l2 k x5 x45 x46 (wrap64 (x47 + 1))) else (some false))) else (none)) else (none)) else (if (x5.length : Int) = 2 then (if 0 < (x5.length : Int) then (some ((rdOf ByteArray.empty x5 0).toList != ([48] : List UInt8))) else (none)) else (if (x5.length : Int) = 3 then (if 0 < (x5.length : Int) then (some ((rdOf ByteArray.empty x5 0).toList != ([48] : List UInt8))) else (none)) else (some false)))
def spec_GoVersion.l1 : Nat → ByteArray → Int → Int → Option (Bool)
  | 0, _, _, _ => none
  | k + 1, x0, x3, x4 => if x4 > 0 then (if 0 ≤ (wrap64 (x4 - 1)) then (if (wrap64 (x4 - 1)) < (x0.size : Int) then ((spec_letter.f (bt x0 (wrap64 (x4 - 1)))).bind fun t112 => (if t112 = true then (spec_GoVersion.l1 k x0 x3 (wrap64 (x4 - 1))) else (spec_GoVersion.j3 k x0 x3 x4))) else (none)) else (none)) else (spec_GoVersion.j3 k x0 x3 x4)
def spec_GoVersion.l0 : Nat → ByteArray → Int → Option (Bool)
  | 0, _, _ => none
  | k + 1, x0, x3 => if x3 > 0 then (if 0 ≤ (wrap64 (x3 - 1)) then (if (wrap64 (x3 - 1)) < (x0.size : Int) then ((spec_digit.f (bt x0 (wrap64 (x3 - 1)))).bind fun t111 => (if t111 = true then (spec_GoVersion.l0 k x0 (wrap64 (x3 - 1))) else (spec_GoVersion.j1 k x0 x3))) else (none)) else (none)) else (spec_GoVersion.j1 k x0 x3)
end
def spec_GoVersion.f (k : Nat) (a0 : ByteArray) : Option (Bool) := spec_GoVersion.l0 k a0 (a0.size : Int)
theorem spec_GoVersion.mono_l : ∀ k, (∀ y0 y1, LeO (spec_GoVersion.j1 k y0 y1) (spec_GoVersion.j1 (k + 1) y0 y1)) ∧ (∀ y0 y1 y2, LeO (spec_GoVersion.j3 k y0 y1 y2) (spec_GoVersion.j3 (k + 1) y0 y1 y2)) ∧ (∀ y0, LeO (spec_GoVersion.j4 k y0) (spec_GoVersion.j4 (k + 1) y0)) ∧ (∀ y0 y1 y2 y3, LeO (spec_GoVersion.l2 k y0 y1 y2 y3) (spec_GoVersion.l2 (k + 1) y0 y1 y2 y3)) ∧ (∀ y0 y1 y2, LeO (spec_GoVersion.l1 k y0 y1 y2) (spec_GoVersion.l1 (k + 1) y0 y1 y2)) ∧ (∀ y0 y1, LeO (spec_GoVersion.l0 k y0 y1) (spec_GoVersion.l0 (k + 1) y0 y1))
  | 0 => ⟨fun _ _ r h => by simp [spec_GoVersion.j1] at h, fun _ _ _ r h => by simp [spec_GoVersion.j3] at h, fun _ r h => by simp [spec_GoVersion.j4] at h, fun _ _ _ _ r h => by simp [spec_GoVersion.l2] at h, fun _ _ _ r h => by simp [spec_GoVersion.l1] at h, fun _ _ r h => by simp [spec_GoVersion.l0] at h⟩
  | k + 1 => by
    obtain ⟨ih0, ih1, ih2, ih3, ih4, ih5⟩ := spec_GoVersion.mono_l k
    refine ⟨?_, ?_, ?_, ?_, ?_, ?_⟩
    · intro y0 y1
      unfold spec_GoVersion.j1
      repeat' first
      | (with_reducible exact ih0 _ _)
      | (with_reducible exact ih1 _ _ _)
      | (with_reducible exact ih2 _)
      | (with_reducible exact ih3 _ _ _ _)
      | (with_reducible exact ih4 _ _ _)
      | (with_reducible exact ih5 _ _)
      | (with_reducible exact spec_Cut.mono _ _ _)
      | (with_reducible exact spec_long.mono _ _)
      | (with_reducible exact LeO.refl _)
      | (with_reducible exact LeO.none _)
      | (with_reducible refine LeO.ite ?_ ?_)
      | (with_reducible refine LeO.bind ?_ (fun _ => ?_))
      | exact ih0 _ _
      | exact ih1 _ _ _
      | exact ih2 _
      | exact ih3 _ _ _ _
      | exact ih4 _ _ _
      | exact ih5 _ _
      | exact spec_Cut.mono _ _ _
      | exact spec_long.mono _ _
      | exact LeO.none _
      | refine LeO.ite ?_ ?_
      | refine LeO.bind ?_ (fun _ => ?_)
    · intro y0 y1 y2
      unfold spec_GoVersion.j3
      repeat' first
      | (with_reducible exact ih0 _ _)
      | (with_reducible exact ih1 _ _ _)
      | (with_reducible exact ih2 _)
      | (with_reducible exact ih3 _ _ _ _)
      | (with_reducible exact ih4 _ _ _)
      | (with_reducible exact ih5 _ _)
      | (with_reducible exact spec_Cut.mono _ _ _)
      | (with_reducible exact spec_long.mono _ _)
      | (with_reducible exact LeO.refl _)
      | (with_reducible exact LeO.none _)
      | (with_reducible refine LeO.ite ?_ ?_)
      | (with_reducible refine LeO.bind ?_ (fun _ => ?_))
      | exact ih0 _ _
      | exact ih1 _ _ _
      | exact ih2 _
      | exact ih3 _ _ _ _
      | exact ih4 _ _ _
      | exact ih5 _ _
      | exact spec_Cut.mono _ _ _
      | exact spec_long.mono _ _
      | exact LeO.none _
      | refine LeO.ite ?_ ?_
      | refine LeO.bind ?_ (fun _ => ?_)
    · intro y0
      unfold spec_GoVersion.j4
      repeat' first
      | (with_reducible exact ih0 _ _)
      | (with_reducible exact ih1 _ _ _)
      | (with_reducible exact ih2 _)
      | (with_reducible exact ih3 _ _ _ _)
      | (with_reducible exact ih4 _ _ _)
      | (with_reducible exact ih5 _ _)
      | (with_reducible exact spec_Cut.mono _ _ _)
      | (with_reducible exact spec_long.mono _ _)
      | (with_reducible exact LeO.refl _)
      | (with_reducible exact LeO.none _)
      | (with_reducible refine LeO.ite ?_ ?_)
      | (with_reducible refine LeO.bind ?_ (fun _ => ?_))
      | exact ih0 _ _
      | exact ih1 _ _ _
      | exact ih2 _
      | exact ih3 _ _ _ _
      | exact ih4 _ _ _
      | exact ih5 _ _
      | exact spec_Cut.mono _ _ _
      | exact spec_long.mono _ _
      | exact LeO.none _
      | refine LeO.ite ?_ ?_
      | refine LeO.bind ?_ (fun _ => ?_)
    · intro y0 y1 y2 y3
      unfold spec_GoVersion.l2
      repeat' first
      | (with_reducible exact ih0 _ _)
      | (with_reducible exact ih1 _ _ _)
      | (with_reducible exact ih2 _)
      | (with_reducible exact ih3 _ _ _ _)
      | (with_reducible exact ih4 _ _ _)
      | (with_reducible exact ih5 _ _)
      | (with_reducible exact spec_Cut.mono _ _ _)
      | (with_reducible exact spec_long.mono _ _)
      | (with_reducible exact LeO.refl _)
      | (with_reducible exact LeO.none _)
      | (with_reducible refine LeO.ite ?_ ?_)
      | (with_reducible refine LeO.bind ?_ (fun _ => ?_))
      | exact ih0 _ _
      | exact ih1 _ _ _
      | exact ih2 _
      | exact ih3 _ _ _ _
      | exact ih4 _ _ _
      | exact ih5 _ _
      | exact spec_Cut.mono _ _ _
      | exact spec_long.mono _ _
      | exact LeO.none _
      | refine LeO.ite ?_ ?_
      | refine LeO.bind ?_ (fun _ => ?_)
    · intro y0 y1 y2
      unfold spec_GoVersion.l1
      repeat' first
      | (with_reducible exact ih0 _ _)
      | (with_reducible exact ih1 _ _ _)
      | (with_reducible exact ih2 _)
      | (with_reducible exact ih3 _ _ _ _)
      | (with_reducible exact ih4 _ _ _)
      | (with_reducible exact ih5 _ _)
      | (with_reducible exact spec_Cut.mono _ _ _)
      | (with_reducible exact spec_long.mono _ _)
      | (with_reducible exact LeO.refl _)
      | (with_reducible exact LeO.none _)
      | (with_reducible refine LeO.ite ?_ ?_)
      | (with_reducible refine LeO.bind ?_ (fun _ => ?_))
      | exact ih0 _ _
      | exact ih1 _ _ _
      | exact ih2 _
      | exact ih3 _ _ _ _
      | exact ih4 _ _ _
      | exact ih5 _ _
      | exact spec_Cut.mono _ _ _
      | exact spec_long.mono _ _
      | exact LeO.none _
      | refine LeO.ite ?_ ?_
      | refine LeO.bind ?_ (fun _ => ?_)
    · intro y0 y1
      unfold spec_GoVersion.l0
      repeat' first
      | (with_reducible exact ih0 _ _)
      | (with_reducible exact ih1 _ _ _)
      | (with_reducible exact ih2 _)
      | (with_reducible exact ih3 _ _ _ _)
      | (with_reducible exact ih4 _ _ _)
      | (with_reducible exact ih5 _ _)
      | (with_reducible exact spec_Cut.mono _ _ _)
      | (with_reducible exact spec_long.mono _ _)
      | (with_reducible exact LeO.refl _)
      | (with_reducible exact LeO.none _)
      | (with_reducible refine LeO.ite ?_ ?_)
      | (with_reducible refine LeO.bind ?_ (fun _ => ?_))
      | exact ih0 _ _
      | exact ih1 _ _ _
      | exact ih2 _
      | exact ih3 _ _ _ _
      | exact ih4 _ _ _
      | exact ih5 _ _
      | exact spec_Cut.mono _ _ _
      | exact spec_long.mono _ _
      | exact LeO.none _
      | refine LeO.ite ?_ ?_
      | refine LeO.bind ?_ (fun _ => ?_)
theorem spec_GoVersion.mono : ∀ a0 k, LeO (spec_GoVersion.f k a0) (spec_GoVersion.f (k + 1) a0) := by
  intro a0 k
  obtain ⟨ih0, ih1, ih2, ih3, ih4, ih5⟩ := spec_GoVersion.mono_l k
  unfold spec_GoVersion.f
  repeat' first
      | (with_reducible exact ih0 _ _)
      | (with_reducible exact ih1 _ _ _)
      | (with_reducible exact ih2 _)
      | (with_reducible exact ih3 _ _ _ _)
      | (with_reducible exact ih4 _ _ _)
      | (with_reducible exact ih5 _ _)
      | (with_reducible exact spec_Cut.mono _ _ _)
      | (with_reducible exact spec_long.mono _ _)
      | (with_reducible exact LeO.refl _)
      | (with_reducible exact LeO.none _)
      | (with_reducible refine LeO.ite ?_ ?_)
      | (with_reducible refine LeO.bind ?_ (fun _ => ?_))
      | exact ih0 _ _
      | exact ih1 _ _ _
      | exact ih2 _
      | exact ih3 _ _ _ _
      | exact ih4 _ _ _
      | exact ih5 _ _
      | exact spec_Cut.mono _ _ _
      | exact spec_long.mono _ _
      | exact LeO.none _
      | refine LeO.ite ?_ ?_
      | refine LeO.bind ?_ (fun _ => ?_)
set_option maxHeartbeats 8000000 in
set_option maxRecDepth 100000 in
theorem spec_GoVersion.calls (k : Nat) (a0 : ByteArray) (r : Bool) (w : World) (h : spec_GoVersion.f k a0 = some r) :
    Calls Try.prog 11 #[.string a0] w fun e w' => e = .returned (.bool r) ∧ Below w.heap.size w w' := by
  have HB := Aside0.mk (Below.refl w.heap.size w)
  have H : (spec_GoVersion.l0 k a0 (a0.size : Int)) = some r := h
  clear h
  have HC2 := Aside0.mk H
  clear H
  go_enter Try.func11, Try.ntmps11
  go_upto_block 0 with (fail)
  go_cut [3] (fun v3 wc => ∃ (kq : Nat) (x3_1 : Int), v3 = .int .i64 x3_1 ∧ Aside0 (spec_GoVersion.j1 kq a0 x3_1 = some r) ∧ Aside0 (kq ≤ k) ∧ Aside0 (Below w.heap.size w wc))
  case first =>
    have H := HC2.out
    clear HC2
    have H' := Aside0.mk H
    clear H
    go_wp2
    go_loopg [3] k (fun kq v3 w' => ∃ (x3_1 : Int), v3 = .int .i64 x3_1 ∧ Aside0 (spec_GoVersion.l0 kq a0 x3_1 = some r) ∧ Aside0 (kq ≤ k) ∧ Aside0 (Below w.heap.size w w'))
    case atStart => exact ⟨((a0.size : Int)), (by first | rfl | (simp; done) | (simp [*]; done)), H', ⟨Nat.le_refl _⟩, ⟨by repeat (first | (with_reducible first | exact HB.out | apply below_alloc | apply pw_below_drewN | apply below_drew1) | exact HB.out)⟩⟩
    case round =>
      clear H'
      try clear c1
      try clear p2
      obtain ⟨x3_1, rfl, HA, HK1, HB⟩ := hrel
      cases gk with
      | zero => exact absurd HA.out (by simp [spec_GoVersion.l0])
      | succ k1 =>
        have H := HA.out
        clear HA
        simp only [spec_GoVersion.l0] at H
        by_cases c3 : x3_1 > 0
        · rw [if_pos c3] at H
          have c3b0 : decide (0 < x3_1) = true := decide_eq_true c3
          clear c3
          (first | rw [c3b0] | (simp only [i64_w, i32_w]; rw [c3b0]) | skip)
          obtain ⟨ji4, hji4⟩ : ∃ j_ : Int, (wrap64 (x3_1 - 1)) = j_ := ⟨_, rfl⟩
          replace H : (if 0 ≤ (ji4) then (if (ji4) < (a0.size : Int) then ((spec_digit.f (bt a0 (ji4))).bind fun t111 => (if t111 = true then (spec_GoVersion.l0 k1 a0 ji4) else (spec_GoVersion.j1 k1 a0 x3_1))) else (none)) else (none)) = some r := by first | (rw [hji4] at H; exact H) | (simp only [hji4] at H ⊢; exact H)
          have hji4w : (IntKind.i64.wrap (x3_1 - 1)) = ji4 := (i64_w _).trans hji4
          by_cases c5 : 0 ≤ (ji4)
          · rw [if_pos c5] at H
            have c5b0 : decide (0 ≤ (ji4)) = true := decide_eq_true c5
            clear c5
            by_cases c6 : (ji4) < (a0.size : Int)
            · rw [if_pos c6] at H
              have c6b0 : decide ((ji4) < (a0.size : Int)) = true := decide_eq_true c6
              clear c6
              replace H := Option.bind_eq_some_iff.mp H
              obtain ⟨t111, A80, H⟩ := H
              replace H : (if t111 = true then (spec_GoVersion.l0 k1 a0 ji4) else (spec_GoVersion.j1 k1 a0 x3_1)) = some r := H
              have A8 := Aside0.mk A80
              clear A80
              by_cases c9 : t111 = true
              · subst c9
                have H1 : (spec_GoVersion.l0 k1 a0 ji4) = some r := by rw [if_pos rfl] at H; exact H
                clear H
                have H := H1
                clear H1
                have H' := Aside0.mk H
                clear H
                have p7 : 0 ≤ ((ji4) : Int) := of_decide_eq_true (by first | (with_reducible assumption) | assumption)
                have q7 : (ji4) < (a0.size : Int) := of_decide_eq_true (by first | (with_reducible assumption) | assumption)
                have hx7 := bt_at a0 (ji4)
                replace p7 := eq_true p7
                replace q7 := eq_true q7
                go_wp2_with (first | (go_at_call 17; (with_reducible refine (spec_digit.calls (bt a0 (ji4)) true _ A8.out).mono ?_); rintro e w' ⟨rfl, ⟨nd, rfl⟩⟩))
                go_roundg k1
                case measure => have := HK1.out; omega
                case rel => exact ⟨(ji4), (by first | rfl | (simp; done) | (simp only [← hji4] <;> (first | rfl | simp)) | (simp [*]; done)), H', ⟨by have := HK1.out; omega⟩, ⟨by repeat (first | (with_reducible first | exact HB.out | apply below_alloc | apply pw_below_drewN | apply below_drew1) | exact HB.out)⟩⟩
              · replace c9 := Bool.eq_false_iff.mpr c9
                subst c9
                have H1 : (spec_GoVersion.j1 k1 a0 x3_1) = some r := by rw [if_neg (show ¬ (false = true) by decide)] at H; exact H
                clear H
                have H := H1
                clear H1
                have H' := Aside0.mk H
                clear H
                have p7 : 0 ≤ ((ji4) : Int) := of_decide_eq_true (by first | (with_reducible assumption) | assumption)
                have q7 : (ji4) < (a0.size : Int) := of_decide_eq_true (by first | (with_reducible assumption) | assumption)
                have hx7 := bt_at a0 (ji4)
                replace p7 := eq_true p7
                replace q7 := eq_true q7
                go_wp2_with (first | (go_at_call 17; (with_reducible refine (spec_digit.calls (bt a0 (ji4)) false _ A8.out).mono ?_); rintro e w' ⟨rfl, ⟨nd, rfl⟩⟩))
                go_meet
                case rel => exact ⟨_, (x3_1), (by first | rfl | (simp; done) | (simp [*]; done)), H', ⟨by have := HK1.out; first | omega | exact Nat.le_refl _⟩, ⟨by repeat (first | (with_reducible first | exact HB.out | apply below_alloc | apply pw_below_drewN | apply below_drew1) | exact HB.out)⟩⟩
            · rw [if_neg c6] at H
              exact absurd H (by simp)
          · rw [if_neg c5] at H
            exact absurd H (by simp)
        · rw [if_neg c3] at H
          have c3b0 : decide (0 < x3_1) = false := decide_eq_false c3
          clear c3
          (first | rw [c3b0] | (simp only [i64_w, i32_w]; rw [c3b0]) | skip)
          have H' := Aside0.mk H
          clear H
          go_wp2
          go_meet
          case rel => exact ⟨_, (x3_1), (by first | rfl | (simp; done) | (simp [*]; done)), H', ⟨by have := HK1.out; first | omega | exact Nat.le_refl _⟩, ⟨by repeat (first | (with_reducible first | exact HB.out | apply below_alloc | apply pw_below_drewN | apply below_drew1) | exact HB.out)⟩⟩
  case rest =>
    clear HC2
    try clear c1
    try clear p2
    try clear c3
    try clear c3b0
    try clear c5
    try clear c5b0
    try clear c6
    try clear c6b0
    try clear p6
    try clear p7
    try clear q7
    try clear hx7
    try clear c9
    try clear p2
    try clear p7
    try clear q7
    obtain ⟨kq, x3_1, rfl, HA, HJ1, HB⟩ := hcut
    cases kq with
    | zero => exact absurd HA.out (by simp [spec_GoVersion.j1])
    | succ kj1 =>
      have H := HA.out
      clear HA
      simp only [spec_GoVersion.j1] at H
      have HC10 := Aside0.mk H
      clear H
      go_upto_block 2 with (fail)
      go_cut [4] (fun v4 wc => ∃ (kq : Nat) (x4_9 : Int), v4 = .int .i64 x4_9 ∧ Aside0 (spec_GoVersion.j3 kq a0 x3_1 x4_9 = some r) ∧ Aside0 (kq ≤ kj1) ∧ Aside0 (Below w.heap.size w wc))
      case first =>
        have H := HC10.out
        clear HC10
        have H' := Aside0.mk H
        clear H
        go_wp2
        go_loopg [4] kj1 (fun kq v4 w' => ∃ (x4_2 : Int), v4 = .int .i64 x4_2 ∧ Aside0 (spec_GoVersion.l1 kq a0 x3_1 x4_2 = some r) ∧ Aside0 (kq ≤ kj1) ∧ Aside0 (Below w.heap.size w w'))
        case atStart => exact ⟨(x3_1), (by first | rfl | (simp; done) | (simp [*]; done)), H', ⟨Nat.le_refl _⟩, ⟨by repeat (first | (with_reducible first | exact HB.out | apply below_alloc | apply pw_below_drewN | apply below_drew1) | exact HB.out)⟩⟩
        case round =>
          clear H'
          try clear c1
          try clear p2
          try clear c3
          try clear c3b0
          try clear c5
          try clear c5b0
          try clear c6
          try clear c6b0
          try clear p6
          try clear p7
          try clear q7
          try clear hx7
          try clear c9
          try clear p2
          try clear p6
          try clear p7
          try clear q7
          obtain ⟨x4_2, rfl, HA, HK2, HB⟩ := hrel
          cases gk with
          | zero => exact absurd HA.out (by simp [spec_GoVersion.l1])
          | succ k2 =>
            have H := HA.out
            clear HA
            simp only [spec_GoVersion.l1] at H
            by_cases c11 : x4_2 > 0
            · rw [if_pos c11] at H
              have c11b0 : decide (0 < x4_2) = true := decide_eq_true c11
              clear c11
              (first | rw [c11b0] | (simp only [i64_w, i32_w]; rw [c11b0]) | skip)
              obtain ⟨ji12, hji12⟩ : ∃ j_ : Int, (wrap64 (x4_2 - 1)) = j_ := ⟨_, rfl⟩
              replace H : (if 0 ≤ (ji12) then (if (ji12) < (a0.size : Int) then ((spec_letter.f (bt a0 (ji12))).bind fun t112 => (if t112 = true then (spec_GoVersion.l1 k2 a0 x3_1 ji12) else (spec_GoVersion.j3 k2 a0 x3_1 x4_2))) else (none)) else (none)) = some r := by first | (rw [hji12] at H; exact H) | (simp only [hji12] at H ⊢; exact H)
              have hji12w : (IntKind.i64.wrap (x4_2 - 1)) = ji12 := (i64_w _).trans hji12
              by_cases c13 : 0 ≤ (ji12)
              · rw [if_pos c13] at H
                have c13b0 : decide (0 ≤ (ji12)) = true := decide_eq_true c13
                clear c13
                by_cases c14 : (ji12) < (a0.size : Int)
                · rw [if_pos c14] at H
                  have c14b0 : decide ((ji12) < (a0.size : Int)) = true := decide_eq_true c14
                  clear c14
                  replace H := Option.bind_eq_some_iff.mp H
                  obtain ⟨t112, A160, H⟩ := H
                  replace H : (if t112 = true then (spec_GoVersion.l1 k2 a0 x3_1 ji12) else (spec_GoVersion.j3 k2 a0 x3_1 x4_2)) = some r := H
                  have A16 := Aside0.mk A160
                  clear A160
                  by_cases c17 : t112 = true
                  · subst c17
                    have H1 : (spec_GoVersion.l1 k2 a0 x3_1 ji12) = some r := by rw [if_pos rfl] at H; exact H
                    clear H
                    have H := H1
                    clear H1
                    have H' := Aside0.mk H
                    clear H
                    have p15 : 0 ≤ ((ji12) : Int) := of_decide_eq_true (by first | (with_reducible assumption) | assumption)
                    have q15 : (ji12) < (a0.size : Int) := of_decide_eq_true (by first | (with_reducible assumption) | assumption)
                    have hx15 := bt_at a0 (ji12)
                    replace p15 := eq_true p15
                    replace q15 := eq_true q15
                    go_wp2_with (first | (go_at_call 15; (with_reducible refine (spec_letter.calls (bt a0 (ji12)) true _ A16.out).mono ?_); rintro e w' ⟨rfl, ⟨nd, rfl⟩⟩))
                    go_roundg k2
                    case measure => have := HJ1.out; have := HK2.out; omega
                    case rel => exact ⟨(ji12), (by first | rfl | (simp; done) | (simp only [← hji12] <;> (first | rfl | simp)) | (simp [*]; done)), H', ⟨by have := HJ1.out; have := HK2.out; omega⟩, ⟨by repeat (first | (with_reducible first | exact HB.out | apply below_alloc | apply pw_below_drewN | apply below_drew1) | exact HB.out)⟩⟩
                  · replace c17 := Bool.eq_false_iff.mpr c17
                    subst c17
                    have H1 : (spec_GoVersion.j3 k2 a0 x3_1 x4_2) = some r := by rw [if_neg (show ¬ (false = true) by decide)] at H; exact H
                    clear H
                    have H := H1
                    clear H1
                    have H' := Aside0.mk H
                    clear H
                    have p15 : 0 ≤ ((ji12) : Int) := of_decide_eq_true (by first | (with_reducible assumption) | assumption)
                    have q15 : (ji12) < (a0.size : Int) := of_decide_eq_true (by first | (with_reducible assumption) | assumption)
                    have hx15 := bt_at a0 (ji12)
                    replace p15 := eq_true p15
                    replace q15 := eq_true q15
                    go_wp2_with (first | (go_at_call 15; (with_reducible refine (spec_letter.calls (bt a0 (ji12)) false _ A16.out).mono ?_); rintro e w' ⟨rfl, ⟨nd, rfl⟩⟩))
                    go_meet
                    case rel => exact ⟨_, (x4_2), (by first | rfl | (simp; done) | (simp [*]; done)), H', ⟨by have := HJ1.out; have := HK2.out; first | omega | exact Nat.le_refl _⟩, ⟨by repeat (first | (with_reducible first | exact HB.out | apply below_alloc | apply pw_below_drewN | apply below_drew1) | exact HB.out)⟩⟩
                · rw [if_neg c14] at H
                  exact absurd H (by simp)
              · rw [if_neg c13] at H
                exact absurd H (by simp)
            · rw [if_neg c11] at H
              have c11b0 : decide (0 < x4_2) = false := decide_eq_false c11
              clear c11
              (first | rw [c11b0] | (simp only [i64_w, i32_w]; rw [c11b0]) | skip)
              have H' := Aside0.mk H
              clear H
              go_wp2
              go_meet
              case rel => exact ⟨_, (x4_2), (by first | rfl | (simp; done) | (simp [*]; done)), H', ⟨by have := HJ1.out; have := HK2.out; first | omega | exact Nat.le_refl _⟩, ⟨by repeat (first | (with_reducible first | exact HB.out | apply below_alloc | apply pw_below_drewN | apply below_drew1) | exact HB.out)⟩⟩
      case rest =>
        clear HC10
        try clear c1
        try clear p1
        try clear q1
        try clear hx1
        try clear p2
        try clear c3
        try clear c3b0
        try clear c5
        try clear c5b0
        try clear c6
        try clear c6b0
        try clear p6
        try clear p7
        try clear q7
        try clear hx7
        try clear c9
        try clear c11
        try clear c11b0
        try clear c13
        try clear c13b0
        try clear c14
        try clear c14b0
        try clear p15
        try clear q15
        try clear hx15
        try clear c17
        try clear p15
        try clear p2
        try clear p6
        try clear p7
        try clear q15
        try clear q7
        obtain ⟨kq, x4_9, rfl, HA, HJ9, HB⟩ := hcut
        cases kq with
        | zero => exact absurd HA.out (by simp [spec_GoVersion.j3])
        | succ kj9 =>
          have H := HA.out
          clear HA
          simp only [spec_GoVersion.j3] at H
          have HC18 := Aside0.mk H
          clear H
          go_upto_if 35 with (fail)
          go_cut [0] (fun v0 wc => ∃ (kq : Nat) (x0_17 : ByteArray), v0 = .string x0_17 ∧ Aside0 (spec_GoVersion.j4 kq x0_17 = some r) ∧ Aside0 (kq ≤ kj9) ∧ Aside0 (Below w.heap.size w wc))
          case first =>
            have H := HC18.out
            clear HC18
            by_cases c19 : x4_9 < x3_1
            · rw [if_pos c19] at H
              have c19b0 : decide (x4_9 < x3_1) = true := decide_eq_true c19
              clear c19
              (first | rw [c19b0] | (simp only [i64_w, i32_w]; rw [c19b0]) | skip)
              by_cases c20 : x3_1 = (a0.size : Int)
              · rw [if_pos c20] at H
                have c20b0 : (x3_1 == (a0.size : Int)) = true := beq_iff_eq.mpr c20
                have c20b1 : (x3_1 != (a0.size : Int)) = false := bne_eq_false_iff_eq.mpr c20
                clear c20
                obtain rfl := Option.some.inj H
                go_wp2
                go_ret
                exact ⟨by first | rfl | (simp [errW_none, errW_some] <;> rfl) | (simp [*, errW_none, errW_some] <;> rfl), by repeat (first | (with_reducible first | exact HB.out | apply below_alloc | apply pw_below_drewN | apply below_drew1) | exact HB.out)⟩
              · rw [if_neg c20] at H
                have c20b0 : (x3_1 == (a0.size : Int)) = false := beq_eq_false_iff_ne.mpr c20
                have c20b1 : (x3_1 != (a0.size : Int)) = true := bne_iff_ne.mpr c20
                by_cases c21 : 0 ≤ x4_9
                · rw [if_pos c21] at H
                  have c21b0 := eq_true c21
                  have c21b1 : decide (0 ≤ x4_9) = true := decide_eq_true c21
                  clear c21
                  by_cases c22 : x4_9 ≤ (a0.size : Int)
                  · rw [if_pos c22] at H
                    have c22b0 := eq_true c22
                    have c22b1 : decide (x4_9 ≤ (a0.size : Int)) = true := decide_eq_true c22
                    clear c22
                    have H' := Aside0.mk H
                    clear H
                    go_wp2
                    go_meet
                    case rel => exact ⟨_, (a0.extract 0 (x4_9 : Int).toNat), (by first | rfl | (simp; done) | (simp [*]; done)), H', ⟨by have := HJ1.out; have := HJ9.out; first | omega | exact Nat.le_refl _⟩, ⟨by repeat (first | (with_reducible first | exact HB.out | apply below_alloc | apply pw_below_drewN | apply below_drew1) | exact HB.out)⟩⟩
                  · rw [if_neg c22] at H
                    exact absurd H (by simp)
                · rw [if_neg c21] at H
                  exact absurd H (by simp)
            · rw [if_neg c19] at H
              have c19b0 : decide (x4_9 < x3_1) = false := decide_eq_false c19
              clear c19
              (first | rw [c19b0] | (simp only [i64_w, i32_w]; rw [c19b0]) | skip)
              have H' := Aside0.mk H
              clear H
              go_wp2
              go_meet
              case rel => exact ⟨_, (a0), (by first | rfl | (simp; done) | (simp [*]; done)), H', ⟨by have := HJ1.out; have := HJ9.out; first | omega | exact Nat.le_refl _⟩, ⟨by repeat (first | (with_reducible first | exact HB.out | apply below_alloc | apply pw_below_drewN | apply below_drew1) | exact HB.out)⟩⟩
          case rest =>
            clear HC18
            try clear c1
            try clear p1
            try clear q1
            try clear hx1
            try clear c2
            try clear p2
            try clear c3
            try clear c3b0
            try clear c5
            try clear c5b0
            try clear c6
            try clear c6b0
            try clear p6
            try clear p7
            try clear q7
            try clear hx7
            try clear c9
            try clear c11
            try clear c11b0
            try clear c13
            try clear c13b0
            try clear c14
            try clear c14b0
            try clear p15
            try clear q15
            try clear hx15
            try clear c17
            try clear c19
            try clear c19b0
            try clear c20
            try clear c20b0
            try clear c20b1
            try clear c21
            try clear c21b0
            try clear c21b1
            try clear c22
            try clear c22b0
            try clear c22b1
            try clear p1
            try clear p15
            try clear p2
            try clear p6
            try clear p7
            try clear q1
            try clear q15
            try clear q7
            obtain ⟨kq, x0_17, rfl, HA, HJ17, HB⟩ := hcut
            cases kq with
            | zero => exact absurd HA.out (by simp [spec_GoVersion.j4])
            | succ kj17 =>
              have H := HA.out
              clear HA
              simp only [spec_GoVersion.j4] at H
              replace H := Option.bind_eq_some_iff.mp H
              obtain ⟨t113, A230, H⟩ := H
              replace H : (spec_GoVersion.l2 kj17 t113 t113 (t113.length : Int) 0) = some r := H
              have A23 := Aside0.mk A230
              clear A230
              have H' := Aside0.mk H
              clear H
              go_wp2_with (first | ((with_reducible refine gate_callee (f := 18) rfl ?_); refine goesL_ (some 44) rfl rfl Try.func18 (by kernel_rfl) rfl #[.string x0_17, .int .u8 46] rfl (by (try simp only [List.map_toArray, List.map_cons, List.map_nil]); first | done | rfl | (simp only [List.length_drop, List.length_take]; rfl)) ?_; (with_reducible refine (spec_Cut.calls kj17 x0_17 46 t113 _ A23.out).mono ?_); rintro e w24 ⟨v114, rfl, ho0, hb⟩; refine ⟨_, rfl, ?_⟩; have n0_ := Aside0.mk (Kd.R_lower ho0 (below_size (by repeat (first | (with_reducible first | exact HB.out | apply below_alloc | apply pw_below_drewN | apply below_drew1) | exact HB.out)))); have n1_ := Aside0.mk (below_step (by repeat (first | (with_reducible first | exact HB.out | apply below_alloc | apply pw_below_drewN | apply below_drew1) | exact HB.out)) hb); clear HB; have HO115 := n0_; have HB := n1_; clear n0_ n1_; (try clear hb); (try clear hb2); (try clear hk); (try clear hi); (try clear ho0); obtain ⟨Ao25, co25, eo25⟩ := Kd.R_slice HO115.out; subst eo25))
              go_loopg [47] kj17 (fun kq v47 w' => ∃ (x47_4 : Int), v47 = .int .i64 x47_4 ∧ Aside0 (spec_GoVersion.l2 kq t113 t113 (t113.length : Int) x47_4 = some r) ∧ Aside0 (kq ≤ kj17) ∧ Aside0 (Kd.R Kd.string 9 w' w.heap.size (fun _ => True) (.slice Ao25 t113.length co25) t113) ∧ Aside0 (Kd.R Kd.string 9 w' w.heap.size (fun _ => True) (.slice Ao25 t113.length co25) t113) ∧ Aside0 (Below w.heap.size w w'))
              case atStart => exact ⟨(0), (by first | rfl | (simp; done) | (simp [*]; done)), H', ⟨Nat.le_refl _⟩, ⟨by (with_reducible repeat (first | apply Kd.R_alloc | apply Kd.R_drewN | apply Kd.R_drew)); exact HO115.out⟩, ⟨by (with_reducible repeat (first | apply Kd.R_alloc | apply Kd.R_drewN | apply Kd.R_drew)); exact HO115.out⟩, ⟨by repeat (first | (with_reducible first | exact HB.out | apply below_alloc | apply pw_below_drewN | apply below_drew1) | exact HB.out)⟩⟩
              case round =>
                clear H'
                try clear c1
                try clear p1
                try clear q1
                try clear hx1
                try clear c2
                try clear p2
                try clear c3
                try clear c3b0
                try clear c5
                try clear c5b0
                try clear c6
                try clear c6b0
                try clear p6
                try clear p7
                try clear q7
                try clear hx7
                try clear c9
                try clear c11
                try clear c11b0
                try clear c13
                try clear c13b0
                try clear c14
                try clear c14b0
                try clear p15
                try clear q15
                try clear hx15
                try clear c17
                try clear c18
                try clear c19
                try clear c19b0
                try clear c20
                try clear c20b0
                try clear c20b1
                try clear c21
                try clear c21b0
                try clear c21b1
                try clear c22
                try clear c22b0
                try clear c22b1
                try clear p1
                try clear p15
                try clear p2
                try clear p6
                try clear p7
                try clear q1
                try clear q15
                try clear q7
                obtain ⟨x47_4, rfl, HA, HK4, HO_5, HO_45, HB⟩ := hrel
                cases gk with
                | zero => exact absurd HA.out (by simp [spec_GoVersion.l2])
                | succ k4 =>
                  have H := HA.out
                  clear HA
                  simp only [spec_GoVersion.l2] at H
                  by_cases c26 : x47_4 < (t113.length : Int)
                  · rw [if_pos c26] at H
                    have c26b0 : decide (x47_4 < (t113.length : Int)) = true := decide_eq_true c26
                    clear c26
                    by_cases c27 : 0 ≤ x47_4
                    · rw [if_pos c27] at H
                      have c27b0 : decide (0 ≤ x47_4) = true := decide_eq_true c27
                      clear c27
                      by_cases c28 : x47_4 < (t113.length : Int)
                      · rw [if_pos c28] at H
                        have c28b0 : decide (x47_4 < (t113.length : Int)) = true := decide_eq_true c28
                        clear c28
                        replace H := Option.bind_eq_some_iff.mp H
                        obtain ⟨t117, A290, H⟩ := H
                        replace H : (if t117 = true then (spec_GoVersion.l2 k4 t113 t113 (t113.length : Int) (wrap64 (x47_4 + 1))) else (some false)) = some r := H
                        have A29 := Aside0.mk A290
                        clear A290
                        by_cases c30 : t117 = true
                        · subst c30
                          have H1 : (spec_GoVersion.l2 k4 t113 t113 (t113.length : Int) (wrap64 (x47_4 + 1))) = some r := by rw [if_pos rfl] at H; exact H
                          clear H
                          have H := H1
                          clear H1
                          have H' := Aside0.mk H
                          clear H
                          have p116 : 0 ≤ (x47_4 : Int) := of_decide_eq_true (by first | (with_reducible assumption) | assumption)
                          have q116 : x47_4 < (t113.length : Int) := of_decide_eq_true (by first | (with_reducible assumption) | assumption)
                          obtain ⟨ad116, e116, hx116_0⟩ := Kd.at_string (Kd.R_reads' HO_45.out).2.2 x47_4 p116 q116
                          cases e116
                          replace p116 := eq_true p116
                          replace q116 := eq_true q116
                          go_wp2_with (first | ((with_reducible refine gate_callee (f := 19) rfl ?_); refine goesL_ (some 52) rfl rfl Try.func19 (by kernel_rfl) rfl #[.string (rdOf ByteArray.empty t113 x47_4)] rfl (by (try simp only [List.map_toArray, List.map_cons, List.map_nil]); first | done | rfl | (simp only [List.length_drop, List.length_take]; rfl)) ?_; (with_reducible refine (spec_long.calls k4 (rdOf ByteArray.empty t113 x47_4) true _ A29.out).mono ?_); rintro e w' ⟨rfl, ⟨nd, rfl⟩⟩; refine ⟨_, rfl, ?_⟩))
                          go_roundg k4
                          case measure => have := HJ1.out; have := HJ9.out; have := HJ17.out; have := HK4.out; omega
                          case rel => exact ⟨(wrap64 (x47_4 + 1)), (by first | rfl | (simp; done) | (simp [*]; done)), H', ⟨by have := HJ1.out; have := HJ9.out; have := HJ17.out; have := HK4.out; omega⟩, ⟨by (with_reducible repeat (first | apply Kd.R_alloc | apply Kd.R_drewN | apply Kd.R_drew)); exact HO_5.out⟩, ⟨by (with_reducible repeat (first | apply Kd.R_alloc | apply Kd.R_drewN | apply Kd.R_drew)); exact HO_45.out⟩, ⟨by repeat (first | (with_reducible first | exact HB.out | apply below_alloc | apply pw_below_drewN | apply below_drew1) | exact HB.out)⟩⟩
                        · replace c30 := Bool.eq_false_iff.mpr c30
                          subst c30
                          have H1 : (some false) = some r := by rw [if_neg (show ¬ (false = true) by decide)] at H; exact H
                          clear H
                          have H := H1
                          clear H1
                          obtain rfl := Option.some.inj H
                          have p116 : 0 ≤ (x47_4 : Int) := of_decide_eq_true (by first | (with_reducible assumption) | assumption)
                          have q116 : x47_4 < (t113.length : Int) := of_decide_eq_true (by first | (with_reducible assumption) | assumption)
                          obtain ⟨ad116, e116, hx116_0⟩ := Kd.at_string (Kd.R_reads' HO_45.out).2.2 x47_4 p116 q116
                          cases e116
                          replace p116 := eq_true p116
                          replace q116 := eq_true q116
                          go_wp2_with (first | ((with_reducible refine gate_callee (f := 19) rfl ?_); refine goesL_ (some 52) rfl rfl Try.func19 (by kernel_rfl) rfl #[.string (rdOf ByteArray.empty t113 x47_4)] rfl (by (try simp only [List.map_toArray, List.map_cons, List.map_nil]); first | done | rfl | (simp only [List.length_drop, List.length_take]; rfl)) ?_; (with_reducible refine (spec_long.calls k4 (rdOf ByteArray.empty t113 x47_4) false _ A29.out).mono ?_); rintro e w' ⟨rfl, ⟨nd, rfl⟩⟩; refine ⟨_, rfl, ?_⟩))
                          go_ret
                          exact ⟨by first | rfl | (simp [errW_none, errW_some] <;> rfl) | (simp [*, errW_none, errW_some] <;> rfl), by repeat (first | (with_reducible first | exact HB.out | apply below_alloc | apply pw_below_drewN | apply below_drew1) | exact HB.out)⟩
                      · rw [if_neg c28] at H
                        exact absurd H (by simp)
                    · rw [if_neg c27] at H
                      exact absurd H (by simp)
                  · rw [if_neg c26] at H
                    have c26b0 : decide (x47_4 < (t113.length : Int)) = false := decide_eq_false c26
                    clear c26
                    by_cases c31 : (t113.length : Int) = 2
                    · rw [if_pos c31] at H
                      have c31b0 : ((t113.length : Int) == 2) = true := beq_iff_eq.mpr c31
                      have c31b1 : ((t113.length : Int) != 2) = false := bne_eq_false_iff_eq.mpr c31
                      clear c31
                      by_cases c32 : 0 < (t113.length : Int)
                      · rw [if_pos c32] at H
                        have c32b0 : decide (0 < (t113.length : Int)) = true := decide_eq_true c32
                        have c32b1 : decide (0 < t113.length) = true := decide_eq_true (by omega)
                        clear c32
                        obtain rfl := Option.some.inj H
                        have p118 : 0 ≤ (0 : Int) := (by omega)
                        have q118 : 0 < (t113.length : Int) := of_decide_eq_true (by first | (with_reducible assumption) | assumption)
                        obtain ⟨ad118, e118, hx118_0⟩ := Kd.at_string (Kd.R_reads' HO_5.out).2.2 0 p118 q118
                        cases e118
                        have qi118 : (0 < t113.length) = True := eq_true (by omega)
                        (try rw [show ((0 : Int)).toNat = 0 from rfl] at hx118_0)
                        (try rw [Addr.add_zero'] at hx118_0)
                        replace p118 := eq_true p118
                        replace q118 := eq_true q118
                        go_wp2
                        go_ret
                        exact ⟨by first | rfl | (simp [errW_none, errW_some] <;> rfl) | (simp [*, errW_none, errW_some] <;> rfl), by repeat (first | (with_reducible first | exact HB.out | apply below_alloc | apply pw_below_drewN | apply below_drew1) | exact HB.out)⟩
                      · rw [if_neg c32] at H
                        exact absurd H (by simp)
                    · rw [if_neg c31] at H
                      have c31b0 : ((t113.length : Int) == 2) = false := beq_eq_false_iff_ne.mpr c31
                      have c31b1 : ((t113.length : Int) != 2) = true := bne_iff_ne.mpr c31
                      by_cases c33 : (t113.length : Int) = 3
                      · rw [if_pos c33] at H
                        have c33b0 : ((t113.length : Int) == 3) = true := beq_iff_eq.mpr c33
                        have c33b1 : ((t113.length : Int) != 3) = false := bne_eq_false_iff_eq.mpr c33
                        clear c33
                        by_cases c34 : 0 < (t113.length : Int)
                        · rw [if_pos c34] at H
                          have c34b0 : decide (0 < (t113.length : Int)) = true := decide_eq_true c34
                          have c34b1 : decide (0 < t113.length) = true := decide_eq_true (by omega)
                          clear c34
                          obtain rfl := Option.some.inj H
                          have p119 : 0 ≤ (0 : Int) := (by omega)
                          have q119 : 0 < (t113.length : Int) := of_decide_eq_true (by first | (with_reducible assumption) | assumption)
                          obtain ⟨ad119, e119, hx119_0⟩ := Kd.at_string (Kd.R_reads' HO_5.out).2.2 0 p119 q119
                          cases e119
                          have qi119 : (0 < t113.length) = True := eq_true (by omega)
                          (try rw [show ((0 : Int)).toNat = 0 from rfl] at hx119_0)
                          (try rw [Addr.add_zero'] at hx119_0)
                          replace p119 := eq_true p119
                          replace q119 := eq_true q119
                          go_wp2
                          go_ret
                          exact ⟨by first | rfl | (simp [errW_none, errW_some] <;> rfl) | (simp [*, errW_none, errW_some] <;> rfl), by repeat (first | (with_reducible first | exact HB.out | apply below_alloc | apply pw_below_drewN | apply below_drew1) | exact HB.out)⟩
                        · rw [if_neg c34] at H
                          exact absurd H (by simp)
                      · rw [if_neg c33] at H
                        have c33b0 : ((t113.length : Int) == 3) = false := beq_eq_false_iff_ne.mpr c33
                        have c33b1 : ((t113.length : Int) != 3) = true := bne_iff_ne.mpr c33
                        obtain rfl := Option.some.inj H
                        go_wp2
                        go_ret
                        exact ⟨by first | rfl | (simp [errW_none, errW_some] <;> rfl) | (simp [*, errW_none, errW_some] <;> rfl), by repeat (first | (with_reducible first | exact HB.out | apply below_alloc | apply pw_below_drewN | apply below_drew1) | exact HB.out)⟩

/-- THE ONE PURE STATEMENT of spec_GoVersion: yours. -/
def spec_GoVersion.Pure : Prop := ∀ (a0 : ByteArray), a0.size ≤ 140737488351232 → ∃ k, spec_GoVersion.f k a0 = some true
theorem spec_GoVersion.walk (P : spec_GoVersion.Pure) (a0 : ByteArray) (w : World) (w0 : a0.size ≤ 140737488351232) :
    Calls Try.prog 11 #[.string a0] w fun e w' => e = .returned (.bool true) ∧ Below w.heap.size w w' := by
  obtain ⟨k, h⟩ := P a0 w0
  refine (spec_GoVersion.calls k a0 true w h).mono ?_
  rintro e w' ⟨rfl, hd⟩
  exact ⟨rfl, hd⟩

end Go.Proofs.Ythgbiopfpjleaaa.PGoVersion
