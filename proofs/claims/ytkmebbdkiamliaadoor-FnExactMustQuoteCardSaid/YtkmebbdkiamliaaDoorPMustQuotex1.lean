-- PRINTED BY print.sh 35421559b90ae4d0a3588c463048766b98c2df88dd9212a6774a882060cdf62d: not written by this session
import Derived.Test.YtkmebbdkiamliaaDoorPMustQuotex0
namespace Go.Proofs.YtkmebbdkiamliaaDoor.PMustQuote
open Go.RowKit Go.Proofs.YtkmebbdkiamliaaDoorW.PrintWords Go.Proofs.YtkmebbdkiamliaaDoorW.PrintLast Go.Proofs.YtkmebbdkiamliaaDoorW.PrintMore
attribute [local go_sem] max2_int min2_int max_two min_two max_three min_three max_four min_four   -- for this text's walks alone
set_option linter.unusedVariables false
set_option linter.unusedSimpArgs false

/-! ### spec_Stands: function 12 -/
def spec_Stands.l0 : Nat → ByteArray → ByteArray → Int → Option (Bool)
  | 0, _, _, _ => none
  | k + 1, x0, x1, x5 => if (wrap64 (x5 + (x1.size : Int))) ≤ (x0.size : Int) then (if 0 ≤ x5 then (if x5 ≤ (wrap64 (x5 + (x1.size : Int))) then (if (x0.extract (x5 : Int).toNat ((wrap64 (x5 + (x1.size : Int))) : Int).toNat).toList = x1.toList then (some true) else (spec_Stands.l0 k x0 x1 (wrap64 (x5 + 1)))) else (none)) else (none)) else (some false)
def spec_Stands.f (k : Nat) (a0 : ByteArray) (a1 : ByteArray) : Option (Bool) := spec_Stands.l0 k a0 a1 0
theorem spec_Stands.mono_l : ∀ k, (∀ y0 y1 y2, LeO (spec_Stands.l0 k y0 y1 y2) (spec_Stands.l0 (k + 1) y0 y1 y2))
  | 0 => fun _ _ _ r h => by simp [spec_Stands.l0] at h
  | k + 1 => by
    have ih0 := spec_Stands.mono_l k
    · intro y0 y1 y2
      unfold spec_Stands.l0
      repeat' first
      | (with_reducible exact ih0 _ _ _)
      | (with_reducible exact LeO.refl _)
      | (with_reducible exact LeO.none _)
      | (with_reducible refine LeO.ite ?_ ?_)
      | (with_reducible refine LeO.bind ?_ (fun _ => ?_))
      | exact ih0 _ _ _
      | exact LeO.none _
      | refine LeO.ite ?_ ?_
      | refine LeO.bind ?_ (fun _ => ?_)
theorem spec_Stands.mono : ∀ a0 a1 k, LeO (spec_Stands.f k a0 a1) (spec_Stands.f (k + 1) a0 a1) := by
  intro a0 a1 k
  have ih0 := spec_Stands.mono_l k
  unfold spec_Stands.f
  repeat' first
      | (with_reducible exact ih0 _ _ _)
      | (with_reducible exact LeO.refl _)
      | (with_reducible exact LeO.none _)
      | (with_reducible refine LeO.ite ?_ ?_)
      | (with_reducible refine LeO.bind ?_ (fun _ => ?_))
      | exact ih0 _ _ _
      | exact LeO.none _
      | refine LeO.ite ?_ ?_
      | refine LeO.bind ?_ (fun _ => ?_)
set_option maxHeartbeats 8000000 in
set_option maxRecDepth 100000 in
theorem spec_Stands.calls (k : Nat) (a0 : ByteArray) (a1 : ByteArray) (r : Bool) (w : World) (h : spec_Stands.f k a0 a1 = some r) :
    Calls Tryd.prog 12 #[.string a0, .string a1] w fun e w' => e = .returned (.bool r) ∧ Drawn0 w w' := by
  have H : (spec_Stands.l0 k a0 a1 0) = some r := h
  clear h
  have H' := Aside0.mk H
  clear H
  go_enter Tryd.func12, Tryd.ntmps12
  go_wp2
  go_loopg [5] k (fun kq v5 w' => ∃ (x5_1 : Int), v5 = .int .i64 x5_1 ∧ Aside0 (spec_Stands.l0 kq a0 a1 x5_1 = some r) ∧ Aside0 (kq ≤ k) ∧ Drawn0 w w')
  case atStart => exact ⟨(0), (by first | rfl | (simp; done) | (simp [*]; done)), H', ⟨Nat.le_refl _⟩, by repeat (first | exact Drawn0.refl _ | apply Drawn0.step)⟩
  case round =>
    clear H'
    try clear c1
    try clear p2
    obtain ⟨x5_1, rfl, HA, HK1, ⟨m1, rfl⟩⟩ := hrel
    cases gk with
    | zero => exact absurd HA.out (by simp [spec_Stands.l0])
    | succ k1 =>
      have H := HA.out
      clear HA
      simp only [spec_Stands.l0] at H
      by_cases c3 : (wrap64 (x5_1 + (a1.size : Int))) ≤ (a0.size : Int)
      · rw [if_pos c3] at H
        have c3b0 : decide ((wrap64 (x5_1 + (a1.size : Int))) ≤ (a0.size : Int)) = true := decide_eq_true c3
        clear c3
        by_cases c4 : 0 ≤ x5_1
        · rw [if_pos c4] at H
          have c4b0 := eq_true c4
          have c4b1 : decide (0 ≤ x5_1) = true := decide_eq_true c4
          clear c4
          by_cases c5 : x5_1 ≤ (wrap64 (x5_1 + (a1.size : Int)))
          · rw [if_pos c5] at H
            have c5b0 := eq_true c5
            have c5b1 : decide (x5_1 ≤ (wrap64 (x5_1 + (a1.size : Int)))) = true := decide_eq_true c5
            have c6b0 := eq_true (of_decide_eq_true (by first | (with_reducible assumption) | assumption) : (wrap64 (x5_1 + (a1.size : Int))) ≤ (a0.size : Int))
            by_cases c7 : (a0.extract (x5_1 : Int).toNat ((wrap64 (x5_1 + (a1.size : Int))) : Int).toNat).toList = a1.toList
            · rw [if_pos c7] at H
              have c7b0 : ((a0.extract (x5_1 : Int).toNat ((wrap64 (x5_1 + (a1.size : Int))) : Int).toNat).toList == a1.toList) = true := beq_iff_eq.mpr c7
              have c7b1 : ((a0.extract (x5_1 : Int).toNat ((wrap64 (x5_1 + (a1.size : Int))) : Int).toNat).toList != a1.toList) = false := bne_eq_false_iff_eq.mpr c7
              clear c7
              obtain rfl := Option.some.inj H
              go_wp2
              go_ret
              exact ⟨by first | rfl | (simp; done) | (simp [*]; done), by repeat (first | exact Drawn0.refl _ | apply Drawn0.step)⟩
            · rw [if_neg c7] at H
              have c7b0 : ((a0.extract (x5_1 : Int).toNat ((wrap64 (x5_1 + (a1.size : Int))) : Int).toNat).toList == a1.toList) = false := beq_eq_false_iff_ne.mpr c7
              have c7b1 : ((a0.extract (x5_1 : Int).toNat ((wrap64 (x5_1 + (a1.size : Int))) : Int).toNat).toList != a1.toList) = true := bne_iff_ne.mpr c7
              have H' := Aside0.mk H
              clear H
              go_wp2
              go_roundg k1
              case measure => have := HK1.out; omega
              case rel => exact ⟨(wrap64 (x5_1 + 1)), (by first | rfl | (simp; done) | (simp [*]; done)), H', ⟨by have := HK1.out; omega⟩, by repeat (first | exact Drawn0.refl _ | apply Drawn0.step)⟩
          · rw [if_neg c5] at H
            exact absurd H (by simp)
        · rw [if_neg c4] at H
          exact absurd H (by simp)
      · rw [if_neg c3] at H
        have c3b0 : decide ((wrap64 (x5_1 + (a1.size : Int))) ≤ (a0.size : Int)) = false := decide_eq_false c3
        clear c3
        obtain rfl := Option.some.inj H
        go_wp2
        go_ret
        exact ⟨by first | rfl | (simp; done) | (simp [*]; done), by repeat (first | exact Drawn0.refl _ | apply Drawn0.step)⟩

/-! ### spec_MustQuote: function 7 -/
mutual
def spec_MustQuote.l0 : Nat → ByteArray → Int → Option (Bool)
  | 0, _, _ => none
  | k + 1, x0, x3 => if x3 < (x0.size : Int) then (if 0 ≤ x3 then (if (bt x0 x3) = 32 then (spec_MustQuote.j1 k x0 x3 (bt x0 x3) true) else (if (bt x0 x3) = 34 then (spec_MustQuote.j1 k x0 x3 (bt x0 x3) true) else (if (bt x0 x3) = 39 then (spec_MustQuote.j1 k x0 x3 (bt x0 x3) true) else (if (bt x0 x3) = 96 then (spec_MustQuote.j1 k x0 x3 (bt x0 x3) true) else (if (bt x0 x3) < 32 then (spec_MustQuote.j1 k x0 x3 (bt x0 x3) true) else (spec_MustQuote.j1 k x0 x3 (bt x0 x3) (decide ((bt x0 x3) > 126)))))))) else (none)) else (if x0.toList = ([] : List UInt8) then (some true) else ((spec_Stands.f k x0 (⟨#[47, 47]⟩ : ByteArray)).bind fun t101 => (if t101 = true then (some true) else ((spec_Stands.f k x0 (⟨#[47, 42]⟩ : ByteArray)).bind fun t102 => (some t102)))))
def spec_MustQuote.j1 : Nat → ByteArray → Int → Int → Bool → Option (Bool)
  | 0, _, _, _, _ => none
  | k + 1, x0, x3, x4, x14 => if x14 = true then (some true) else (if x4 = 40 then (spec_MustQuote.j2 k x0 x3 true) else (if x4 = 41 then (spec_MustQuote.j2 k x0 x3 true) else (if x4 = 91 then (spec_MustQuote.j2 k x0 x3 true) else (if x4 = 93 then (spec_MustQuote.j2 k x0 x3 true) else (if x4 = 123 then (spec_MustQuote.j2 k x0 x3 true) else (if x4 = 125 then (spec_MustQuote.j2 k x0 x3 true) else (spec_MustQuote.j2 k x0 x3 (x4 == 44))))))))
def spec_MustQuote.j2 : Nat → ByteArray → Int → Bool → Option (Bool)
  | 0, _, _, _ => none
  | k + 1, x0, x3, x37 => if x37 = true then (if (x0.size : Int) > 1 then (some true) else (spec_MustQuote.l0 k x0 (wrap64 (x3 + 1)))) else (spec_MustQuote.l0 k x0 (wrap64 (x3 + 1)))
end
def spec_MustQuote.f (k : Nat) (a0 : ByteArray) : Option (Bool) := spec_MustQuote.l0 k a0 0
theorem spec_MustQuote.mono_l : ∀ k, (∀ y0 y1, LeO (spec_MustQuote.l0 k y0 y1) (spec_MustQuote.l0 (k + 1) y0 y1)) ∧ (∀ y0 y1 y2 y3, LeO (spec_MustQuote.j1 k y0 y1 y2 y3) (spec_MustQuote.j1 (k + 1) y0 y1 y2 y3)) ∧ (∀ y0 y1 y2, LeO (spec_MustQuote.j2 k y0 y1 y2) (spec_MustQuote.j2 (k + 1) y0 y1 y2))
  | 0 => ⟨fun _ _ r h => by simp [spec_MustQuote.l0] at h, fun _ _ _ _ r h => by simp [spec_MustQuote.j1] at h, fun _ _ _ r h => by simp [spec_MustQuote.j2] at h⟩
  | k + 1 => by
    obtain ⟨ih0, ih1, ih2⟩ := spec_MustQuote.mono_l k
    refine ⟨?_, ?_, ?_⟩
    · intro y0 y1
      unfold spec_MustQuote.l0
      repeat' first
      | (with_reducible exact ih0 _ _)
      | (with_reducible exact ih1 _ _ _ _)
      | (with_reducible exact ih2 _ _ _)
      | (with_reducible exact spec_Stands.mono _ _ _)
      | (with_reducible exact LeO.refl _)
      | (with_reducible exact LeO.none _)
      | (with_reducible refine LeO.ite ?_ ?_)
      | (with_reducible refine LeO.bind ?_ (fun _ => ?_))
      | exact ih0 _ _
      | exact ih1 _ _ _ _
      | exact ih2 _ _ _
      | exact spec_Stands.mono _ _ _
      | exact LeO.none _
      | refine LeO.ite ?_ ?_
      | refine LeO.bind ?_ (fun _ => ?_)
    · intro y0 y1 y2 y3
      unfold spec_MustQuote.j1
      repeat' first
      | (with_reducible exact ih0 _ _)
      | (with_reducible exact ih1 _ _ _ _)
      | (with_reducible exact ih2 _ _ _)
      | (with_reducible exact spec_Stands.mono _ _ _)
      | (with_reducible exact LeO.refl _)
      | (with_reducible exact LeO.none _)
      | (with_reducible refine LeO.ite ?_ ?_)
      | (with_reducible refine LeO.bind ?_ (fun _ => ?_))
      | exact ih0 _ _
      | exact ih1 _ _ _ _
      | exact ih2 _ _ _
      | exact spec_Stands.mono _ _ _
      | exact LeO.none _
      | refine LeO.ite ?_ ?_
      | refine LeO.bind ?_ (fun _ => ?_)
    · intro y0 y1 y2
      unfold spec_MustQuote.j2
      repeat' first
      | (with_reducible exact ih0 _ _)
      | (with_reducible exact ih1 _ _ _ _)
      | (with_reducible exact ih2 _ _ _)
      | (with_reducible exact spec_Stands.mono _ _ _)
      | (with_reducible exact LeO.refl _)
      | (with_reducible exact LeO.none _)
      | (with_reducible refine LeO.ite ?_ ?_)
      | (with_reducible refine LeO.bind ?_ (fun _ => ?_))
      | exact ih0 _ _
      | exact ih1 _ _ _ _
      | exact ih2 _ _ _
      | exact spec_Stands.mono _ _ _
      | exact LeO.none _
      | refine LeO.ite ?_ ?_
      | refine LeO.bind ?_ (fun _ => ?_)
theorem spec_MustQuote.mono : ∀ a0 k, LeO (spec_MustQuote.f k a0) (spec_MustQuote.f (k + 1) a0) := by
  intro a0 k
  obtain ⟨ih0, ih1, ih2⟩ := spec_MustQuote.mono_l k
  unfold spec_MustQuote.f
  repeat' first
      | (with_reducible exact ih0 _ _)
      | (with_reducible exact ih1 _ _ _ _)
      | (with_reducible exact ih2 _ _ _)
      | (with_reducible exact spec_Stands.mono _ _ _)
      | (with_reducible exact LeO.refl _)
      | (with_reducible exact LeO.none _)
      | (with_reducible refine LeO.ite ?_ ?_)
      | (with_reducible refine LeO.bind ?_ (fun _ => ?_))
      | exact ih0 _ _
      | exact ih1 _ _ _ _
      | exact ih2 _ _ _
      | exact spec_Stands.mono _ _ _
      | exact LeO.none _
      | refine LeO.ite ?_ ?_
      | refine LeO.bind ?_ (fun _ => ?_)
set_option maxHeartbeats 8000000 in
set_option maxRecDepth 100000 in
theorem spec_MustQuote.calls (k : Nat) (a0 : ByteArray) (r : Bool) (w : World) (h : spec_MustQuote.f k a0 = some r) :
    Calls Tryd.prog 7 #[.string a0] w fun e w' => e = .returned (.bool r) ∧ Drawn0 w w' := by
  have H : (spec_MustQuote.l0 k a0 0) = some r := h
  clear h
  have H' := Aside0.mk H
  clear H
  go_enter Tryd.func7, Tryd.ntmps7
  go_wp2
  go_loopg [3] k (fun kq v3 w' => ∃ (x3_1 : Int), v3 = .int .i64 x3_1 ∧ Aside0 (spec_MustQuote.l0 kq a0 x3_1 = some r) ∧ Aside0 (kq ≤ k) ∧ Drawn0 w w')
  case atStart => exact ⟨(0), (by first | rfl | (simp; done) | (simp [*]; done)), H', ⟨Nat.le_refl _⟩, by repeat (first | exact Drawn0.refl _ | apply Drawn0.step)⟩
  case round =>
    clear H'
    obtain ⟨x3_1, rfl, HA, HK1, ⟨m1, rfl⟩⟩ := hrel
    cases gk with
    | zero => exact absurd HA.out (by simp [spec_MustQuote.l0])
    | succ k1 =>
      have H := HA.out
      clear HA
      simp only [spec_MustQuote.l0] at H
      by_cases c2 : x3_1 < (a0.size : Int)
      · rw [if_pos c2] at H
        have c2b0 : decide (x3_1 < (a0.size : Int)) = true := decide_eq_true c2
        clear c2
        by_cases c3 : 0 ≤ x3_1
        · rw [if_pos c3] at H
          have c3b0 : decide (0 ≤ x3_1) = true := decide_eq_true c3
          clear c3
          have HC5 := Aside0.mk H
          clear H
          have p4 : 0 ≤ (x3_1 : Int) := of_decide_eq_true (by first | (with_reducible assumption) | assumption)
          have q4 : x3_1 < (a0.size : Int) := of_decide_eq_true (by first | (with_reducible assumption) | assumption)
          have hx4 := bt_at a0 x3_1
          replace p4 := eq_true p4
          replace q4 := eq_true q4
          go_upto_region 5 with (fail)
          go_cut [14] (fun v14 wc => ∃ (kq : Nat) (x14_4 : Bool), v14 = .bool x14_4 ∧ Aside0 (spec_MustQuote.j1 kq a0 x3_1 (bt a0 x3_1) x14_4 = some r) ∧ Aside0 (kq ≤ k1) ∧ Drawn0 w wc)
          case first =>
            have H := HC5.out
            clear HC5
            by_cases c6 : (bt a0 x3_1) = 32
            · rw [if_pos c6] at H
              have c6b0 : ((bt a0 x3_1) == 32) = true := beq_iff_eq.mpr c6
              have c6b1 : ((bt a0 x3_1) != 32) = false := bne_eq_false_iff_eq.mpr c6
              clear c6
              (first | rw [c6b0] | (simp only [i64_w, i32_w]; rw [c6b0]) | skip)
              have H' := Aside0.mk H
              clear H
              go_wp2
              go_meet
              case rel => exact ⟨_, (true), (by first | rfl | (simp; done) | (simp [*]; done)), H', ⟨by have := HK1.out; first | omega | exact Nat.le_refl _⟩, by repeat (first | exact Drawn0.refl _ | apply Drawn0.step)⟩
            · rw [if_neg c6] at H
              have c6b0 : ((bt a0 x3_1) == 32) = false := beq_eq_false_iff_ne.mpr c6
              have c6b1 : ((bt a0 x3_1) != 32) = true := bne_iff_ne.mpr c6
              (first | rw [c6b0] | (simp only [i64_w, i32_w]; rw [c6b0]) | skip)
              by_cases c7 : (bt a0 x3_1) = 34
              · rw [if_pos c7] at H
                have c7b0 : ((bt a0 x3_1) == 34) = true := beq_iff_eq.mpr c7
                have c7b1 : ((bt a0 x3_1) != 34) = false := bne_eq_false_iff_eq.mpr c7
                clear c7
                have H' := Aside0.mk H
                clear H
                go_wp2
                go_meet
                case rel => exact ⟨_, (true), (by first | rfl | (simp; done) | (simp [*]; done)), H', ⟨by have := HK1.out; first | omega | exact Nat.le_refl _⟩, by repeat (first | exact Drawn0.refl _ | apply Drawn0.step)⟩
              · rw [if_neg c7] at H
                have c7b0 : ((bt a0 x3_1) == 34) = false := beq_eq_false_iff_ne.mpr c7
                have c7b1 : ((bt a0 x3_1) != 34) = true := bne_iff_ne.mpr c7
                by_cases c8 : (bt a0 x3_1) = 39
                · rw [if_pos c8] at H
                  have c8b0 : ((bt a0 x3_1) == 39) = true := beq_iff_eq.mpr c8
                  have c8b1 : ((bt a0 x3_1) != 39) = false := bne_eq_false_iff_eq.mpr c8
                  clear c8
                  have H' := Aside0.mk H
                  clear H
                  go_wp2
                  go_meet
                  case rel => exact ⟨_, (true), (by first | rfl | (simp; done) | (simp [*]; done)), H', ⟨by have := HK1.out; first | omega | exact Nat.le_refl _⟩, by repeat (first | exact Drawn0.refl _ | apply Drawn0.step)⟩
                · rw [if_neg c8] at H
                  have c8b0 : ((bt a0 x3_1) == 39) = false := beq_eq_false_iff_ne.mpr c8
                  have c8b1 : ((bt a0 x3_1) != 39) = true := bne_iff_ne.mpr c8
                  by_cases c9 : (bt a0 x3_1) = 96
                  · rw [if_pos c9] at H
                    have c9b0 : ((bt a0 x3_1) == 96) = true := beq_iff_eq.mpr c9
                    have c9b1 : ((bt a0 x3_1) != 96) = false := bne_eq_false_iff_eq.mpr c9
                    clear c9
                    have H' := Aside0.mk H
                    clear H
                    go_wp2
                    go_meet
                    case rel => exact ⟨_, (true), (by first | rfl | (simp; done) | (simp [*]; done)), H', ⟨by have := HK1.out; first | omega | exact Nat.le_refl _⟩, by repeat (first | exact Drawn0.refl _ | apply Drawn0.step)⟩
                  · rw [if_neg c9] at H
                    have c9b0 : ((bt a0 x3_1) == 96) = false := beq_eq_false_iff_ne.mpr c9
                    have c9b1 : ((bt a0 x3_1) != 96) = true := bne_iff_ne.mpr c9
                    by_cases c10 : (bt a0 x3_1) < 32
                    · rw [if_pos c10] at H
                      have c10b0 : decide ((bt a0 x3_1) < 32) = true := decide_eq_true c10
                      clear c10
                      have H' := Aside0.mk H
                      clear H
                      go_wp2
                      go_meet
                      case rel => exact ⟨_, (true), (by first | rfl | (simp; done) | (simp [*]; done)), H', ⟨by have := HK1.out; first | omega | exact Nat.le_refl _⟩, by repeat (first | exact Drawn0.refl _ | apply Drawn0.step)⟩
                    · rw [if_neg c10] at H
                      have c10b0 : decide ((bt a0 x3_1) < 32) = false := decide_eq_false c10
                      clear c10
                      have H' := Aside0.mk H
                      clear H
                      go_wp2
                      go_meet
                      case rel => exact ⟨_, (decide ((bt a0 x3_1) > 126)), (by first | rfl | (simp; done) | (simp [*]; done)), H', ⟨by have := HK1.out; first | omega | exact Nat.le_refl _⟩, by repeat (first | exact Drawn0.refl _ | apply Drawn0.step)⟩
          case rest =>
            clear HC5
            try clear c1
            try clear c2
            try clear c2b0
            try clear p2
            try clear c3
            try clear c3b0
            try clear p4
            try clear q4
            try clear hx4
            try clear c6
            try clear c6b0
            try clear c6b1
            try clear c7
            try clear c7b0
            try clear c7b1
            try clear c8
            try clear c8b0
            try clear c8b1
            try clear c9
            try clear c9b0
            try clear c9b1
            try clear c10
            try clear c10b0
            try clear p4
            try clear q4
            obtain ⟨kq, x14_4, rfl, HA, HJ4, ⟨mc4, rfl⟩⟩ := hcut
            cases kq with
            | zero => exact absurd HA.out (by simp [spec_MustQuote.j1])
            | succ kj4 =>
              have H := HA.out
              clear HA
              simp only [spec_MustQuote.j1] at H
              by_cases c11 : x14_4 = true
              · subst c11
                have H1 : (some true) = some r := by rw [if_pos rfl] at H; exact H
                clear H
                have H := H1
                clear H1
                obtain rfl := Option.some.inj H
                go_wp2
                go_ret
                exact ⟨by first | rfl | (simp; done) | (simp [*]; done), by repeat (first | exact Drawn0.refl _ | apply Drawn0.step)⟩
              · replace c11 := Bool.eq_false_iff.mpr c11
                subst c11
                have H1 : (if (bt a0 x3_1) = 40 then (spec_MustQuote.j2 kj4 a0 x3_1 true) else (if (bt a0 x3_1) = 41 then (spec_MustQuote.j2 kj4 a0 x3_1 true) else (if (bt a0 x3_1) = 91 then (spec_MustQuote.j2 kj4 a0 x3_1 true) else (if (bt a0 x3_1) = 93 then (spec_MustQuote.j2 kj4 a0 x3_1 true) else (if (bt a0 x3_1) = 123 then (spec_MustQuote.j2 kj4 a0 x3_1 true) else (if (bt a0 x3_1) = 125 then (spec_MustQuote.j2 kj4 a0 x3_1 true) else (spec_MustQuote.j2 kj4 a0 x3_1 ((bt a0 x3_1) == 44)))))))) = some r := by rw [if_neg (show ¬ (false = true) by decide)] at H; exact H
                clear H
                have H := H1
                clear H1
                have HC12 := Aside0.mk H
                clear H
                go_upto_region 7 with (fail)
                go_cut [37] (fun v37 wc => ∃ (kq : Nat) (x37_11 : Bool), v37 = .bool x37_11 ∧ Aside0 (spec_MustQuote.j2 kq a0 x3_1 x37_11 = some r) ∧ Aside0 (kq ≤ kj4) ∧ Drawn0 w wc)
                case first =>
                  have H := HC12.out
                  clear HC12
                  by_cases c13 : (bt a0 x3_1) = 40
                  · rw [if_pos c13] at H
                    have c13b0 : ((bt a0 x3_1) == 40) = true := beq_iff_eq.mpr c13
                    have c13b1 : ((bt a0 x3_1) != 40) = false := bne_eq_false_iff_eq.mpr c13
                    clear c13
                    (first | rw [c13b0] | (simp only [i64_w, i32_w]; rw [c13b0]) | skip)
                    have H' := Aside0.mk H
                    clear H
                    go_wp2
                    go_meet
                    case rel => exact ⟨_, (true), (by first | rfl | (simp; done) | (simp [*]; done)), H', ⟨by have := HK1.out; have := HJ4.out; first | omega | exact Nat.le_refl _⟩, by repeat (first | exact Drawn0.refl _ | apply Drawn0.step)⟩
                  · rw [if_neg c13] at H
                    have c13b0 : ((bt a0 x3_1) == 40) = false := beq_eq_false_iff_ne.mpr c13
                    have c13b1 : ((bt a0 x3_1) != 40) = true := bne_iff_ne.mpr c13
                    (first | rw [c13b0] | (simp only [i64_w, i32_w]; rw [c13b0]) | skip)
                    by_cases c14 : (bt a0 x3_1) = 41
                    · rw [if_pos c14] at H
                      have c14b0 : ((bt a0 x3_1) == 41) = true := beq_iff_eq.mpr c14
                      have c14b1 : ((bt a0 x3_1) != 41) = false := bne_eq_false_iff_eq.mpr c14
                      clear c14
                      have H' := Aside0.mk H
                      clear H
                      go_wp2
                      go_meet
                      case rel => exact ⟨_, (true), (by first | rfl | (simp; done) | (simp [*]; done)), H', ⟨by have := HK1.out; have := HJ4.out; first | omega | exact Nat.le_refl _⟩, by repeat (first | exact Drawn0.refl _ | apply Drawn0.step)⟩
                    · rw [if_neg c14] at H
                      have c14b0 : ((bt a0 x3_1) == 41) = false := beq_eq_false_iff_ne.mpr c14
                      have c14b1 : ((bt a0 x3_1) != 41) = true := bne_iff_ne.mpr c14
                      by_cases c15 : (bt a0 x3_1) = 91
                      · rw [if_pos c15] at H
                        have c15b0 : ((bt a0 x3_1) == 91) = true := beq_iff_eq.mpr c15
                        have c15b1 : ((bt a0 x3_1) != 91) = false := bne_eq_false_iff_eq.mpr c15
                        clear c15
                        have H' := Aside0.mk H
                        clear H
                        go_wp2
                        go_meet
                        case rel => exact ⟨_, (true), (by first | rfl | (simp; done) | (simp [*]; done)), H', ⟨by have := HK1.out; have := HJ4.out; first | omega | exact Nat.le_refl _⟩, by repeat (first | exact Drawn0.refl _ | apply Drawn0.step)⟩
                      · rw [if_neg c15] at H
                        have c15b0 : ((bt a0 x3_1) == 91) = false := beq_eq_false_iff_ne.mpr c15
                        have c15b1 : ((bt a0 x3_1) != 91) = true := bne_iff_ne.mpr c15
                        by_cases c16 : (bt a0 x3_1) = 93
                        · rw [if_pos c16] at H
                          have c16b0 : ((bt a0 x3_1) == 93) = true := beq_iff_eq.mpr c16
                          have c16b1 : ((bt a0 x3_1) != 93) = false := bne_eq_false_iff_eq.mpr c16
                          clear c16
                          have H' := Aside0.mk H
                          clear H
                          go_wp2
                          go_meet
                          case rel => exact ⟨_, (true), (by first | rfl | (simp; done) | (simp [*]; done)), H', ⟨by have := HK1.out; have := HJ4.out; first | omega | exact Nat.le_refl _⟩, by repeat (first | exact Drawn0.refl _ | apply Drawn0.step)⟩
                        · rw [if_neg c16] at H
                          have c16b0 : ((bt a0 x3_1) == 93) = false := beq_eq_false_iff_ne.mpr c16
                          have c16b1 : ((bt a0 x3_1) != 93) = true := bne_iff_ne.mpr c16
                          by_cases c17 : (bt a0 x3_1) = 123
                          · rw [if_pos c17] at H
                            have c17b0 : ((bt a0 x3_1) == 123) = true := beq_iff_eq.mpr c17
                            have c17b1 : ((bt a0 x3_1) != 123) = false := bne_eq_false_iff_eq.mpr c17
                            clear c17
                            have H' := Aside0.mk H
                            clear H
                            go_wp2
                            go_meet
                            case rel => exact ⟨_, (true), (by first | rfl | (simp; done) | (simp [*]; done)), H', ⟨by have := HK1.out; have := HJ4.out; first | omega | exact Nat.le_refl _⟩, by repeat (first | exact Drawn0.refl _ | apply Drawn0.step)⟩
                          · rw [if_neg c17] at H
                            have c17b0 : ((bt a0 x3_1) == 123) = false := beq_eq_false_iff_ne.mpr c17
                            have c17b1 : ((bt a0 x3_1) != 123) = true := bne_iff_ne.mpr c17
                            by_cases c18 : (bt a0 x3_1) = 125
                            · rw [if_pos c18] at H
                              have c18b0 : ((bt a0 x3_1) == 125) = true := beq_iff_eq.mpr c18
                              have c18b1 : ((bt a0 x3_1) != 125) = false := bne_eq_false_iff_eq.mpr c18
                              clear c18
                              have H' := Aside0.mk H
                              clear H
                              go_wp2
                              go_meet
                              case rel => exact ⟨_, (true), (by first | rfl | (simp; done) | (simp [*]; done)), H', ⟨by have := HK1.out; have := HJ4.out; first | omega | exact Nat.le_refl _⟩, by repeat (first | exact Drawn0.refl _ | apply Drawn0.step)⟩
                            · rw [if_neg c18] at H
                              have c18b0 : ((bt a0 x3_1) == 125) = false := beq_eq_false_iff_ne.mpr c18
                              have c18b1 : ((bt a0 x3_1) != 125) = true := bne_iff_ne.mpr c18
                              have H' := Aside0.mk H
                              clear H
                              go_wp2
                              go_meet
                              case rel => exact ⟨_, (((bt a0 x3_1) == 44)), (by first | rfl | (simp; done) | (simp [*]; done)), H', ⟨by have := HK1.out; have := HJ4.out; first | omega | exact Nat.le_refl _⟩, by repeat (first | exact Drawn0.refl _ | apply Drawn0.step)⟩
                case rest =>
                  clear HC12
                  try clear c1
                  try clear c2
                  try clear c2b0
                  try clear p2
                  try clear c3
                  try clear c3b0
                  try clear c4
                  try clear p4
                  try clear q4
                  try clear hx4
                  try clear c6
                  try clear c6b0
                  try clear c6b1
                  try clear c7
                  try clear c7b0
                  try clear c7b1
                  try clear c8
                  try clear c8b0
                  try clear c8b1
                  try clear c9
                  try clear c9b0
                  try clear c9b1
                  try clear c10
                  try clear c10b0
                  try clear c11
                  try clear c13
                  try clear c13b0
                  try clear c13b1
                  try clear c14
                  try clear c14b0
                  try clear c14b1
                  try clear c15
                  try clear c15b0
                  try clear c15b1
                  try clear c16
                  try clear c16b0
                  try clear c16b1
                  try clear c17
                  try clear c17b0
                  try clear c17b1
                  try clear c18
                  try clear c18b0
                  try clear c18b1
                  try clear p2
                  try clear p4
                  try clear q4
                  obtain ⟨kq, x37_11, rfl, HA, HJ11, ⟨mc11, rfl⟩⟩ := hcut
                  cases kq with
                  | zero => exact absurd HA.out (by simp [spec_MustQuote.j2])
                  | succ kj11 =>
                    have H := HA.out
                    clear HA
                    simp only [spec_MustQuote.j2] at H
                    by_cases c19 : x37_11 = true
                    · subst c19
                      have H1 : (if (a0.size : Int) > 1 then (some true) else (spec_MustQuote.l0 kj11 a0 (wrap64 (x3_1 + 1)))) = some r := by rw [if_pos rfl] at H; exact H
                      clear H
                      have H := H1
                      clear H1
                      by_cases c20 : (a0.size : Int) > 1
                      · rw [if_pos c20] at H
                        have c20b0 : decide (1 < (a0.size : Int)) = true := decide_eq_true c20
                        have c20b1 : decide (1 < a0.size) = true := decide_eq_true (by omega)
                        clear c20
                        obtain rfl := Option.some.inj H
                        go_wp2
                        go_ret
                        exact ⟨by first | rfl | (simp; done) | (simp [*]; done), by repeat (first | exact Drawn0.refl _ | apply Drawn0.step)⟩
                      · rw [if_neg c20] at H
                        have c20b0 : decide (1 < (a0.size : Int)) = false := decide_eq_false c20
                        have c20b1 : decide (1 < a0.size) = false := decide_eq_false (by omega)
                        clear c20
                        have H' := Aside0.mk H
                        clear H
                        go_wp2
                        go_roundg kj11
                        case measure => have := HK1.out; have := HJ4.out; have := HJ11.out; omega
                        case rel => exact ⟨(wrap64 (x3_1 + 1)), (by first | rfl | (simp; done) | (simp [*]; done)), H', ⟨by have := HK1.out; have := HJ4.out; have := HJ11.out; omega⟩, by repeat (first | exact Drawn0.refl _ | apply Drawn0.step)⟩
                    · replace c19 := Bool.eq_false_iff.mpr c19
                      subst c19
                      have H1 : (spec_MustQuote.l0 kj11 a0 (wrap64 (x3_1 + 1))) = some r := by rw [if_neg (show ¬ (false = true) by decide)] at H; exact H
                      clear H
                      have H := H1
                      clear H1
                      have H' := Aside0.mk H
                      clear H
                      go_wp2
                      go_roundg kj11
                      case measure => have := HK1.out; have := HJ4.out; have := HJ11.out; omega
                      case rel => exact ⟨(wrap64 (x3_1 + 1)), (by first | rfl | (simp; done) | (simp [*]; done)), H', ⟨by have := HK1.out; have := HJ4.out; have := HJ11.out; omega⟩, by repeat (first | exact Drawn0.refl _ | apply Drawn0.step)⟩
        · rw [if_neg c3] at H
          exact absurd H (by simp)
      · rw [if_neg c2] at H
        have c2b0 : decide (x3_1 < (a0.size : Int)) = false := decide_eq_false c2
        clear c2
        by_cases c21 : a0.toList = ([] : List UInt8)
        · rw [if_pos c21] at H
          have c21b0 : (a0.toList == ([] : List UInt8)) = true := beq_iff_eq.mpr c21
          have c21b1 : (a0.toList != ([] : List UInt8)) = false := bne_eq_false_iff_eq.mpr c21
          clear c21
          obtain rfl := Option.some.inj H
          go_wp2
          go_ret
          exact ⟨by first | rfl | (simp; done) | (simp [*]; done), by repeat (first | exact Drawn0.refl _ | apply Drawn0.step)⟩
        · rw [if_neg c21] at H
          have c21b0 : (a0.toList == ([] : List UInt8)) = false := beq_eq_false_iff_ne.mpr c21
          have c21b1 : (a0.toList != ([] : List UInt8)) = true := bne_iff_ne.mpr c21
          replace H := Option.bind_eq_some_iff.mp H
          obtain ⟨t101, A220, H⟩ := H
          replace H : (if t101 = true then (some true) else ((spec_Stands.f k1 a0 (⟨#[47, 42]⟩ : ByteArray)).bind fun t102 => (some t102))) = some r := H
          have A22 := Aside0.mk A220
          clear A220
          by_cases c23 : t101 = true
          · subst c23
            have H1 : (some true) = some r := by rw [if_pos rfl] at H; exact H
            clear H
            have H := H1
            clear H1
            obtain rfl := Option.some.inj H
            go_wp2_with (first | (go_at_call 12; (with_reducible refine (spec_Stands.calls k1 a0 (⟨#[47, 47]⟩ : ByteArray) true _ A22.out).mono ?_); rintro e w' ⟨rfl, ⟨nd, rfl⟩⟩))
            go_ret
            exact ⟨by first | rfl | (simp; done) | (simp [*]; done), by repeat (first | exact Drawn0.refl _ | apply Drawn0.step)⟩
          · replace c23 := Bool.eq_false_iff.mpr c23
            subst c23
            have H1 : ((spec_Stands.f k1 a0 (⟨#[47, 42]⟩ : ByteArray)).bind fun t102 => (some t102)) = some r := by rw [if_neg (show ¬ (false = true) by decide)] at H; exact H
            clear H
            have H := H1
            clear H1
            replace H := Option.bind_eq_some_iff.mp H
            obtain ⟨t102, A240, H⟩ := H
            replace H : (some t102) = some r := H
            have A24 := Aside0.mk A240
            clear A240
            obtain rfl := Option.some.inj H
            go_wp2_with (first | (go_at_call 12; (with_reducible refine (spec_Stands.calls k1 a0 (⟨#[47, 47]⟩ : ByteArray) false _ A22.out).mono ?_); rintro e w' ⟨rfl, ⟨nd, rfl⟩⟩) | (go_at_call 12; (with_reducible refine (spec_Stands.calls k1 a0 (⟨#[47, 42]⟩ : ByteArray) t102 _ A24.out).mono ?_); rintro e w' ⟨rfl, ⟨nd, rfl⟩⟩))
            go_ret
            exact ⟨by first | rfl | (simp; done) | (simp [*]; done), by repeat (first | exact Drawn0.refl _ | apply Drawn0.step)⟩

/-- THE ONE PURE STATEMENT of spec_MustQuote: yours. -/
def spec_MustQuote.Pure : Prop := ∀ (a0 : ByteArray), a0.size ≤ 140737488351232 → ∃ k, spec_MustQuote.f k a0 = some true
theorem spec_MustQuote.walk (P : spec_MustQuote.Pure) (a0 : ByteArray) (w : World) (w0 : a0.size ≤ 140737488351232) :
    Calls Tryd.prog 7 #[.string a0] w fun e w' => e = .returned (.bool true) ∧ Below w.heap.size w w' := by
  obtain ⟨k, h⟩ := P a0 w0
  refine (spec_MustQuote.calls k a0 true w h).mono ?_
  rintro e w' ⟨rfl, hd⟩
  exact ⟨rfl, hd.below⟩

end Go.Proofs.YtkmebbdkiamliaaDoor.PMustQuote
