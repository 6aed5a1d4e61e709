-- PRINTED BY print.sh 35421559b90ae4d0a3588c463048766b98c2df88dd9212a6774a882060cdf62d: not written by this session
import Derived.Test.YtlnmchehnhgfnaaDoorPModulePathx0
import Derived.Test.YtlnmchehnhgfnaaDoorPModulePathx1
namespace Go.Proofs.YtlnmchehnhgfnaaDoor.PModulePath
open Go.RowKit Go.Proofs.YtlnmchehnhgfnaaDoorW.PrintWords Go.Proofs.YtlnmchehnhgfnaaDoorW.PrintLast Go.Proofs.YtlnmchehnhgfnaaDoorW.PrintMore
attribute [local go_sem] max2_int min2_int max_two min_two max_three min_three max_four min_four   -- for this text's walks alone
set_option linter.unusedVariables false
set_option linter.unusedSimpArgs false

/-! ### spec_ModulePath: function 8 -/
mutual
def spec_ModulePath.l0 : Nat → List ByteArray → Int → Int → Option (ByteArray)
  | 0, _, _, _ => none
  | k + 1, x7, x8, x9 => if x9 < x8 then (if 0 ≤ x9 then (if x9 < (x7.length : Int) then (spec_ModulePath.l1 k (rdOf ByteArray.empty x7 x9) 0 x7 x8 x9) else (none)) else (none)) else (some (⟨#[]⟩ : ByteArray))
def spec_ModulePath.l1 : Nat → ByteArray → Int → List ByteArray → Int → Int → Option (ByteArray)
  | 0, _, _, _, _, _ => none
  | k + 1, x4, x5, x7, x8, x9 => if (wrap64 (x5 + 1)) < (x4.size : Int) then (if 0 ≤ x5 then (if x5 < (x4.size : Int) then (if (bt x4 x5) = 47 then (if 0 ≤ (wrap64 (x5 + 1)) then (if (bt x4 (wrap64 (x5 + 1))) = 47 then (if x5 ≤ (x4.size : Int) then (spec_ModulePath.l1 k (x4.extract 0 (x5 : Int).toNat) (wrap64 (x5 + 1)) x7 x8 x9) else (none)) else (spec_ModulePath.l1 k x4 (wrap64 (x5 + 1)) x7 x8 x9)) else (none)) else (spec_ModulePath.l1 k x4 (wrap64 (x5 + 1)) x7 x8 x9)) else (none)) else (none)) else ((spec_strip.f k x4).bind fun t116 => ((spec_Begins.f t116 (⟨#[109, 111, 100, 117, 108, 101]⟩ : ByteArray)).bind fun t117 => (if t117 = true then (if (t116.size : Int) > 6 then (if 6 < (t116.size : Int) then ((spec_white.f (bt t116 6)).bind fun t118 => (if t118 = true then (if 6 ≤ (t116.size : Int) then ((spec_strip.f k (t116.extract 6 t116.size)).bind fun t119 => (if t119.toList = ([] : List UInt8) then (spec_ModulePath.l0 k x7 x8 (wrap64 (x9 + 1))) else ((spec_strip.f k (t116.extract 6 t116.size)).bind fun t120 => (some t120)))) else (none)) else (spec_ModulePath.l0 k x7 x8 (wrap64 (x9 + 1))))) else (none)) else (spec_ModulePath.l0 k x7 x8 (wrap64 (x9 + 1)))) else (spec_ModulePath.l0 k x7 x8 (wrap64 (x9 + 1))))))
end
def spec_ModulePath.f (k : Nat) (a0 : ByteArray) : Option (ByteArray) := (spec_Cut.f k a0 10).bind fun t112 => (spec_ModulePath.l0 k t112 (t112.length : Int) 0)
theorem spec_ModulePath.mono_l : ∀ k, (∀ y0 y1 y2, LeO (spec_ModulePath.l0 k y0 y1 y2) (spec_ModulePath.l0 (k + 1) y0 y1 y2)) ∧ (∀ y0 y1 y2 y3 y4, LeO (spec_ModulePath.l1 k y0 y1 y2 y3 y4) (spec_ModulePath.l1 (k + 1) y0 y1 y2 y3 y4))
  | 0 => ⟨fun _ _ _ r h => by simp [spec_ModulePath.l0] at h, fun _ _ _ _ _ r h => by simp [spec_ModulePath.l1] at h⟩
  | k + 1 => by
    obtain ⟨ih0, ih1⟩ := spec_ModulePath.mono_l k
    refine ⟨?_, ?_⟩
    · intro y0 y1 y2
      unfold spec_ModulePath.l0
      repeat' first
      | (with_reducible exact ih0 _ _ _)
      | (with_reducible exact ih1 _ _ _ _ _)
      | (with_reducible exact spec_Cut.mono _ _ _)
      | (with_reducible exact spec_strip.mono _ _)
      | (with_reducible exact LeO.refl _)
      | (with_reducible exact LeO.none _)
      | (with_reducible refine LeO.ite ?_ ?_)
      | (with_reducible refine LeO.bind ?_ (fun _ => ?_))
      | exact ih0 _ _ _
      | exact ih1 _ _ _ _ _
      | exact spec_Cut.mono _ _ _
      | exact spec_strip.mono _ _
      | exact LeO.none _
      | refine LeO.ite ?_ ?_
      | refine LeO.bind ?_ (fun _ => ?_)
    · intro y0 y1 y2 y3 y4
      unfold spec_ModulePath.l1
      repeat' first
      | (with_reducible exact ih0 _ _ _)
      | (with_reducible exact ih1 _ _ _ _ _)
      | (with_reducible exact spec_Cut.mono _ _ _)
      | (with_reducible exact spec_strip.mono _ _)
      | (with_reducible exact LeO.refl _)
      | (with_reducible exact LeO.none _)
      | (with_reducible refine LeO.ite ?_ ?_)
      | (with_reducible refine LeO.bind ?_ (fun _ => ?_))
      | exact ih0 _ _ _
      | exact ih1 _ _ _ _ _
      | exact spec_Cut.mono _ _ _
      | exact spec_strip.mono _ _
      | exact LeO.none _
      | refine LeO.ite ?_ ?_
      | refine LeO.bind ?_ (fun _ => ?_)
theorem spec_ModulePath.mono : ∀ a0 k, LeO (spec_ModulePath.f k a0) (spec_ModulePath.f (k + 1) a0) := by
  intro a0 k
  obtain ⟨ih0, ih1⟩ := spec_ModulePath.mono_l k
  unfold spec_ModulePath.f
  repeat' first
      | (with_reducible exact ih0 _ _ _)
      | (with_reducible exact ih1 _ _ _ _ _)
      | (with_reducible exact spec_Cut.mono _ _ _)
      | (with_reducible exact spec_strip.mono _ _)
      | (with_reducible exact LeO.refl _)
      | (with_reducible exact LeO.none _)
      | (with_reducible refine LeO.ite ?_ ?_)
      | (with_reducible refine LeO.bind ?_ (fun _ => ?_))
      | exact ih0 _ _ _
      | exact ih1 _ _ _ _ _
      | exact spec_Cut.mono _ _ _
      | exact spec_strip.mono _ _
      | exact LeO.none _
      | refine LeO.ite ?_ ?_
      | refine LeO.bind ?_ (fun _ => ?_)
set_option maxHeartbeats 8000000 in
set_option maxRecDepth 100000 in
theorem spec_ModulePath.calls (k : Nat) (a0 : ByteArray) (r : ByteArray) (w : World) (h : spec_ModulePath.f k a0 = some r) :
    Calls Tryd.prog 8 #[.string a0] w fun e w' => e = .returned (.string r) ∧ Below w.heap.size w w' := by
  have HB := Aside0.mk (Below.refl w.heap.size w)
  have H : ((spec_Cut.f k a0 10).bind fun t112 => (spec_ModulePath.l0 k t112 (t112.length : Int) 0)) = some r := h
  clear h
  replace H := Option.bind_eq_some_iff.mp H
  obtain ⟨t112, A20, H⟩ := H
  replace H : (spec_ModulePath.l0 k t112 (t112.length : Int) 0) = some r := H
  have A2 := Aside0.mk A20
  clear A20
  have H' := Aside0.mk H
  clear H
  go_enter Tryd.func8, Tryd.ntmps8
  go_wp2_with (first | ((with_reducible refine gate_callee (f := 14) rfl ?_); refine goesL_ (some 7) rfl rfl Tryd.func14 (by kernel_rfl) rfl #[.string a0, .int .u8 10] rfl (by (try simp only [List.map_toArray, List.map_cons, List.map_nil]); first | done | rfl | (simp only [List.length_drop, List.length_take]; rfl)) ?_; (with_reducible refine (spec_Cut.calls k a0 10 t112 _ A2.out).mono ?_); rintro e w3 ⟨v113, rfl, ho0, hb⟩; refine ⟨_, rfl, ?_⟩; have n0_ := Aside0.mk (Kd.R_lower ho0 (below_size (by repeat (first | (with_reducible first | exact HB.out | apply below_alloc | apply pw_below_drewN | apply below_drew1) | exact HB.out)))); have n1_ := Aside0.mk (below_step (by repeat (first | (with_reducible first | exact HB.out | apply below_alloc | apply pw_below_drewN | apply below_drew1) | exact HB.out)) hb); clear HB; have HO114 := n0_; have HB := n1_; clear n0_ n1_; (try clear hb); (try clear hb2); (try clear hk); (try clear hi); (try clear ho0); obtain ⟨Ao4, co4, eo4⟩ := Kd.R_slice HO114.out; subst eo4))
  go_loopg [9] k (fun kq v9 w' => ∃ (x9_1 : Int), v9 = .int .i64 x9_1 ∧ Aside0 (spec_ModulePath.l0 kq t112 (t112.length : Int) x9_1 = some r) ∧ Aside0 (kq ≤ k) ∧ Aside0 (Kd.R Kd.string 9 w' w.heap.size (fun _ => True) (.slice Ao4 t112.length co4) t112) ∧ Aside0 (Below w.heap.size w w'))
  case atStart => exact ⟨(0), (by first | rfl | (simp; done) | (simp [*]; done)), H', ⟨Nat.le_refl _⟩, ⟨by (with_reducible repeat (first | apply Kd.R_alloc | apply Kd.R_drewN | apply Kd.R_drew)); exact HO114.out⟩, ⟨by repeat (first | (with_reducible first | exact HB.out | apply below_alloc | apply pw_below_drewN | apply below_drew1) | exact HB.out)⟩⟩
  case round =>
    clear H'
    try clear c1
    try clear p2
    obtain ⟨x9_1, rfl, HA, HK1, HO_7, HB⟩ := hrel
    cases gk with
    | zero => exact absurd HA.out (by simp [spec_ModulePath.l0])
    | succ k1 =>
      have H := HA.out
      clear HA
      simp only [spec_ModulePath.l0] at H
      by_cases c5 : x9_1 < (t112.length : Int)
      · rw [if_pos c5] at H
        have c5b0 : decide (x9_1 < (t112.length : Int)) = true := decide_eq_true c5
        clear c5
        by_cases c6 : 0 ≤ x9_1
        · rw [if_pos c6] at H
          have c6b0 : decide (0 ≤ x9_1) = true := decide_eq_true c6
          clear c6
          by_cases c7 : x9_1 < (t112.length : Int)
          · rw [if_pos c7] at H
            have c7b0 : decide (x9_1 < (t112.length : Int)) = true := decide_eq_true c7
            clear c7
            have H' := Aside0.mk H
            clear H
            have p115 : 0 ≤ (x9_1 : Int) := of_decide_eq_true (by first | (with_reducible assumption) | assumption)
            have q115 : x9_1 < (t112.length : Int) := of_decide_eq_true (by first | (with_reducible assumption) | assumption)
            obtain ⟨ad115, e115, hx115_0⟩ := Kd.at_string (Kd.R_reads' HO_7.out).2.2 x9_1 p115 q115
            cases e115
            replace p115 := eq_true p115
            replace q115 := eq_true q115
            go_wp2
            go_loopg [4, 5] k1 (fun kq v4 v5 w' => ∃ (x4_2 : ByteArray) (x5_2 : Int), v4 = .string x4_2 ∧ v5 = .int .i64 x5_2 ∧ Aside0 (spec_ModulePath.l1 kq x4_2 x5_2 t112 (t112.length : Int) x9_1 = some r) ∧ Aside0 (kq ≤ k1) ∧ Aside0 (Kd.R Kd.string 9 w' w.heap.size (fun _ => True) (.slice (some ad115) t112.length co4) t112) ∧ Aside0 (Below w.heap.size w w'))
            case atStart => exact ⟨(rdOf ByteArray.empty t112 x9_1), (0), (by first | rfl | (simp; done) | (simp [*]; done)), (by first | rfl | (simp; done) | (simp [*]; done)), H', ⟨Nat.le_refl _⟩, ⟨by (with_reducible repeat (first | apply Kd.R_alloc | apply Kd.R_drewN | apply Kd.R_drew)); exact HO_7.out⟩, ⟨by repeat (first | (with_reducible first | exact HB.out | apply below_alloc | apply pw_below_drewN | apply below_drew1) | exact HB.out)⟩⟩
            case round =>
              clear H'
              try clear c1
              try clear p1
              try clear q1
              try clear hx1
              try clear p2
              try clear c5
              try clear c5b0
              try clear c6
              try clear c6b0
              try clear c7
              try clear c7b0
              try clear hx115_0
              try clear p115
              try clear p2
              try clear q115
              obtain ⟨x4_2, x5_2, rfl, rfl, HA, HK2, HO_7, HB⟩ := hrel
              cases gk with
              | zero => exact absurd HA.out (by simp [spec_ModulePath.l1])
              | succ k2 =>
                have H := HA.out
                clear HA
                simp only [spec_ModulePath.l1] at H
                by_cases c8 : (wrap64 (x5_2 + 1)) < (x4_2.size : Int)
                · rw [if_pos c8] at H
                  have c8b0 : decide ((wrap64 (x5_2 + 1)) < (x4_2.size : Int)) = true := decide_eq_true c8
                  clear c8
                  by_cases c9 : 0 ≤ x5_2
                  · rw [if_pos c9] at H
                    have c9b0 : decide (0 ≤ x5_2) = true := decide_eq_true c9
                    clear c9
                    by_cases c10 : x5_2 < (x4_2.size : Int)
                    · rw [if_pos c10] at H
                      have c10b0 : decide (x5_2 < (x4_2.size : Int)) = true := decide_eq_true c10
                      clear c10
                      by_cases c12 : (bt x4_2 x5_2) = 47
                      · rw [if_pos c12] at H
                        have c12b0 : ((bt x4_2 x5_2) == 47) = true := beq_iff_eq.mpr c12
                        have c12b1 : ((bt x4_2 x5_2) != 47) = false := bne_eq_false_iff_eq.mpr c12
                        clear c12
                        obtain ⟨ji13, hji13⟩ : ∃ j_ : Int, (wrap64 (x5_2 + 1)) = j_ := ⟨_, rfl⟩
                        replace H : (if 0 ≤ (ji13) then (if (bt x4_2 (ji13)) = 47 then (if x5_2 ≤ (x4_2.size : Int) then (spec_ModulePath.l1 k2 (x4_2.extract 0 (x5_2 : Int).toNat) ji13 t112 (t112.length : Int) x9_1) else (none)) else (spec_ModulePath.l1 k2 x4_2 ji13 t112 (t112.length : Int) x9_1)) else (none)) = some r := by first | (rw [hji13] at H; exact H) | (simp only [hji13] at H ⊢; exact H)
                        (try rw [hji13] at c8b0)
                        have hji13w : (IntKind.i64.wrap (x5_2 + 1)) = ji13 := (i64_w _).trans hji13
                        by_cases c14 : 0 ≤ (ji13)
                        · rw [if_pos c14] at H
                          have c14b0 : decide (0 ≤ (ji13)) = true := decide_eq_true c14
                          clear c14
                          by_cases c16 : (bt x4_2 (ji13)) = 47
                          · rw [if_pos c16] at H
                            have c16b0 : ((bt x4_2 (ji13)) == 47) = true := beq_iff_eq.mpr c16
                            have c16b1 : ((bt x4_2 (ji13)) != 47) = false := bne_eq_false_iff_eq.mpr c16
                            clear c16
                            have c17b0 := eq_true (of_decide_eq_true (by first | (with_reducible assumption) | assumption) : 0 ≤ x5_2)
                            by_cases c18 : x5_2 ≤ (x4_2.size : Int)
                            · rw [if_pos c18] at H
                              have c18b0 := eq_true c18
                              have c18b1 : decide (x5_2 ≤ (x4_2.size : Int)) = true := decide_eq_true c18
                              clear c18
                              have H' := Aside0.mk H
                              clear H
                              have p11 : 0 ≤ (x5_2 : Int) := of_decide_eq_true (by first | (with_reducible assumption) | assumption)
                              have q11 : x5_2 < (x4_2.size : Int) := of_decide_eq_true (by first | (with_reducible assumption) | assumption)
                              have hx11 := bt_at x4_2 x5_2
                              replace p11 := eq_true p11
                              replace q11 := eq_true q11
                              have p15 : 0 ≤ ((ji13) : Int) := of_decide_eq_true (by first | (with_reducible assumption) | assumption)
                              have q15 : (ji13) < (x4_2.size : Int) := of_decide_eq_true (by first | (with_reducible assumption) | assumption)
                              have hx15 := bt_at x4_2 (ji13)
                              replace p15 := eq_true p15
                              replace q15 := eq_true q15
                              go_wp2
                              go_roundg k2
                              case measure => have := HK1.out; have := HK2.out; omega
                              case rel => exact ⟨(x4_2.extract 0 (x5_2 : Int).toNat), (ji13), (by first | rfl | (simp; done) | (simp [*]; done)), (by first | rfl | (simp; done) | (simp only [← hji13] <;> (first | rfl | simp)) | (simp [*]; done)), H', ⟨by have := HK1.out; have := HK2.out; omega⟩, ⟨by (with_reducible repeat (first | apply Kd.R_alloc | apply Kd.R_drewN | apply Kd.R_drew)); exact HO_7.out⟩, ⟨by repeat (first | (with_reducible first | exact HB.out | apply below_alloc | apply pw_below_drewN | apply below_drew1) | exact HB.out)⟩⟩
                            · rw [if_neg c18] at H
                              exact absurd H (by simp)
                          · rw [if_neg c16] at H
                            have c16b0 : ((bt x4_2 (ji13)) == 47) = false := beq_eq_false_iff_ne.mpr c16
                            have c16b1 : ((bt x4_2 (ji13)) != 47) = true := bne_iff_ne.mpr c16
                            have H' := Aside0.mk H
                            clear H
                            have p11 : 0 ≤ (x5_2 : Int) := of_decide_eq_true (by first | (with_reducible assumption) | assumption)
                            have q11 : x5_2 < (x4_2.size : Int) := of_decide_eq_true (by first | (with_reducible assumption) | assumption)
                            have hx11 := bt_at x4_2 x5_2
                            replace p11 := eq_true p11
                            replace q11 := eq_true q11
                            have p15 : 0 ≤ ((ji13) : Int) := of_decide_eq_true (by first | (with_reducible assumption) | assumption)
                            have q15 : (ji13) < (x4_2.size : Int) := of_decide_eq_true (by first | (with_reducible assumption) | assumption)
                            have hx15 := bt_at x4_2 (ji13)
                            replace p15 := eq_true p15
                            replace q15 := eq_true q15
                            go_wp2
                            go_roundg k2
                            case measure => have := HK1.out; have := HK2.out; omega
                            case rel => exact ⟨(x4_2), (ji13), (by first | rfl | (simp; done) | (simp [*]; done)), (by first | rfl | (simp; done) | (simp only [← hji13] <;> (first | rfl | simp)) | (simp [*]; done)), H', ⟨by have := HK1.out; have := HK2.out; omega⟩, ⟨by (with_reducible repeat (first | apply Kd.R_alloc | apply Kd.R_drewN | apply Kd.R_drew)); exact HO_7.out⟩, ⟨by repeat (first | (with_reducible first | exact HB.out | apply below_alloc | apply pw_below_drewN | apply below_drew1) | exact HB.out)⟩⟩
                        · rw [if_neg c14] at H
                          exact absurd H (by simp)
                      · rw [if_neg c12] at H
                        have c12b0 : ((bt x4_2 x5_2) == 47) = false := beq_eq_false_iff_ne.mpr c12
                        have c12b1 : ((bt x4_2 x5_2) != 47) = true := bne_iff_ne.mpr c12
                        have H' := Aside0.mk H
                        clear H
                        have p11 : 0 ≤ (x5_2 : Int) := of_decide_eq_true (by first | (with_reducible assumption) | assumption)
                        have q11 : x5_2 < (x4_2.size : Int) := of_decide_eq_true (by first | (with_reducible assumption) | assumption)
                        have hx11 := bt_at x4_2 x5_2
                        replace p11 := eq_true p11
                        replace q11 := eq_true q11
                        go_wp2
                        go_roundg k2
                        case measure => have := HK1.out; have := HK2.out; omega
                        case rel => exact ⟨(x4_2), (wrap64 (x5_2 + 1)), (by first | rfl | (simp; done) | (simp [*]; done)), (by first | rfl | (simp; done) | (simp [*]; done)), H', ⟨by have := HK1.out; have := HK2.out; omega⟩, ⟨by (with_reducible repeat (first | apply Kd.R_alloc | apply Kd.R_drewN | apply Kd.R_drew)); exact HO_7.out⟩, ⟨by repeat (first | (with_reducible first | exact HB.out | apply below_alloc | apply pw_below_drewN | apply below_drew1) | exact HB.out)⟩⟩
                    · rw [if_neg c10] at H
                      exact absurd H (by simp)
                  · rw [if_neg c9] at H
                    exact absurd H (by simp)
                · rw [if_neg c8] at H
                  have c8b0 : decide ((wrap64 (x5_2 + 1)) < (x4_2.size : Int)) = false := decide_eq_false c8
                  clear c8
                  replace H := Option.bind_eq_some_iff.mp H
                  obtain ⟨t116, A190, H⟩ := H
                  replace H : ((spec_Begins.f t116 (⟨#[109, 111, 100, 117, 108, 101]⟩ : ByteArray)).bind fun t117 => (if t117 = true then (if (t116.size : Int) > 6 then (if 6 < (t116.size : Int) then ((spec_white.f (bt t116 6)).bind fun t118 => (if t118 = true then (if 6 ≤ (t116.size : Int) then ((spec_strip.f k2 (t116.extract 6 t116.size)).bind fun t119 => (if t119.toList = ([] : List UInt8) then (spec_ModulePath.l0 k2 t112 (t112.length : Int) (wrap64 (x9_1 + 1))) else ((spec_strip.f k2 (t116.extract 6 t116.size)).bind fun t120 => (some t120)))) else (none)) else (spec_ModulePath.l0 k2 t112 (t112.length : Int) (wrap64 (x9_1 + 1))))) else (none)) else (spec_ModulePath.l0 k2 t112 (t112.length : Int) (wrap64 (x9_1 + 1)))) else (spec_ModulePath.l0 k2 t112 (t112.length : Int) (wrap64 (x9_1 + 1))))) = some r := H
                  have A19 := Aside0.mk A190
                  clear A190
                  replace H := Option.bind_eq_some_iff.mp H
                  obtain ⟨t117, A200, H⟩ := H
                  replace H : (if t117 = true then (if (t116.size : Int) > 6 then (if 6 < (t116.size : Int) then ((spec_white.f (bt t116 6)).bind fun t118 => (if t118 = true then (if 6 ≤ (t116.size : Int) then ((spec_strip.f k2 (t116.extract 6 t116.size)).bind fun t119 => (if t119.toList = ([] : List UInt8) then (spec_ModulePath.l0 k2 t112 (t112.length : Int) (wrap64 (x9_1 + 1))) else ((spec_strip.f k2 (t116.extract 6 t116.size)).bind fun t120 => (some t120)))) else (none)) else (spec_ModulePath.l0 k2 t112 (t112.length : Int) (wrap64 (x9_1 + 1))))) else (none)) else (spec_ModulePath.l0 k2 t112 (t112.length : Int) (wrap64 (x9_1 + 1)))) else (spec_ModulePath.l0 k2 t112 (t112.length : Int) (wrap64 (x9_1 + 1)))) = some r := H
                  have A20 := Aside0.mk A200
                  clear A200
                  by_cases c21 : t117 = true
                  · subst c21
                    have H1 : (if (t116.size : Int) > 6 then (if 6 < (t116.size : Int) then ((spec_white.f (bt t116 6)).bind fun t118 => (if t118 = true then (if 6 ≤ (t116.size : Int) then ((spec_strip.f k2 (t116.extract 6 t116.size)).bind fun t119 => (if t119.toList = ([] : List UInt8) then (spec_ModulePath.l0 k2 t112 (t112.length : Int) (wrap64 (x9_1 + 1))) else ((spec_strip.f k2 (t116.extract 6 t116.size)).bind fun t120 => (some t120)))) else (none)) else (spec_ModulePath.l0 k2 t112 (t112.length : Int) (wrap64 (x9_1 + 1))))) else (none)) else (spec_ModulePath.l0 k2 t112 (t112.length : Int) (wrap64 (x9_1 + 1)))) = some r := by rw [if_pos rfl] at H; exact H
                    clear H
                    have H := H1
                    clear H1
                    by_cases c22 : (t116.size : Int) > 6
                    · rw [if_pos c22] at H
                      have c22b0 : decide (6 < (t116.size : Int)) = true := decide_eq_true c22
                      have c22b1 : decide (6 < t116.size) = true := decide_eq_true (by omega)
                      clear c22
                      by_cases c23 : 6 < (t116.size : Int)
                      · rw [if_pos c23] at H
                        have c23b0 : decide (6 < (t116.size : Int)) = true := decide_eq_true c23
                        have c23b1 : decide (6 < t116.size) = true := decide_eq_true (by omega)
                        clear c23
                        replace H := Option.bind_eq_some_iff.mp H
                        obtain ⟨t118, A250, H⟩ := H
                        replace H : (if t118 = true then (if 6 ≤ (t116.size : Int) then ((spec_strip.f k2 (t116.extract 6 t116.size)).bind fun t119 => (if t119.toList = ([] : List UInt8) then (spec_ModulePath.l0 k2 t112 (t112.length : Int) (wrap64 (x9_1 + 1))) else ((spec_strip.f k2 (t116.extract 6 t116.size)).bind fun t120 => (some t120)))) else (none)) else (spec_ModulePath.l0 k2 t112 (t112.length : Int) (wrap64 (x9_1 + 1)))) = some r := H
                        have A25 := Aside0.mk A250
                        clear A250
                        by_cases c26 : t118 = true
                        · subst c26
                          have H1 : (if 6 ≤ (t116.size : Int) then ((spec_strip.f k2 (t116.extract 6 t116.size)).bind fun t119 => (if t119.toList = ([] : List UInt8) then (spec_ModulePath.l0 k2 t112 (t112.length : Int) (wrap64 (x9_1 + 1))) else ((spec_strip.f k2 (t116.extract 6 t116.size)).bind fun t120 => (some t120)))) else (none)) = some r := by rw [if_pos rfl] at H; exact H
                          clear H
                          have H := H1
                          clear H1
                          by_cases c27 : 6 ≤ (t116.size : Int)
                          · rw [if_pos c27] at H
                            have c27b0 := eq_true c27
                            have c27b1 : decide (6 ≤ (t116.size : Int)) = true := decide_eq_true c27
                            clear c27
                            replace H := Option.bind_eq_some_iff.mp H
                            obtain ⟨t119, A280, H⟩ := H
                            replace H : (if t119.toList = ([] : List UInt8) then (spec_ModulePath.l0 k2 t112 (t112.length : Int) (wrap64 (x9_1 + 1))) else ((spec_strip.f k2 (t116.extract 6 t116.size)).bind fun t120 => (some t120))) = some r := H
                            have A28 := Aside0.mk A280
                            clear A280
                            by_cases c29 : t119.toList = ([] : List UInt8)
                            · rw [if_pos c29] at H
                              have c29b0 : (t119.toList == ([] : List UInt8)) = true := beq_iff_eq.mpr c29
                              have c29b1 : (t119.toList != ([] : List UInt8)) = false := bne_eq_false_iff_eq.mpr c29
                              clear c29
                              have H' := Aside0.mk H
                              clear H
                              go_wp2_with (first | ((with_reducible refine gate_callee (f := 15) rfl ?_); refine goesL_ (some 35) rfl rfl Tryd.func15 (by kernel_rfl) rfl #[.string x4_2] rfl (by (try simp only [List.map_toArray, List.map_cons, List.map_nil]); first | done | rfl | (simp only [List.length_drop, List.length_take]; rfl)) ?_; (with_reducible refine (spec_strip.calls k2 x4_2 t116 _ A19.out).mono ?_); rintro e w' ⟨rfl, ⟨nd, rfl⟩⟩; refine ⟨_, rfl, ?_⟩) | ((with_reducible refine gate_callee (f := 16) rfl ?_); refine goesL_ (some 37) rfl rfl Tryd.func16 (by kernel_rfl) rfl #[.string t116, .string (⟨#[109, 111, 100, 117, 108, 101]⟩ : ByteArray)] rfl (by (try simp only [List.map_toArray, List.map_cons, List.map_nil]); first | done | rfl | (simp only [List.length_drop, List.length_take]; rfl)) ?_; (with_reducible refine (spec_Begins.calls t116 (⟨#[109, 111, 100, 117, 108, 101]⟩ : ByteArray) true _ A20.out).mono ?_); rintro e w' ⟨rfl, ⟨nd, rfl⟩⟩; refine ⟨_, rfl, ?_⟩; have p24 : 0 ≤ (6 : Int) := (by omega); have q24 : 6 < t116.size := (by have : (6 : Int) < (t116.size : Int) := of_decide_eq_true (by first | (with_reducible assumption) | assumption); omega); have hx24 : ∀ h : 6 < t116.size, ((t116[6]'h).toNat : Int) = bt t116 6 := bt_at t116 6; clear p24; have qi24 : (6 < (t116.size : Int)) = True := eq_true (of_decide_eq_true (by first | (with_reducible assumption) | assumption)); replace q24 := eq_true q24) | (go_at_call 17; (with_reducible refine (spec_white.calls (bt t116 6) true _ A25.out).mono ?_); rintro e w' ⟨rfl, ⟨nd, rfl⟩⟩) | (go_at_call 15; (with_reducible refine (spec_strip.calls k2 (t116.extract 6 t116.size) t119 _ A28.out).mono ?_); rintro e w' ⟨rfl, ⟨nd, rfl⟩⟩))
                              go_roundg k2
                              case measure => have := HK1.out; have := HK2.out; omega
                              case rel => exact ⟨(wrap64 (x9_1 + 1)), (by first | rfl | (simp; done) | (simp [*]; done)), H', ⟨by have := HK1.out; have := HK2.out; omega⟩, ⟨by (with_reducible repeat (first | apply Kd.R_alloc | apply Kd.R_drewN | apply Kd.R_drew)); exact HO_7.out⟩, ⟨by repeat (first | (with_reducible first | exact HB.out | apply below_alloc | apply pw_below_drewN | apply below_drew1) | exact HB.out)⟩⟩
                            · rw [if_neg c29] at H
                              have c29b0 : (t119.toList == ([] : List UInt8)) = false := beq_eq_false_iff_ne.mpr c29
                              have c29b1 : (t119.toList != ([] : List UInt8)) = true := bne_iff_ne.mpr c29
                              have c30b0 := eq_true (of_decide_eq_true (by first | (with_reducible assumption) | assumption) : 6 ≤ (t116.size : Int))
                              replace H := Option.bind_eq_some_iff.mp H
                              obtain ⟨t120, A310, H⟩ := H
                              replace H : (some t120) = some r := H
                              have A31 := Aside0.mk A310
                              clear A310
                              obtain rfl := Option.some.inj H
                              go_wp2_with (first | ((with_reducible refine gate_callee (f := 15) rfl ?_); refine goesL_ (some 35) rfl rfl Tryd.func15 (by kernel_rfl) rfl #[.string x4_2] rfl (by (try simp only [List.map_toArray, List.map_cons, List.map_nil]); first | done | rfl | (simp only [List.length_drop, List.length_take]; rfl)) ?_; (with_reducible refine (spec_strip.calls k2 x4_2 t116 _ A19.out).mono ?_); rintro e w' ⟨rfl, ⟨nd, rfl⟩⟩; refine ⟨_, rfl, ?_⟩) | ((with_reducible refine gate_callee (f := 16) rfl ?_); refine goesL_ (some 37) rfl rfl Tryd.func16 (by kernel_rfl) rfl #[.string t116, .string (⟨#[109, 111, 100, 117, 108, 101]⟩ : ByteArray)] rfl (by (try simp only [List.map_toArray, List.map_cons, List.map_nil]); first | done | rfl | (simp only [List.length_drop, List.length_take]; rfl)) ?_; (with_reducible refine (spec_Begins.calls t116 (⟨#[109, 111, 100, 117, 108, 101]⟩ : ByteArray) true _ A20.out).mono ?_); rintro e w' ⟨rfl, ⟨nd, rfl⟩⟩; refine ⟨_, rfl, ?_⟩; have p24 : 0 ≤ (6 : Int) := (by omega); have q24 : 6 < t116.size := (by have : (6 : Int) < (t116.size : Int) := of_decide_eq_true (by first | (with_reducible assumption) | assumption); omega); have hx24 : ∀ h : 6 < t116.size, ((t116[6]'h).toNat : Int) = bt t116 6 := bt_at t116 6; clear p24; have qi24 : (6 < (t116.size : Int)) = True := eq_true (of_decide_eq_true (by first | (with_reducible assumption) | assumption)); replace q24 := eq_true q24) | (go_at_call 17; (with_reducible refine (spec_white.calls (bt t116 6) true _ A25.out).mono ?_); rintro e w' ⟨rfl, ⟨nd, rfl⟩⟩) | (go_at_call 15; (with_reducible refine (spec_strip.calls k2 (t116.extract 6 t116.size) t119 _ A28.out).mono ?_); rintro e w' ⟨rfl, ⟨nd, rfl⟩⟩) | ((with_reducible refine gate_callee (f := 15) rfl ?_); refine goesL_ (some 56) rfl rfl Tryd.func15 (by kernel_rfl) rfl #[.string (t116.extract 6 t116.size)] rfl (by (try simp only [List.map_toArray, List.map_cons, List.map_nil]); first | done | rfl | (simp only [List.length_drop, List.length_take]; rfl)) ?_; (with_reducible refine (spec_strip.calls k2 (t116.extract 6 t116.size) t120 _ A31.out).mono ?_); rintro e w' ⟨rfl, ⟨nd, rfl⟩⟩; refine ⟨_, rfl, ?_⟩))
                              go_ret
                              exact ⟨by first | rfl | (simp [errW_none, errW_some] <;> rfl) | (simp [*, errW_none, errW_some] <;> rfl), by repeat (first | (with_reducible first | exact HB.out | apply below_alloc | apply pw_below_drewN | apply below_drew1) | exact HB.out)⟩
                          · rw [if_neg c27] at H
                            exact absurd H (by simp)
                        · replace c26 := Bool.eq_false_iff.mpr c26
                          subst c26
                          have H1 : (spec_ModulePath.l0 k2 t112 (t112.length : Int) (wrap64 (x9_1 + 1))) = some r := by rw [if_neg (show ¬ (false = true) by decide)] at H; exact H
                          clear H
                          have H := H1
                          clear H1
                          have H' := Aside0.mk H
                          clear H
                          go_wp2_with (first | ((with_reducible refine gate_callee (f := 15) rfl ?_); refine goesL_ (some 35) rfl rfl Tryd.func15 (by kernel_rfl) rfl #[.string x4_2] rfl (by (try simp only [List.map_toArray, List.map_cons, List.map_nil]); first | done | rfl | (simp only [List.length_drop, List.length_take]; rfl)) ?_; (with_reducible refine (spec_strip.calls k2 x4_2 t116 _ A19.out).mono ?_); rintro e w' ⟨rfl, ⟨nd, rfl⟩⟩; refine ⟨_, rfl, ?_⟩) | ((with_reducible refine gate_callee (f := 16) rfl ?_); refine goesL_ (some 37) rfl rfl Tryd.func16 (by kernel_rfl) rfl #[.string t116, .string (⟨#[109, 111, 100, 117, 108, 101]⟩ : ByteArray)] rfl (by (try simp only [List.map_toArray, List.map_cons, List.map_nil]); first | done | rfl | (simp only [List.length_drop, List.length_take]; rfl)) ?_; (with_reducible refine (spec_Begins.calls t116 (⟨#[109, 111, 100, 117, 108, 101]⟩ : ByteArray) true _ A20.out).mono ?_); rintro e w' ⟨rfl, ⟨nd, rfl⟩⟩; refine ⟨_, rfl, ?_⟩; have p24 : 0 ≤ (6 : Int) := (by omega); have q24 : 6 < t116.size := (by have : (6 : Int) < (t116.size : Int) := of_decide_eq_true (by first | (with_reducible assumption) | assumption); omega); have hx24 : ∀ h : 6 < t116.size, ((t116[6]'h).toNat : Int) = bt t116 6 := bt_at t116 6; clear p24; have qi24 : (6 < (t116.size : Int)) = True := eq_true (of_decide_eq_true (by first | (with_reducible assumption) | assumption)); replace q24 := eq_true q24) | (go_at_call 17; (with_reducible refine (spec_white.calls (bt t116 6) false _ A25.out).mono ?_); rintro e w' ⟨rfl, ⟨nd, rfl⟩⟩))
                          go_roundg k2
                          case measure => have := HK1.out; have := HK2.out; omega
                          case rel => exact ⟨(wrap64 (x9_1 + 1)), (by first | rfl | (simp; done) | (simp [*]; done)), H', ⟨by have := HK1.out; have := HK2.out; omega⟩, ⟨by (with_reducible repeat (first | apply Kd.R_alloc | apply Kd.R_drewN | apply Kd.R_drew)); exact HO_7.out⟩, ⟨by repeat (first | (with_reducible first | exact HB.out | apply below_alloc | apply pw_below_drewN | apply below_drew1) | exact HB.out)⟩⟩
                      · rw [if_neg c23] at H
                        exact absurd H (by simp)
                    · rw [if_neg c22] at H
                      have c22b0 : decide (6 < (t116.size : Int)) = false := decide_eq_false c22
                      have c22b1 : decide (6 < t116.size) = false := decide_eq_false (by omega)
                      clear c22
                      have H' := Aside0.mk H
                      clear H
                      go_wp2_with (first | ((with_reducible refine gate_callee (f := 15) rfl ?_); refine goesL_ (some 35) rfl rfl Tryd.func15 (by kernel_rfl) rfl #[.string x4_2] rfl (by (try simp only [List.map_toArray, List.map_cons, List.map_nil]); first | done | rfl | (simp only [List.length_drop, List.length_take]; rfl)) ?_; (with_reducible refine (spec_strip.calls k2 x4_2 t116 _ A19.out).mono ?_); rintro e w' ⟨rfl, ⟨nd, rfl⟩⟩; refine ⟨_, rfl, ?_⟩) | ((with_reducible refine gate_callee (f := 16) rfl ?_); refine goesL_ (some 37) rfl rfl Tryd.func16 (by kernel_rfl) rfl #[.string t116, .string (⟨#[109, 111, 100, 117, 108, 101]⟩ : ByteArray)] rfl (by (try simp only [List.map_toArray, List.map_cons, List.map_nil]); first | done | rfl | (simp only [List.length_drop, List.length_take]; rfl)) ?_; (with_reducible refine (spec_Begins.calls t116 (⟨#[109, 111, 100, 117, 108, 101]⟩ : ByteArray) true _ A20.out).mono ?_); rintro e w' ⟨rfl, ⟨nd, rfl⟩⟩; refine ⟨_, rfl, ?_⟩))
                      go_roundg k2
                      case measure => have := HK1.out; have := HK2.out; omega
                      case rel => exact ⟨(wrap64 (x9_1 + 1)), (by first | rfl | (simp; done) | (simp [*]; done)), H', ⟨by have := HK1.out; have := HK2.out; omega⟩, ⟨by (with_reducible repeat (first | apply Kd.R_alloc | apply Kd.R_drewN | apply Kd.R_drew)); exact HO_7.out⟩, ⟨by repeat (first | (with_reducible first | exact HB.out | apply below_alloc | apply pw_below_drewN | apply below_drew1) | exact HB.out)⟩⟩
                  · replace c21 := Bool.eq_false_iff.mpr c21
                    subst c21
                    have H1 : (spec_ModulePath.l0 k2 t112 (t112.length : Int) (wrap64 (x9_1 + 1))) = some r := by rw [if_neg (show ¬ (false = true) by decide)] at H; exact H
                    clear H
                    have H := H1
                    clear H1
                    have H' := Aside0.mk H
                    clear H
                    go_wp2_with (first | ((with_reducible refine gate_callee (f := 15) rfl ?_); refine goesL_ (some 35) rfl rfl Tryd.func15 (by kernel_rfl) rfl #[.string x4_2] rfl (by (try simp only [List.map_toArray, List.map_cons, List.map_nil]); first | done | rfl | (simp only [List.length_drop, List.length_take]; rfl)) ?_; (with_reducible refine (spec_strip.calls k2 x4_2 t116 _ A19.out).mono ?_); rintro e w' ⟨rfl, ⟨nd, rfl⟩⟩; refine ⟨_, rfl, ?_⟩) | ((with_reducible refine gate_callee (f := 16) rfl ?_); refine goesL_ (some 37) rfl rfl Tryd.func16 (by kernel_rfl) rfl #[.string t116, .string (⟨#[109, 111, 100, 117, 108, 101]⟩ : ByteArray)] rfl (by (try simp only [List.map_toArray, List.map_cons, List.map_nil]); first | done | rfl | (simp only [List.length_drop, List.length_take]; rfl)) ?_; (with_reducible refine (spec_Begins.calls t116 (⟨#[109, 111, 100, 117, 108, 101]⟩ : ByteArray) false _ A20.out).mono ?_); rintro e w' ⟨rfl, ⟨nd, rfl⟩⟩; refine ⟨_, rfl, ?_⟩))
                    go_roundg k2
                    case measure => have := HK1.out; have := HK2.out; omega
                    case rel => exact ⟨(wrap64 (x9_1 + 1)), (by first | rfl | (simp; done) | (simp [*]; done)), H', ⟨by have := HK1.out; have := HK2.out; omega⟩, ⟨by (with_reducible repeat (first | apply Kd.R_alloc | apply Kd.R_drewN | apply Kd.R_drew)); exact HO_7.out⟩, ⟨by repeat (first | (with_reducible first | exact HB.out | apply below_alloc | apply pw_below_drewN | apply below_drew1) | exact HB.out)⟩⟩
          · rw [if_neg c7] at H
            exact absurd H (by simp)
        · rw [if_neg c6] at H
          exact absurd H (by simp)
      · rw [if_neg c5] at H
        have c5b0 : decide (x9_1 < (t112.length : Int)) = false := decide_eq_false c5
        clear c5
        obtain rfl := Option.some.inj H
        go_wp2
        go_ret
        exact ⟨by first | rfl | (simp [errW_none, errW_some] <;> rfl) | (simp [*, errW_none, errW_some] <;> rfl), by repeat (first | (with_reducible first | exact HB.out | apply below_alloc | apply pw_below_drewN | apply below_drew1) | exact HB.out)⟩

end Go.Proofs.YtlnmchehnhgfnaaDoor.PModulePath
