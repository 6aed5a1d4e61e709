import Derived.Test.YtbifcpokkfiagaaDoorPFmx0
import Derived.Test.YtbifcpokkfiagaaDoorPFmx1
namespace Go.Proofs.YtbifcpokkfiagaaDoor.PFm
open Go.RowKit Go.Proofs.YtbifcpokkfiagaaDoorW.PrintWords Go.Proofs.YtbifcpokkfiagaaDoorW.PrintLast Go.Proofs.YtbifcpokkfiagaaDoorW.PrintMore
attribute [local go_sem] max2_int min2_int max_two min_two max_three min_three max_four min_four   -- for this text's walks alone
set_option linter.unusedVariables false
set_option linter.unusedSimpArgs false

/-! ### spec_WordOk: function 21 -/
def spec_WordOk.l0 : Nat → ByteArray → Int → Option (Bool)
  | 0, _, _ => none
  | k + 1, x0, x3 => if x3 < (x0.size : Int) then (if 0 ≤ x3 then ((spec_letter.f (bt x0 x3)).bind fun t115 => (if t115 = true then (spec_WordOk.l0 k x0 (wrap64 (x3 + 1))) else ((spec_digit.f (bt x0 x3)).bind fun t116 => (if t116 = true then (spec_WordOk.l0 k x0 (wrap64 (x3 + 1))) else (if (bt x0 x3) = 46 then (spec_WordOk.l0 k x0 (wrap64 (x3 + 1))) else (some false)))))) else (none)) else (if x0.toList = ([] : List UInt8) then (some false) else (some (decide ((x0.size : Int) ≤ 50))))
def spec_WordOk.f (k : Nat) (a0 : ByteArray) : Option (Bool) := spec_WordOk.l0 k a0 0
theorem spec_WordOk.mono_l : ∀ k, (∀ y0 y1, LeO (spec_WordOk.l0 k y0 y1) (spec_WordOk.l0 (k + 1) y0 y1))
  | 0 => fun _ _ r h => by simp [spec_WordOk.l0] at h
  | k + 1 => by
    have ih0 := spec_WordOk.mono_l k
    · intro y0 y1
      unfold spec_WordOk.l0
      repeat' first
      | (with_reducible exact ih0 _ _)
      | (with_reducible exact LeO.refl _)
      | (with_reducible exact LeO.none _)
      | (with_reducible refine LeO.ite ?_ ?_)
      | (with_reducible refine LeO.bind ?_ (fun _ => ?_))
      | exact ih0 _ _
      | exact LeO.none _
      | refine LeO.ite ?_ ?_
      | refine LeO.bind ?_ (fun _ => ?_)
theorem spec_WordOk.mono : ∀ a0 k, LeO (spec_WordOk.f k a0) (spec_WordOk.f (k + 1) a0) := by
  intro a0 k
  have ih0 := spec_WordOk.mono_l k
  unfold spec_WordOk.f
  repeat' first
      | (with_reducible exact ih0 _ _)
      | (with_reducible exact LeO.refl _)
      | (with_reducible exact LeO.none _)
      | (with_reducible refine LeO.ite ?_ ?_)
      | (with_reducible refine LeO.bind ?_ (fun _ => ?_))
      | exact ih0 _ _
      | exact LeO.none _
      | refine LeO.ite ?_ ?_
      | refine LeO.bind ?_ (fun _ => ?_)
set_option maxHeartbeats 8000000 in
set_option maxRecDepth 100000 in
theorem spec_WordOk.calls (k : Nat) (a0 : ByteArray) (r : Bool) (w : World) (h : spec_WordOk.f k a0 = some r) :
    Calls Tryd.prog 21 #[.string a0] w fun e w' => e = .returned (.bool r) ∧ Drawn0 w w' := by
  have H : (spec_WordOk.l0 k a0 0) = some r := h
  clear h
  have H' := Aside0.mk H
  clear H
  go_enter Tryd.func21, Tryd.ntmps21
  go_wp2
  go_loopg [3] k (fun kq v3 w' => ∃ (x3_1 : Int), v3 = .int .i64 x3_1 ∧ Aside0 (spec_WordOk.l0 kq a0 x3_1 = some r) ∧ Aside0 (kq ≤ k) ∧ Drawn0 w w')
  case atStart => exact ⟨(0), (by first | rfl | (simp; done) | (simp [*]; done)), H', ⟨Nat.le_refl _⟩, by repeat (first | exact Drawn0.refl _ | apply Drawn0.step)⟩
  case round =>
    clear H'
    obtain ⟨x3_1, rfl, HA, HK1, ⟨m1, rfl⟩⟩ := hrel
    cases gk with
    | zero => exact absurd HA.out (by simp [spec_WordOk.l0])
    | succ k1 =>
      have H := HA.out
      clear HA
      simp only [spec_WordOk.l0] at H
      by_cases c2 : x3_1 < (a0.size : Int)
      · rw [if_pos c2] at H
        have c2b0 : decide (x3_1 < (a0.size : Int)) = true := decide_eq_true c2
        clear c2
        by_cases c3 : 0 ≤ x3_1
        · rw [if_pos c3] at H
          have c3b0 : decide (0 ≤ x3_1) = true := decide_eq_true c3
          clear c3
          replace H := Option.bind_eq_some_iff.mp H
          obtain ⟨t115, A50, H⟩ := H
          replace H : (if t115 = true then (spec_WordOk.l0 k1 a0 (wrap64 (x3_1 + 1))) else ((spec_digit.f (bt a0 x3_1)).bind fun t116 => (if t116 = true then (spec_WordOk.l0 k1 a0 (wrap64 (x3_1 + 1))) else (if (bt a0 x3_1) = 46 then (spec_WordOk.l0 k1 a0 (wrap64 (x3_1 + 1))) else (some false))))) = some r := H
          have A5 := Aside0.mk A50
          clear A50
          by_cases c6 : t115 = true
          · subst c6
            have H1 : (spec_WordOk.l0 k1 a0 (wrap64 (x3_1 + 1))) = some r := by rw [if_pos rfl] at H; exact H
            clear H
            have H := H1
            clear H1
            have H' := Aside0.mk H
            clear H
            have p4 : 0 ≤ (x3_1 : Int) := of_decide_eq_true (by first | (with_reducible assumption) | assumption)
            have q4 : x3_1 < (a0.size : Int) := of_decide_eq_true (by first | (with_reducible assumption) | assumption)
            have hx4 := bt_at a0 x3_1
            replace p4 := eq_true p4
            replace q4 := eq_true q4
            go_wp2_with (first | ((with_reducible refine gate_callee (f := 29) rfl ?_); refine goesL_ (some 13) rfl rfl Tryd.func29 (by kernel_rfl) rfl #[.int .u8 (bt a0 x3_1)] rfl (by (try simp only [List.map_toArray, List.map_cons, List.map_nil]); first | done | rfl | (simp only [List.length_drop, List.length_take]; rfl)) ?_; (with_reducible refine (spec_letter.calls (bt a0 x3_1) true _ A5.out).mono ?_); rintro e w' ⟨rfl, ⟨nd, rfl⟩⟩; refine ⟨_, rfl, ?_⟩))
            go_roundg k1
            case measure => have := HK1.out; omega
            case rel => exact ⟨(wrap64 (x3_1 + 1)), (by first | rfl | (simp; done) | (simp [*]; done)), H', ⟨by have := HK1.out; omega⟩, by repeat (first | exact Drawn0.refl _ | apply Drawn0.step)⟩
          · replace c6 := Bool.eq_false_iff.mpr c6
            subst c6
            have H1 : ((spec_digit.f (bt a0 x3_1)).bind fun t116 => (if t116 = true then (spec_WordOk.l0 k1 a0 (wrap64 (x3_1 + 1))) else (if (bt a0 x3_1) = 46 then (spec_WordOk.l0 k1 a0 (wrap64 (x3_1 + 1))) else (some false)))) = some r := by rw [if_neg (show ¬ (false = true) by decide)] at H; exact H
            clear H
            have H := H1
            clear H1
            replace H := Option.bind_eq_some_iff.mp H
            obtain ⟨t116, A80, H⟩ := H
            replace H : (if t116 = true then (spec_WordOk.l0 k1 a0 (wrap64 (x3_1 + 1))) else (if (bt a0 x3_1) = 46 then (spec_WordOk.l0 k1 a0 (wrap64 (x3_1 + 1))) else (some false))) = some r := H
            have A8 := Aside0.mk A80
            clear A80
            by_cases c9 : t116 = true
            · subst c9
              have H1 : (spec_WordOk.l0 k1 a0 (wrap64 (x3_1 + 1))) = some r := by rw [if_pos rfl] at H; exact H
              clear H
              have H := H1
              clear H1
              have H' := Aside0.mk H
              clear H
              have p4 : 0 ≤ (x3_1 : Int) := of_decide_eq_true (by first | (with_reducible assumption) | assumption)
              have q4 : x3_1 < (a0.size : Int) := of_decide_eq_true (by first | (with_reducible assumption) | assumption)
              have hx4 := bt_at a0 x3_1
              replace p4 := eq_true p4
              replace q4 := eq_true q4
              go_wp2_with (first | ((with_reducible refine gate_callee (f := 29) rfl ?_); refine goesL_ (some 13) rfl rfl Tryd.func29 (by kernel_rfl) rfl #[.int .u8 (bt a0 x3_1)] rfl (by (try simp only [List.map_toArray, List.map_cons, List.map_nil]); first | done | rfl | (simp only [List.length_drop, List.length_take]; rfl)) ?_; (with_reducible refine (spec_letter.calls (bt a0 x3_1) false _ A5.out).mono ?_); rintro e w' ⟨rfl, ⟨nd, rfl⟩⟩; refine ⟨_, rfl, ?_⟩; have p7 : 0 ≤ (x3_1 : Int) := of_decide_eq_true (by first | (with_reducible assumption) | assumption); have q7 : x3_1 < (a0.size : Int) := of_decide_eq_true (by first | (with_reducible assumption) | assumption); have hx7 := bt_at a0 x3_1; replace p7 := eq_true p7; replace q7 := eq_true q7) | (go_at_call 30; (with_reducible refine (spec_digit.calls (bt a0 x3_1) true _ A8.out).mono ?_); rintro e w' ⟨rfl, ⟨nd, rfl⟩⟩))
              go_roundg k1
              case measure => have := HK1.out; omega
              case rel => exact ⟨(wrap64 (x3_1 + 1)), (by first | rfl | (simp; done) | (simp [*]; done)), H', ⟨by have := HK1.out; omega⟩, by repeat (first | exact Drawn0.refl _ | apply Drawn0.step)⟩
            · replace c9 := Bool.eq_false_iff.mpr c9
              subst c9
              have H1 : (if (bt a0 x3_1) = 46 then (spec_WordOk.l0 k1 a0 (wrap64 (x3_1 + 1))) else (some false)) = some r := by rw [if_neg (show ¬ (false = true) by decide)] at H; exact H
              clear H
              have H := H1
              clear H1
              by_cases c11 : (bt a0 x3_1) = 46
              · rw [if_pos c11] at H
                have c11b0 : ((bt a0 x3_1) == 46) = true := beq_iff_eq.mpr c11
                have c11b1 : ((bt a0 x3_1) != 46) = false := bne_eq_false_iff_eq.mpr c11
                clear c11
                have H' := Aside0.mk H
                clear H
                have p4 : 0 ≤ (x3_1 : Int) := of_decide_eq_true (by first | (with_reducible assumption) | assumption)
                have q4 : x3_1 < (a0.size : Int) := of_decide_eq_true (by first | (with_reducible assumption) | assumption)
                have hx4 := bt_at a0 x3_1
                replace p4 := eq_true p4
                replace q4 := eq_true q4
                go_wp2_with (first | ((with_reducible refine gate_callee (f := 29) rfl ?_); refine goesL_ (some 13) rfl rfl Tryd.func29 (by kernel_rfl) rfl #[.int .u8 (bt a0 x3_1)] rfl (by (try simp only [List.map_toArray, List.map_cons, List.map_nil]); first | done | rfl | (simp only [List.length_drop, List.length_take]; rfl)) ?_; (with_reducible refine (spec_letter.calls (bt a0 x3_1) false _ A5.out).mono ?_); rintro e w' ⟨rfl, ⟨nd, rfl⟩⟩; refine ⟨_, rfl, ?_⟩; have p7 : 0 ≤ (x3_1 : Int) := of_decide_eq_true (by first | (with_reducible assumption) | assumption); have q7 : x3_1 < (a0.size : Int) := of_decide_eq_true (by first | (with_reducible assumption) | assumption); have hx7 := bt_at a0 x3_1; replace p7 := eq_true p7; replace q7 := eq_true q7) | (go_at_call 30; (with_reducible refine (spec_digit.calls (bt a0 x3_1) false _ A8.out).mono ?_); rintro e w' ⟨rfl, ⟨nd, rfl⟩⟩; have p10 : 0 ≤ (x3_1 : Int) := of_decide_eq_true (by first | (with_reducible assumption) | assumption); have q10 : x3_1 < (a0.size : Int) := of_decide_eq_true (by first | (with_reducible assumption) | assumption); have hx10 := bt_at a0 x3_1; replace p10 := eq_true p10; replace q10 := eq_true q10))
                go_roundg k1
                case measure => have := HK1.out; omega
                case rel => exact ⟨(wrap64 (x3_1 + 1)), (by first | rfl | (simp; done) | (simp [*]; done)), H', ⟨by have := HK1.out; omega⟩, by repeat (first | exact Drawn0.refl _ | apply Drawn0.step)⟩
              · rw [if_neg c11] at H
                have c11b0 : ((bt a0 x3_1) == 46) = false := beq_eq_false_iff_ne.mpr c11
                have c11b1 : ((bt a0 x3_1) != 46) = true := bne_iff_ne.mpr c11
                obtain rfl := Option.some.inj H
                have p4 : 0 ≤ (x3_1 : Int) := of_decide_eq_true (by first | (with_reducible assumption) | assumption)
                have q4 : x3_1 < (a0.size : Int) := of_decide_eq_true (by first | (with_reducible assumption) | assumption)
                have hx4 := bt_at a0 x3_1
                replace p4 := eq_true p4
                replace q4 := eq_true q4
                go_wp2_with (first | ((with_reducible refine gate_callee (f := 29) rfl ?_); refine goesL_ (some 13) rfl rfl Tryd.func29 (by kernel_rfl) rfl #[.int .u8 (bt a0 x3_1)] rfl (by (try simp only [List.map_toArray, List.map_cons, List.map_nil]); first | done | rfl | (simp only [List.length_drop, List.length_take]; rfl)) ?_; (with_reducible refine (spec_letter.calls (bt a0 x3_1) false _ A5.out).mono ?_); rintro e w' ⟨rfl, ⟨nd, rfl⟩⟩; refine ⟨_, rfl, ?_⟩; have p7 : 0 ≤ (x3_1 : Int) := of_decide_eq_true (by first | (with_reducible assumption) | assumption); have q7 : x3_1 < (a0.size : Int) := of_decide_eq_true (by first | (with_reducible assumption) | assumption); have hx7 := bt_at a0 x3_1; replace p7 := eq_true p7; replace q7 := eq_true q7) | (go_at_call 30; (with_reducible refine (spec_digit.calls (bt a0 x3_1) false _ A8.out).mono ?_); rintro e w' ⟨rfl, ⟨nd, rfl⟩⟩; have p10 : 0 ≤ (x3_1 : Int) := of_decide_eq_true (by first | (with_reducible assumption) | assumption); have q10 : x3_1 < (a0.size : Int) := of_decide_eq_true (by first | (with_reducible assumption) | assumption); have hx10 := bt_at a0 x3_1; replace p10 := eq_true p10; replace q10 := eq_true q10))
                go_ret
                exact ⟨by first | rfl | (simp; done) | (simp [*]; done), by repeat (first | exact Drawn0.refl _ | apply Drawn0.step)⟩
        · rw [if_neg c3] at H
          exact absurd H (by simp)
      · rw [if_neg c2] at H
        have c2b0 : decide (x3_1 < (a0.size : Int)) = false := decide_eq_false c2
        clear c2
        by_cases c12 : a0.toList = ([] : List UInt8)
        · rw [if_pos c12] at H
          have c12b0 : (a0.toList == ([] : List UInt8)) = true := beq_iff_eq.mpr c12
          have c12b1 : (a0.toList != ([] : List UInt8)) = false := bne_eq_false_iff_eq.mpr c12
          clear c12
          obtain rfl := Option.some.inj H
          go_wp2
          go_ret
          exact ⟨by first | rfl | (simp; done) | (simp [*]; done), by repeat (first | exact Drawn0.refl _ | apply Drawn0.step)⟩
        · rw [if_neg c12] at H
          have c12b0 : (a0.toList == ([] : List UInt8)) = false := beq_eq_false_iff_ne.mpr c12
          have c12b1 : (a0.toList != ([] : List UInt8)) = true := bne_iff_ne.mpr c12
          obtain rfl := Option.some.inj H
          go_wp2
          go_ret
          exact ⟨by first | rfl | (simp; done) | (simp [*]; done), by repeat (first | exact Drawn0.refl _ | apply Drawn0.step)⟩

/-! ### spec_Cut: function 28 -/
def spec_Cut.l0 : Nat → ByteArray → Int → List ByteArray → Int → Int → Option (List ByteArray)
  | 0, _, _, _, _, _ => none
  | k + 1, x0, x1, x5, x6, x7 => if x7 < (x0.size : Int) then (if 0 ≤ x7 then (if (bt x0 x7) = x1 then (if 0 ≤ x6 then (if x6 ≤ x7 then (if x7 ≤ (x0.size : Int) then (if x5.length < 8796093022208 then (spec_Cut.l0 k x0 x1 (x5 ++ [x0.extract (x6 : Int).toNat (x7 : Int).toNat]) (wrap64 (x7 + 1)) (wrap64 (x7 + 1))) else (none)) else (none)) else (none)) else (none)) else (spec_Cut.l0 k x0 x1 x5 x6 (wrap64 (x7 + 1)))) else (none)) else (if 0 ≤ x6 then (if x6 ≤ (x0.size : Int) then (if x5.length < 8796093022208 then (some (x5 ++ [x0.extract (x6 : Int).toNat x0.size])) else (none)) else (none)) else (none))
def spec_Cut.f (k : Nat) (a0 : ByteArray) (a1 : Int) : Option (List ByteArray) := spec_Cut.l0 k a0 a1 (([] : List ByteArray)) 0 0
theorem spec_Cut.mono_l : ∀ k, (∀ y0 y1 y2 y3 y4, LeO (spec_Cut.l0 k y0 y1 y2 y3 y4) (spec_Cut.l0 (k + 1) y0 y1 y2 y3 y4))
  | 0 => fun _ _ _ _ _ r h => by simp [spec_Cut.l0] at h
  | k + 1 => by
    have ih0 := spec_Cut.mono_l k
    · intro y0 y1 y2 y3 y4
      unfold spec_Cut.l0
      repeat' first
      | (with_reducible exact ih0 _ _ _ _ _)
      | (with_reducible exact LeO.refl _)
      | (with_reducible exact LeO.none _)
      | (with_reducible refine LeO.ite ?_ ?_)
      | (with_reducible refine LeO.bind ?_ (fun _ => ?_))
      | exact ih0 _ _ _ _ _
      | exact LeO.none _
      | refine LeO.ite ?_ ?_
      | refine LeO.bind ?_ (fun _ => ?_)
theorem spec_Cut.mono : ∀ a0 a1 k, LeO (spec_Cut.f k a0 a1) (spec_Cut.f (k + 1) a0 a1) := by
  intro a0 a1 k
  have ih0 := spec_Cut.mono_l k
  unfold spec_Cut.f
  repeat' first
      | (with_reducible exact ih0 _ _ _ _ _)
      | (with_reducible exact LeO.refl _)
      | (with_reducible exact LeO.none _)
      | (with_reducible refine LeO.ite ?_ ?_)
      | (with_reducible refine LeO.bind ?_ (fun _ => ?_))
      | exact ih0 _ _ _ _ _
      | exact LeO.none _
      | refine LeO.ite ?_ ?_
      | refine LeO.bind ?_ (fun _ => ?_)
set_option maxHeartbeats 8000000 in
set_option maxRecDepth 100000 in
theorem spec_Cut.calls (k : Nat) (a0 : ByteArray) (a1 : Int) (r : List ByteArray) (w : World) (h : spec_Cut.f k a0 a1 = some r) :
    Calls Tryd.prog 28 #[.string a0, .int .u8 a1] w fun e w' => ∃ v0_ : Value, e = .returned (v0_) ∧ Kd.R Kd.string 9 w' w.heap.size (fun _ => True) v0_ r ∧ Below w.heap.size w w' := by
  have HB := Aside0.mk (Below.refl w.heap.size w)
  have H : (spec_Cut.l0 k a0 a1 (([] : List ByteArray)) 0 0) = some r := h
  clear h
  obtain ⟨y117, hy117⟩ : ∃ y_ : List ByteArray, y_ = (([] : List ByteArray)) := ⟨_, rfl⟩
  replace H : (spec_Cut.l0 k a0 a1 y117 0 0) = some r := by first | (rw [hy117]; with_reducible exact H) | (have H2_ := (Option.bind_some _ _).symm.trans H; rw [hy117]; with_reducible exact H2_) | (have H2_ := (Option.bind_some _ _).symm.trans H; with_reducible exact H2_) | with_reducible exact H | (rw [hy117]; exact H) | exact H
  have Ny117 := Aside0.mk hy117
  clear hy117
  have H' := Aside0.mk H
  clear H
  go_enter Tryd.func28, Tryd.ntmps28
  go_wp2_with (first | ((with_reducible refine gate_dst (N := 8) rfl ?_); refine Kd.R_lit Kd.string _ 9 ?hg (N := 8) ?hd (xs := ([] : List ByteArray)) (inner := []) (ok := fun _ => True) (okp := fun _ => True) ?hr ?hp (fun _ hk => hk) trivial (Below.refl _ _) (Nat.le_refl _) (by simp) ?_; (case hd => rfl); (case hg => rfl); (case hr => first | (go_simp; done) | (go_simp; rfl)); (case hp => exact (Reps.none _ _)); intro v118 w3 ho4 hb hg_ hnew_; clear hg_ hnew_; (first | rw [← Ny117.out] at ho4 | (simp only [Int.reduceToNat] at ho4; rw [← Ny117.out] at ho4)); have n0_ := Aside0.mk (Kd.R_lower ho4 (below_size (by repeat (first | (with_reducible first | exact HB.out | apply below_alloc | apply pw_below_drewN | apply below_drew1) | exact HB.out)))); have n1_ := Aside0.mk (below_step (by repeat (first | (with_reducible first | exact HB.out | apply below_alloc | apply pw_below_drewN | apply below_drew1) | exact HB.out)) hb); clear HB; have HO119 := n0_; have HB := n1_; clear n0_ n1_; clear hb ho4))
  go_loopg [5, 6, 7] k (fun kq v5 v6 v7 w' => ∃ (x5_1 : List ByteArray) (x6_1 : Int) (x7_1 : Int), v6 = .int .i64 x6_1 ∧ v7 = .int .i64 x7_1 ∧ Aside0 (spec_Cut.l0 kq a0 a1 x5_1 x6_1 x7_1 = some r) ∧ Aside0 (kq ≤ k) ∧ Aside0 (Kd.R Kd.string 9 w' w.heap.size (fun _ => True) v5 x5_1) ∧ Aside0 (Below w.heap.size w w'))
  case atStart => exact ⟨(y117), (0), (0), (by first | rfl | (simp; done) | (simp [*]; done)), (by first | rfl | (simp; done) | (simp [*]; done)), H', ⟨Nat.le_refl _⟩, ⟨by (with_reducible repeat (first | apply Kd.R_alloc | apply Kd.R_drewN | apply Kd.R_drew)); exact HO119.out⟩, ⟨by repeat (first | (with_reducible first | exact HB.out | apply below_alloc | apply pw_below_drewN | apply below_drew1) | exact HB.out)⟩⟩
  case round =>
    clear H'
    try clear c2
    try clear p2
    obtain ⟨x5_1, x6_1, x7_1, rfl, rfl, HA, HK1, HO_5, HB⟩ := hrel
    cases gk with
    | zero => exact absurd HA.out (by simp [spec_Cut.l0])
    | succ k1 =>
      have H := HA.out
      clear HA
      simp only [spec_Cut.l0] at H
      by_cases c5 : x7_1 < (a0.size : Int)
      · rw [if_pos c5] at H
        have c5b0 : decide (x7_1 < (a0.size : Int)) = true := decide_eq_true c5
        clear c5
        by_cases c6 : 0 ≤ x7_1
        · rw [if_pos c6] at H
          have c6b0 : decide (0 ≤ x7_1) = true := decide_eq_true c6
          clear c6
          by_cases c8 : (bt a0 x7_1) = a1
          · rw [if_pos c8] at H
            have c8b0 : ((bt a0 x7_1) == a1) = true := beq_iff_eq.mpr c8
            have c8b1 : ((bt a0 x7_1) != a1) = false := bne_eq_false_iff_eq.mpr c8
            clear c8
            by_cases c9 : 0 ≤ x6_1
            · rw [if_pos c9] at H
              have c9b0 := eq_true c9
              have c9b1 : decide (0 ≤ x6_1) = true := decide_eq_true c9
              clear c9
              by_cases c10 : x6_1 ≤ x7_1
              · rw [if_pos c10] at H
                have c10b0 := eq_true c10
                have c10b1 : decide (x6_1 ≤ x7_1) = true := decide_eq_true c10
                clear c10
                by_cases c11 : x7_1 ≤ (a0.size : Int)
                · rw [if_pos c11] at H
                  have c11b0 := eq_true c11
                  have c11b1 : decide (x7_1 ≤ (a0.size : Int)) = true := decide_eq_true c11
                  clear c11
                  by_cases c12 : x5_1.length < 8796093022208
                  · rw [if_pos c12] at H
                    have LMc12 := Aside0.mk c12
                    clear c12
                    obtain ⟨y120, hy120⟩ : ∃ y_ : List ByteArray, y_ = (x5_1 ++ [a0.extract (x6_1 : Int).toNat (x7_1 : Int).toNat]) := ⟨_, rfl⟩
                    replace H : (spec_Cut.l0 k1 a0 a1 y120 (wrap64 (x7_1 + 1)) (wrap64 (x7_1 + 1))) = some r := by first | (rw [hy120]; with_reducible exact H) | (have H2_ := (Option.bind_some _ _).symm.trans H; rw [hy120]; with_reducible exact H2_) | (have H2_ := (Option.bind_some _ _).symm.trans H; with_reducible exact H2_) | with_reducible exact H | (rw [hy120]; exact H) | exact H
                    have Ny120 := Aside0.mk hy120
                    clear hy120
                    have H' := Aside0.mk H
                    clear H
                    have p7 : 0 ≤ (x7_1 : Int) := of_decide_eq_true (by first | (with_reducible assumption) | assumption)
                    have q7 : x7_1 < (a0.size : Int) := of_decide_eq_true (by first | (with_reducible assumption) | assumption)
                    have hx7 := bt_at a0 x7_1
                    replace p7 := eq_true p7
                    replace q7 := eq_true q7
                    go_wp2_with (first | ((with_reducible refine gate_builtin (b := .append) (xs := #[.tmp 20, .tmp 25]) rfl ?_); at_builtin; refine Kd.R_append Kd.string (w0 := w) w.heap.size rfl (.tmp 20) (.tmp 25) 27 9 (.string ⟨#[]⟩) 16 rfl Tryd.underlying27 info9 rfl (by decide) (by omega) u5 x5_1 (a0.extract (x6_1 : Int).toNat (x7_1 : Int).toNat) [.string (a0.extract (x6_1 : Int).toNat (x7_1 : Int).toNat)] (fun _ => True) (fun _ => False) rfl rfl ?aP (fun _ hk => hk.elim) ?aF ?aO ?aB ?aS ?aL ?_; (case aP => exact rfl); (case aB => exact (by repeat (first | (with_reducible first | exact HB.out | apply below_alloc | apply pw_below_drewN | apply below_drew1) | exact HB.out))); (case aF => exact (fun _ _ => trivial)); (case aO => exact (by (with_reducible repeat (first | apply Kd.R_alloc | apply Kd.R_drewN | apply Kd.R_drew)); exact HO_5.out)); (case aS => exact (below_size (by repeat (first | (with_reducible first | exact HB.out | apply below_alloc | apply pw_below_drewN | apply below_drew1) | exact HB.out)))); (case aL => have := LMc12.out; omega); intro v121 w13 ho hb hg hat; rw [← Ny120.out] at ho; have n0_ := Aside0.mk (hb); have n1_ := Aside0.mk (ho); clear HB; clear HO_5; have HB := n0_; have HO122 := n1_; clear n0_ n1_; clear ho hb hg hat))
                    go_roundg k1
                    case measure => have := HK1.out; omega
                    case rel => exact ⟨(y120), (wrap64 (x7_1 + 1)), (wrap64 (x7_1 + 1)), (by first | rfl | (simp; done) | (simp [*]; done)), (by first | rfl | (simp; done) | (simp [*]; done)), H', ⟨by have := HK1.out; omega⟩, ⟨by (with_reducible repeat (first | apply Kd.R_alloc | apply Kd.R_drewN | apply Kd.R_drew)); exact HO122.out⟩, ⟨by repeat (first | (with_reducible first | exact HB.out | apply below_alloc | apply pw_below_drewN | apply below_drew1) | exact HB.out)⟩⟩
                  · rw [if_neg c12] at H
                    exact absurd H (by simp)
                · rw [if_neg c11] at H
                  exact absurd H (by simp)
              · rw [if_neg c10] at H
                exact absurd H (by simp)
            · rw [if_neg c9] at H
              exact absurd H (by simp)
          · rw [if_neg c8] at H
            have c8b0 : ((bt a0 x7_1) == a1) = false := beq_eq_false_iff_ne.mpr c8
            have c8b1 : ((bt a0 x7_1) != a1) = true := bne_iff_ne.mpr c8
            have H' := Aside0.mk H
            clear H
            have p7 : 0 ≤ (x7_1 : Int) := of_decide_eq_true (by first | (with_reducible assumption) | assumption)
            have q7 : x7_1 < (a0.size : Int) := of_decide_eq_true (by first | (with_reducible assumption) | assumption)
            have hx7 := bt_at a0 x7_1
            replace p7 := eq_true p7
            replace q7 := eq_true q7
            go_wp2
            go_roundg k1
            case measure => have := HK1.out; omega
            case rel => exact ⟨(x5_1), (x6_1), (wrap64 (x7_1 + 1)), (by first | rfl | (simp; done) | (simp [*]; done)), (by first | rfl | (simp; done) | (simp [*]; done)), H', ⟨by have := HK1.out; omega⟩, ⟨by (with_reducible repeat (first | apply Kd.R_alloc | apply Kd.R_drewN | apply Kd.R_drew)); exact HO_5.out⟩, ⟨by repeat (first | (with_reducible first | exact HB.out | apply below_alloc | apply pw_below_drewN | apply below_drew1) | exact HB.out)⟩⟩
        · rw [if_neg c6] at H
          exact absurd H (by simp)
      · rw [if_neg c5] at H
        have c5b0 : decide (x7_1 < (a0.size : Int)) = false := decide_eq_false c5
        clear c5
        by_cases c14 : 0 ≤ x6_1
        · rw [if_pos c14] at H
          have c14b0 := eq_true c14
          have c14b1 : decide (0 ≤ x6_1) = true := decide_eq_true c14
          clear c14
          by_cases c15 : x6_1 ≤ (a0.size : Int)
          · rw [if_pos c15] at H
            have c15b0 := eq_true c15
            have c15b1 : decide (x6_1 ≤ (a0.size : Int)) = true := decide_eq_true c15
            clear c15
            by_cases c16 : x5_1.length < 8796093022208
            · rw [if_pos c16] at H
              have LMc16 := Aside0.mk c16
              clear c16
              obtain ⟨y123, hy123⟩ : ∃ y_ : List ByteArray, y_ = (x5_1 ++ [a0.extract (x6_1 : Int).toNat a0.size]) := ⟨_, rfl⟩
              replace H : (some y123) = some r := by first | (rw [hy123]; with_reducible exact H) | (have H2_ := (Option.bind_some _ _).symm.trans H; rw [hy123]; with_reducible exact H2_) | (have H2_ := (Option.bind_some _ _).symm.trans H; with_reducible exact H2_) | with_reducible exact H | (rw [hy123]; exact H) | exact H
              have Ny123 := Aside0.mk hy123
              clear hy123
              obtain rfl := Option.some.inj H
              go_wp2_with (first | ((with_reducible refine gate_builtin (b := .append) (xs := #[.tmp 29, .tmp 33]) rfl ?_); at_builtin; refine Kd.R_append Kd.string (w0 := w) w.heap.size rfl (.tmp 29) (.tmp 33) 27 9 (.string ⟨#[]⟩) 16 rfl Tryd.underlying27 info9 rfl (by decide) (by omega) u5 x5_1 (a0.extract (x6_1 : Int).toNat a0.size) [.string (a0.extract (x6_1 : Int).toNat a0.size)] (fun _ => True) (fun _ => False) rfl rfl ?aP (fun _ hk => hk.elim) ?aF ?aO ?aB ?aS ?aL ?_; (case aP => exact rfl); (case aB => exact (by repeat (first | (with_reducible first | exact HB.out | apply below_alloc | apply pw_below_drewN | apply below_drew1) | exact HB.out))); (case aF => exact (fun _ _ => trivial)); (case aO => exact (by (with_reducible repeat (first | apply Kd.R_alloc | apply Kd.R_drewN | apply Kd.R_drew)); exact HO_5.out)); (case aS => exact (below_size (by repeat (first | (with_reducible first | exact HB.out | apply below_alloc | apply pw_below_drewN | apply below_drew1) | exact HB.out)))); (case aL => have := LMc16.out; omega); intro v124 w17 ho hb hg hat; rw [← Ny123.out] at ho; have n0_ := Aside0.mk (hb); have n1_ := Aside0.mk (ho); clear HB; clear HO_5; have HB := n0_; have HO125 := n1_; clear n0_ n1_; clear ho hb hg hat))
              go_ret
              exact ⟨_, by first | rfl | (simp [errW_none, errW_some] <;> rfl) | (simp [*, errW_none, errW_some] <;> rfl), by (with_reducible repeat (first | apply Kd.R_alloc | apply Kd.R_drewN | apply Kd.R_drew)); exact HO125.out, by repeat (first | (with_reducible first | exact HB.out | apply below_alloc | apply pw_below_drewN | apply below_drew1) | exact HB.out)⟩
            · rw [if_neg c16] at H
              exact absurd H (by simp)
          · rw [if_neg c15] at H
            exact absurd H (by simp)
        · rw [if_neg c14] at H
          exact absurd H (by simp)

/-! ### spec_WhyOk: function 20 -/
def spec_WhyOk.l0 : Nat → ByteArray → List ByteArray → List ByteArray → Int → Int → Option (Bool)
  | 0, _, _, _, _, _ => none
  | k + 1, x0, x3, x8, x9, x10 => if x10 < x9 then (if 0 ≤ x10 then (if x10 < (x8.length : Int) then ((spec_WordOk.f k (rdOf ByteArray.empty x8 x10)).bind fun t130 => (if t130 = true then (spec_WhyOk.l0 k x0 x3 x8 x9 (wrap64 (x10 + 1))) else (some (x0.toList == ([] : List UInt8))))) else (none)) else (none)) else (some (decide ((x3.length : Int) ≤ 20)))
def spec_WhyOk.f (k : Nat) (a0 : ByteArray) : Option (Bool) := (spec_Cut.f k a0 32).bind fun t126 => (spec_WhyOk.l0 k a0 t126 t126 (t126.length : Int) 0)
theorem spec_WhyOk.mono_l : ∀ k, (∀ y0 y1 y2 y3 y4, LeO (spec_WhyOk.l0 k y0 y1 y2 y3 y4) (spec_WhyOk.l0 (k + 1) y0 y1 y2 y3 y4))
  | 0 => fun _ _ _ _ _ r h => by simp [spec_WhyOk.l0] at h
  | k + 1 => by
    have ih0 := spec_WhyOk.mono_l k
    · intro y0 y1 y2 y3 y4
      unfold spec_WhyOk.l0
      repeat' first
      | (with_reducible exact ih0 _ _ _ _ _)
      | (with_reducible exact spec_Cut.mono _ _ _)
      | (with_reducible exact spec_WordOk.mono _ _)
      | (with_reducible exact LeO.refl _)
      | (with_reducible exact LeO.none _)
      | (with_reducible refine LeO.ite ?_ ?_)
      | (with_reducible refine LeO.bind ?_ (fun _ => ?_))
      | exact ih0 _ _ _ _ _
      | exact spec_Cut.mono _ _ _
      | exact spec_WordOk.mono _ _
      | exact LeO.none _
      | refine LeO.ite ?_ ?_
      | refine LeO.bind ?_ (fun _ => ?_)
theorem spec_WhyOk.mono : ∀ a0 k, LeO (spec_WhyOk.f k a0) (spec_WhyOk.f (k + 1) a0) := by
  intro a0 k
  have ih0 := spec_WhyOk.mono_l k
  unfold spec_WhyOk.f
  repeat' first
      | (with_reducible exact ih0 _ _ _ _ _)
      | (with_reducible exact spec_Cut.mono _ _ _)
      | (with_reducible exact spec_WordOk.mono _ _)
      | (with_reducible exact LeO.refl _)
      | (with_reducible exact LeO.none _)
      | (with_reducible refine LeO.ite ?_ ?_)
      | (with_reducible refine LeO.bind ?_ (fun _ => ?_))
      | exact ih0 _ _ _ _ _
      | exact spec_Cut.mono _ _ _
      | exact spec_WordOk.mono _ _
      | exact LeO.none _
      | refine LeO.ite ?_ ?_
      | refine LeO.bind ?_ (fun _ => ?_)
set_option maxHeartbeats 8000000 in
set_option maxRecDepth 100000 in
theorem spec_WhyOk.calls (k : Nat) (a0 : ByteArray) (r : Bool) (w : World) (h : spec_WhyOk.f k a0 = some r) :
    Calls Tryd.prog 20 #[.string a0] w fun e w' => e = .returned (.bool r) ∧ Below w.heap.size w w' := by
  have HB := Aside0.mk (Below.refl w.heap.size w)
  have H : ((spec_Cut.f k a0 32).bind fun t126 => (spec_WhyOk.l0 k a0 t126 t126 (t126.length : Int) 0)) = some r := h
  clear h
  replace H := Option.bind_eq_some_iff.mp H
  obtain ⟨t126, A20, H⟩ := H
  replace H : (spec_WhyOk.l0 k a0 t126 t126 (t126.length : Int) 0) = some r := H
  have A2 := Aside0.mk A20
  clear A20
  have H' := Aside0.mk H
  clear H
  go_enter Tryd.func20, Tryd.ntmps20
  go_wp2_with (first | ((with_reducible refine gate_callee (f := 28) rfl ?_); refine goesL_ (some 7) rfl rfl Tryd.func28 (by kernel_rfl) rfl #[.string a0, .int .u8 32] rfl (by (try simp only [List.map_toArray, List.map_cons, List.map_nil]); first | done | rfl | (simp only [List.length_drop, List.length_take]; rfl)) ?_; (with_reducible refine (spec_Cut.calls k a0 32 t126 _ A2.out).mono ?_); rintro e w3 ⟨v127, rfl, ho0, hb⟩; refine ⟨_, rfl, ?_⟩; have n0_ := Aside0.mk (Kd.R_lower ho0 (below_size (by repeat (first | (with_reducible first | exact HB.out | apply below_alloc | apply pw_below_drewN | apply below_drew1) | exact HB.out)))); have n1_ := Aside0.mk (below_step (by repeat (first | (with_reducible first | exact HB.out | apply below_alloc | apply pw_below_drewN | apply below_drew1) | exact HB.out)) hb); clear HB; have HO128 := n0_; have HB := n1_; clear n0_ n1_; (try clear hb); (try clear hb2); (try clear hk); (try clear hi); (try clear ho0); obtain ⟨Ao4, co4, eo4⟩ := Kd.R_slice HO128.out; subst eo4))
  go_loopg [10] k (fun kq v10 w' => ∃ (x10_1 : Int), v10 = .int .i64 x10_1 ∧ Aside0 (spec_WhyOk.l0 kq a0 t126 t126 (t126.length : Int) x10_1 = some r) ∧ Aside0 (kq ≤ k) ∧ Aside0 (Kd.R Kd.string 9 w' w.heap.size (fun _ => True) (.slice Ao4 t126.length co4) t126) ∧ Aside0 (Kd.R Kd.string 9 w' w.heap.size (fun _ => True) (.slice Ao4 t126.length co4) t126) ∧ Aside0 (Below w.heap.size w w'))
  case atStart => exact ⟨(0), (by first | rfl | (simp; done) | (simp [*]; done)), H', ⟨Nat.le_refl _⟩, ⟨by (with_reducible repeat (first | apply Kd.R_alloc | apply Kd.R_drewN | apply Kd.R_drew)); exact HO128.out⟩, ⟨by (with_reducible repeat (first | apply Kd.R_alloc | apply Kd.R_drewN | apply Kd.R_drew)); exact HO128.out⟩, ⟨by repeat (first | (with_reducible first | exact HB.out | apply below_alloc | apply pw_below_drewN | apply below_drew1) | exact HB.out)⟩⟩
  case round =>
    clear H'
    try clear c2
    try clear p2
    obtain ⟨x10_1, rfl, HA, HK1, HO_3, HO_8, HB⟩ := hrel
    cases gk with
    | zero => exact absurd HA.out (by simp [spec_WhyOk.l0])
    | succ k1 =>
      have H := HA.out
      clear HA
      simp only [spec_WhyOk.l0] at H
      by_cases c5 : x10_1 < (t126.length : Int)
      · rw [if_pos c5] at H
        have c5b0 : decide (x10_1 < (t126.length : Int)) = true := decide_eq_true c5
        clear c5
        by_cases c6 : 0 ≤ x10_1
        · rw [if_pos c6] at H
          have c6b0 : decide (0 ≤ x10_1) = true := decide_eq_true c6
          clear c6
          by_cases c7 : x10_1 < (t126.length : Int)
          · rw [if_pos c7] at H
            have c7b0 : decide (x10_1 < (t126.length : Int)) = true := decide_eq_true c7
            clear c7
            replace H := Option.bind_eq_some_iff.mp H
            obtain ⟨t130, A80, H⟩ := H
            replace H : (if t130 = true then (spec_WhyOk.l0 k1 a0 t126 t126 (t126.length : Int) (wrap64 (x10_1 + 1))) else (some (a0.toList == ([] : List UInt8)))) = some r := H
            have A8 := Aside0.mk A80
            clear A80
            by_cases c9 : t130 = true
            · subst c9
              have H1 : (spec_WhyOk.l0 k1 a0 t126 t126 (t126.length : Int) (wrap64 (x10_1 + 1))) = some r := by rw [if_pos rfl] at H; exact H
              clear H
              have H := H1
              clear H1
              have H' := Aside0.mk H
              clear H
              have p129 : 0 ≤ (x10_1 : Int) := of_decide_eq_true (by first | (with_reducible assumption) | assumption)
              have q129 : x10_1 < (t126.length : Int) := of_decide_eq_true (by first | (with_reducible assumption) | assumption)
              obtain ⟨ad129, e129, hx129_0⟩ := Kd.at_string (Kd.R_reads' HO_8.out).2.2 x10_1 p129 q129
              cases e129
              replace p129 := eq_true p129
              replace q129 := eq_true q129
              go_wp2_with (first | ((with_reducible refine gate_callee (f := 21) rfl ?_); refine goesL_ (some 15) rfl rfl Tryd.func21 (by kernel_rfl) rfl #[.string (rdOf ByteArray.empty t126 x10_1)] rfl (by (try simp only [List.map_toArray, List.map_cons, List.map_nil]); first | done | rfl | (simp only [List.length_drop, List.length_take]; rfl)) ?_; (with_reducible refine (spec_WordOk.calls k1 (rdOf ByteArray.empty t126 x10_1) true _ A8.out).mono ?_); rintro e w' ⟨rfl, ⟨nd, rfl⟩⟩; refine ⟨_, rfl, ?_⟩))
              go_roundg k1
              case measure => have := HK1.out; omega
              case rel => exact ⟨(wrap64 (x10_1 + 1)), (by first | rfl | (simp; done) | (simp [*]; done)), H', ⟨by have := HK1.out; omega⟩, ⟨by (with_reducible repeat (first | apply Kd.R_alloc | apply Kd.R_drewN | apply Kd.R_drew)); exact HO_3.out⟩, ⟨by (with_reducible repeat (first | apply Kd.R_alloc | apply Kd.R_drewN | apply Kd.R_drew)); exact HO_8.out⟩, ⟨by repeat (first | (with_reducible first | exact HB.out | apply below_alloc | apply pw_below_drewN | apply below_drew1) | exact HB.out)⟩⟩
            · replace c9 := Bool.eq_false_iff.mpr c9
              subst c9
              have H1 : (some (a0.toList == ([] : List UInt8))) = some r := by rw [if_neg (show ¬ (false = true) by decide)] at H; exact H
              clear H
              have H := H1
              clear H1
              obtain rfl := Option.some.inj H
              have p129 : 0 ≤ (x10_1 : Int) := of_decide_eq_true (by first | (with_reducible assumption) | assumption)
              have q129 : x10_1 < (t126.length : Int) := of_decide_eq_true (by first | (with_reducible assumption) | assumption)
              obtain ⟨ad129, e129, hx129_0⟩ := Kd.at_string (Kd.R_reads' HO_8.out).2.2 x10_1 p129 q129
              cases e129
              replace p129 := eq_true p129
              replace q129 := eq_true q129
              go_wp2_with (first | ((with_reducible refine gate_callee (f := 21) rfl ?_); refine goesL_ (some 15) rfl rfl Tryd.func21 (by kernel_rfl) rfl #[.string (rdOf ByteArray.empty t126 x10_1)] rfl (by (try simp only [List.map_toArray, List.map_cons, List.map_nil]); first | done | rfl | (simp only [List.length_drop, List.length_take]; rfl)) ?_; (with_reducible refine (spec_WordOk.calls k1 (rdOf ByteArray.empty t126 x10_1) false _ A8.out).mono ?_); rintro e w' ⟨rfl, ⟨nd, rfl⟩⟩; refine ⟨_, rfl, ?_⟩))
              go_ret
              exact ⟨by first | rfl | (simp [errW_none, errW_some] <;> rfl) | (simp [*, errW_none, errW_some] <;> rfl), by repeat (first | (with_reducible first | exact HB.out | apply below_alloc | apply pw_below_drewN | apply below_drew1) | exact HB.out)⟩
          · rw [if_neg c7] at H
            exact absurd H (by simp)
        · rw [if_neg c6] at H
          exact absurd H (by simp)
      · rw [if_neg c5] at H
        have c5b0 : decide (x10_1 < (t126.length : Int)) = false := decide_eq_false c5
        clear c5
        obtain rfl := Option.some.inj H
        go_wp2
        go_ret
        exact ⟨by first | rfl | (simp [errW_none, errW_some] <;> rfl) | (simp [*, errW_none, errW_some] <;> rfl), by repeat (first | (with_reducible first | exact HB.out | apply below_alloc | apply pw_below_drewN | apply below_drew1) | exact HB.out)⟩

/-! ### spec_commentsOk: function 10 -/
def spec_commentsOk.l0 : Nat → List ByteArray → List ByteArray → Int → Int → Option (Bool)
  | 0, _, _, _, _ => none
  | k + 1, x0, x5, x6, x7 => if x7 < x6 then (if 0 ≤ x7 then (if x7 < (x5.length : Int) then ((spec_Begins.f (rdOf ByteArray.empty x5 x7) (⟨#[47, 47, 32]⟩ : ByteArray)).bind fun t132 => (if t132 = true then (if (rdOf ByteArray.empty x5 x7).toList = ([47, 47, 32] : List UInt8) then (some false) else (if 3 ≤ ((rdOf ByteArray.empty x5 x7).size : Int) then ((spec_WhyOk.f k ((rdOf ByteArray.empty x5 x7).extract 3 (rdOf ByteArray.empty x5 x7).size)).bind fun t133 => (if t133 = true then (spec_commentsOk.l0 k x0 x5 x6 (wrap64 (x7 + 1))) else (some false))) else (none))) else (some false))) else (none)) else (none)) else (some (decide ((x0.length : Int) ≤ 10)))
def spec_commentsOk.f (k : Nat) (l0 : List ByteArray) : Option (Bool) := spec_commentsOk.l0 k l0 l0 (l0.length : Int) 0
theorem spec_commentsOk.mono_l : ∀ k, (∀ y0 y1 y2 y3, LeO (spec_commentsOk.l0 k y0 y1 y2 y3) (spec_commentsOk.l0 (k + 1) y0 y1 y2 y3))
  | 0 => fun _ _ _ _ r h => by simp [spec_commentsOk.l0] at h
  | k + 1 => by
    have ih0 := spec_commentsOk.mono_l k
    · intro y0 y1 y2 y3
      unfold spec_commentsOk.l0
      repeat' first
      | (with_reducible exact ih0 _ _ _ _)
      | (with_reducible exact spec_WhyOk.mono _ _)
      | (with_reducible exact LeO.refl _)
      | (with_reducible exact LeO.none _)
      | (with_reducible refine LeO.ite ?_ ?_)
      | (with_reducible refine LeO.bind ?_ (fun _ => ?_))
      | exact ih0 _ _ _ _
      | exact spec_WhyOk.mono _ _
      | exact LeO.none _
      | refine LeO.ite ?_ ?_
      | refine LeO.bind ?_ (fun _ => ?_)
theorem spec_commentsOk.mono : ∀ a0 k, LeO (spec_commentsOk.f k a0) (spec_commentsOk.f (k + 1) a0) := by
  intro a0 k
  have ih0 := spec_commentsOk.mono_l k
  unfold spec_commentsOk.f
  repeat' first
      | (with_reducible exact ih0 _ _ _ _)
      | (with_reducible exact spec_WhyOk.mono _ _)
      | (with_reducible exact LeO.refl _)
      | (with_reducible exact LeO.none _)
      | (with_reducible refine LeO.ite ?_ ?_)
      | (with_reducible refine LeO.bind ?_ (fun _ => ?_))
      | exact ih0 _ _ _ _
      | exact spec_WhyOk.mono _ _
      | exact LeO.none _
      | refine LeO.ite ?_ ?_
      | refine LeO.bind ?_ (fun _ => ?_)
set_option maxHeartbeats 8000000 in
set_option maxRecDepth 100000 in
theorem spec_commentsOk.calls (k : Nat) (A0 : Option Addr) (c0 : Nat) (l0 : List ByteArray) (r : Bool) (w : World) (hr0 : Kd.C Kd.string w A0 l0.length l0) (hc0 : l0.length ≤ c0) (h : spec_commentsOk.f k l0 = some r) :
    Calls Tryd.prog 10 #[.slice A0 l0.length c0] w fun e w' => e = .returned (.bool r) ∧ Below w.heap.size w w' := by
  have HR0 := Aside0.mk hr0
  have HC0 := Aside0.mk hc0
  clear hr0 hc0
  have HB := Aside0.mk (Below.refl w.heap.size w)
  have H : (spec_commentsOk.l0 k l0 l0 (l0.length : Int) 0) = some r := h
  clear h
  have H' := Aside0.mk H
  clear H
  go_enter Tryd.func10, Tryd.ntmps10
  go_wp2
  go_loopg [7] k (fun kq v7 w' => ∃ (x7_1 : Int), v7 = .int .i64 x7_1 ∧ Aside0 (spec_commentsOk.l0 kq l0 l0 (l0.length : Int) x7_1 = some r) ∧ Aside0 (kq ≤ k) ∧ Aside0 (Below w.heap.size w w'))
  case atStart => exact ⟨(0), (by first | rfl | (simp; done) | (simp [*]; done)), H', ⟨Nat.le_refl _⟩, ⟨by repeat (first | (with_reducible first | exact HB.out | apply below_alloc | apply pw_below_drewN | apply below_drew1) | exact HB.out)⟩⟩
  case round =>
    clear H'
    try clear c1
    obtain ⟨x7_1, rfl, HA, HK1, HB⟩ := hrel
    cases gk with
    | zero => exact absurd HA.out (by simp [spec_commentsOk.l0])
    | succ k1 =>
      have H := HA.out
      clear HA
      simp only [spec_commentsOk.l0] at H
      by_cases c2 : x7_1 < (l0.length : Int)
      · rw [if_pos c2] at H
        have c2b0 : decide (x7_1 < (l0.length : Int)) = true := decide_eq_true c2
        clear c2
        by_cases c3 : 0 ≤ x7_1
        · rw [if_pos c3] at H
          have c3b0 : decide (0 ≤ x7_1) = true := decide_eq_true c3
          clear c3
          by_cases c4 : x7_1 < (l0.length : Int)
          · rw [if_pos c4] at H
            have c4b0 : decide (x7_1 < (l0.length : Int)) = true := decide_eq_true c4
            clear c4
            replace H := Option.bind_eq_some_iff.mp H
            obtain ⟨t132, A50, H⟩ := H
            replace H : (if t132 = true then (if (rdOf ByteArray.empty l0 x7_1).toList = ([47, 47, 32] : List UInt8) then (some false) else (if 3 ≤ ((rdOf ByteArray.empty l0 x7_1).size : Int) then ((spec_WhyOk.f k1 ((rdOf ByteArray.empty l0 x7_1).extract 3 (rdOf ByteArray.empty l0 x7_1).size)).bind fun t133 => (if t133 = true then (spec_commentsOk.l0 k1 l0 l0 (l0.length : Int) (wrap64 (x7_1 + 1))) else (some false))) else (none))) else (some false)) = some r := H
            have A5 := Aside0.mk A50
            clear A50
            by_cases c6 : t132 = true
            · subst c6
              have H1 : (if (rdOf ByteArray.empty l0 x7_1).toList = ([47, 47, 32] : List UInt8) then (some false) else (if 3 ≤ ((rdOf ByteArray.empty l0 x7_1).size : Int) then ((spec_WhyOk.f k1 ((rdOf ByteArray.empty l0 x7_1).extract 3 (rdOf ByteArray.empty l0 x7_1).size)).bind fun t133 => (if t133 = true then (spec_commentsOk.l0 k1 l0 l0 (l0.length : Int) (wrap64 (x7_1 + 1))) else (some false))) else (none))) = some r := by rw [if_pos rfl] at H; exact H
              clear H
              have H := H1
              clear H1
              by_cases c7 : (rdOf ByteArray.empty l0 x7_1).toList = ([47, 47, 32] : List UInt8)
              · rw [if_pos c7] at H
                have c7b0 : ((rdOf ByteArray.empty l0 x7_1).toList == ([47, 47, 32] : List UInt8)) = true := beq_iff_eq.mpr c7
                have c7b1 : ((rdOf ByteArray.empty l0 x7_1).toList != ([47, 47, 32] : List UInt8)) = false := bne_eq_false_iff_eq.mpr c7
                clear c7
                obtain rfl := Option.some.inj H
                have p131 : 0 ≤ (x7_1 : Int) := of_decide_eq_true (by first | (with_reducible assumption) | assumption)
                have q131 : x7_1 < (l0.length : Int) := of_decide_eq_true (by first | (with_reducible assumption) | assumption)
                obtain ⟨ad131, e131, hx131_0⟩ := Kd.at_string HR0.out x7_1 p131 q131
                cases e131
                replace hx131_0 := (HB.out.cell (World.block_lt_of_cell? w _ hx131_0)).trans hx131_0
                replace p131 := eq_true p131
                replace q131 := eq_true q131
                go_wp2_with (first | ((with_reducible refine gate_callee (f := 19) rfl ?_); refine goesL_ (some 12) rfl rfl Tryd.func19 (by kernel_rfl) rfl #[.string (rdOf ByteArray.empty l0 x7_1), .string (⟨#[47, 47, 32]⟩ : ByteArray)] rfl (by (try simp only [List.map_toArray, List.map_cons, List.map_nil]); first | done | rfl | (simp only [List.length_drop, List.length_take]; rfl)) ?_; (with_reducible refine (spec_Begins.calls (rdOf ByteArray.empty l0 x7_1) (⟨#[47, 47, 32]⟩ : ByteArray) true _ A5.out).mono ?_); rintro e w' ⟨rfl, ⟨nd, rfl⟩⟩; refine ⟨_, rfl, ?_⟩))
                go_ret
                exact ⟨by first | rfl | (simp [errW_none, errW_some] <;> rfl) | (simp [*, errW_none, errW_some] <;> rfl), by repeat (first | (with_reducible first | exact HB.out | apply below_alloc | apply pw_below_drewN | apply below_drew1) | exact HB.out)⟩
              · rw [if_neg c7] at H
                have c7b0 : ((rdOf ByteArray.empty l0 x7_1).toList == ([47, 47, 32] : List UInt8)) = false := beq_eq_false_iff_ne.mpr c7
                have c7b1 : ((rdOf ByteArray.empty l0 x7_1).toList != ([47, 47, 32] : List UInt8)) = true := bne_iff_ne.mpr c7
                by_cases c8 : 3 ≤ ((rdOf ByteArray.empty l0 x7_1).size : Int)
                · rw [if_pos c8] at H
                  have c8b0 := eq_true c8
                  have c8b1 : decide (3 ≤ ((rdOf ByteArray.empty l0 x7_1).size : Int)) = true := decide_eq_true c8
                  clear c8
                  replace H := Option.bind_eq_some_iff.mp H
                  obtain ⟨t133, A90, H⟩ := H
                  replace H : (if t133 = true then (spec_commentsOk.l0 k1 l0 l0 (l0.length : Int) (wrap64 (x7_1 + 1))) else (some false)) = some r := H
                  have A9 := Aside0.mk A90
                  clear A90
                  by_cases c10 : t133 = true
                  · subst c10
                    have H1 : (spec_commentsOk.l0 k1 l0 l0 (l0.length : Int) (wrap64 (x7_1 + 1))) = some r := by rw [if_pos rfl] at H; exact H
                    clear H
                    have H := H1
                    clear H1
                    have H' := Aside0.mk H
                    clear H
                    have p131 : 0 ≤ (x7_1 : Int) := of_decide_eq_true (by first | (with_reducible assumption) | assumption)
                    have q131 : x7_1 < (l0.length : Int) := of_decide_eq_true (by first | (with_reducible assumption) | assumption)
                    obtain ⟨ad131, e131, hx131_0⟩ := Kd.at_string HR0.out x7_1 p131 q131
                    cases e131
                    replace hx131_0 := (HB.out.cell (World.block_lt_of_cell? w _ hx131_0)).trans hx131_0
                    replace p131 := eq_true p131
                    replace q131 := eq_true q131
                    go_wp2_with (first | ((with_reducible refine gate_callee (f := 19) rfl ?_); refine goesL_ (some 12) rfl rfl Tryd.func19 (by kernel_rfl) rfl #[.string (rdOf ByteArray.empty l0 x7_1), .string (⟨#[47, 47, 32]⟩ : ByteArray)] rfl (by (try simp only [List.map_toArray, List.map_cons, List.map_nil]); first | done | rfl | (simp only [List.length_drop, List.length_take]; rfl)) ?_; (with_reducible refine (spec_Begins.calls (rdOf ByteArray.empty l0 x7_1) (⟨#[47, 47, 32]⟩ : ByteArray) true _ A5.out).mono ?_); rintro e w' ⟨rfl, ⟨nd, rfl⟩⟩; refine ⟨_, rfl, ?_⟩) | (go_at_call 20; (with_reducible refine (spec_WhyOk.calls k1 ((rdOf ByteArray.empty l0 x7_1).extract 3 (rdOf ByteArray.empty l0 x7_1).size) true _ A9.out).mono ?_); rintro e w11 ⟨rfl, hb⟩; have n0_ := Aside0.mk (below_step (by repeat (first | (with_reducible first | exact HB.out | apply below_alloc | apply pw_below_drewN | apply below_drew1) | exact HB.out)) hb); clear HB; have HB := n0_; clear n0_; (try clear hb); (try clear hb2); (try clear hk); (try clear hi)))
                    go_roundg k1
                    case measure => have := HK1.out; omega
                    case rel => exact ⟨(wrap64 (x7_1 + 1)), (by first | rfl | (simp; done) | (simp [*]; done)), H', ⟨by have := HK1.out; omega⟩, ⟨by repeat (first | (with_reducible first | exact HB.out | apply below_alloc | apply pw_below_drewN | apply below_drew1) | exact HB.out)⟩⟩
                  · replace c10 := Bool.eq_false_iff.mpr c10
                    subst c10
                    have H1 : (some false) = some r := by rw [if_neg (show ¬ (false = true) by decide)] at H; exact H
                    clear H
                    have H := H1
                    clear H1
                    obtain rfl := Option.some.inj H
                    have p131 : 0 ≤ (x7_1 : Int) := of_decide_eq_true (by first | (with_reducible assumption) | assumption)
                    have q131 : x7_1 < (l0.length : Int) := of_decide_eq_true (by first | (with_reducible assumption) | assumption)
                    obtain ⟨ad131, e131, hx131_0⟩ := Kd.at_string HR0.out x7_1 p131 q131
                    cases e131
                    replace hx131_0 := (HB.out.cell (World.block_lt_of_cell? w _ hx131_0)).trans hx131_0
                    replace p131 := eq_true p131
                    replace q131 := eq_true q131
                    go_wp2_with (first | ((with_reducible refine gate_callee (f := 19) rfl ?_); refine goesL_ (some 12) rfl rfl Tryd.func19 (by kernel_rfl) rfl #[.string (rdOf ByteArray.empty l0 x7_1), .string (⟨#[47, 47, 32]⟩ : ByteArray)] rfl (by (try simp only [List.map_toArray, List.map_cons, List.map_nil]); first | done | rfl | (simp only [List.length_drop, List.length_take]; rfl)) ?_; (with_reducible refine (spec_Begins.calls (rdOf ByteArray.empty l0 x7_1) (⟨#[47, 47, 32]⟩ : ByteArray) true _ A5.out).mono ?_); rintro e w' ⟨rfl, ⟨nd, rfl⟩⟩; refine ⟨_, rfl, ?_⟩) | (go_at_call 20; (with_reducible refine (spec_WhyOk.calls k1 ((rdOf ByteArray.empty l0 x7_1).extract 3 (rdOf ByteArray.empty l0 x7_1).size) false _ A9.out).mono ?_); rintro e w12 ⟨rfl, hb⟩; have n0_ := Aside0.mk (below_step (by repeat (first | (with_reducible first | exact HB.out | apply below_alloc | apply pw_below_drewN | apply below_drew1) | exact HB.out)) hb); clear HB; have HB := n0_; clear n0_; (try clear hb); (try clear hb2); (try clear hk); (try clear hi)))
                    go_ret
                    exact ⟨by first | rfl | (simp [errW_none, errW_some] <;> rfl) | (simp [*, errW_none, errW_some] <;> rfl), by repeat (first | (with_reducible first | exact HB.out | apply below_alloc | apply pw_below_drewN | apply below_drew1) | exact HB.out)⟩
                · rw [if_neg c8] at H
                  exact absurd H (by simp)
            · replace c6 := Bool.eq_false_iff.mpr c6
              subst c6
              have H1 : (some false) = some r := by rw [if_neg (show ¬ (false = true) by decide)] at H; exact H
              clear H
              have H := H1
              clear H1
              obtain rfl := Option.some.inj H
              have p131 : 0 ≤ (x7_1 : Int) := of_decide_eq_true (by first | (with_reducible assumption) | assumption)
              have q131 : x7_1 < (l0.length : Int) := of_decide_eq_true (by first | (with_reducible assumption) | assumption)
              obtain ⟨ad131, e131, hx131_0⟩ := Kd.at_string HR0.out x7_1 p131 q131
              cases e131
              replace hx131_0 := (HB.out.cell (World.block_lt_of_cell? w _ hx131_0)).trans hx131_0
              replace p131 := eq_true p131
              replace q131 := eq_true q131
              go_wp2_with (first | ((with_reducible refine gate_callee (f := 19) rfl ?_); refine goesL_ (some 12) rfl rfl Tryd.func19 (by kernel_rfl) rfl #[.string (rdOf ByteArray.empty l0 x7_1), .string (⟨#[47, 47, 32]⟩ : ByteArray)] rfl (by (try simp only [List.map_toArray, List.map_cons, List.map_nil]); first | done | rfl | (simp only [List.length_drop, List.length_take]; rfl)) ?_; (with_reducible refine (spec_Begins.calls (rdOf ByteArray.empty l0 x7_1) (⟨#[47, 47, 32]⟩ : ByteArray) false _ A5.out).mono ?_); rintro e w' ⟨rfl, ⟨nd, rfl⟩⟩; refine ⟨_, rfl, ?_⟩))
              go_ret
              exact ⟨by first | rfl | (simp [errW_none, errW_some] <;> rfl) | (simp [*, errW_none, errW_some] <;> rfl), by repeat (first | (with_reducible first | exact HB.out | apply below_alloc | apply pw_below_drewN | apply below_drew1) | exact HB.out)⟩
          · rw [if_neg c4] at H
            exact absurd H (by simp)
        · rw [if_neg c3] at H
          exact absurd H (by simp)
      · rw [if_neg c2] at H
        have c2b0 : decide (x7_1 < (l0.length : Int)) = false := decide_eq_false c2
        clear c2
        obtain rfl := Option.some.inj H
        go_wp2
        go_ret
        exact ⟨by first | rfl | (simp [errW_none, errW_some] <;> rfl) | (simp [*, errW_none, errW_some] <;> rfl), by repeat (first | (with_reducible first | exact HB.out | apply below_alloc | apply pw_below_drewN | apply below_drew1) | exact HB.out)⟩

/-! ### spec_LineOk: function 11 -/
def spec_LineOk.l0 : Nat → List ByteArray → Int → Int → List ByteArray → List ByteArray → ByteArray → Option (Bool)
  | 0, _, _, _, _, _, _ => none
  | k + 1, x6, x7, x8, x135000, x135001, x135002 => if x8 < x7 then (if 0 ≤ x8 then (if x8 < (x6.length : Int) then ((spec_WordOk.f k (rdOf ByteArray.empty x6 x8)).bind fun t136 => (if t136 = true then (spec_LineOk.l0 k x6 x7 (wrap64 (x8 + 1)) x135000 x135001 x135002) else (some false))) else (none)) else (none)) else (if (x135000.length : Int) ≥ 1 then (if (x135000.length : Int) ≤ 10 then ((spec_commentsOk.f k x135001).bind fun t137 => (if t137 = true then (if x135002.toList = ([] : List UInt8) then (some true) else ((spec_commentsOk.f k (([x135002] : List ByteArray))).bind fun t141 => (some t141))) else (some false))) else (some false)) else (some false))
def spec_LineOk.f (k : Nat) (l0_0 : List ByteArray) (l0_1 : List ByteArray) (a0_2 : ByteArray) : Option (Bool) := spec_LineOk.l0 k l0_0 (l0_0.length : Int) 0 l0_0 l0_1 a0_2
theorem spec_LineOk.mono_l : ∀ k, (∀ y0 y1 y2 y3 y4 y5, LeO (spec_LineOk.l0 k y0 y1 y2 y3 y4 y5) (spec_LineOk.l0 (k + 1) y0 y1 y2 y3 y4 y5))
  | 0 => fun _ _ _ _ _ _ r h => by simp [spec_LineOk.l0] at h
  | k + 1 => by
    have ih0 := spec_LineOk.mono_l k
    · intro y0 y1 y2 y3 y4 y5
      unfold spec_LineOk.l0
      repeat' first
      | (with_reducible exact ih0 _ _ _ _ _ _)
      | (with_reducible exact spec_WordOk.mono _ _)
      | (with_reducible exact spec_commentsOk.mono _ _)
      | (with_reducible exact LeO.refl _)
      | (with_reducible exact LeO.none _)
      | (with_reducible refine LeO.ite ?_ ?_)
      | (with_reducible refine LeO.bind ?_ (fun _ => ?_))
      | exact ih0 _ _ _ _ _ _
      | exact spec_WordOk.mono _ _
      | exact spec_commentsOk.mono _ _
      | exact LeO.none _
      | refine LeO.ite ?_ ?_
      | refine LeO.bind ?_ (fun _ => ?_)
theorem spec_LineOk.mono : ∀ a0 a1 a2 k, LeO (spec_LineOk.f k a0 a1 a2) (spec_LineOk.f (k + 1) a0 a1 a2) := by
  intro a0 a1 a2 k
  have ih0 := spec_LineOk.mono_l k
  unfold spec_LineOk.f
  repeat' first
      | (with_reducible exact ih0 _ _ _ _ _ _)
      | (with_reducible exact spec_WordOk.mono _ _)
      | (with_reducible exact spec_commentsOk.mono _ _)
      | (with_reducible exact LeO.refl _)
      | (with_reducible exact LeO.none _)
      | (with_reducible refine LeO.ite ?_ ?_)
      | (with_reducible refine LeO.bind ?_ (fun _ => ?_))
      | exact ih0 _ _ _ _ _ _
      | exact spec_WordOk.mono _ _
      | exact spec_commentsOk.mono _ _
      | exact LeO.none _
      | refine LeO.ite ?_ ?_
      | refine LeO.bind ?_ (fun _ => ?_)
set_option maxHeartbeats 8000000 in
set_option maxRecDepth 100000 in
theorem spec_LineOk.calls (k : Nat) (A0_0 : Option Addr) (c0_0 : Nat) (l0_0 : List ByteArray) (A0_1 : Option Addr) (c0_1 : Nat) (l0_1 : List ByteArray) (a0_2 : ByteArray) (r : Bool) (w : World) (hr0_0 : Kd.C Kd.string w A0_0 l0_0.length l0_0) (hc0_0 : l0_0.length ≤ c0_0) (hr0_1 : Kd.C Kd.string w A0_1 l0_1.length l0_1) (hc0_1 : l0_1.length ≤ c0_1) (h : spec_LineOk.f k l0_0 l0_1 a0_2 = some r) :
    Calls Tryd.prog 11 #[.agg #[.slice A0_0 l0_0.length c0_0, .slice A0_1 l0_1.length c0_1, .string a0_2]] w fun e w' => e = .returned (.bool r) ∧ Below w.heap.size w w' := by
  have hu35 := Tryd.underlying35
  have HR0_0 := Aside0.mk hr0_0
  have HC0_0 := Aside0.mk hc0_0
  clear hr0_0 hc0_0
  have HR0_1 := Aside0.mk hr0_1
  have HC0_1 := Aside0.mk hc0_1
  clear hr0_1 hc0_1
  have HB := Aside0.mk (Below.refl w.heap.size w)
  have H : (spec_LineOk.l0 k l0_0 (l0_0.length : Int) 0 l0_0 l0_1 a0_2) = some r := h
  clear h
  have H' := Aside0.mk H
  clear H
  go_enter Tryd.func11, Tryd.ntmps11
  go_wp2_with (first | ((with_reducible refine gate_dst (N := 1) rfl ?_); (try (refine gate_guard (by rfl) ?_; dsimp only)); refine box_event ?hg (N := 1) ?hd (cs := #[.slice A0_0 l0_0.length c0_0, .slice A0_1 l0_1.length c0_1, .string a0_2]) (t := 35) ?hr ?_; (case hd => rfl); (case hg => rfl); (case hr => first | (go_simp; done) | (go_simp; rfl)); intro gb134 hg w2 hbox hb; have n0_ := Aside0.mk (below_step (by repeat (first | (with_reducible first | exact HB.out | apply below_alloc | apply pw_below_drewN | apply below_drew1) | exact HB.out)) hb); have n1_ := Aside0.mk (hbox); have n2_ := Aside0.mk ((by rw [hg]; exact (below_size (by repeat (first | (with_reducible first | exact HB.out | apply below_alloc | apply pw_below_drewN | apply below_drew1) | exact HB.out))) : w.heap.size ≤ gb134)); have n3_ := Aside0.mk ((by rw [hg]; exact (below_size (by repeat (first | (with_reducible first | exact HB.out | apply below_alloc | apply pw_below_drewN | apply below_drew1) | exact HB.out))) : w.heap.size ≤ gb134)); clear HB; have HB := n0_; have BK134 := n1_; have GW134 := n2_; have GE134 := n3_; clear n0_ n1_ n2_ n3_; clear hb hbox hg; have hcz3_0 : w2.cell? ⟨gb134, 0, none⟩ = some (.slice A0_0 l0_0.length c0_0) := (blk_cell BK134.out 0).trans rfl; have hcz3_1 : w2.cell? ⟨gb134, 1, none⟩ = some (.slice A0_1 l0_1.length c0_1) := (blk_cell BK134.out 1).trans rfl; have hcz3_2 : w2.cell? ⟨gb134, 2, none⟩ = some (.string a0_2) := (blk_cell BK134.out 2).trans rfl; have hfz3_0 := blk_frozen BK134.out 0; have hfz3_1 := blk_frozen BK134.out 1; have hfz3_2 := blk_frozen BK134.out 2))
  go_loopg [8] k (fun kq v8 w' => ∃ (x8_1 : Int), v8 = .int .i64 x8_1 ∧ Aside0 (spec_LineOk.l0 kq l0_0 (l0_0.length : Int) x8_1 l0_0 l0_1 a0_2 = some r) ∧ Aside0 (kq ≤ k) ∧ Aside0 (w'.heap[gb134]? = some (.cells #[(.slice A0_0 l0_0.length c0_0), (.slice A0_1 l0_1.length c0_1), .string a0_2] 35 (0, 0))) ∧ Aside0 (Below w.heap.size w w'))
  case atStart => exact ⟨(0), (by first | rfl | (simp; done) | (simp [*]; done)), H', ⟨Nat.le_refl _⟩, ⟨by (with_reducible repeat (first | refine blk_drewN ?_ _ | refine blk_drew ?_ | refine blk_alloc ?_ _)); exact BK134.out⟩, ⟨by repeat (first | (with_reducible first | exact HB.out | apply below_alloc | apply pw_below_drewN | apply below_drew1 | refine below_set ?_ GE134.out) | exact HB.out)⟩⟩
  case round =>
    clear H'
    try clear c1
    try clear p2
    try clear hcz3_0
    try clear hcz3_1
    try clear hcz3_2
    try clear hfz3_0
    try clear hfz3_1
    try clear hfz3_2
    obtain ⟨x8_1, rfl, HA, HK1, BK134, HB⟩ := hrel
    cases gk with
    | zero => exact absurd HA.out (by simp [spec_LineOk.l0])
    | succ k1 =>
      have H := HA.out
      clear HA
      simp only [spec_LineOk.l0] at H
      by_cases c4 : x8_1 < (l0_0.length : Int)
      · rw [if_pos c4] at H
        have c4b0 : decide (x8_1 < (l0_0.length : Int)) = true := decide_eq_true c4
        clear c4
        by_cases c5 : 0 ≤ x8_1
        · rw [if_pos c5] at H
          have c5b0 : decide (0 ≤ x8_1) = true := decide_eq_true c5
          clear c5
          by_cases c6 : x8_1 < (l0_0.length : Int)
          · rw [if_pos c6] at H
            have c6b0 : decide (x8_1 < (l0_0.length : Int)) = true := decide_eq_true c6
            clear c6
            replace H := Option.bind_eq_some_iff.mp H
            obtain ⟨t136, A70, H⟩ := H
            replace H : (if t136 = true then (spec_LineOk.l0 k1 l0_0 (l0_0.length : Int) (wrap64 (x8_1 + 1)) l0_0 l0_1 a0_2) else (some false)) = some r := H
            have A7 := Aside0.mk A70
            clear A70
            by_cases c8 : t136 = true
            · subst c8
              have H1 : (spec_LineOk.l0 k1 l0_0 (l0_0.length : Int) (wrap64 (x8_1 + 1)) l0_0 l0_1 a0_2) = some r := by rw [if_pos rfl] at H; exact H
              clear H
              have H := H1
              clear H1
              have H' := Aside0.mk H
              clear H
              have p135 : 0 ≤ (x8_1 : Int) := of_decide_eq_true (by first | (with_reducible assumption) | assumption)
              have q135 : x8_1 < (l0_0.length : Int) := of_decide_eq_true (by first | (with_reducible assumption) | assumption)
              obtain ⟨ad135, e135, hx135_0⟩ := Kd.at_string HR0_0.out x8_1 p135 q135
              cases e135
              replace hx135_0 := (HB.out.cell (World.block_lt_of_cell? w _ hx135_0)).trans hx135_0
              replace p135 := eq_true p135
              replace q135 := eq_true q135
              go_wp2_with (first | ((with_reducible refine gate_callee (f := 21) rfl ?_); refine goesL_ (some 13) rfl rfl Tryd.func21 (by kernel_rfl) rfl #[.string (rdOf ByteArray.empty l0_0 x8_1)] rfl (by (try simp only [List.map_toArray, List.map_cons, List.map_nil]); first | done | rfl | (simp only [List.length_drop, List.length_take]; rfl)) ?_; (with_reducible refine (spec_WordOk.calls k1 (rdOf ByteArray.empty l0_0 x8_1) true _ A7.out).mono ?_); rintro e w' ⟨rfl, ⟨nd, rfl⟩⟩; refine ⟨_, rfl, ?_⟩))
              go_roundg k1
              case measure => have := HK1.out; omega
              case rel => exact ⟨(wrap64 (x8_1 + 1)), (by first | rfl | (simp; done) | (simp [*]; done)), H', ⟨by have := HK1.out; omega⟩, ⟨by (with_reducible repeat (first | refine blk_drewN ?_ _ | refine blk_drew ?_ | refine blk_alloc ?_ _)); exact BK134.out⟩, ⟨by repeat (first | (with_reducible first | exact HB.out | apply below_alloc | apply pw_below_drewN | apply below_drew1 | refine below_set ?_ GE134.out) | exact HB.out)⟩⟩
            · replace c8 := Bool.eq_false_iff.mpr c8
              subst c8
              have H1 : (some false) = some r := by rw [if_neg (show ¬ (false = true) by decide)] at H; exact H
              clear H
              have H := H1
              clear H1
              obtain rfl := Option.some.inj H
              have p135 : 0 ≤ (x8_1 : Int) := of_decide_eq_true (by first | (with_reducible assumption) | assumption)
              have q135 : x8_1 < (l0_0.length : Int) := of_decide_eq_true (by first | (with_reducible assumption) | assumption)
              obtain ⟨ad135, e135, hx135_0⟩ := Kd.at_string HR0_0.out x8_1 p135 q135
              cases e135
              replace hx135_0 := (HB.out.cell (World.block_lt_of_cell? w _ hx135_0)).trans hx135_0
              replace p135 := eq_true p135
              replace q135 := eq_true q135
              go_wp2_with (first | ((with_reducible refine gate_callee (f := 21) rfl ?_); refine goesL_ (some 13) rfl rfl Tryd.func21 (by kernel_rfl) rfl #[.string (rdOf ByteArray.empty l0_0 x8_1)] rfl (by (try simp only [List.map_toArray, List.map_cons, List.map_nil]); first | done | rfl | (simp only [List.length_drop, List.length_take]; rfl)) ?_; (with_reducible refine (spec_WordOk.calls k1 (rdOf ByteArray.empty l0_0 x8_1) false _ A7.out).mono ?_); rintro e w' ⟨rfl, ⟨nd, rfl⟩⟩; refine ⟨_, rfl, ?_⟩))
              go_ret
              exact ⟨by first | rfl | (simp [errW_none, errW_some] <;> rfl) | (simp [*, errW_none, errW_some] <;> rfl), by repeat (first | (with_reducible first | exact HB.out | apply below_alloc | apply pw_below_drewN | apply below_drew1 | refine below_set ?_ GE134.out) | exact HB.out)⟩
          · rw [if_neg c6] at H
            exact absurd H (by simp)
        · rw [if_neg c5] at H
          exact absurd H (by simp)
      · rw [if_neg c4] at H
        have c4b0 : decide (x8_1 < (l0_0.length : Int)) = false := decide_eq_false c4
        clear c4
        by_cases c9 : (l0_0.length : Int) ≥ 1
        · rw [if_pos c9] at H
          have c9b0 : decide (1 ≤ (l0_0.length : Int)) = true := decide_eq_true c9
          have c9b1 : decide (1 ≤ l0_0.length) = true := decide_eq_true (by omega)
          clear c9
          by_cases c10 : (l0_0.length : Int) ≤ 10
          · rw [if_pos c10] at H
            have c10b0 : decide ((l0_0.length : Int) ≤ 10) = true := decide_eq_true c10
            have c10b1 : decide (l0_0.length ≤ 10) = true := decide_eq_true (by omega)
            clear c10
            replace H := Option.bind_eq_some_iff.mp H
            obtain ⟨t137, A110, H⟩ := H
            replace H : (if t137 = true then (if a0_2.toList = ([] : List UInt8) then (some true) else ((spec_commentsOk.f k1 (([a0_2] : List ByteArray))).bind fun t141 => (some t141))) else (some false)) = some r := H
            have A11 := Aside0.mk A110
            clear A110
            by_cases c12 : t137 = true
            · subst c12
              have H1 : (if a0_2.toList = ([] : List UInt8) then (some true) else ((spec_commentsOk.f k1 (([a0_2] : List ByteArray))).bind fun t141 => (some t141))) = some r := by rw [if_pos rfl] at H; exact H
              clear H
              have H := H1
              clear H1
              by_cases c13 : a0_2.toList = ([] : List UInt8)
              · rw [if_pos c13] at H
                have c13b0 : (a0_2.toList == ([] : List UInt8)) = true := beq_iff_eq.mpr c13
                have c13b1 : (a0_2.toList != ([] : List UInt8)) = false := bne_eq_false_iff_eq.mpr c13
                clear c13
                obtain rfl := Option.some.inj H
                have hcz14_0 : wr.cell? ⟨gb134, 0, none⟩ = some (.slice A0_0 l0_0.length c0_0) := (blk_cell BK134.out 0).trans rfl
                have hcz14_1 : wr.cell? ⟨gb134, 1, none⟩ = some (.slice A0_1 l0_1.length c0_1) := (blk_cell BK134.out 1).trans rfl
                have hcz14_2 : wr.cell? ⟨gb134, 2, none⟩ = some (.string a0_2) := (blk_cell BK134.out 2).trans rfl
                have hfz14_0 := blk_frozen BK134.out 0
                have hfz14_1 := blk_frozen BK134.out 1
                have hfz14_2 := blk_frozen BK134.out 2
                go_wp2_with (first | (go_at_call 10; (with_reducible refine (spec_commentsOk.calls k1 _ _ l0_1 true _ ?side1 ?side2 A11.out).mono ?_); (case side1 => repeat (first | exact (Kd.C_below HR0_1.out HB.out) | (with_reducible refine Kd.C_alloc ?_ _) | (with_reducible refine Kd.C_drewN ?_ _) | (with_reducible refine Kd.C_drew ?_))); (case side2 => exact HC0_1.out); rintro e w15 ⟨rfl, hb⟩; have n0_ := Aside0.mk (blk_below (g := gb134) (o := .cells #[.slice A0_0 l0_0.length c0_0, .slice A0_1 l0_1.length c0_1, .string a0_2] 35 (0, 0)) (by (with_reducible repeat (first | refine blk_drewN ?_ _ | refine blk_drew ?_ | refine blk_alloc ?_ _)); exact BK134.out) hb); have n1_ := Aside0.mk (below_step (by repeat (first | (with_reducible first | exact HB.out | apply below_alloc | apply pw_below_drewN | apply below_drew1 | refine below_set ?_ GE134.out) | exact HB.out)) hb); clear BK134; clear HB; have BK134 := n0_; have HB := n1_; clear n0_ n1_; (try clear hb); (try clear hb2); (try clear hk); (try clear hi); have hcz16_0 : w15.cell? ⟨gb134, 0, none⟩ = some (.slice A0_0 l0_0.length c0_0) := (blk_cell BK134.out 0).trans rfl; have hcz16_1 : w15.cell? ⟨gb134, 1, none⟩ = some (.slice A0_1 l0_1.length c0_1) := (blk_cell BK134.out 1).trans rfl; have hcz16_2 : w15.cell? ⟨gb134, 2, none⟩ = some (.string a0_2) := (blk_cell BK134.out 2).trans rfl; have hfz16_0 := blk_frozen BK134.out 0; have hfz16_1 := blk_frozen BK134.out 1; have hfz16_2 := blk_frozen BK134.out 2))
                go_ret
                exact ⟨by first | rfl | (simp [errW_none, errW_some] <;> rfl) | (simp [*, errW_none, errW_some] <;> rfl), by repeat (first | (with_reducible first | exact HB.out | apply below_alloc | apply pw_below_drewN | apply below_drew1 | refine below_set ?_ GE134.out) | exact HB.out)⟩
              · rw [if_neg c13] at H
                have c13b0 : (a0_2.toList == ([] : List UInt8)) = false := beq_eq_false_iff_ne.mpr c13
                have c13b1 : (a0_2.toList != ([] : List UInt8)) = true := bne_iff_ne.mpr c13
                obtain ⟨y138, hy138⟩ : ∃ y_ : List ByteArray, y_ = (([a0_2] : List ByteArray)) := ⟨_, rfl⟩
                replace H : ((spec_commentsOk.f k1 y138).bind fun t141 => (some t141)) = some r := by first | (rw [hy138]; with_reducible exact H) | (have H2_ := (Option.bind_some _ _).symm.trans H; rw [hy138]; with_reducible exact H2_) | (have H2_ := (Option.bind_some _ _).symm.trans H; with_reducible exact H2_) | with_reducible exact H | (rw [hy138]; exact H) | exact H
                have Ny138 := Aside0.mk hy138
                clear hy138
                replace H := Option.bind_eq_some_iff.mp H
                obtain ⟨t141, A170, H⟩ := H
                replace H : (some t141) = some r := H
                have A17 := Aside0.mk A170
                clear A170
                obtain rfl := Option.some.inj H
                have hcz18_0 : wr.cell? ⟨gb134, 0, none⟩ = some (.slice A0_0 l0_0.length c0_0) := (blk_cell BK134.out 0).trans rfl
                have hcz18_1 : wr.cell? ⟨gb134, 1, none⟩ = some (.slice A0_1 l0_1.length c0_1) := (blk_cell BK134.out 1).trans rfl
                have hcz18_2 : wr.cell? ⟨gb134, 2, none⟩ = some (.string a0_2) := (blk_cell BK134.out 2).trans rfl
                have hfz18_0 := blk_frozen BK134.out 0
                have hfz18_1 := blk_frozen BK134.out 1
                have hfz18_2 := blk_frozen BK134.out 2
                go_wp2_with (first | (go_at_call 10; (with_reducible refine (spec_commentsOk.calls k1 _ _ l0_1 true _ ?side1 ?side2 A11.out).mono ?_); (case side1 => repeat (first | exact (Kd.C_below HR0_1.out HB.out) | (with_reducible refine Kd.C_alloc ?_ _) | (with_reducible refine Kd.C_drewN ?_ _) | (with_reducible refine Kd.C_drew ?_))); (case side2 => exact HC0_1.out); rintro e w19 ⟨rfl, hb⟩; have n0_ := Aside0.mk (blk_below (g := gb134) (o := .cells #[.slice A0_0 l0_0.length c0_0, .slice A0_1 l0_1.length c0_1, .string a0_2] 35 (0, 0)) (by (with_reducible repeat (first | refine blk_drewN ?_ _ | refine blk_drew ?_ | refine blk_alloc ?_ _)); exact BK134.out) hb); have n1_ := Aside0.mk (below_step (by repeat (first | (with_reducible first | exact HB.out | apply below_alloc | apply pw_below_drewN | apply below_drew1 | refine below_set ?_ GE134.out) | exact HB.out)) hb); clear BK134; clear HB; have BK134 := n0_; have HB := n1_; clear n0_ n1_; (try clear hb); (try clear hb2); (try clear hk); (try clear hi); have hcz20_0 : w19.cell? ⟨gb134, 0, none⟩ = some (.slice A0_0 l0_0.length c0_0) := (blk_cell BK134.out 0).trans rfl; have hcz20_1 : w19.cell? ⟨gb134, 1, none⟩ = some (.slice A0_1 l0_1.length c0_1) := (blk_cell BK134.out 1).trans rfl; have hcz20_2 : w19.cell? ⟨gb134, 2, none⟩ = some (.string a0_2) := (blk_cell BK134.out 2).trans rfl; have hfz20_0 := blk_frozen BK134.out 0; have hfz20_1 := blk_frozen BK134.out 1; have hfz20_2 := blk_frozen BK134.out 2) | ((with_reducible refine gate_dst (N := 38) rfl ?_); (try (refine gate_guard (by rfl) ?_; dsimp only)); refine Kd.R_lit Kd.string _ 9 ?hg (N := 38) ?hd (xs := ([a0_2] : List ByteArray)) (inner := [.string a0_2]) (ok := fun _ => True) (okp := fun _ => True) ?hr ?hp (fun _ hk => hk) trivial (Below.refl _ _) (Nat.le_refl _) (by simp) ?_; (case hd => rfl); (case hg => rfl); (case hr => first | (go_simp; done) | (go_simp; rfl)); (case hp => exact (Reps.one (show Kd.M Kd.string _ _ _ a0_2 [.string a0_2] from rfl) (Reps.none _ _))); intro v139 w21 ho22 hb hg_ hnew_; clear hg_ hnew_; (first | rw [← Ny138.out] at ho22 | (simp only [Int.reduceToNat] at ho22; rw [← Ny138.out] at ho22)); have n0_ := Aside0.mk (Kd.R_lower ho22 (below_size (by repeat (first | (with_reducible first | exact HB.out | apply below_alloc | apply pw_below_drewN | apply below_drew1 | refine below_set ?_ GE134.out) | exact HB.out)))); have n1_ := Aside0.mk (blk_below (g := gb134) (o := .cells #[.slice A0_0 l0_0.length c0_0, .slice A0_1 l0_1.length c0_1, .string a0_2] 35 (0, 0)) (by (with_reducible repeat (first | refine blk_drewN ?_ _ | refine blk_drew ?_ | refine blk_alloc ?_ _)); exact BK134.out) hb); have n2_ := Aside0.mk (below_step (by repeat (first | (with_reducible first | exact HB.out | apply below_alloc | apply pw_below_drewN | apply below_drew1 | refine below_set ?_ GE134.out) | exact HB.out)) hb); clear BK134; clear HB; have HO140 := n0_; have BK134 := n1_; have HB := n2_; clear n0_ n1_ n2_; clear hb ho22; obtain ⟨Ao23, co23, eo23⟩ := Kd.R_slice HO140.out; subst eo23) | (go_at_call 10; (with_reducible refine (spec_commentsOk.calls k1 _ _ y138 t141 _ ?side1 ?side2 A17.out).mono ?_); (case side1 => repeat (first | exact (Kd.R_reads' HO140.out).2.2 | (with_reducible refine Kd.C_alloc ?_ _) | (with_reducible refine Kd.C_drewN ?_ _) | (with_reducible refine Kd.C_drew ?_))); (case side2 => exact (Kd.R_reads' HO140.out).2.1); rintro e w24 ⟨rfl, hb⟩; have n0_ := Aside0.mk (Kd.R_below (by (with_reducible repeat (first | apply Kd.R_alloc | apply Kd.R_drewN | apply Kd.R_drew)); exact HO140.out) hb); have n1_ := Aside0.mk (blk_below (g := gb134) (o := .cells #[.slice A0_0 l0_0.length c0_0, .slice A0_1 l0_1.length c0_1, .string a0_2] 35 (0, 0)) (by (with_reducible repeat (first | refine blk_drewN ?_ _ | refine blk_drew ?_ | refine blk_alloc ?_ _)); exact BK134.out) hb); have n2_ := Aside0.mk (below_step (by repeat (first | (with_reducible first | exact HB.out | apply below_alloc | apply pw_below_drewN | apply below_drew1 | refine below_set ?_ GE134.out) | exact HB.out)) hb); clear HO140; clear BK134; clear HB; have HO140 := n0_; have BK134 := n1_; have HB := n2_; clear n0_ n1_ n2_; (try clear hb); (try clear hb2); (try clear hk); (try clear hi)))
                go_ret
                exact ⟨by first | rfl | (simp [errW_none, errW_some] <;> rfl) | (simp [*, errW_none, errW_some] <;> rfl), by repeat (first | (with_reducible first | exact HB.out | apply below_alloc | apply pw_below_drewN | apply below_drew1 | refine below_set ?_ GE134.out) | exact HB.out)⟩
            · replace c12 := Bool.eq_false_iff.mpr c12
              subst c12
              have H1 : (some false) = some r := by rw [if_neg (show ¬ (false = true) by decide)] at H; exact H
              clear H
              have H := H1
              clear H1
              obtain rfl := Option.some.inj H
              have hcz25_0 : wr.cell? ⟨gb134, 0, none⟩ = some (.slice A0_0 l0_0.length c0_0) := (blk_cell BK134.out 0).trans rfl
              have hcz25_1 : wr.cell? ⟨gb134, 1, none⟩ = some (.slice A0_1 l0_1.length c0_1) := (blk_cell BK134.out 1).trans rfl
              have hcz25_2 : wr.cell? ⟨gb134, 2, none⟩ = some (.string a0_2) := (blk_cell BK134.out 2).trans rfl
              have hfz25_0 := blk_frozen BK134.out 0
              have hfz25_1 := blk_frozen BK134.out 1
              have hfz25_2 := blk_frozen BK134.out 2
              go_wp2_with (first | (go_at_call 10; (with_reducible refine (spec_commentsOk.calls k1 _ _ l0_1 false _ ?side1 ?side2 A11.out).mono ?_); (case side1 => repeat (first | exact (Kd.C_below HR0_1.out HB.out) | (with_reducible refine Kd.C_alloc ?_ _) | (with_reducible refine Kd.C_drewN ?_ _) | (with_reducible refine Kd.C_drew ?_))); (case side2 => exact HC0_1.out); rintro e w26 ⟨rfl, hb⟩; have n0_ := Aside0.mk (blk_below (g := gb134) (o := .cells #[.slice A0_0 l0_0.length c0_0, .slice A0_1 l0_1.length c0_1, .string a0_2] 35 (0, 0)) (by (with_reducible repeat (first | refine blk_drewN ?_ _ | refine blk_drew ?_ | refine blk_alloc ?_ _)); exact BK134.out) hb); have n1_ := Aside0.mk (below_step (by repeat (first | (with_reducible first | exact HB.out | apply below_alloc | apply pw_below_drewN | apply below_drew1 | refine below_set ?_ GE134.out) | exact HB.out)) hb); clear BK134; clear HB; have BK134 := n0_; have HB := n1_; clear n0_ n1_; (try clear hb); (try clear hb2); (try clear hk); (try clear hi)))
              go_ret
              exact ⟨by first | rfl | (simp [errW_none, errW_some] <;> rfl) | (simp [*, errW_none, errW_some] <;> rfl), by repeat (first | (with_reducible first | exact HB.out | apply below_alloc | apply pw_below_drewN | apply below_drew1 | refine below_set ?_ GE134.out) | exact HB.out)⟩
          · rw [if_neg c10] at H
            have c10b0 : decide ((l0_0.length : Int) ≤ 10) = false := decide_eq_false c10
            have c10b1 : decide (l0_0.length ≤ 10) = false := decide_eq_false (by omega)
            clear c10
            obtain rfl := Option.some.inj H
            have hcz27_0 : wr.cell? ⟨gb134, 0, none⟩ = some (.slice A0_0 l0_0.length c0_0) := (blk_cell BK134.out 0).trans rfl
            have hcz27_1 : wr.cell? ⟨gb134, 1, none⟩ = some (.slice A0_1 l0_1.length c0_1) := (blk_cell BK134.out 1).trans rfl
            have hcz27_2 : wr.cell? ⟨gb134, 2, none⟩ = some (.string a0_2) := (blk_cell BK134.out 2).trans rfl
            have hfz27_0 := blk_frozen BK134.out 0
            have hfz27_1 := blk_frozen BK134.out 1
            have hfz27_2 := blk_frozen BK134.out 2
            go_wp2
            go_ret
            exact ⟨by first | rfl | (simp [errW_none, errW_some] <;> rfl) | (simp [*, errW_none, errW_some] <;> rfl), by repeat (first | (with_reducible first | exact HB.out | apply below_alloc | apply pw_below_drewN | apply below_drew1 | refine below_set ?_ GE134.out) | exact HB.out)⟩
        · rw [if_neg c9] at H
          have c9b0 : decide (1 ≤ (l0_0.length : Int)) = false := decide_eq_false c9
          have c9b1 : decide (1 ≤ l0_0.length) = false := decide_eq_false (by omega)
          clear c9
          obtain rfl := Option.some.inj H
          have hcz28_0 : wr.cell? ⟨gb134, 0, none⟩ = some (.slice A0_0 l0_0.length c0_0) := (blk_cell BK134.out 0).trans rfl
          have hcz28_1 : wr.cell? ⟨gb134, 1, none⟩ = some (.slice A0_1 l0_1.length c0_1) := (blk_cell BK134.out 1).trans rfl
          have hcz28_2 : wr.cell? ⟨gb134, 2, none⟩ = some (.string a0_2) := (blk_cell BK134.out 2).trans rfl
          have hfz28_0 := blk_frozen BK134.out 0
          have hfz28_1 := blk_frozen BK134.out 1
          have hfz28_2 := blk_frozen BK134.out 2
          go_wp2
          go_ret
          exact ⟨by first | rfl | (simp [errW_none, errW_some] <;> rfl) | (simp [*, errW_none, errW_some] <;> rfl), by repeat (first | (with_reducible first | exact HB.out | apply below_alloc | apply pw_below_drewN | apply below_drew1 | refine below_set ?_ GE134.out) | exact HB.out)⟩

end Go.Proofs.YtbifcpokkfiagaaDoor.PFm
