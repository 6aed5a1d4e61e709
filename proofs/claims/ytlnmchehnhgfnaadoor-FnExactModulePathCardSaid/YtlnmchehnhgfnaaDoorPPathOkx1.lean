-- PRINTED BY print.sh 35421559b90ae4d0a3588c463048766b98c2df88dd9212a6774a882060cdf62d: not written by this session
import Derived.Test.YtlnmchehnhgfnaaDoorPPathOkx0
namespace Go.Proofs.YtlnmchehnhgfnaaDoor.PPathOk
open Go.RowKit Go.Proofs.YtlnmchehnhgfnaaDoorW.PrintWords Go.Proofs.YtlnmchehnhgfnaaDoorW.PrintLast Go.Proofs.YtlnmchehnhgfnaaDoorW.PrintMore
attribute [local go_sem] max2_int min2_int max_two min_two max_three min_three max_four min_four   -- for this text's walks alone
set_option linter.unusedVariables false
set_option linter.unusedSimpArgs false

/-! ### spec_Cut: function 14 -/
def spec_Cut.l0 : Nat → ByteArray → Int → List ByteArray → Int → Int → Option (List ByteArray)
  | 0, _, _, _, _, _ => none
  | k + 1, x0, x1, x5, x6, x7 => if x7 < (x0.size : Int) then (if 0 ≤ x7 then (if (bt x0 x7) = x1 then (if 0 ≤ x6 then (if x6 ≤ x7 then (if x7 ≤ (x0.size : Int) then (if x5.length < 8796093022208 then (spec_Cut.l0 k x0 x1 (x5 ++ [x0.extract (x6 : Int).toNat (x7 : Int).toNat]) (wrap64 (x7 + 1)) (wrap64 (x7 + 1))) else (none)) else (none)) else (none)) else (none)) else (spec_Cut.l0 k x0 x1 x5 x6 (wrap64 (x7 + 1)))) else (none)) else (if 0 ≤ x6 then (if x6 ≤ (x0.size : Int) then (if x5.length < 8796093022208 then (some (x5 ++ [x0.extract (x6 : Int).toNat x0.size])) else (none)) else (none)) else (none))
def spec_Cut.f (k : Nat) (a0 : ByteArray) (a1 : Int) : Option (List ByteArray) := spec_Cut.l0 k a0 a1 (([] : List ByteArray)) 0 0
theorem spec_Cut.mono_l : ∀ k, (∀ y0 y1 y2 y3 y4, LeO (spec_Cut.l0 k y0 y1 y2 y3 y4) (spec_Cut.l0 (k + 1) y0 y1 y2 y3 y4))
  | 0 => fun _ _ _ _ _ r h => by simp [spec_Cut.l0] at h
  | k + 1 => by
    have ih0 := spec_Cut.mono_l k
    · intro y0 y1 y2 y3 y4
      unfold spec_Cut.l0
      repeat' first
      | (with_reducible exact ih0 _ _ _ _ _)
      | (with_reducible exact LeO.refl _)
      | (with_reducible exact LeO.none _)
      | (with_reducible refine LeO.ite ?_ ?_)
      | (with_reducible refine LeO.bind ?_ (fun _ => ?_))
      | exact ih0 _ _ _ _ _
      | exact LeO.none _
      | refine LeO.ite ?_ ?_
      | refine LeO.bind ?_ (fun _ => ?_)
theorem spec_Cut.mono : ∀ a0 a1 k, LeO (spec_Cut.f k a0 a1) (spec_Cut.f (k + 1) a0 a1) := by
  intro a0 a1 k
  have ih0 := spec_Cut.mono_l k
  unfold spec_Cut.f
  repeat' first
      | (with_reducible exact ih0 _ _ _ _ _)
      | (with_reducible exact LeO.refl _)
      | (with_reducible exact LeO.none _)
      | (with_reducible refine LeO.ite ?_ ?_)
      | (with_reducible refine LeO.bind ?_ (fun _ => ?_))
      | exact ih0 _ _ _ _ _
      | exact LeO.none _
      | refine LeO.ite ?_ ?_
      | refine LeO.bind ?_ (fun _ => ?_)
set_option maxHeartbeats 8000000 in
set_option maxRecDepth 100000 in
theorem spec_Cut.calls (k : Nat) (a0 : ByteArray) (a1 : Int) (r : List ByteArray) (w : World) (h : spec_Cut.f k a0 a1 = some r) :
    Calls Tryd.prog 14 #[.string a0, .int .u8 a1] w fun e w' => ∃ v0_ : Value, e = .returned (v0_) ∧ Kd.R Kd.string 9 w' w.heap.size (fun _ => True) v0_ r ∧ Below w.heap.size w w' := by
  have HB := Aside0.mk (Below.refl w.heap.size w)
  have H : (spec_Cut.l0 k a0 a1 (([] : List ByteArray)) 0 0) = some r := h
  clear h
  obtain ⟨y101, hy101⟩ : ∃ y_ : List ByteArray, y_ = (([] : List ByteArray)) := ⟨_, rfl⟩
  replace H : (spec_Cut.l0 k a0 a1 y101 0 0) = some r := by first | (rw [hy101]; with_reducible exact H) | (have H2_ := (Option.bind_some _ _).symm.trans H; rw [hy101]; with_reducible exact H2_) | (have H2_ := (Option.bind_some _ _).symm.trans H; with_reducible exact H2_) | with_reducible exact H | (rw [hy101]; exact H) | exact H
  have Ny101 := Aside0.mk hy101
  clear hy101
  have H' := Aside0.mk H
  clear H
  go_enter Tryd.func14, Tryd.ntmps14
  go_wp2_with (first | ((with_reducible refine gate_dst (N := 8) rfl ?_); refine Kd.R_lit Kd.string _ 9 ?hg (N := 8) ?hd (xs := ([] : List ByteArray)) (inner := []) (ok := fun _ => True) (okp := fun _ => True) ?hr ?hp (fun _ hk => hk) trivial (Below.refl _ _) (Nat.le_refl _) (by simp) ?_; (case hd => rfl); (case hg => rfl); (case hr => first | (go_simp; done) | (go_simp; rfl)); (case hp => exact (Reps.none _ _)); intro v102 w3 ho4 hb hg_ hnew_; clear hg_ hnew_; (first | rw [← Ny101.out] at ho4 | (simp only [Int.reduceToNat] at ho4; rw [← Ny101.out] at ho4)); have n0_ := Aside0.mk (Kd.R_lower ho4 (below_size (by repeat (first | (with_reducible first | exact HB.out | apply below_alloc | apply pw_below_drewN | apply below_drew1) | exact HB.out)))); have n1_ := Aside0.mk (below_step (by repeat (first | (with_reducible first | exact HB.out | apply below_alloc | apply pw_below_drewN | apply below_drew1) | exact HB.out)) hb); clear HB; have HO103 := n0_; have HB := n1_; clear n0_ n1_; clear hb ho4))
  go_loopg [5, 6, 7] k (fun kq v5 v6 v7 w' => ∃ (x5_1 : List ByteArray) (x6_1 : Int) (x7_1 : Int), v6 = .int .i64 x6_1 ∧ v7 = .int .i64 x7_1 ∧ Aside0 (spec_Cut.l0 kq a0 a1 x5_1 x6_1 x7_1 = some r) ∧ Aside0 (kq ≤ k) ∧ Aside0 (Kd.R Kd.string 9 w' w.heap.size (fun _ => True) v5 x5_1) ∧ Aside0 (Below w.heap.size w w'))
  case atStart => exact ⟨(y101), (0), (0), (by first | rfl | (simp; done) | (simp [*]; done)), (by first | rfl | (simp; done) | (simp [*]; done)), H', ⟨Nat.le_refl _⟩, ⟨by (with_reducible repeat (first | apply Kd.R_alloc | apply Kd.R_drewN | apply Kd.R_drew)); exact HO103.out⟩, ⟨by repeat (first | (with_reducible first | exact HB.out | apply below_alloc | apply pw_below_drewN | apply below_drew1) | exact HB.out)⟩⟩
  case round =>
    clear H'
    try clear c1
    try clear p2
    obtain ⟨x5_1, x6_1, x7_1, rfl, rfl, HA, HK1, HO_5, HB⟩ := hrel
    cases gk with
    | zero => exact absurd HA.out (by simp [spec_Cut.l0])
    | succ k1 =>
      have H := HA.out
      clear HA
      simp only [spec_Cut.l0] at H
      by_cases c5 : x7_1 < (a0.size : Int)
      · rw [if_pos c5] at H
        have c5b0 : decide (x7_1 < (a0.size : Int)) = true := decide_eq_true c5
        clear c5
        by_cases c6 : 0 ≤ x7_1
        · rw [if_pos c6] at H
          have c6b0 : decide (0 ≤ x7_1) = true := decide_eq_true c6
          clear c6
          by_cases c8 : (bt a0 x7_1) = a1
          · rw [if_pos c8] at H
            have c8b0 : ((bt a0 x7_1) == a1) = true := beq_iff_eq.mpr c8
            have c8b1 : ((bt a0 x7_1) != a1) = false := bne_eq_false_iff_eq.mpr c8
            clear c8
            by_cases c9 : 0 ≤ x6_1
            · rw [if_pos c9] at H
              have c9b0 := eq_true c9
              have c9b1 : decide (0 ≤ x6_1) = true := decide_eq_true c9
              clear c9
              by_cases c10 : x6_1 ≤ x7_1
              · rw [if_pos c10] at H
                have c10b0 := eq_true c10
                have c10b1 : decide (x6_1 ≤ x7_1) = true := decide_eq_true c10
                clear c10
                by_cases c11 : x7_1 ≤ (a0.size : Int)
                · rw [if_pos c11] at H
                  have c11b0 := eq_true c11
                  have c11b1 : decide (x7_1 ≤ (a0.size : Int)) = true := decide_eq_true c11
                  clear c11
                  by_cases c12 : x5_1.length < 8796093022208
                  · rw [if_pos c12] at H
                    have LMc12 := Aside0.mk c12
                    clear c12
                    obtain ⟨y104, hy104⟩ : ∃ y_ : List ByteArray, y_ = (x5_1 ++ [a0.extract (x6_1 : Int).toNat (x7_1 : Int).toNat]) := ⟨_, rfl⟩
                    replace H : (spec_Cut.l0 k1 a0 a1 y104 (wrap64 (x7_1 + 1)) (wrap64 (x7_1 + 1))) = some r := by first | (rw [hy104]; with_reducible exact H) | (have H2_ := (Option.bind_some _ _).symm.trans H; rw [hy104]; with_reducible exact H2_) | (have H2_ := (Option.bind_some _ _).symm.trans H; with_reducible exact H2_) | with_reducible exact H | (rw [hy104]; exact H) | exact H
                    have Ny104 := Aside0.mk hy104
                    clear hy104
                    have H' := Aside0.mk H
                    clear H
                    have p7 : 0 ≤ (x7_1 : Int) := of_decide_eq_true (by first | (with_reducible assumption) | assumption)
                    have q7 : x7_1 < (a0.size : Int) := of_decide_eq_true (by first | (with_reducible assumption) | assumption)
                    have hx7 := bt_at a0 x7_1
                    replace p7 := eq_true p7
                    replace q7 := eq_true q7
                    go_wp2_with (first | ((with_reducible refine gate_builtin (b := .append) (xs := #[.tmp 20, .tmp 25]) rfl ?_); at_builtin; refine Kd.R_append Kd.string (w0 := w) w.heap.size rfl (.tmp 20) (.tmp 25) 30 9 (.string ⟨#[]⟩) 16 rfl Tryd.underlying30 info9 rfl (by decide) (by omega) u5 x5_1 (a0.extract (x6_1 : Int).toNat (x7_1 : Int).toNat) [.string (a0.extract (x6_1 : Int).toNat (x7_1 : Int).toNat)] (fun _ => True) (fun _ => False) rfl rfl ?aP (fun _ hk => hk.elim) ?aF ?aO ?aB ?aS ?aL ?_; (case aP => exact rfl); (case aB => exact (by repeat (first | (with_reducible first | exact HB.out | apply below_alloc | apply pw_below_drewN | apply below_drew1) | exact HB.out))); (case aF => exact (fun _ _ => trivial)); (case aO => exact (by (with_reducible repeat (first | apply Kd.R_alloc | apply Kd.R_drewN | apply Kd.R_drew)); exact HO_5.out)); (case aS => exact (below_size (by repeat (first | (with_reducible first | exact HB.out | apply below_alloc | apply pw_below_drewN | apply below_drew1) | exact HB.out)))); (case aL => have := LMc12.out; omega); intro v105 w13 ho hb hg hat; rw [← Ny104.out] at ho; have n0_ := Aside0.mk (hb); have n1_ := Aside0.mk (ho); clear HB; clear HO_5; have HB := n0_; have HO106 := n1_; clear n0_ n1_; clear ho hb hg hat))
                    go_roundg k1
                    case measure => have := HK1.out; omega
                    case rel => exact ⟨(y104), (wrap64 (x7_1 + 1)), (wrap64 (x7_1 + 1)), (by first | rfl | (simp; done) | (simp [*]; done)), (by first | rfl | (simp; done) | (simp [*]; done)), H', ⟨by have := HK1.out; omega⟩, ⟨by (with_reducible repeat (first | apply Kd.R_alloc | apply Kd.R_drewN | apply Kd.R_drew)); exact HO106.out⟩, ⟨by repeat (first | (with_reducible first | exact HB.out | apply below_alloc | apply pw_below_drewN | apply below_drew1) | exact HB.out)⟩⟩
                  · rw [if_neg c12] at H
                    exact absurd H (by simp)
                · rw [if_neg c11] at H
                  exact absurd H (by simp)
              · rw [if_neg c10] at H
                exact absurd H (by simp)
            · rw [if_neg c9] at H
              exact absurd H (by simp)
          · rw [if_neg c8] at H
            have c8b0 : ((bt a0 x7_1) == a1) = false := beq_eq_false_iff_ne.mpr c8
            have c8b1 : ((bt a0 x7_1) != a1) = true := bne_iff_ne.mpr c8
            have H' := Aside0.mk H
            clear H
            have p7 : 0 ≤ (x7_1 : Int) := of_decide_eq_true (by first | (with_reducible assumption) | assumption)
            have q7 : x7_1 < (a0.size : Int) := of_decide_eq_true (by first | (with_reducible assumption) | assumption)
            have hx7 := bt_at a0 x7_1
            replace p7 := eq_true p7
            replace q7 := eq_true q7
            go_wp2
            go_roundg k1
            case measure => have := HK1.out; omega
            case rel => exact ⟨(x5_1), (x6_1), (wrap64 (x7_1 + 1)), (by first | rfl | (simp; done) | (simp [*]; done)), (by first | rfl | (simp; done) | (simp [*]; done)), H', ⟨by have := HK1.out; omega⟩, ⟨by (with_reducible repeat (first | apply Kd.R_alloc | apply Kd.R_drewN | apply Kd.R_drew)); exact HO_5.out⟩, ⟨by repeat (first | (with_reducible first | exact HB.out | apply below_alloc | apply pw_below_drewN | apply below_drew1) | exact HB.out)⟩⟩
        · rw [if_neg c6] at H
          exact absurd H (by simp)
      · rw [if_neg c5] at H
        have c5b0 : decide (x7_1 < (a0.size : Int)) = false := decide_eq_false c5
        clear c5
        by_cases c14 : 0 ≤ x6_1
        · rw [if_pos c14] at H
          have c14b0 := eq_true c14
          have c14b1 : decide (0 ≤ x6_1) = true := decide_eq_true c14
          clear c14
          by_cases c15 : x6_1 ≤ (a0.size : Int)
          · rw [if_pos c15] at H
            have c15b0 := eq_true c15
            have c15b1 : decide (x6_1 ≤ (a0.size : Int)) = true := decide_eq_true c15
            clear c15
            by_cases c16 : x5_1.length < 8796093022208
            · rw [if_pos c16] at H
              have LMc16 := Aside0.mk c16
              clear c16
              obtain ⟨y107, hy107⟩ : ∃ y_ : List ByteArray, y_ = (x5_1 ++ [a0.extract (x6_1 : Int).toNat a0.size]) := ⟨_, rfl⟩
              replace H : (some y107) = some r := by first | (rw [hy107]; with_reducible exact H) | (have H2_ := (Option.bind_some _ _).symm.trans H; rw [hy107]; with_reducible exact H2_) | (have H2_ := (Option.bind_some _ _).symm.trans H; with_reducible exact H2_) | with_reducible exact H | (rw [hy107]; exact H) | exact H
              have Ny107 := Aside0.mk hy107
              clear hy107
              obtain rfl := Option.some.inj H
              go_wp2_with (first | ((with_reducible refine gate_builtin (b := .append) (xs := #[.tmp 29, .tmp 33]) rfl ?_); at_builtin; refine Kd.R_append Kd.string (w0 := w) w.heap.size rfl (.tmp 29) (.tmp 33) 30 9 (.string ⟨#[]⟩) 16 rfl Tryd.underlying30 info9 rfl (by decide) (by omega) u5 x5_1 (a0.extract (x6_1 : Int).toNat a0.size) [.string (a0.extract (x6_1 : Int).toNat a0.size)] (fun _ => True) (fun _ => False) rfl rfl ?aP (fun _ hk => hk.elim) ?aF ?aO ?aB ?aS ?aL ?_; (case aP => exact rfl); (case aB => exact (by repeat (first | (with_reducible first | exact HB.out | apply below_alloc | apply pw_below_drewN | apply below_drew1) | exact HB.out))); (case aF => exact (fun _ _ => trivial)); (case aO => exact (by (with_reducible repeat (first | apply Kd.R_alloc | apply Kd.R_drewN | apply Kd.R_drew)); exact HO_5.out)); (case aS => exact (below_size (by repeat (first | (with_reducible first | exact HB.out | apply below_alloc | apply pw_below_drewN | apply below_drew1) | exact HB.out)))); (case aL => have := LMc16.out; omega); intro v108 w17 ho hb hg hat; rw [← Ny107.out] at ho; have n0_ := Aside0.mk (hb); have n1_ := Aside0.mk (ho); clear HB; clear HO_5; have HB := n0_; have HO109 := n1_; clear n0_ n1_; clear ho hb hg hat))
              go_ret
              exact ⟨_, by first | rfl | (simp [errW_none, errW_some] <;> rfl) | (simp [*, errW_none, errW_some] <;> rfl), by (with_reducible repeat (first | apply Kd.R_alloc | apply Kd.R_drewN | apply Kd.R_drew)); exact HO109.out, by repeat (first | (with_reducible first | exact HB.out | apply below_alloc | apply pw_below_drewN | apply below_drew1) | exact HB.out)⟩
            · rw [if_neg c16] at H
              exact absurd H (by simp)
          · rw [if_neg c15] at H
            exact absurd H (by simp)
        · rw [if_neg c14] at H
          exact absurd H (by simp)

/-! ### spec_Begins: function 16 -/
def spec_Begins.f (a0 : ByteArray) (a1 : ByteArray) : Option (Bool) := if (a0.size : Int) ≥ (a1.size : Int) then (if 0 ≤ (a1.size : Int) then (if (a1.size : Int) ≤ (a0.size : Int) then (some ((a0.extract 0 ((a1.size : Int) : Int).toNat).toList == a1.toList)) else (none)) else (none)) else (some false)
set_option maxHeartbeats 8000000 in
set_option maxRecDepth 100000 in
theorem spec_Begins.calls (a0 : ByteArray) (a1 : ByteArray) (r : Bool) (w : World) (h : spec_Begins.f a0 a1 = some r) :
    Calls Tryd.prog 16 #[.string a0, .string a1] w fun e w' => e = .returned (.bool r) ∧ Drawn0 w w' := by
  have H : (if (a0.size : Int) ≥ (a1.size : Int) then (if 0 ≤ (a1.size : Int) then (if (a1.size : Int) ≤ (a0.size : Int) then (some ((a0.extract 0 ((a1.size : Int) : Int).toNat).toList == a1.toList)) else (none)) else (none)) else (some false)) = some r := h
  clear h
  by_cases c3 : (a0.size : Int) ≥ (a1.size : Int)
  · rw [if_pos c3] at H
    have c3b0 : decide ((a1.size : Int) ≤ (a0.size : Int)) = true := decide_eq_true c3
    have c3b1 : decide (a1.size ≤ a0.size) = true := decide_eq_true (Int.ofNat_le.mp c3)
    clear c3
    by_cases c4 : 0 ≤ (a1.size : Int)
    · rw [if_pos c4] at H
      have c4b0 := eq_true c4
      have c4b1 : decide (0 ≤ (a1.size : Int)) = true := decide_eq_true c4
      clear c4
      by_cases c5 : (a1.size : Int) ≤ (a0.size : Int)
      · rw [if_pos c5] at H
        have c5b0 := eq_true c5
        have c5b1 : decide ((a1.size : Int) ≤ (a0.size : Int)) = true := decide_eq_true c5
        clear c5
        obtain rfl := Option.some.inj H
        go_enter Tryd.func16, Tryd.ntmps16
        go_wp2
        go_ret
        exact ⟨by first | rfl | (simp; done) | (simp [*]; done), by repeat (first | exact Drawn0.refl _ | apply Drawn0.step)⟩
      · rw [if_neg c5] at H
        exact absurd H (by simp)
    · rw [if_neg c4] at H
      exact absurd H (by simp)
  · rw [if_neg c3] at H
    have c3b0 : decide ((a1.size : Int) ≤ (a0.size : Int)) = false := decide_eq_false c3
    have c3b1 : decide (a1.size ≤ a0.size) = false := decide_eq_false (fun h => c3 (Int.ofNat_le.mpr h))
    clear c3
    obtain rfl := Option.some.inj H
    go_enter Tryd.func16, Tryd.ntmps16
    go_wp2
    go_ret
    exact ⟨by first | rfl | (simp; done) | (simp [*]; done), by repeat (first | exact Drawn0.refl _ | apply Drawn0.step)⟩

/-! ### spec_letter: function 18 -/
def spec_letter.f (a0 : Int) : Option (Bool) := if a0 ≥ 97 then (some (decide (a0 ≤ 122))) else (some false)
set_option maxHeartbeats 8000000 in
set_option maxRecDepth 100000 in
theorem spec_letter.calls (a0 : Int) (r : Bool) (w : World) (h : spec_letter.f a0 = some r) :
    Calls Tryd.prog 18 #[.int .u8 a0] w fun e w' => e = .returned (.bool r) ∧ Drawn0 w w' := by
  have H : (if a0 ≥ 97 then (some (decide (a0 ≤ 122))) else (some false)) = some r := h
  clear h
  by_cases c2 : a0 ≥ 97
  · rw [if_pos c2] at H
    have c2b0 : decide (97 ≤ a0) = true := decide_eq_true c2
    clear c2
    obtain rfl := Option.some.inj H
    go_enter Tryd.func18, Tryd.ntmps18
    go_wp2
    go_ret
    exact ⟨by first | rfl | (simp; done) | (simp [*]; done), by repeat (first | exact Drawn0.refl _ | apply Drawn0.step)⟩
  · rw [if_neg c2] at H
    have c2b0 : decide (97 ≤ a0) = false := decide_eq_false c2
    clear c2
    obtain rfl := Option.some.inj H
    go_enter Tryd.func18, Tryd.ntmps18
    go_wp2
    go_ret
    exact ⟨by first | rfl | (simp; done) | (simp [*]; done), by repeat (first | exact Drawn0.refl _ | apply Drawn0.step)⟩

/-! ### spec_PathOk: function 9 -/
mutual
def spec_PathOk.l0 : Nat → ByteArray → Int → Option (Bool)
  | 0, _, _ => none
  | k + 1, x0, x3 => if x3 < (x0.size : Int) then (if 0 ≤ x3 then ((spec_letter.f (bt x0 x3)).bind fun t110 => (if t110 = true then (spec_PathOk.l0 k x0 (wrap64 (x3 + 1))) else (if (bt x0 x3) = 46 then (spec_PathOk.l0 k x0 (wrap64 (x3 + 1))) else (if (bt x0 x3) = 47 then (spec_PathOk.l0 k x0 (wrap64 (x3 + 1))) else (some false))))) else (none)) else ((spec_Cut.f k x0 47).bind fun t111 => (spec_PathOk.l1 k x0 t111 (t111.length : Int) 0))
def spec_PathOk.l1 : Nat → ByteArray → List ByteArray → Int → Int → Option (Bool)
  | 0, _, _, _, _ => none
  | k + 1, x0, x30, x31, x32 => if x32 < x31 then (if 0 ≤ x32 then (if x32 < (x30.length : Int) then (if (rdOf ByteArray.empty x30 x32).toList = ([] : List UInt8) then (some false) else (if 0 < ((rdOf ByteArray.empty x30 x32).size : Int) then ((spec_letter.f (bt (rdOf ByteArray.empty x30 x32) 0)).bind fun t116 => (if t116 = true then (if 0 ≤ (wrap64 (((rdOf ByteArray.empty x30 x32).size : Int) - 1)) then (if (wrap64 (((rdOf ByteArray.empty x30 x32).size : Int) - 1)) < ((rdOf ByteArray.empty x30 x32).size : Int) then ((spec_letter.f (bt (rdOf ByteArray.empty x30 x32) (wrap64 (((rdOf ByteArray.empty x30 x32).size : Int) - 1)))).bind fun t117 => (if t117 = true then (spec_PathOk.l1 k x0 x30 x31 (wrap64 (x32 + 1))) else (some false))) else (none)) else (none)) else (some false))) else (none))) else (none)) else (none)) else (if (x0.size : Int) ≤ 100 then ((spec_Begins.f x0 (⟨#[103, 111, 112, 107, 103, 46, 105, 110, 47]⟩ : ByteArray)).bind fun t114 => (some (!t114))) else (some false))
end
def spec_PathOk.f (k : Nat) (a0 : ByteArray) : Option (Bool) := spec_PathOk.l0 k a0 0
theorem spec_PathOk.mono_l : ∀ k, (∀ y0 y1, LeO (spec_PathOk.l0 k y0 y1) (spec_PathOk.l0 (k + 1) y0 y1)) ∧ (∀ y0 y1 y2 y3, LeO (spec_PathOk.l1 k y0 y1 y2 y3) (spec_PathOk.l1 (k + 1) y0 y1 y2 y3))
  | 0 => ⟨fun _ _ r h => by simp [spec_PathOk.l0] at h, fun _ _ _ _ r h => by simp [spec_PathOk.l1] at h⟩
  | k + 1 => by
    obtain ⟨ih0, ih1⟩ := spec_PathOk.mono_l k
    refine ⟨?_, ?_⟩
    · intro y0 y1
      unfold spec_PathOk.l0
      repeat' first
      | (with_reducible exact ih0 _ _)
      | (with_reducible exact ih1 _ _ _ _)
      | (with_reducible exact spec_Cut.mono _ _ _)
      | (with_reducible exact LeO.refl _)
      | (with_reducible exact LeO.none _)
      | (with_reducible refine LeO.ite ?_ ?_)
      | (with_reducible refine LeO.bind ?_ (fun _ => ?_))
      | exact ih0 _ _
      | exact ih1 _ _ _ _
      | exact spec_Cut.mono _ _ _
      | exact LeO.none _
      | refine LeO.ite ?_ ?_
      | refine LeO.bind ?_ (fun _ => ?_)
    · intro y0 y1 y2 y3
      unfold spec_PathOk.l1
      repeat' first
      | (with_reducible exact ih0 _ _)
      | (with_reducible exact ih1 _ _ _ _)
      | (with_reducible exact spec_Cut.mono _ _ _)
      | (with_reducible exact LeO.refl _)
      | (with_reducible exact LeO.none _)
      | (with_reducible refine LeO.ite ?_ ?_)
      | (with_reducible refine LeO.bind ?_ (fun _ => ?_))
      | exact ih0 _ _
      | exact ih1 _ _ _ _
      | exact spec_Cut.mono _ _ _
      | exact LeO.none _
      | refine LeO.ite ?_ ?_
      | refine LeO.bind ?_ (fun _ => ?_)
theorem spec_PathOk.mono : ∀ a0 k, LeO (spec_PathOk.f k a0) (spec_PathOk.f (k + 1) a0) := by
  intro a0 k
  obtain ⟨ih0, ih1⟩ := spec_PathOk.mono_l k
  unfold spec_PathOk.f
  repeat' first
      | (with_reducible exact ih0 _ _)
      | (with_reducible exact ih1 _ _ _ _)
      | (with_reducible exact spec_Cut.mono _ _ _)
      | (with_reducible exact LeO.refl _)
      | (with_reducible exact LeO.none _)
      | (with_reducible refine LeO.ite ?_ ?_)
      | (with_reducible refine LeO.bind ?_ (fun _ => ?_))
      | exact ih0 _ _
      | exact ih1 _ _ _ _
      | exact spec_Cut.mono _ _ _
      | exact LeO.none _
      | refine LeO.ite ?_ ?_
      | refine LeO.bind ?_ (fun _ => ?_)
set_option maxHeartbeats 8000000 in
set_option maxRecDepth 100000 in
theorem spec_PathOk.calls (k : Nat) (a0 : ByteArray) (r : Bool) (w : World) (h : spec_PathOk.f k a0 = some r) :
    Calls Tryd.prog 9 #[.string a0] w fun e w' => e = .returned (.bool r) ∧ Below w.heap.size w w' := by
  have HB := Aside0.mk (Below.refl w.heap.size w)
  have H : (spec_PathOk.l0 k a0 0) = some r := h
  clear h
  have H' := Aside0.mk H
  clear H
  go_enter Tryd.func9, Tryd.ntmps9
  go_wp2
  go_loopg [3] k (fun kq v3 w' => ∃ (x3_1 : Int), v3 = .int .i64 x3_1 ∧ Aside0 (spec_PathOk.l0 kq a0 x3_1 = some r) ∧ Aside0 (kq ≤ k) ∧ Aside0 (Below w.heap.size w w'))
  case atStart => exact ⟨(0), (by first | rfl | (simp; done) | (simp [*]; done)), H', ⟨Nat.le_refl _⟩, ⟨by repeat (first | (with_reducible first | exact HB.out | apply below_alloc | apply pw_below_drewN | apply below_drew1) | exact HB.out)⟩⟩
  case round =>
    clear H'
    obtain ⟨x3_1, rfl, HA, HK1, HB⟩ := hrel
    cases gk with
    | zero => exact absurd HA.out (by simp [spec_PathOk.l0])
    | succ k1 =>
      have H := HA.out
      clear HA
      simp only [spec_PathOk.l0] at H
      by_cases c2 : x3_1 < (a0.size : Int)
      · rw [if_pos c2] at H
        have c2b0 : decide (x3_1 < (a0.size : Int)) = true := decide_eq_true c2
        clear c2
        by_cases c3 : 0 ≤ x3_1
        · rw [if_pos c3] at H
          have c3b0 : decide (0 ≤ x3_1) = true := decide_eq_true c3
          clear c3
          replace H := Option.bind_eq_some_iff.mp H
          obtain ⟨t110, A50, H⟩ := H
          replace H : (if t110 = true then (spec_PathOk.l0 k1 a0 (wrap64 (x3_1 + 1))) else (if (bt a0 x3_1) = 46 then (spec_PathOk.l0 k1 a0 (wrap64 (x3_1 + 1))) else (if (bt a0 x3_1) = 47 then (spec_PathOk.l0 k1 a0 (wrap64 (x3_1 + 1))) else (some false)))) = some r := H
          have A5 := Aside0.mk A50
          clear A50
          by_cases c6 : t110 = true
          · subst c6
            have H1 : (spec_PathOk.l0 k1 a0 (wrap64 (x3_1 + 1))) = some r := by rw [if_pos rfl] at H; exact H
            clear H
            have H := H1
            clear H1
            have H' := Aside0.mk H
            clear H
            have p4 : 0 ≤ (x3_1 : Int) := of_decide_eq_true (by first | (with_reducible assumption) | assumption)
            have q4 : x3_1 < (a0.size : Int) := of_decide_eq_true (by first | (with_reducible assumption) | assumption)
            have hx4 := bt_at a0 x3_1
            replace p4 := eq_true p4
            replace q4 := eq_true q4
            go_wp2_with (first | ((with_reducible refine gate_callee (f := 18) rfl ?_); refine goesL_ (some 15) rfl rfl Tryd.func18 (by kernel_rfl) rfl #[.int .u8 (bt a0 x3_1)] rfl (by (try simp only [List.map_toArray, List.map_cons, List.map_nil]); first | done | rfl | (simp only [List.length_drop, List.length_take]; rfl)) ?_; (with_reducible refine (spec_letter.calls (bt a0 x3_1) true _ A5.out).mono ?_); rintro e w' ⟨rfl, ⟨nd, rfl⟩⟩; refine ⟨_, rfl, ?_⟩))
            go_roundg k1
            case measure => have := HK1.out; omega
            case rel => exact ⟨(wrap64 (x3_1 + 1)), (by first | rfl | (simp; done) | (simp [*]; done)), H', ⟨by have := HK1.out; omega⟩, ⟨by repeat (first | (with_reducible first | exact HB.out | apply below_alloc | apply pw_below_drewN | apply below_drew1) | exact HB.out)⟩⟩
          · replace c6 := Bool.eq_false_iff.mpr c6
            subst c6
            have H1 : (if (bt a0 x3_1) = 46 then (spec_PathOk.l0 k1 a0 (wrap64 (x3_1 + 1))) else (if (bt a0 x3_1) = 47 then (spec_PathOk.l0 k1 a0 (wrap64 (x3_1 + 1))) else (some false))) = some r := by rw [if_neg (show ¬ (false = true) by decide)] at H; exact H
            clear H
            have H := H1
            clear H1
            by_cases c8 : (bt a0 x3_1) = 46
            · rw [if_pos c8] at H
              have c8b0 : ((bt a0 x3_1) == 46) = true := beq_iff_eq.mpr c8
              have c8b1 : ((bt a0 x3_1) != 46) = false := bne_eq_false_iff_eq.mpr c8
              clear c8
              have H' := Aside0.mk H
              clear H
              have p4 : 0 ≤ (x3_1 : Int) := of_decide_eq_true (by first | (with_reducible assumption) | assumption)
              have q4 : x3_1 < (a0.size : Int) := of_decide_eq_true (by first | (with_reducible assumption) | assumption)
              have hx4 := bt_at a0 x3_1
              replace p4 := eq_true p4
              replace q4 := eq_true q4
              go_wp2_with (first | ((with_reducible refine gate_callee (f := 18) rfl ?_); refine goesL_ (some 15) rfl rfl Tryd.func18 (by kernel_rfl) rfl #[.int .u8 (bt a0 x3_1)] rfl (by (try simp only [List.map_toArray, List.map_cons, List.map_nil]); first | done | rfl | (simp only [List.length_drop, List.length_take]; rfl)) ?_; (with_reducible refine (spec_letter.calls (bt a0 x3_1) false _ A5.out).mono ?_); rintro e w' ⟨rfl, ⟨nd, rfl⟩⟩; refine ⟨_, rfl, ?_⟩; have p7 : 0 ≤ (x3_1 : Int) := of_decide_eq_true (by first | (with_reducible assumption) | assumption); have q7 : x3_1 < (a0.size : Int) := of_decide_eq_true (by first | (with_reducible assumption) | assumption); have hx7 := bt_at a0 x3_1; replace p7 := eq_true p7; replace q7 := eq_true q7))
              go_roundg k1
              case measure => have := HK1.out; omega
              case rel => exact ⟨(wrap64 (x3_1 + 1)), (by first | rfl | (simp; done) | (simp [*]; done)), H', ⟨by have := HK1.out; omega⟩, ⟨by repeat (first | (with_reducible first | exact HB.out | apply below_alloc | apply pw_below_drewN | apply below_drew1) | exact HB.out)⟩⟩
            · rw [if_neg c8] at H
              have c8b0 : ((bt a0 x3_1) == 46) = false := beq_eq_false_iff_ne.mpr c8
              have c8b1 : ((bt a0 x3_1) != 46) = true := bne_iff_ne.mpr c8
              by_cases c10 : (bt a0 x3_1) = 47
              · rw [if_pos c10] at H
                have c10b0 : ((bt a0 x3_1) == 47) = true := beq_iff_eq.mpr c10
                have c10b1 : ((bt a0 x3_1) != 47) = false := bne_eq_false_iff_eq.mpr c10
                clear c10
                have H' := Aside0.mk H
                clear H
                have p4 : 0 ≤ (x3_1 : Int) := of_decide_eq_true (by first | (with_reducible assumption) | assumption)
                have q4 : x3_1 < (a0.size : Int) := of_decide_eq_true (by first | (with_reducible assumption) | assumption)
                have hx4 := bt_at a0 x3_1
                replace p4 := eq_true p4
                replace q4 := eq_true q4
                go_wp2_with (first | ((with_reducible refine gate_callee (f := 18) rfl ?_); refine goesL_ (some 15) rfl rfl Tryd.func18 (by kernel_rfl) rfl #[.int .u8 (bt a0 x3_1)] rfl (by (try simp only [List.map_toArray, List.map_cons, List.map_nil]); first | done | rfl | (simp only [List.length_drop, List.length_take]; rfl)) ?_; (with_reducible refine (spec_letter.calls (bt a0 x3_1) false _ A5.out).mono ?_); rintro e w' ⟨rfl, ⟨nd, rfl⟩⟩; refine ⟨_, rfl, ?_⟩; have p7 : 0 ≤ (x3_1 : Int) := of_decide_eq_true (by first | (with_reducible assumption) | assumption); have q7 : x3_1 < (a0.size : Int) := of_decide_eq_true (by first | (with_reducible assumption) | assumption); have hx7 := bt_at a0 x3_1; replace p7 := eq_true p7; replace q7 := eq_true q7; have p9 : 0 ≤ (x3_1 : Int) := of_decide_eq_true (by first | (with_reducible assumption) | assumption); have q9 : x3_1 < (a0.size : Int) := of_decide_eq_true (by first | (with_reducible assumption) | assumption); have hx9 := bt_at a0 x3_1; replace p9 := eq_true p9; replace q9 := eq_true q9))
                go_roundg k1
                case measure => have := HK1.out; omega
                case rel => exact ⟨(wrap64 (x3_1 + 1)), (by first | rfl | (simp; done) | (simp [*]; done)), H', ⟨by have := HK1.out; omega⟩, ⟨by repeat (first | (with_reducible first | exact HB.out | apply below_alloc | apply pw_below_drewN | apply below_drew1) | exact HB.out)⟩⟩
              · rw [if_neg c10] at H
                have c10b0 : ((bt a0 x3_1) == 47) = false := beq_eq_false_iff_ne.mpr c10
                have c10b1 : ((bt a0 x3_1) != 47) = true := bne_iff_ne.mpr c10
                obtain rfl := Option.some.inj H
                have p4 : 0 ≤ (x3_1 : Int) := of_decide_eq_true (by first | (with_reducible assumption) | assumption)
                have q4 : x3_1 < (a0.size : Int) := of_decide_eq_true (by first | (with_reducible assumption) | assumption)
                have hx4 := bt_at a0 x3_1
                replace p4 := eq_true p4
                replace q4 := eq_true q4
                go_wp2_with (first | ((with_reducible refine gate_callee (f := 18) rfl ?_); refine goesL_ (some 15) rfl rfl Tryd.func18 (by kernel_rfl) rfl #[.int .u8 (bt a0 x3_1)] rfl (by (try simp only [List.map_toArray, List.map_cons, List.map_nil]); first | done | rfl | (simp only [List.length_drop, List.length_take]; rfl)) ?_; (with_reducible refine (spec_letter.calls (bt a0 x3_1) false _ A5.out).mono ?_); rintro e w' ⟨rfl, ⟨nd, rfl⟩⟩; refine ⟨_, rfl, ?_⟩; have p7 : 0 ≤ (x3_1 : Int) := of_decide_eq_true (by first | (with_reducible assumption) | assumption); have q7 : x3_1 < (a0.size : Int) := of_decide_eq_true (by first | (with_reducible assumption) | assumption); have hx7 := bt_at a0 x3_1; replace p7 := eq_true p7; replace q7 := eq_true q7; have p9 : 0 ≤ (x3_1 : Int) := of_decide_eq_true (by first | (with_reducible assumption) | assumption); have q9 : x3_1 < (a0.size : Int) := of_decide_eq_true (by first | (with_reducible assumption) | assumption); have hx9 := bt_at a0 x3_1; replace p9 := eq_true p9; replace q9 := eq_true q9))
                go_ret
                exact ⟨by first | rfl | (simp [errW_none, errW_some] <;> rfl) | (simp [*, errW_none, errW_some] <;> rfl), by repeat (first | (with_reducible first | exact HB.out | apply below_alloc | apply pw_below_drewN | apply below_drew1) | exact HB.out)⟩
        · rw [if_neg c3] at H
          exact absurd H (by simp)
      · rw [if_neg c2] at H
        have c2b0 : decide (x3_1 < (a0.size : Int)) = false := decide_eq_false c2
        clear c2
        replace H := Option.bind_eq_some_iff.mp H
        obtain ⟨t111, A110, H⟩ := H
        replace H : (spec_PathOk.l1 k1 a0 t111 (t111.length : Int) 0) = some r := H
        have A11 := Aside0.mk A110
        clear A110
        have H' := Aside0.mk H
        clear H
        go_wp2_with (first | ((with_reducible refine gate_callee (f := 14) rfl ?_); refine goesL_ (some 30) rfl rfl Tryd.func14 (by kernel_rfl) rfl #[.string a0, .int .u8 47] rfl (by (try simp only [List.map_toArray, List.map_cons, List.map_nil]); first | done | rfl | (simp only [List.length_drop, List.length_take]; rfl)) ?_; (with_reducible refine (spec_Cut.calls k1 a0 47 t111 _ A11.out).mono ?_); rintro e w12 ⟨v112, rfl, ho0, hb⟩; refine ⟨_, rfl, ?_⟩; have n0_ := Aside0.mk (Kd.R_lower ho0 (below_size (by repeat (first | (with_reducible first | exact HB.out | apply below_alloc | apply pw_below_drewN | apply below_drew1) | exact HB.out)))); have n1_ := Aside0.mk (below_step (by repeat (first | (with_reducible first | exact HB.out | apply below_alloc | apply pw_below_drewN | apply below_drew1) | exact HB.out)) hb); clear HB; have HO113 := n0_; have HB := n1_; clear n0_ n1_; (try clear hb); (try clear hb2); (try clear hk); (try clear hi); (try clear ho0); obtain ⟨Ao13, co13, eo13⟩ := Kd.R_slice HO113.out; subst eo13))
        go_loopg [32] k1 (fun kq v32 w' => ∃ (x32_2 : Int), v32 = .int .i64 x32_2 ∧ Aside0 (spec_PathOk.l1 kq a0 t111 (t111.length : Int) x32_2 = some r) ∧ Aside0 (kq ≤ k1) ∧ Aside0 (Kd.R Kd.string 9 w' w.heap.size (fun _ => True) (.slice Ao13 t111.length co13) t111) ∧ Aside0 (Below w.heap.size w w'))
        case atStart => exact ⟨(0), (by first | rfl | (simp; done) | (simp [*]; done)), H', ⟨Nat.le_refl _⟩, ⟨by (with_reducible repeat (first | apply Kd.R_alloc | apply Kd.R_drewN | apply Kd.R_drew)); exact HO113.out⟩, ⟨by repeat (first | (with_reducible first | exact HB.out | apply below_alloc | apply pw_below_drewN | apply below_drew1) | exact HB.out)⟩⟩
        case round =>
          clear H'
          try clear c1
          try clear c2
          try clear c2b0
          try clear p2
          try clear c3
          try clear c3b0
          try clear p4
          try clear q4
          try clear hx4
          try clear c6
          try clear p6
          try clear p7
          try clear q7
          try clear hx7
          try clear c8
          try clear c8b0
          try clear c8b1
          try clear c9
          try clear p9
          try clear q9
          try clear hx9
          try clear c10
          try clear c10b0
          try clear c10b1
          try clear p4
          try clear p7
          try clear p9
          try clear q4
          try clear q7
          try clear q9
          obtain ⟨x32_2, rfl, HA, HK2, HO_30, HB⟩ := hrel
          cases gk with
          | zero => exact absurd HA.out (by simp [spec_PathOk.l1])
          | succ k2 =>
            have H := HA.out
            clear HA
            simp only [spec_PathOk.l1] at H
            by_cases c14 : x32_2 < (t111.length : Int)
            · rw [if_pos c14] at H
              have c14b0 : decide (x32_2 < (t111.length : Int)) = true := decide_eq_true c14
              clear c14
              by_cases c15 : 0 ≤ x32_2
              · rw [if_pos c15] at H
                have c15b0 : decide (0 ≤ x32_2) = true := decide_eq_true c15
                clear c15
                by_cases c16 : x32_2 < (t111.length : Int)
                · rw [if_pos c16] at H
                  have c16b0 : decide (x32_2 < (t111.length : Int)) = true := decide_eq_true c16
                  clear c16
                  by_cases c17 : (rdOf ByteArray.empty t111 x32_2).toList = ([] : List UInt8)
                  · rw [if_pos c17] at H
                    have c17b0 : ((rdOf ByteArray.empty t111 x32_2).toList == ([] : List UInt8)) = true := beq_iff_eq.mpr c17
                    have c17b1 : ((rdOf ByteArray.empty t111 x32_2).toList != ([] : List UInt8)) = false := bne_eq_false_iff_eq.mpr c17
                    clear c17
                    obtain rfl := Option.some.inj H
                    have p115 : 0 ≤ (x32_2 : Int) := of_decide_eq_true (by first | (with_reducible assumption) | assumption)
                    have q115 : x32_2 < (t111.length : Int) := of_decide_eq_true (by first | (with_reducible assumption) | assumption)
                    obtain ⟨ad115, e115, hx115_0⟩ := Kd.at_string (Kd.R_reads' HO_30.out).2.2 x32_2 p115 q115
                    cases e115
                    replace p115 := eq_true p115
                    replace q115 := eq_true q115
                    go_wp2
                    go_ret
                    exact ⟨by first | rfl | (simp [errW_none, errW_some] <;> rfl) | (simp [*, errW_none, errW_some] <;> rfl), by repeat (first | (with_reducible first | exact HB.out | apply below_alloc | apply pw_below_drewN | apply below_drew1) | exact HB.out)⟩
                  · rw [if_neg c17] at H
                    have c17b0 : ((rdOf ByteArray.empty t111 x32_2).toList == ([] : List UInt8)) = false := beq_eq_false_iff_ne.mpr c17
                    have c17b1 : ((rdOf ByteArray.empty t111 x32_2).toList != ([] : List UInt8)) = true := bne_iff_ne.mpr c17
                    by_cases c18 : 0 < ((rdOf ByteArray.empty t111 x32_2).size : Int)
                    · rw [if_pos c18] at H
                      have c18b0 : decide (0 < ((rdOf ByteArray.empty t111 x32_2).size : Int)) = true := decide_eq_true c18
                      have c18b1 : decide (0 < (rdOf ByteArray.empty t111 x32_2).size) = true := decide_eq_true (by omega)
                      clear c18
                      replace H := Option.bind_eq_some_iff.mp H
                      obtain ⟨t116, A200, H⟩ := H
                      replace H : (if t116 = true then (if 0 ≤ (wrap64 (((rdOf ByteArray.empty t111 x32_2).size : Int) - 1)) then (if (wrap64 (((rdOf ByteArray.empty t111 x32_2).size : Int) - 1)) < ((rdOf ByteArray.empty t111 x32_2).size : Int) then ((spec_letter.f (bt (rdOf ByteArray.empty t111 x32_2) (wrap64 (((rdOf ByteArray.empty t111 x32_2).size : Int) - 1)))).bind fun t117 => (if t117 = true then (spec_PathOk.l1 k2 a0 t111 (t111.length : Int) (wrap64 (x32_2 + 1))) else (some false))) else (none)) else (none)) else (some false)) = some r := H
                      have A20 := Aside0.mk A200
                      clear A200
                      by_cases c21 : t116 = true
                      · subst c21
                        have H1 : (if 0 ≤ (wrap64 (((rdOf ByteArray.empty t111 x32_2).size : Int) - 1)) then (if (wrap64 (((rdOf ByteArray.empty t111 x32_2).size : Int) - 1)) < ((rdOf ByteArray.empty t111 x32_2).size : Int) then ((spec_letter.f (bt (rdOf ByteArray.empty t111 x32_2) (wrap64 (((rdOf ByteArray.empty t111 x32_2).size : Int) - 1)))).bind fun t117 => (if t117 = true then (spec_PathOk.l1 k2 a0 t111 (t111.length : Int) (wrap64 (x32_2 + 1))) else (some false))) else (none)) else (none)) = some r := by rw [if_pos rfl] at H; exact H
                        clear H
                        have H := H1
                        clear H1
                        obtain ⟨ji22, hji22⟩ : ∃ j_ : Int, (wrap64 (((rdOf ByteArray.empty t111 x32_2).size : Int) - 1)) = j_ := ⟨_, rfl⟩
                        replace H : (if 0 ≤ (ji22) then (if (ji22) < ((rdOf ByteArray.empty t111 x32_2).size : Int) then ((spec_letter.f (bt (rdOf ByteArray.empty t111 x32_2) (ji22))).bind fun t117 => (if t117 = true then (spec_PathOk.l1 k2 a0 t111 (t111.length : Int) (wrap64 (x32_2 + 1))) else (some false))) else (none)) else (none)) = some r := by first | (rw [hji22] at H; exact H) | (simp only [hji22] at H ⊢; exact H)
                        (try rw [hji22] at A20)
                        have hji22w : (IntKind.i64.wrap (((rdOf ByteArray.empty t111 x32_2).size : Int) - 1)) = ji22 := (i64_w _).trans hji22
                        by_cases c23 : 0 ≤ (ji22)
                        · rw [if_pos c23] at H
                          have c23b0 : decide (0 ≤ (ji22)) = true := decide_eq_true c23
                          clear c23
                          by_cases c24 : (ji22) < ((rdOf ByteArray.empty t111 x32_2).size : Int)
                          · rw [if_pos c24] at H
                            have c24b0 : decide ((ji22) < ((rdOf ByteArray.empty t111 x32_2).size : Int)) = true := decide_eq_true c24
                            clear c24
                            replace H := Option.bind_eq_some_iff.mp H
                            obtain ⟨t117, A260, H⟩ := H
                            replace H : (if t117 = true then (spec_PathOk.l1 k2 a0 t111 (t111.length : Int) (wrap64 (x32_2 + 1))) else (some false)) = some r := H
                            have A26 := Aside0.mk A260
                            clear A260
                            by_cases c27 : t117 = true
                            · subst c27
                              have H1 : (spec_PathOk.l1 k2 a0 t111 (t111.length : Int) (wrap64 (x32_2 + 1))) = some r := by rw [if_pos rfl] at H; exact H
                              clear H
                              have H := H1
                              clear H1
                              have H' := Aside0.mk H
                              clear H
                              have p115 : 0 ≤ (x32_2 : Int) := of_decide_eq_true (by first | (with_reducible assumption) | assumption)
                              have q115 : x32_2 < (t111.length : Int) := of_decide_eq_true (by first | (with_reducible assumption) | assumption)
                              obtain ⟨ad115, e115, hx115_0⟩ := Kd.at_string (Kd.R_reads' HO_30.out).2.2 x32_2 p115 q115
                              cases e115
                              replace p115 := eq_true p115
                              replace q115 := eq_true q115
                              have p19 : 0 ≤ (0 : Int) := (by omega)
                              have q19 : 0 < (rdOf ByteArray.empty t111 x32_2).size := (by have : (0 : Int) < ((rdOf ByteArray.empty t111 x32_2).size : Int) := of_decide_eq_true (by first | (with_reducible assumption) | assumption); omega)
                              have hx19 : ∀ h : 0 < (rdOf ByteArray.empty t111 x32_2).size, (((rdOf ByteArray.empty t111 x32_2)[0]'h).toNat : Int) = bt (rdOf ByteArray.empty t111 x32_2) 0 := bt_at (rdOf ByteArray.empty t111 x32_2) 0
                              clear p19
                              have qi19 : (0 < ((rdOf ByteArray.empty t111 x32_2).size : Int)) = True := eq_true (of_decide_eq_true (by first | (with_reducible assumption) | assumption))
                              replace q19 := eq_true q19
                              go_wp2_with (first | (go_at_call 18; (with_reducible refine (spec_letter.calls (bt (rdOf ByteArray.empty t111 x32_2) 0) true _ A20.out).mono ?_); rintro e w' ⟨rfl, ⟨nd, rfl⟩⟩; have p25 : 0 ≤ ((ji22) : Int) := of_decide_eq_true (by first | (with_reducible assumption) | assumption); have q25 : (ji22) < ((rdOf ByteArray.empty t111 x32_2).size : Int) := of_decide_eq_true (by first | (with_reducible assumption) | assumption); have hx25 := bt_at (rdOf ByteArray.empty t111 x32_2) (ji22); replace p25 := eq_true p25; replace q25 := eq_true q25) | (go_at_call 18; (with_reducible refine (spec_letter.calls (bt (rdOf ByteArray.empty t111 x32_2) (ji22)) true _ A26.out).mono ?_); rintro e w' ⟨rfl, ⟨nd, rfl⟩⟩))
                              go_roundg k2
                              case measure => have := HK1.out; have := HK2.out; omega
                              case rel => exact ⟨(wrap64 (x32_2 + 1)), (by first | rfl | (simp; done) | (simp [*]; done)), H', ⟨by have := HK1.out; have := HK2.out; omega⟩, ⟨by (with_reducible repeat (first | apply Kd.R_alloc | apply Kd.R_drewN | apply Kd.R_drew)); exact HO_30.out⟩, ⟨by repeat (first | (with_reducible first | exact HB.out | apply below_alloc | apply pw_below_drewN | apply below_drew1) | exact HB.out)⟩⟩
                            · replace c27 := Bool.eq_false_iff.mpr c27
                              subst c27
                              have H1 : (some false) = some r := by rw [if_neg (show ¬ (false = true) by decide)] at H; exact H
                              clear H
                              have H := H1
                              clear H1
                              obtain rfl := Option.some.inj H
                              have p115 : 0 ≤ (x32_2 : Int) := of_decide_eq_true (by first | (with_reducible assumption) | assumption)
                              have q115 : x32_2 < (t111.length : Int) := of_decide_eq_true (by first | (with_reducible assumption) | assumption)
                              obtain ⟨ad115, e115, hx115_0⟩ := Kd.at_string (Kd.R_reads' HO_30.out).2.2 x32_2 p115 q115
                              cases e115
                              replace p115 := eq_true p115
                              replace q115 := eq_true q115
                              have p19 : 0 ≤ (0 : Int) := (by omega)
                              have q19 : 0 < (rdOf ByteArray.empty t111 x32_2).size := (by have : (0 : Int) < ((rdOf ByteArray.empty t111 x32_2).size : Int) := of_decide_eq_true (by first | (with_reducible assumption) | assumption); omega)
                              have hx19 : ∀ h : 0 < (rdOf ByteArray.empty t111 x32_2).size, (((rdOf ByteArray.empty t111 x32_2)[0]'h).toNat : Int) = bt (rdOf ByteArray.empty t111 x32_2) 0 := bt_at (rdOf ByteArray.empty t111 x32_2) 0
                              clear p19
                              have qi19 : (0 < ((rdOf ByteArray.empty t111 x32_2).size : Int)) = True := eq_true (of_decide_eq_true (by first | (with_reducible assumption) | assumption))
                              replace q19 := eq_true q19
                              go_wp2_with (first | (go_at_call 18; (with_reducible refine (spec_letter.calls (bt (rdOf ByteArray.empty t111 x32_2) 0) true _ A20.out).mono ?_); rintro e w' ⟨rfl, ⟨nd, rfl⟩⟩; have p25 : 0 ≤ ((ji22) : Int) := of_decide_eq_true (by first | (with_reducible assumption) | assumption); have q25 : (ji22) < ((rdOf ByteArray.empty t111 x32_2).size : Int) := of_decide_eq_true (by first | (with_reducible assumption) | assumption); have hx25 := bt_at (rdOf ByteArray.empty t111 x32_2) (ji22); replace p25 := eq_true p25; replace q25 := eq_true q25) | (go_at_call 18; (with_reducible refine (spec_letter.calls (bt (rdOf ByteArray.empty t111 x32_2) (ji22)) false _ A26.out).mono ?_); rintro e w' ⟨rfl, ⟨nd, rfl⟩⟩))
                              go_ret
                              exact ⟨by first | rfl | (simp [errW_none, errW_some] <;> rfl) | (simp only [← hji22]; first | rfl | (simp [errW_none, errW_some] <;> rfl)) | (simp [*, errW_none, errW_some] <;> rfl), by repeat (first | (with_reducible first | exact HB.out | apply below_alloc | apply pw_below_drewN | apply below_drew1) | exact HB.out)⟩
                          · rw [if_neg c24] at H
                            exact absurd H (by simp)
                        · rw [if_neg c23] at H
                          exact absurd H (by simp)
                      · replace c21 := Bool.eq_false_iff.mpr c21
                        subst c21
                        have H1 : (some false) = some r := by rw [if_neg (show ¬ (false = true) by decide)] at H; exact H
                        clear H
                        have H := H1
                        clear H1
                        obtain rfl := Option.some.inj H
                        have p115 : 0 ≤ (x32_2 : Int) := of_decide_eq_true (by first | (with_reducible assumption) | assumption)
                        have q115 : x32_2 < (t111.length : Int) := of_decide_eq_true (by first | (with_reducible assumption) | assumption)
                        obtain ⟨ad115, e115, hx115_0⟩ := Kd.at_string (Kd.R_reads' HO_30.out).2.2 x32_2 p115 q115
                        cases e115
                        replace p115 := eq_true p115
                        replace q115 := eq_true q115
                        have p19 : 0 ≤ (0 : Int) := (by omega)
                        have q19 : 0 < (rdOf ByteArray.empty t111 x32_2).size := (by have : (0 : Int) < ((rdOf ByteArray.empty t111 x32_2).size : Int) := of_decide_eq_true (by first | (with_reducible assumption) | assumption); omega)
                        have hx19 : ∀ h : 0 < (rdOf ByteArray.empty t111 x32_2).size, (((rdOf ByteArray.empty t111 x32_2)[0]'h).toNat : Int) = bt (rdOf ByteArray.empty t111 x32_2) 0 := bt_at (rdOf ByteArray.empty t111 x32_2) 0
                        clear p19
                        have qi19 : (0 < ((rdOf ByteArray.empty t111 x32_2).size : Int)) = True := eq_true (of_decide_eq_true (by first | (with_reducible assumption) | assumption))
                        replace q19 := eq_true q19
                        go_wp2_with (first | (go_at_call 18; (with_reducible refine (spec_letter.calls (bt (rdOf ByteArray.empty t111 x32_2) 0) false _ A20.out).mono ?_); rintro e w' ⟨rfl, ⟨nd, rfl⟩⟩))
                        go_ret
                        exact ⟨by first | rfl | (simp [errW_none, errW_some] <;> rfl) | (simp [*, errW_none, errW_some] <;> rfl), by repeat (first | (with_reducible first | exact HB.out | apply below_alloc | apply pw_below_drewN | apply below_drew1) | exact HB.out)⟩
                    · rw [if_neg c18] at H
                      exact absurd H (by simp)
                · rw [if_neg c16] at H
                  exact absurd H (by simp)
              · rw [if_neg c15] at H
                exact absurd H (by simp)
            · rw [if_neg c14] at H
              have c14b0 : decide (x32_2 < (t111.length : Int)) = false := decide_eq_false c14
              clear c14
              by_cases c28 : (a0.size : Int) ≤ 100
              · rw [if_pos c28] at H
                have c28b0 : decide ((a0.size : Int) ≤ 100) = true := decide_eq_true c28
                have c28b1 : decide (a0.size ≤ 100) = true := decide_eq_true (by omega)
                clear c28
                replace H := Option.bind_eq_some_iff.mp H
                obtain ⟨t114, A290, H⟩ := H
                replace H : (some (!t114)) = some r := H
                have A29 := Aside0.mk A290
                clear A290
                obtain rfl := Option.some.inj H
                go_wp2_with (first | (go_at_call 16; (with_reducible refine (spec_Begins.calls a0 (⟨#[103, 111, 112, 107, 103, 46, 105, 110, 47]⟩ : ByteArray) t114 _ A29.out).mono ?_); rintro e w' ⟨rfl, ⟨nd, rfl⟩⟩))
                go_ret
                exact ⟨by first | rfl | (simp [errW_none, errW_some] <;> rfl) | (simp [*, errW_none, errW_some] <;> rfl), by repeat (first | (with_reducible first | exact HB.out | apply below_alloc | apply pw_below_drewN | apply below_drew1) | exact HB.out)⟩
              · rw [if_neg c28] at H
                have c28b0 : decide ((a0.size : Int) ≤ 100) = false := decide_eq_false c28
                have c28b1 : decide (a0.size ≤ 100) = false := decide_eq_false (by omega)
                clear c28
                obtain rfl := Option.some.inj H
                go_wp2
                go_ret
                exact ⟨by first | rfl | (simp [errW_none, errW_some] <;> rfl) | (simp [*, errW_none, errW_some] <;> rfl), by repeat (first | (with_reducible first | exact HB.out | apply below_alloc | apply pw_below_drewN | apply below_drew1) | exact HB.out)⟩

/-- THE ONE PURE STATEMENT of spec_PathOk: yours. -/
def spec_PathOk.Pure : Prop := ∀ (a0 : ByteArray), a0.size ≤ 140737488351232 → ∃ k, spec_PathOk.f k a0 = some true
theorem spec_PathOk.walk (P : spec_PathOk.Pure) (a0 : ByteArray) (w : World) (w0 : a0.size ≤ 140737488351232) :
    Calls Tryd.prog 9 #[.string a0] w fun e w' => e = .returned (.bool true) ∧ Below w.heap.size w w' := by
  obtain ⟨k, h⟩ := P a0 w0
  refine (spec_PathOk.calls k a0 true w h).mono ?_
  rintro e w' ⟨rfl, hd⟩
  exact ⟨rfl, hd⟩

end Go.Proofs.YtlnmchehnhgfnaaDoor.PPathOk
