import Derived.Test.YtbifcpokkfiagaaDoorPFmx0
namespace Go.Proofs.YtbifcpokkfiagaaDoor.PFm
open Go.RowKit Go.Proofs.YtbifcpokkfiagaaDoorW.PrintWords Go.Proofs.YtbifcpokkfiagaaDoorW.PrintLast Go.Proofs.YtbifcpokkfiagaaDoorW.PrintMore
attribute [local go_sem] max2_int min2_int max_two min_two max_three min_three max_four min_four   -- for this text's walks alone
set_option linter.unusedVariables false
set_option linter.unusedSimpArgs false

/-! ### spec_has: function 22 -/
def spec_has.l0 : Nat → ByteArray → List ByteArray → Int → Int → Option (Bool)
  | 0, _, _, _, _ => none
  | k + 1, x1, x7, x8, x9 => if x9 < x8 then (if 0 ≤ x9 then (if x9 < (x7.length : Int) then (if (rdOf ByteArray.empty x7 x9).toList = x1.toList then (some true) else (spec_has.l0 k x1 x7 x8 (wrap64 (x9 + 1)))) else (none)) else (none)) else (some false)
def spec_has.f (k : Nat) (l0 : List ByteArray) (a1 : ByteArray) : Option (Bool) := spec_has.l0 k a1 l0 (l0.length : Int) 0
theorem spec_has.mono_l : ∀ k, (∀ y0 y1 y2 y3, LeO (spec_has.l0 k y0 y1 y2 y3) (spec_has.l0 (k + 1) y0 y1 y2 y3))
  | 0 => fun _ _ _ _ r h => by simp [spec_has.l0] at h
  | k + 1 => by
    have ih0 := spec_has.mono_l k
    · intro y0 y1 y2 y3
      unfold spec_has.l0
      repeat' first
      | (with_reducible exact ih0 _ _ _ _)
      | (with_reducible exact LeO.refl _)
      | (with_reducible exact LeO.none _)
      | (with_reducible refine LeO.ite ?_ ?_)
      | (with_reducible refine LeO.bind ?_ (fun _ => ?_))
      | exact ih0 _ _ _ _
      | exact LeO.none _
      | refine LeO.ite ?_ ?_
      | refine LeO.bind ?_ (fun _ => ?_)
theorem spec_has.mono : ∀ a0 a1 k, LeO (spec_has.f k a0 a1) (spec_has.f (k + 1) a0 a1) := by
  intro a0 a1 k
  have ih0 := spec_has.mono_l k
  unfold spec_has.f
  repeat' first
      | (with_reducible exact ih0 _ _ _ _)
      | (with_reducible exact LeO.refl _)
      | (with_reducible exact LeO.none _)
      | (with_reducible refine LeO.ite ?_ ?_)
      | (with_reducible refine LeO.bind ?_ (fun _ => ?_))
      | exact ih0 _ _ _ _
      | exact LeO.none _
      | refine LeO.ite ?_ ?_
      | refine LeO.bind ?_ (fun _ => ?_)
set_option maxHeartbeats 8000000 in
set_option maxRecDepth 100000 in
theorem spec_has.calls (k : Nat) (A0 : Option Addr) (c0 : Nat) (l0 : List ByteArray) (a1 : ByteArray) (r : Bool) (w : World) (hr0 : Kd.C Kd.string w A0 l0.length l0) (hc0 : l0.length ≤ c0) (h : spec_has.f k l0 a1 = some r) :
    Calls Tryd.prog 22 #[.slice A0 l0.length c0, .string a1] w fun e w' => e = .returned (.bool r) ∧ Drawn0 w w' := by
  have HR0 := Aside0.mk hr0
  have HC0 := Aside0.mk hc0
  clear hr0 hc0
  have H : (spec_has.l0 k a1 l0 (l0.length : Int) 0) = some r := h
  clear h
  have H' := Aside0.mk H
  clear H
  go_enter Tryd.func22, Tryd.ntmps22
  go_wp2
  go_loopg [9] k (fun kq v9 w' => ∃ (x9_1 : Int), v9 = .int .i64 x9_1 ∧ Aside0 (spec_has.l0 kq a1 l0 (l0.length : Int) x9_1 = some r) ∧ Aside0 (kq ≤ k) ∧ Drawn0 w w')
  case atStart => exact ⟨(0), (by first | rfl | (simp; done) | (simp [*]; done)), H', ⟨Nat.le_refl _⟩, by repeat (first | exact Drawn0.refl _ | apply Drawn0.step)⟩
  case round =>
    clear H'
    try clear c2
    try clear p2
    obtain ⟨x9_1, rfl, HA, HK1, ⟨m1, rfl⟩⟩ := hrel
    cases gk with
    | zero => exact absurd HA.out (by simp [spec_has.l0])
    | succ k1 =>
      have H := HA.out
      clear HA
      simp only [spec_has.l0] at H
      by_cases c3 : x9_1 < (l0.length : Int)
      · rw [if_pos c3] at H
        have c3b0 : decide (x9_1 < (l0.length : Int)) = true := decide_eq_true c3
        clear c3
        by_cases c4 : 0 ≤ x9_1
        · rw [if_pos c4] at H
          have c4b0 : decide (0 ≤ x9_1) = true := decide_eq_true c4
          clear c4
          by_cases c5 : x9_1 < (l0.length : Int)
          · rw [if_pos c5] at H
            have c5b0 : decide (x9_1 < (l0.length : Int)) = true := decide_eq_true c5
            clear c5
            by_cases c6 : (rdOf ByteArray.empty l0 x9_1).toList = a1.toList
            · rw [if_pos c6] at H
              have c6b0 : ((rdOf ByteArray.empty l0 x9_1).toList == a1.toList) = true := beq_iff_eq.mpr c6
              have c6b1 : ((rdOf ByteArray.empty l0 x9_1).toList != a1.toList) = false := bne_eq_false_iff_eq.mpr c6
              clear c6
              obtain rfl := Option.some.inj H
              have p142 : 0 ≤ (x9_1 : Int) := of_decide_eq_true (by first | (with_reducible assumption) | assumption)
              have q142 : x9_1 < (l0.length : Int) := of_decide_eq_true (by first | (with_reducible assumption) | assumption)
              obtain ⟨ad142, e142, hx142_0⟩ := Kd.at_string HR0.out x9_1 p142 q142
              cases e142
              replace p142 := eq_true p142
              replace q142 := eq_true q142
              go_wp2
              go_ret
              exact ⟨by first | rfl | (simp; done) | (simp [*]; done), by repeat (first | exact Drawn0.refl _ | apply Drawn0.step)⟩
            · rw [if_neg c6] at H
              have c6b0 : ((rdOf ByteArray.empty l0 x9_1).toList == a1.toList) = false := beq_eq_false_iff_ne.mpr c6
              have c6b1 : ((rdOf ByteArray.empty l0 x9_1).toList != a1.toList) = true := bne_iff_ne.mpr c6
              have H' := Aside0.mk H
              clear H
              have p142 : 0 ≤ (x9_1 : Int) := of_decide_eq_true (by first | (with_reducible assumption) | assumption)
              have q142 : x9_1 < (l0.length : Int) := of_decide_eq_true (by first | (with_reducible assumption) | assumption)
              obtain ⟨ad142, e142, hx142_0⟩ := Kd.at_string HR0.out x9_1 p142 q142
              cases e142
              replace p142 := eq_true p142
              replace q142 := eq_true q142
              go_wp2
              go_roundg k1
              case measure => have := HK1.out; omega
              case rel => exact ⟨(wrap64 (x9_1 + 1)), (by first | rfl | (simp; done) | (simp [*]; done)), H', ⟨by have := HK1.out; omega⟩, by repeat (first | exact Drawn0.refl _ | apply Drawn0.step)⟩
          · rw [if_neg c5] at H
            exact absurd H (by simp)
        · rw [if_neg c4] at H
          exact absurd H (by simp)
      · rw [if_neg c3] at H
        have c3b0 : decide (x9_1 < (l0.length : Int)) = false := decide_eq_false c3
        clear c3
        obtain rfl := Option.some.inj H
        go_wp2
        go_ret
        exact ⟨by first | rfl | (simp; done) | (simp [*]; done), by repeat (first | exact Drawn0.refl _ | apply Drawn0.step)⟩

/-! ### spec_Known: function 12 -/
def spec_Known.f (k : Nat) (a0 : ByteArray) : Option (Bool) := (spec_has.f k (([(⟨#[109, 111, 100, 117, 108, 101]⟩ : ByteArray), (⟨#[103, 111]⟩ : ByteArray), (⟨#[116, 111, 111, 108, 99, 104, 97, 105, 110]⟩ : ByteArray), (⟨#[103, 111, 100, 101, 98, 117, 103]⟩ : ByteArray), (⟨#[114, 101, 113, 117, 105, 114, 101]⟩ : ByteArray), (⟨#[101, 120, 99, 108, 117, 100, 101]⟩ : ByteArray), (⟨#[114, 101, 112, 108, 97, 99, 101]⟩ : ByteArray), (⟨#[114, 101, 116, 114, 97, 99, 116]⟩ : ByteArray), (⟨#[116, 111, 111, 108]⟩ : ByteArray), (⟨#[105, 103, 110, 111, 114, 101]⟩ : ByteArray)] : List ByteArray)) a0).bind fun t146 => (some t146)
theorem spec_Known.mono : ∀ a0 k, LeO (spec_Known.f k a0) (spec_Known.f (k + 1) a0) := by
  intro a0 k
  unfold spec_Known.f
  repeat' first
      | (with_reducible exact spec_has.mono _ _ _)
      | (with_reducible exact LeO.refl _)
      | (with_reducible exact LeO.none _)
      | (with_reducible refine LeO.ite ?_ ?_)
      | (with_reducible refine LeO.bind ?_ (fun _ => ?_))
      | exact spec_has.mono _ _ _
      | exact LeO.none _
      | refine LeO.ite ?_ ?_
      | refine LeO.bind ?_ (fun _ => ?_)
set_option maxHeartbeats 8000000 in
set_option maxRecDepth 100000 in
theorem spec_Known.calls (k : Nat) (a0 : ByteArray) (r : Bool) (w : World) (h : spec_Known.f k a0 = some r) :
    Calls Tryd.prog 12 #[.string a0] w fun e w' => e = .returned (.bool r) ∧ Below w.heap.size w w' := by
  have HB := Aside0.mk (Below.refl w.heap.size w)
  have H : ((spec_has.f k (([(⟨#[109, 111, 100, 117, 108, 101]⟩ : ByteArray), (⟨#[103, 111]⟩ : ByteArray), (⟨#[116, 111, 111, 108, 99, 104, 97, 105, 110]⟩ : ByteArray), (⟨#[103, 111, 100, 101, 98, 117, 103]⟩ : ByteArray), (⟨#[114, 101, 113, 117, 105, 114, 101]⟩ : ByteArray), (⟨#[101, 120, 99, 108, 117, 100, 101]⟩ : ByteArray), (⟨#[114, 101, 112, 108, 97, 99, 101]⟩ : ByteArray), (⟨#[114, 101, 116, 114, 97, 99, 116]⟩ : ByteArray), (⟨#[116, 111, 111, 108]⟩ : ByteArray), (⟨#[105, 103, 110, 111, 114, 101]⟩ : ByteArray)] : List ByteArray)) a0).bind fun t146 => (some t146)) = some r := h
  clear h
  obtain ⟨y143, hy143⟩ : ∃ y_ : List ByteArray, y_ = (([(⟨#[109, 111, 100, 117, 108, 101]⟩ : ByteArray), (⟨#[103, 111]⟩ : ByteArray), (⟨#[116, 111, 111, 108, 99, 104, 97, 105, 110]⟩ : ByteArray), (⟨#[103, 111, 100, 101, 98, 117, 103]⟩ : ByteArray), (⟨#[114, 101, 113, 117, 105, 114, 101]⟩ : ByteArray), (⟨#[101, 120, 99, 108, 117, 100, 101]⟩ : ByteArray), (⟨#[114, 101, 112, 108, 97, 99, 101]⟩ : ByteArray), (⟨#[114, 101, 116, 114, 97, 99, 116]⟩ : ByteArray), (⟨#[116, 111, 111, 108]⟩ : ByteArray), (⟨#[105, 103, 110, 111, 114, 101]⟩ : ByteArray)] : List ByteArray)) := ⟨_, rfl⟩
  replace H : ((spec_has.f k y143 a0).bind fun t146 => (some t146)) = some r := by first | (rw [hy143]; with_reducible exact H) | (have H2_ := (Option.bind_some _ _).symm.trans H; rw [hy143]; with_reducible exact H2_) | (have H2_ := (Option.bind_some _ _).symm.trans H; with_reducible exact H2_) | with_reducible exact H | (rw [hy143]; exact H) | exact H
  have Ny143 := Aside0.mk hy143
  clear hy143
  replace H := Option.bind_eq_some_iff.mp H
  obtain ⟨t146, A20, H⟩ := H
  replace H : (some t146) = some r := H
  have A2 := Aside0.mk A20
  clear A20
  obtain rfl := Option.some.inj H
  go_enter Tryd.func12, Tryd.ntmps12
  go_wp2_with (first | ((with_reducible refine gate_dst (N := 3) rfl ?_); refine Kd.R_lit Kd.string _ 9 ?hg (N := 3) ?hd (xs := ([(⟨#[109, 111, 100, 117, 108, 101]⟩ : ByteArray), (⟨#[103, 111]⟩ : ByteArray), (⟨#[116, 111, 111, 108, 99, 104, 97, 105, 110]⟩ : ByteArray), (⟨#[103, 111, 100, 101, 98, 117, 103]⟩ : ByteArray), (⟨#[114, 101, 113, 117, 105, 114, 101]⟩ : ByteArray), (⟨#[101, 120, 99, 108, 117, 100, 101]⟩ : ByteArray), (⟨#[114, 101, 112, 108, 97, 99, 101]⟩ : ByteArray), (⟨#[114, 101, 116, 114, 97, 99, 116]⟩ : ByteArray), (⟨#[116, 111, 111, 108]⟩ : ByteArray), (⟨#[105, 103, 110, 111, 114, 101]⟩ : ByteArray)] : List ByteArray)) (inner := [.string (⟨#[109, 111, 100, 117, 108, 101]⟩ : ByteArray), .string (⟨#[103, 111]⟩ : ByteArray), .string (⟨#[116, 111, 111, 108, 99, 104, 97, 105, 110]⟩ : ByteArray), .string (⟨#[103, 111, 100, 101, 98, 117, 103]⟩ : ByteArray), .string (⟨#[114, 101, 113, 117, 105, 114, 101]⟩ : ByteArray), .string (⟨#[101, 120, 99, 108, 117, 100, 101]⟩ : ByteArray), .string (⟨#[114, 101, 112, 108, 97, 99, 101]⟩ : ByteArray), .string (⟨#[114, 101, 116, 114, 97, 99, 116]⟩ : ByteArray), .string (⟨#[116, 111, 111, 108]⟩ : ByteArray), .string (⟨#[105, 103, 110, 111, 114, 101]⟩ : ByteArray)]) (ok := fun _ => True) (okp := fun _ => True) ?hr ?hp (fun _ hk => hk) trivial (Below.refl _ _) (Nat.le_refl _) (by simp) ?_; (case hd => rfl); (case hg => rfl); (case hr => first | (go_simp; done) | (go_simp; rfl)); (case hp => exact (Reps.one (show Kd.M Kd.string _ _ _ (⟨#[109, 111, 100, 117, 108, 101]⟩ : ByteArray) [.string (⟨#[109, 111, 100, 117, 108, 101]⟩ : ByteArray)] from rfl) (Reps.one (show Kd.M Kd.string _ _ _ (⟨#[103, 111]⟩ : ByteArray) [.string (⟨#[103, 111]⟩ : ByteArray)] from rfl) (Reps.one (show Kd.M Kd.string _ _ _ (⟨#[116, 111, 111, 108, 99, 104, 97, 105, 110]⟩ : ByteArray) [.string (⟨#[116, 111, 111, 108, 99, 104, 97, 105, 110]⟩ : ByteArray)] from rfl) (Reps.one (show Kd.M Kd.string _ _ _ (⟨#[103, 111, 100, 101, 98, 117, 103]⟩ : ByteArray) [.string (⟨#[103, 111, 100, 101, 98, 117, 103]⟩ : ByteArray)] from rfl) (Reps.one (show Kd.M Kd.string _ _ _ (⟨#[114, 101, 113, 117, 105, 114, 101]⟩ : ByteArray) [.string (⟨#[114, 101, 113, 117, 105, 114, 101]⟩ : ByteArray)] from rfl) (Reps.one (show Kd.M Kd.string _ _ _ (⟨#[101, 120, 99, 108, 117, 100, 101]⟩ : ByteArray) [.string (⟨#[101, 120, 99, 108, 117, 100, 101]⟩ : ByteArray)] from rfl) (Reps.one (show Kd.M Kd.string _ _ _ (⟨#[114, 101, 112, 108, 97, 99, 101]⟩ : ByteArray) [.string (⟨#[114, 101, 112, 108, 97, 99, 101]⟩ : ByteArray)] from rfl) (Reps.one (show Kd.M Kd.string _ _ _ (⟨#[114, 101, 116, 114, 97, 99, 116]⟩ : ByteArray) [.string (⟨#[114, 101, 116, 114, 97, 99, 116]⟩ : ByteArray)] from rfl) (Reps.one (show Kd.M Kd.string _ _ _ (⟨#[116, 111, 111, 108]⟩ : ByteArray) [.string (⟨#[116, 111, 111, 108]⟩ : ByteArray)] from rfl) (Reps.one (show Kd.M Kd.string _ _ _ (⟨#[105, 103, 110, 111, 114, 101]⟩ : ByteArray) [.string (⟨#[105, 103, 110, 111, 114, 101]⟩ : ByteArray)] from rfl) (Reps.none _ _)))))))))))); intro v144 w3 ho4 hb hg_ hnew_; clear hg_ hnew_; (first | rw [← Ny143.out] at ho4 | (simp only [Int.reduceToNat] at ho4; rw [← Ny143.out] at ho4)); have n0_ := Aside0.mk (Kd.R_lower ho4 (below_size (by repeat (first | (with_reducible first | exact HB.out | apply below_alloc | apply pw_below_drewN | apply below_drew1) | exact HB.out)))); have n1_ := Aside0.mk (below_step (by repeat (first | (with_reducible first | exact HB.out | apply below_alloc | apply pw_below_drewN | apply below_drew1) | exact HB.out)) hb); clear HB; have HO145 := n0_; have HB := n1_; clear n0_ n1_; clear hb ho4; obtain ⟨Ao5, co5, eo5⟩ := Kd.R_slice HO145.out; subst eo5) | ((with_reducible refine gate_callee (f := 22) rfl ?_); refine goesL_ (some 5) rfl rfl Tryd.func22 (by kernel_rfl) rfl #[.slice Ao5 y143.length co5, .string a0] rfl (by (try simp only [List.map_toArray, List.map_cons, List.map_nil]); first | done | rfl | (simp only [List.length_drop, List.length_take]; rfl)) ?_; (with_reducible refine (spec_has.calls k _ _ y143 a0 t146 _ ?side1 ?side2 A2.out).mono ?_); (case side1 => repeat (first | exact (Kd.R_reads' HO145.out).2.2 | (with_reducible refine Kd.C_alloc ?_ _) | (with_reducible refine Kd.C_drewN ?_ _) | (with_reducible refine Kd.C_drew ?_))); (case side2 => exact (Kd.R_reads' HO145.out).2.1); rintro e w' ⟨rfl, ⟨nd, rfl⟩⟩; refine ⟨_, rfl, ?_⟩))
  go_ret
  exact ⟨by first | rfl | (simp [errW_none, errW_some] <;> rfl) | (simp [*, errW_none, errW_some] <;> rfl), by repeat (first | (with_reducible first | exact HB.out | apply below_alloc | apply pw_below_drewN | apply below_drew1) | exact HB.out)⟩

end Go.Proofs.YtbifcpokkfiagaaDoor.PFm
