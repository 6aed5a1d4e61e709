/- Functions of the program and their contracts, as the print writes them, cut to what this claim uses. -/
import Derived.Test.YtlnmchehnhgfnaaDoorZPContx0
import Derived.Test.YtlnmchehnhgfnaaDoorZPContx2
import Derived.Test.YtlnmchehnhgfnaaDoorZPContx4
import Derived.Test.YtlnmchehnhgfnaaDoorZPContx5
namespace Go.Proofs.YtlnmchehnhgfnaaDoor.PCont
open Go.RowKit Go.Proofs.YtlnmchehnhgfnaaDoorW.PrintWords Go.Proofs.YtlnmchehnhgfnaaDoorW.PrintLast Go.Proofs.YtlnmchehnhgfnaaDoorW.PrintMore
attribute [local go_sem] max2_int min2_int max_two min_two max_three min_three max_four min_four max_six   -- for this text's walks alone
set_option linter.unusedVariables false
set_option linter.unusedSimpArgs false
def spec_DirOk.f (k : Nat) (a0 : ByteArray) : Option (Bool) := (spec_Begins.f a0 (⟨#[46, 47]⟩ : ByteArray)).bind fun t191 => (if t191 = true then (if 2 ≤ (a0.size : Int) then ((spec_PathOk.f k (a0.extract 2 a0.size)).bind fun t192 => (if t192 = true then (some true) else ((spec_Begins.f a0 (⟨#[46, 46, 47]⟩ : ByteArray)).bind fun t193 => (if t193 = true then (if 3 ≤ (a0.size : Int) then ((spec_PathOk.f k (a0.extract 3 a0.size)).bind fun t194 => (some t194)) else (none)) else (some false))))) else (none)) else ((spec_Begins.f a0 (⟨#[46, 46, 47]⟩ : ByteArray)).bind fun t195 => (if t195 = true then (if 3 ≤ (a0.size : Int) then ((spec_PathOk.f k (a0.extract 3 a0.size)).bind fun t196 => (some t196)) else (none)) else (some false))))
set_option maxHeartbeats 8000000 in
set_option maxRecDepth 100000 in
theorem spec_DirOk.calls (k : Nat) (a0 : ByteArray) (r : Bool) (w : World) (h : spec_DirOk.f k a0 = some r) :
  Calls Tryd.prog 46 #[.string a0] w fun e w' => e = .returned (.bool r) ∧ Below w.heap.size w w' := by
 have HB := Aside0.mk (Below.refl w.heap.size w)
 have H : ((spec_Begins.f a0 (⟨#[46, 47]⟩ : ByteArray)).bind fun t191 => (if t191 = true then (if 2 ≤ (a0.size : Int) then ((spec_PathOk.f k (a0.extract 2 a0.size)).bind fun t192 => (if t192 = true then (some true) else ((spec_Begins.f a0 (⟨#[46, 46, 47]⟩ : ByteArray)).bind fun t193 => (if t193 = true then (if 3 ≤ (a0.size : Int) then ((spec_PathOk.f k (a0.extract 3 a0.size)).bind fun t194 => (some t194)) else (none)) else (some false))))) else (none)) else ((spec_Begins.f a0 (⟨#[46, 46, 47]⟩ : ByteArray)).bind fun t195 => (if t195 = true then (if 3 ≤ (a0.size : Int) then ((spec_PathOk.f k (a0.extract 3 a0.size)).bind fun t196 => (some t196)) else (none)) else (some false))))) = some r := h
 clear h
 replace H := Option.bind_eq_some_iff.mp H
 obtain ⟨t191, A20, H⟩ := H
 replace H : (if t191 = true then (if 2 ≤ (a0.size : Int) then ((spec_PathOk.f k (a0.extract 2 a0.size)).bind fun t192 => (if t192 = true then (some true) else ((spec_Begins.f a0 (⟨#[46, 46, 47]⟩ : ByteArray)).bind fun t193 => (if t193 = true then (if 3 ≤ (a0.size : Int) then ((spec_PathOk.f k (a0.extract 3 a0.size)).bind fun t194 => (some t194)) else (none)) else (some false))))) else (none)) else ((spec_Begins.f a0 (⟨#[46, 46, 47]⟩ : ByteArray)).bind fun t195 => (if t195 = true then (if 3 ≤ (a0.size : Int) then ((spec_PathOk.f k (a0.extract 3 a0.size)).bind fun t196 => (some t196)) else (none)) else (some false)))) = some r := H
 have A2 := Aside0.mk A20
 clear A20
 by_cases c3 : t191 = true
 ·
  subst c3
  have H1 : (if 2 ≤ (a0.size : Int) then ((spec_PathOk.f k (a0.extract 2 a0.size)).bind fun t192 => (if t192 = true then (some true) else ((spec_Begins.f a0 (⟨#[46, 46, 47]⟩ : ByteArray)).bind fun t193 => (if t193 = true then (if 3 ≤ (a0.size : Int) then ((spec_PathOk.f k (a0.extract 3 a0.size)).bind fun t194 => (some t194)) else (none)) else (some false))))) else (none)) = some r := by rw [if_pos rfl] at H; exact H
  clear H
  have H := H1
  clear H1
  by_cases c4 : 2 ≤ (a0.size : Int)
  ·
   rw [if_pos c4] at H
   have c4b0 := eq_true c4
   have c4b1 : decide (2 ≤ (a0.size : Int)) = true := decide_eq_true c4
   clear c4
   replace H := Option.bind_eq_some_iff.mp H
   obtain ⟨t192, A50, H⟩ := H
   replace H : (if t192 = true then (some true) else ((spec_Begins.f a0 (⟨#[46, 46, 47]⟩ : ByteArray)).bind fun t193 => (if t193 = true then (if 3 ≤ (a0.size : Int) then ((spec_PathOk.f k (a0.extract 3 a0.size)).bind fun t194 => (some t194)) else (none)) else (some false)))) = some r := H
   have A5 := Aside0.mk A50
   clear A50
   by_cases c6 : t192 = true
   ·
    subst c6
    have H1 : (some true) = some r := by rw [if_pos rfl] at H; exact H
    clear H
    have H := H1
    clear H1
    obtain rfl := Option.some.inj H
    go_enter Tryd.func46, Tryd.ntmps46
    go_wp2_with (first | ((with_reducible refine gate_callee (f := 16) rfl ?_); refine goesL_ (some 4) rfl rfl Tryd.func16 (by kernel_rfl) rfl #[.string a0, .string (⟨#[46, 47]⟩ : ByteArray)] rfl (by (try simp only [List.map_toArray, List.map_cons, List.map_nil]); first | done | rfl | (simp only [List.length_drop, List.length_take]; rfl)) ?_; (with_reducible refine (spec_Begins.calls a0 (⟨#[46, 47]⟩ : ByteArray) true _ A2.out).mono ?_); rintro e w' ⟨rfl, ⟨nd, rfl⟩⟩; refine ⟨_, rfl, ?_⟩) | (go_at_call 9; (with_reducible refine (spec_PathOk.calls k (a0.extract 2 a0.size) true _ A5.out).mono ?_); rintro e w7 ⟨rfl, hb⟩; have n0_ := Aside0.mk (below_step (by repeat (first | (with_reducible first | exact HB.out | apply below_alloc | apply pw_below_drewN | apply below_drew1) | exact HB.out)) hb); clear HB; have HB := n0_; clear n0_; (try clear hb); (try clear hb2); (try clear hk); (try clear hi)))
    go_ret
    exact ⟨by first | rfl | (simp [errW_none, errW_some] <;> rfl) | (simp [*, errW_none, errW_some] <;> rfl), by repeat (first | (with_reducible first | exact HB.out | apply below_alloc | apply pw_below_drewN | apply below_drew1) | exact HB.out)⟩
   ·
    replace c6 := Bool.eq_false_iff.mpr c6
    subst c6
    have H1 : ((spec_Begins.f a0 (⟨#[46, 46, 47]⟩ : ByteArray)).bind fun t193 => (if t193 = true then (if 3 ≤ (a0.size : Int) then ((spec_PathOk.f k (a0.extract 3 a0.size)).bind fun t194 => (some t194)) else (none)) else (some false))) = some r := by rw [if_neg (show ¬ (false = true) by decide)] at H; exact H
    clear H
    have H := H1
    clear H1
    replace H := Option.bind_eq_some_iff.mp H
    obtain ⟨t193, A80, H⟩ := H
    replace H : (if t193 = true then (if 3 ≤ (a0.size : Int) then ((spec_PathOk.f k (a0.extract 3 a0.size)).bind fun t194 => (some t194)) else (none)) else (some false)) = some r := H
    have A8 := Aside0.mk A80
    clear A80
    by_cases c9 : t193 = true
    ·
     subst c9
     have H1 : (if 3 ≤ (a0.size : Int) then ((spec_PathOk.f k (a0.extract 3 a0.size)).bind fun t194 => (some t194)) else (none)) = some r := by rw [if_pos rfl] at H; exact H
     clear H
     have H := H1
     clear H1
     by_cases c10 : 3 ≤ (a0.size : Int)
     ·
      rw [if_pos c10] at H
      have c10b0 := eq_true c10
      have c10b1 : decide (3 ≤ (a0.size : Int)) = true := decide_eq_true c10
      clear c10
      replace H := Option.bind_eq_some_iff.mp H
      obtain ⟨t194, A110, H⟩ := H
      replace H : (some t194) = some r := H
      have A11 := Aside0.mk A110
      clear A110
      obtain rfl := Option.some.inj H
      go_enter Tryd.func46, Tryd.ntmps46
      go_wp2_with (first | ((with_reducible refine gate_callee (f := 16) rfl ?_); refine goesL_ (some 4) rfl rfl Tryd.func16 (by kernel_rfl) rfl #[.string a0, .string (⟨#[46, 47]⟩ : ByteArray)] rfl (by (try simp only [List.map_toArray, List.map_cons, List.map_nil]); first | done | rfl | (simp only [List.length_drop, List.length_take]; rfl)) ?_; (with_reducible refine (spec_Begins.calls a0 (⟨#[46, 47]⟩ : ByteArray) true _ A2.out).mono ?_); rintro e w' ⟨rfl, ⟨nd, rfl⟩⟩; refine ⟨_, rfl, ?_⟩) | (go_at_call 9; (with_reducible refine (spec_PathOk.calls k (a0.extract 2 a0.size) false _ A5.out).mono ?_); rintro e w12 ⟨rfl, hb⟩; have n0_ := Aside0.mk (below_step (by repeat (first | (with_reducible first | exact HB.out | apply below_alloc | apply pw_below_drewN | apply below_drew1) | exact HB.out)) hb); clear HB; have HB := n0_; clear n0_; (try clear hb); (try clear hb2); (try clear hk); (try clear hi)) | (go_at_call 16; (with_reducible refine (spec_Begins.calls a0 (⟨#[46, 46, 47]⟩ : ByteArray) true _ A8.out).mono ?_); rintro e w' ⟨rfl, ⟨nd, rfl⟩⟩) | (go_at_call 9; (with_reducible refine (spec_PathOk.calls k (a0.extract 3 a0.size) t194 _ A11.out).mono ?_); rintro e w13 ⟨rfl, hb⟩; have n0_ := Aside0.mk (below_step (by repeat (first | (with_reducible first | exact HB.out | apply below_alloc | apply pw_below_drewN | apply below_drew1) | exact HB.out)) hb); clear HB; have HB := n0_; clear n0_; (try clear hb); (try clear hb2); (try clear hk); (try clear hi)))
      go_ret
      exact ⟨by first | rfl | (simp [errW_none, errW_some] <;> rfl) | (simp [*, errW_none, errW_some] <;> rfl), by repeat (first | (with_reducible first | exact HB.out | apply below_alloc | apply pw_below_drewN | apply below_drew1) | exact HB.out)⟩
     ·
      rw [if_neg c10] at H
      exact absurd H (by simp)
    ·
     replace c9 := Bool.eq_false_iff.mpr c9
     subst c9
     have H1 : (some false) = some r := by rw [if_neg (show ¬ (false = true) by decide)] at H; exact H
     clear H
     have H := H1
     clear H1
     obtain rfl := Option.some.inj H
     go_enter Tryd.func46, Tryd.ntmps46
     go_wp2_with (first | ((with_reducible refine gate_callee (f := 16) rfl ?_); refine goesL_ (some 4) rfl rfl Tryd.func16 (by kernel_rfl) rfl #[.string a0, .string (⟨#[46, 47]⟩ : ByteArray)] rfl (by (try simp only [List.map_toArray, List.map_cons, List.map_nil]); first | done | rfl | (simp only [List.length_drop, List.length_take]; rfl)) ?_; (with_reducible refine (spec_Begins.calls a0 (⟨#[46, 47]⟩ : ByteArray) true _ A2.out).mono ?_); rintro e w' ⟨rfl, ⟨nd, rfl⟩⟩; refine ⟨_, rfl, ?_⟩) | (go_at_call 9; (with_reducible refine (spec_PathOk.calls k (a0.extract 2 a0.size) false _ A5.out).mono ?_); rintro e w14 ⟨rfl, hb⟩; have n0_ := Aside0.mk (below_step (by repeat (first | (with_reducible first | exact HB.out | apply below_alloc | apply pw_below_drewN | apply below_drew1) | exact HB.out)) hb); clear HB; have HB := n0_; clear n0_; (try clear hb); (try clear hb2); (try clear hk); (try clear hi)) | (go_at_call 16; (with_reducible refine (spec_Begins.calls a0 (⟨#[46, 46, 47]⟩ : ByteArray) false _ A8.out).mono ?_); rintro e w' ⟨rfl, ⟨nd, rfl⟩⟩))
     go_ret
     exact ⟨by first | rfl | (simp [errW_none, errW_some] <;> rfl) | (simp [*, errW_none, errW_some] <;> rfl), by repeat (first | (with_reducible first | exact HB.out | apply below_alloc | apply pw_below_drewN | apply below_drew1) | exact HB.out)⟩
  ·
   rw [if_neg c4] at H
   exact absurd H (by simp)
 ·
  replace c3 := Bool.eq_false_iff.mpr c3
  subst c3
  have H1 : ((spec_Begins.f a0 (⟨#[46, 46, 47]⟩ : ByteArray)).bind fun t195 => (if t195 = true then (if 3 ≤ (a0.size : Int) then ((spec_PathOk.f k (a0.extract 3 a0.size)).bind fun t196 => (some t196)) else (none)) else (some false))) = some r := by rw [if_neg (show ¬ (false = true) by decide)] at H; exact H
  clear H
  have H := H1
  clear H1
  replace H := Option.bind_eq_some_iff.mp H
  obtain ⟨t195, A150, H⟩ := H
  replace H : (if t195 = true then (if 3 ≤ (a0.size : Int) then ((spec_PathOk.f k (a0.extract 3 a0.size)).bind fun t196 => (some t196)) else (none)) else (some false)) = some r := H
  have A15 := Aside0.mk A150
  clear A150
  by_cases c16 : t195 = true
  ·
   subst c16
   have H1 : (if 3 ≤ (a0.size : Int) then ((spec_PathOk.f k (a0.extract 3 a0.size)).bind fun t196 => (some t196)) else (none)) = some r := by rw [if_pos rfl] at H; exact H
   clear H
   have H := H1
   clear H1
   by_cases c17 : 3 ≤ (a0.size : Int)
   ·
    rw [if_pos c17] at H
    have c17b0 := eq_true c17
    have c17b1 : decide (3 ≤ (a0.size : Int)) = true := decide_eq_true c17
    clear c17
    replace H := Option.bind_eq_some_iff.mp H
    obtain ⟨t196, A180, H⟩ := H
    replace H : (some t196) = some r := H
    have A18 := Aside0.mk A180
    clear A180
    obtain rfl := Option.some.inj H
    go_enter Tryd.func46, Tryd.ntmps46
    go_wp2_with (first | ((with_reducible refine gate_callee (f := 16) rfl ?_); refine goesL_ (some 4) rfl rfl Tryd.func16 (by kernel_rfl) rfl #[.string a0, .string (⟨#[46, 47]⟩ : ByteArray)] rfl (by (try simp only [List.map_toArray, List.map_cons, List.map_nil]); first | done | rfl | (simp only [List.length_drop, List.length_take]; rfl)) ?_; (with_reducible refine (spec_Begins.calls a0 (⟨#[46, 47]⟩ : ByteArray) false _ A2.out).mono ?_); rintro e w' ⟨rfl, ⟨nd, rfl⟩⟩; refine ⟨_, rfl, ?_⟩) | (go_at_call 16; (with_reducible refine (spec_Begins.calls a0 (⟨#[46, 46, 47]⟩ : ByteArray) true _ A15.out).mono ?_); rintro e w' ⟨rfl, ⟨nd, rfl⟩⟩) | (go_at_call 9; (with_reducible refine (spec_PathOk.calls k (a0.extract 3 a0.size) t196 _ A18.out).mono ?_); rintro e w19 ⟨rfl, hb⟩; have n0_ := Aside0.mk (below_step (by repeat (first | (with_reducible first | exact HB.out | apply below_alloc | apply pw_below_drewN | apply below_drew1) | exact HB.out)) hb); clear HB; have HB := n0_; clear n0_; (try clear hb); (try clear hb2); (try clear hk); (try clear hi)))
    go_ret
    exact ⟨by first | rfl | (simp [errW_none, errW_some] <;> rfl) | (simp [*, errW_none, errW_some] <;> rfl), by repeat (first | (with_reducible first | exact HB.out | apply below_alloc | apply pw_below_drewN | apply below_drew1) | exact HB.out)⟩
   ·
    rw [if_neg c17] at H
    exact absurd H (by simp)
  ·
   replace c16 := Bool.eq_false_iff.mpr c16
   subst c16
   have H1 : (some false) = some r := by rw [if_neg (show ¬ (false = true) by decide)] at H; exact H
   clear H
   have H := H1
   clear H1
   obtain rfl := Option.some.inj H
   go_enter Tryd.func46, Tryd.ntmps46
   go_wp2_with (first | ((with_reducible refine gate_callee (f := 16) rfl ?_); refine goesL_ (some 4) rfl rfl Tryd.func16 (by kernel_rfl) rfl #[.string a0, .string (⟨#[46, 47]⟩ : ByteArray)] rfl (by (try simp only [List.map_toArray, List.map_cons, List.map_nil]); first | done | rfl | (simp only [List.length_drop, List.length_take]; rfl)) ?_; (with_reducible refine (spec_Begins.calls a0 (⟨#[46, 47]⟩ : ByteArray) false _ A2.out).mono ?_); rintro e w' ⟨rfl, ⟨nd, rfl⟩⟩; refine ⟨_, rfl, ?_⟩) | (go_at_call 16; (with_reducible refine (spec_Begins.calls a0 (⟨#[46, 46, 47]⟩ : ByteArray) false _ A15.out).mono ?_); rintro e w' ⟨rfl, ⟨nd, rfl⟩⟩))
   go_ret
   exact ⟨by first | rfl | (simp [errW_none, errW_some] <;> rfl) | (simp [*, errW_none, errW_some] <;> rfl), by repeat (first | (with_reducible first | exact HB.out | apply below_alloc | apply pw_below_drewN | apply below_drew1) | exact HB.out)⟩
def spec_ReplaceOk.f (k : Nat) (a0_0 : ByteArray) (a0_1 : ByteArray) (a0_2 : ByteArray) (a0_3 : ByteArray) : Option (Bool) := (spec_PathOk.f k a0_0).bind fun t198 => (if t198 = true then (if a0_1.toList = ([] : List UInt8) then ((spec_PathOk.f k a0_2).bind fun t199 => (if t199 = true then ((spec_VersionOk.f k a0_3).bind fun t200 => (if t200 = true then (some true) else ((spec_DirOk.f k a0_2).bind fun t201 => (if t201 = true then (some (a0_3.toList == ([] : List UInt8))) else (some false))))) else ((spec_DirOk.f k a0_2).bind fun t202 => (if t202 = true then (some (a0_3.toList == ([] : List UInt8))) else (some false))))) else ((spec_VersionOk.f k a0_1).bind fun t203 => (if t203 = true then ((spec_PathOk.f k a0_2).bind fun t204 => (if t204 = true then ((spec_VersionOk.f k a0_3).bind fun t205 => (if t205 = true then (some true) else ((spec_DirOk.f k a0_2).bind fun t206 => (if t206 = true then (some (a0_3.toList == ([] : List UInt8))) else (some false))))) else ((spec_DirOk.f k a0_2).bind fun t207 => (if t207 = true then (some (a0_3.toList == ([] : List UInt8))) else (some false))))) else (some false)))) else (some false))
set_option maxHeartbeats 8000000 in
set_option maxRecDepth 100000 in
theorem spec_ReplaceOk.calls (k : Nat) (a0_0 : ByteArray) (a0_1 : ByteArray) (a0_2 : ByteArray) (a0_3 : ByteArray) (r : Bool) (w : World) (h : spec_ReplaceOk.f k a0_0 a0_1 a0_2 a0_3 = some r) :
  Calls Tryd.prog 28 #[.agg #[.string a0_0, .string a0_1, .string a0_2, .string a0_3]] w fun e w' => e = .returned (.bool r) ∧ Below w.heap.size w w' := by
 have hu50 := Tryd.underlying50
 have HB := Aside0.mk (Below.refl w.heap.size w)
 have H : ((spec_PathOk.f k a0_0).bind fun t198 => (if t198 = true then (if a0_1.toList = ([] : List UInt8) then ((spec_PathOk.f k a0_2).bind fun t199 => (if t199 = true then ((spec_VersionOk.f k a0_3).bind fun t200 => (if t200 = true then (some true) else ((spec_DirOk.f k a0_2).bind fun t201 => (if t201 = true then (some (a0_3.toList == ([] : List UInt8))) else (some false))))) else ((spec_DirOk.f k a0_2).bind fun t202 => (if t202 = true then (some (a0_3.toList == ([] : List UInt8))) else (some false))))) else ((spec_VersionOk.f k a0_1).bind fun t203 => (if t203 = true then ((spec_PathOk.f k a0_2).bind fun t204 => (if t204 = true then ((spec_VersionOk.f k a0_3).bind fun t205 => (if t205 = true then (some true) else ((spec_DirOk.f k a0_2).bind fun t206 => (if t206 = true then (some (a0_3.toList == ([] : List UInt8))) else (some false))))) else ((spec_DirOk.f k a0_2).bind fun t207 => (if t207 = true then (some (a0_3.toList == ([] : List UInt8))) else (some false))))) else (some false)))) else (some false))) = some r := h
 clear h
 replace H := Option.bind_eq_some_iff.mp H
 obtain ⟨t198, A20, H⟩ := H
 replace H : (if t198 = true then (if a0_1.toList = ([] : List UInt8) then ((spec_PathOk.f k a0_2).bind fun t199 => (if t199 = true then ((spec_VersionOk.f k a0_3).bind fun t200 => (if t200 = true then (some true) else ((spec_DirOk.f k a0_2).bind fun t201 => (if t201 = true then (some (a0_3.toList == ([] : List UInt8))) else (some false))))) else ((spec_DirOk.f k a0_2).bind fun t202 => (if t202 = true then (some (a0_3.toList == ([] : List UInt8))) else (some false))))) else ((spec_VersionOk.f k a0_1).bind fun t203 => (if t203 = true then ((spec_PathOk.f k a0_2).bind fun t204 => (if t204 = true then ((spec_VersionOk.f k a0_3).bind fun t205 => (if t205 = true then (some true) else ((spec_DirOk.f k a0_2).bind fun t206 => (if t206 = true then (some (a0_3.toList == ([] : List UInt8))) else (some false))))) else ((spec_DirOk.f k a0_2).bind fun t207 => (if t207 = true then (some (a0_3.toList == ([] : List UInt8))) else (some false))))) else (some false)))) else (some false)) = some r := H
 have A2 := Aside0.mk A20
 clear A20
 by_cases c3 : t198 = true
 ·
  subst c3
  have H1 : (if a0_1.toList = ([] : List UInt8) then ((spec_PathOk.f k a0_2).bind fun t199 => (if t199 = true then ((spec_VersionOk.f k a0_3).bind fun t200 => (if t200 = true then (some true) else ((spec_DirOk.f k a0_2).bind fun t201 => (if t201 = true then (some (a0_3.toList == ([] : List UInt8))) else (some false))))) else ((spec_DirOk.f k a0_2).bind fun t202 => (if t202 = true then (some (a0_3.toList == ([] : List UInt8))) else (some false))))) else ((spec_VersionOk.f k a0_1).bind fun t203 => (if t203 = true then ((spec_PathOk.f k a0_2).bind fun t204 => (if t204 = true then ((spec_VersionOk.f k a0_3).bind fun t205 => (if t205 = true then (some true) else ((spec_DirOk.f k a0_2).bind fun t206 => (if t206 = true then (some (a0_3.toList == ([] : List UInt8))) else (some false))))) else ((spec_DirOk.f k a0_2).bind fun t207 => (if t207 = true then (some (a0_3.toList == ([] : List UInt8))) else (some false))))) else (some false)))) = some r := by rw [if_pos rfl] at H; exact H
  clear H
  have H := H1
  clear H1
  by_cases c4 : a0_1.toList = ([] : List UInt8)
  ·
   rw [if_pos c4] at H
   have c4b0 : (a0_1.toList == ([] : List UInt8)) = true := beq_iff_eq.mpr c4
   have c4b1 : (a0_1.toList != ([] : List UInt8)) = false := bne_eq_false_iff_eq.mpr c4
   clear c4
   replace H := Option.bind_eq_some_iff.mp H
   obtain ⟨t199, A50, H⟩ := H
   replace H : (if t199 = true then ((spec_VersionOk.f k a0_3).bind fun t200 => (if t200 = true then (some true) else ((spec_DirOk.f k a0_2).bind fun t201 => (if t201 = true then (some (a0_3.toList == ([] : List UInt8))) else (some false))))) else ((spec_DirOk.f k a0_2).bind fun t202 => (if t202 = true then (some (a0_3.toList == ([] : List UInt8))) else (some false)))) = some r := H
   have A5 := Aside0.mk A50
   clear A50
   by_cases c6 : t199 = true
   ·
    subst c6
    have H1 : ((spec_VersionOk.f k a0_3).bind fun t200 => (if t200 = true then (some true) else ((spec_DirOk.f k a0_2).bind fun t201 => (if t201 = true then (some (a0_3.toList == ([] : List UInt8))) else (some false))))) = some r := by rw [if_pos rfl] at H; exact H
    clear H
    have H := H1
    clear H1
    replace H := Option.bind_eq_some_iff.mp H
    obtain ⟨t200, A70, H⟩ := H
    replace H : (if t200 = true then (some true) else ((spec_DirOk.f k a0_2).bind fun t201 => (if t201 = true then (some (a0_3.toList == ([] : List UInt8))) else (some false)))) = some r := H
    have A7 := Aside0.mk A70
    clear A70
    by_cases c8 : t200 = true
    ·
     subst c8
     have H1 : (some true) = some r := by rw [if_pos rfl] at H; exact H
     clear H
     have H := H1
     clear H1
     obtain rfl := Option.some.inj H
     go_enter Tryd.func28, Tryd.ntmps28
     go_wp2_with (first | ((with_reducible refine gate_dst (N := 1) rfl ?_); refine box_event ?hg (N := 1) ?hd (cs := #[.string a0_0, .string a0_1, .string a0_2, .string a0_3]) (t := 50) ?hr ?_; (case hd => rfl); (case hg => rfl); (case hr => first | (go_simp; done) | (go_simp; rfl)); intro gb197 hg w9 hbox hb; have n0_ := Aside0.mk (below_step (by repeat (first | (with_reducible first | exact HB.out | apply below_alloc | apply pw_below_drewN | apply below_drew1) | exact HB.out)) hb); have n1_ := Aside0.mk (hbox); have n2_ := Aside0.mk ((by rw [hg]; exact (below_size (by repeat (first | (with_reducible first | exact HB.out | apply below_alloc | apply pw_below_drewN | apply below_drew1) | exact HB.out))) : w.heap.size ≤ gb197)); have n3_ := Aside0.mk ((by rw [hg]; exact (below_size (by repeat (first | (with_reducible first | exact HB.out | apply below_alloc | apply pw_below_drewN | apply below_drew1) | exact HB.out))) : w.heap.size ≤ gb197)); clear HB; have HB := n0_; have BK197 := n1_; have GW197 := n2_; have GE197 := n3_; clear n0_ n1_ n2_ n3_; clear hb hbox hg; have hcz10_0 : w9.cell? ⟨gb197, 0, none⟩ = some (.string a0_0) := (blk_cell BK197.out 0).trans rfl; have hcz10_1 : w9.cell? ⟨gb197, 1, none⟩ = some (.string a0_1) := (blk_cell BK197.out 1).trans rfl; have hcz10_2 : w9.cell? ⟨gb197, 2, none⟩ = some (.string a0_2) := (blk_cell BK197.out 2).trans rfl; have hcz10_3 : w9.cell? ⟨gb197, 3, none⟩ = some (.string a0_3) := (blk_cell BK197.out 3).trans rfl; have hfz10_0 := blk_frozen BK197.out 0; have hfz10_1 := blk_frozen BK197.out 1; have hfz10_2 := blk_frozen BK197.out 2; have hfz10_3 := blk_frozen BK197.out 3) | ((with_reducible refine gate_callee (f := 9) rfl ?_); refine goesL_ (some 7) rfl rfl Tryd.func9 (by kernel_rfl) rfl #[.string a0_0] rfl (by (try simp only [List.map_toArray, List.map_cons, List.map_nil]); first | done | rfl | (simp only [List.length_drop, List.length_take]; rfl)) ?_; (with_reducible refine (spec_PathOk.calls k a0_0 true _ A2.out).mono ?_); rintro e w11 ⟨rfl, hb⟩; refine ⟨_, rfl, ?_⟩; have n0_ := Aside0.mk (blk_below (g := gb197) (o := .cells #[.string a0_0, .string a0_1, .string a0_2, .string a0_3] 50 (0, 0)) (by (with_reducible repeat (first | refine blk_drewN ?_ _ | refine blk_drew ?_ | refine blk_alloc ?_ _)); exact BK197.out) hb); have n1_ := Aside0.mk (below_step (by repeat (first | (with_reducible first | exact HB.out | apply below_alloc | apply pw_below_drewN | apply below_drew1 | refine below_set ?_ GE197.out) | exact HB.out)) hb); clear BK197; clear HB; have BK197 := n0_; have HB := n1_; clear n0_ n1_; (try clear hb); (try clear hb2); (try clear hk); (try clear hi); have hcz12_0 : w11.cell? ⟨gb197, 0, none⟩ = some (.string a0_0) := (blk_cell BK197.out 0).trans rfl; have hcz12_1 : w11.cell? ⟨gb197, 1, none⟩ = some (.string a0_1) := (blk_cell BK197.out 1).trans rfl; have hcz12_2 : w11.cell? ⟨gb197, 2, none⟩ = some (.string a0_2) := (blk_cell BK197.out 2).trans rfl; have hcz12_3 : w11.cell? ⟨gb197, 3, none⟩ = some (.string a0_3) := (blk_cell BK197.out 3).trans rfl; have hfz12_0 := blk_frozen BK197.out 0; have hfz12_1 := blk_frozen BK197.out 1; have hfz12_2 := blk_frozen BK197.out 2; have hfz12_3 := blk_frozen BK197.out 3) | (go_at_call 9; (with_reducible refine (spec_PathOk.calls k a0_2 true _ A5.out).mono ?_); rintro e w13 ⟨rfl, hb⟩; have n0_ := Aside0.mk (blk_below (g := gb197) (o := .cells #[.string a0_0, .string a0_1, .string a0_2, .string a0_3] 50 (0, 0)) (by (with_reducible repeat (first | refine blk_drewN ?_ _ | refine blk_drew ?_ | refine blk_alloc ?_ _)); exact BK197.out) hb); have n1_ := Aside0.mk (below_step (by repeat (first | (with_reducible first | exact HB.out | apply below_alloc | apply pw_below_drewN | apply below_drew1 | refine below_set ?_ GE197.out) | exact HB.out)) hb); clear BK197; clear HB; have BK197 := n0_; have HB := n1_; clear n0_ n1_; (try clear hb); (try clear hb2); (try clear hk); (try clear hi); have hcz14_0 : w13.cell? ⟨gb197, 0, none⟩ = some (.string a0_0) := (blk_cell BK197.out 0).trans rfl; have hcz14_1 : w13.cell? ⟨gb197, 1, none⟩ = some (.string a0_1) := (blk_cell BK197.out 1).trans rfl; have hcz14_2 : w13.cell? ⟨gb197, 2, none⟩ = some (.string a0_2) := (blk_cell BK197.out 2).trans rfl; have hcz14_3 : w13.cell? ⟨gb197, 3, none⟩ = some (.string a0_3) := (blk_cell BK197.out 3).trans rfl; have hfz14_0 := blk_frozen BK197.out 0; have hfz14_1 := blk_frozen BK197.out 1; have hfz14_2 := blk_frozen BK197.out 2; have hfz14_3 := blk_frozen BK197.out 3) | (go_at_call 27; (with_reducible refine (spec_VersionOk.calls k a0_3 true _ A7.out).mono ?_); rintro e w15 ⟨rfl, hb⟩; have n0_ := Aside0.mk (blk_below (g := gb197) (o := .cells #[.string a0_0, .string a0_1, .string a0_2, .string a0_3] 50 (0, 0)) (by (with_reducible repeat (first | refine blk_drewN ?_ _ | refine blk_drew ?_ | refine blk_alloc ?_ _)); exact BK197.out) hb); have n1_ := Aside0.mk (below_step (by repeat (first | (with_reducible first | exact HB.out | apply below_alloc | apply pw_below_drewN | apply below_drew1 | refine below_set ?_ GE197.out) | exact HB.out)) hb); clear BK197; clear HB; have BK197 := n0_; have HB := n1_; clear n0_ n1_; (try clear hb); (try clear hb2); (try clear hk); (try clear hi)))
     go_ret
     exact ⟨by first | rfl | (simp [errW_none, errW_some] <;> rfl) | (simp [*, errW_none, errW_some] <;> rfl), by repeat (first | (with_reducible first | exact HB.out | apply below_alloc | apply pw_below_drewN | apply below_drew1 | refine below_set ?_ GE197.out) | exact HB.out)⟩
    ·
     replace c8 := Bool.eq_false_iff.mpr c8
     subst c8
     have H1 : ((spec_DirOk.f k a0_2).bind fun t201 => (if t201 = true then (some (a0_3.toList == ([] : List UInt8))) else (some false))) = some r := by rw [if_neg (show ¬ (false = true) by decide)] at H; exact H
     clear H
     have H := H1
     clear H1
     replace H := Option.bind_eq_some_iff.mp H
     obtain ⟨t201, A160, H⟩ := H
     replace H : (if t201 = true then (some (a0_3.toList == ([] : List UInt8))) else (some false)) = some r := H
     have A16 := Aside0.mk A160
     clear A160
     by_cases c17 : t201 = true
     ·
      subst c17
      have H1 : (some (a0_3.toList == ([] : List UInt8))) = some r := by rw [if_pos rfl] at H; exact H
      clear H
      have H := H1
      clear H1
      obtain rfl := Option.some.inj H
      go_enter Tryd.func28, Tryd.ntmps28
      go_wp2_with (first | ((with_reducible refine gate_dst (N := 1) rfl ?_); refine box_event ?hg (N := 1) ?hd (cs := #[.string a0_0, .string a0_1, .string a0_2, .string a0_3]) (t := 50) ?hr ?_; (case hd => rfl); (case hg => rfl); (case hr => first | (go_simp; done) | (go_simp; rfl)); intro gb197 hg w18 hbox hb; have n0_ := Aside0.mk (below_step (by repeat (first | (with_reducible first | exact HB.out | apply below_alloc | apply pw_below_drewN | apply below_drew1) | exact HB.out)) hb); have n1_ := Aside0.mk (hbox); have n2_ := Aside0.mk ((by rw [hg]; exact (below_size (by repeat (first | (with_reducible first | exact HB.out | apply below_alloc | apply pw_below_drewN | apply below_drew1) | exact HB.out))) : w.heap.size ≤ gb197)); have n3_ := Aside0.mk ((by rw [hg]; exact (below_size (by repeat (first | (with_reducible first | exact HB.out | apply below_alloc | apply pw_below_drewN | apply below_drew1) | exact HB.out))) : w.heap.size ≤ gb197)); clear HB; have HB := n0_; have BK197 := n1_; have GW197 := n2_; have GE197 := n3_; clear n0_ n1_ n2_ n3_; clear hb hbox hg; have hcz19_0 : w18.cell? ⟨gb197, 0, none⟩ = some (.string a0_0) := (blk_cell BK197.out 0).trans rfl; have hcz19_1 : w18.cell? ⟨gb197, 1, none⟩ = some (.string a0_1) := (blk_cell BK197.out 1).trans rfl; have hcz19_2 : w18.cell? ⟨gb197, 2, none⟩ = some (.string a0_2) := (blk_cell BK197.out 2).trans rfl; have hcz19_3 : w18.cell? ⟨gb197, 3, none⟩ = some (.string a0_3) := (blk_cell BK197.out 3).trans rfl; have hfz19_0 := blk_frozen BK197.out 0; have hfz19_1 := blk_frozen BK197.out 1; have hfz19_2 := blk_frozen BK197.out 2; have hfz19_3 := blk_frozen BK197.out 3) | ((with_reducible refine gate_callee (f := 9) rfl ?_); refine goesL_ (some 7) rfl rfl Tryd.func9 (by kernel_rfl) rfl #[.string a0_0] rfl (by (try simp only [List.map_toArray, List.map_cons, List.map_nil]); first | done | rfl | (simp only [List.length_drop, List.length_take]; rfl)) ?_; (with_reducible refine (spec_PathOk.calls k a0_0 true _ A2.out).mono ?_); rintro e w20 ⟨rfl, hb⟩; refine ⟨_, rfl, ?_⟩; have n0_ := Aside0.mk (blk_below (g := gb197) (o := .cells #[.string a0_0, .string a0_1, .string a0_2, .string a0_3] 50 (0, 0)) (by (with_reducible repeat (first | refine blk_drewN ?_ _ | refine blk_drew ?_ | refine blk_alloc ?_ _)); exact BK197.out) hb); have n1_ := Aside0.mk (below_step (by repeat (first | (with_reducible first | exact HB.out | apply below_alloc | apply pw_below_drewN | apply below_drew1 | refine below_set ?_ GE197.out) | exact HB.out)) hb); clear BK197; clear HB; have BK197 := n0_; have HB := n1_; clear n0_ n1_; (try clear hb); (try clear hb2); (try clear hk); (try clear hi); have hcz21_0 : w20.cell? ⟨gb197, 0, none⟩ = some (.string a0_0) := (blk_cell BK197.out 0).trans rfl; have hcz21_1 : w20.cell? ⟨gb197, 1, none⟩ = some (.string a0_1) := (blk_cell BK197.out 1).trans rfl; have hcz21_2 : w20.cell? ⟨gb197, 2, none⟩ = some (.string a0_2) := (blk_cell BK197.out 2).trans rfl; have hcz21_3 : w20.cell? ⟨gb197, 3, none⟩ = some (.string a0_3) := (blk_cell BK197.out 3).trans rfl; have hfz21_0 := blk_frozen BK197.out 0; have hfz21_1 := blk_frozen BK197.out 1; have hfz21_2 := blk_frozen BK197.out 2; have hfz21_3 := blk_frozen BK197.out 3) | (go_at_call 9; (with_reducible refine (spec_PathOk.calls k a0_2 true _ A5.out).mono ?_); rintro e w22 ⟨rfl, hb⟩; have n0_ := Aside0.mk (blk_below (g := gb197) (o := .cells #[.string a0_0, .string a0_1, .string a0_2, .string a0_3] 50 (0, 0)) (by (with_reducible repeat (first | refine blk_drewN ?_ _ | refine blk_drew ?_ | refine blk_alloc ?_ _)); exact BK197.out) hb); have n1_ := Aside0.mk (below_step (by repeat (first | (with_reducible first | exact HB.out | apply below_alloc | apply pw_below_drewN | apply below_drew1 | refine below_set ?_ GE197.out) | exact HB.out)) hb); clear BK197; clear HB; have BK197 := n0_; have HB := n1_; clear n0_ n1_; (try clear hb); (try clear hb2); (try clear hk); (try clear hi); have hcz23_0 : w22.cell? ⟨gb197, 0, none⟩ = some (.string a0_0) := (blk_cell BK197.out 0).trans rfl; have hcz23_1 : w22.cell? ⟨gb197, 1, none⟩ = some (.string a0_1) := (blk_cell BK197.out 1).trans rfl; have hcz23_2 : w22.cell? ⟨gb197, 2, none⟩ = some (.string a0_2) := (blk_cell BK197.out 2).trans rfl; have hcz23_3 : w22.cell? ⟨gb197, 3, none⟩ = some (.string a0_3) := (blk_cell BK197.out 3).trans rfl; have hfz23_0 := blk_frozen BK197.out 0; have hfz23_1 := blk_frozen BK197.out 1; have hfz23_2 := blk_frozen BK197.out 2; have hfz23_3 := blk_frozen BK197.out 3) | (go_at_call 27; (with_reducible refine (spec_VersionOk.calls k a0_3 false _ A7.out).mono ?_); rintro e w24 ⟨rfl, hb⟩; have n0_ := Aside0.mk (blk_below (g := gb197) (o := .cells #[.string a0_0, .string a0_1, .string a0_2, .string a0_3] 50 (0, 0)) (by (with_reducible repeat (first | refine blk_drewN ?_ _ | refine blk_drew ?_ | refine blk_alloc ?_ _)); exact BK197.out) hb); have n1_ := Aside0.mk (below_step (by repeat (first | (with_reducible first | exact HB.out | apply below_alloc | apply pw_below_drewN | apply below_drew1 | refine below_set ?_ GE197.out) | exact HB.out)) hb); clear BK197; clear HB; have BK197 := n0_; have HB := n1_; clear n0_ n1_; (try clear hb); (try clear hb2); (try clear hk); (try clear hi); have hcz25_0 : w24.cell? ⟨gb197, 0, none⟩ = some (.string a0_0) := (blk_cell BK197.out 0).trans rfl; have hcz25_1 : w24.cell? ⟨gb197, 1, none⟩ = some (.string a0_1) := (blk_cell BK197.out 1).trans rfl; have hcz25_2 : w24.cell? ⟨gb197, 2, none⟩ = some (.string a0_2) := (blk_cell BK197.out 2).trans rfl; have hcz25_3 : w24.cell? ⟨gb197, 3, none⟩ = some (.string a0_3) := (blk_cell BK197.out 3).trans rfl; have hfz25_0 := blk_frozen BK197.out 0; have hfz25_1 := blk_frozen BK197.out 1; have hfz25_2 := blk_frozen BK197.out 2; have hfz25_3 := blk_frozen BK197.out 3) | (go_at_call 46; (with_reducible refine (spec_DirOk.calls k a0_2 true _ A16.out).mono ?_); rintro e w26 ⟨rfl, hb⟩; have n0_ := Aside0.mk (blk_below (g := gb197) (o := .cells #[.string a0_0, .string a0_1, .string a0_2, .string a0_3] 50 (0, 0)) (by (with_reducible repeat (first | refine blk_drewN ?_ _ | refine blk_drew ?_ | refine blk_alloc ?_ _)); exact BK197.out) hb); have n1_ := Aside0.mk (below_step (by repeat (first | (with_reducible first | exact HB.out | apply below_alloc | apply pw_below_drewN | apply below_drew1 | refine below_set ?_ GE197.out) | exact HB.out)) hb); clear BK197; clear HB; have BK197 := n0_; have HB := n1_; clear n0_ n1_; (try clear hb); (try clear hb2); (try clear hk); (try clear hi); have hcz27_0 : w26.cell? ⟨gb197, 0, none⟩ = some (.string a0_0) := (blk_cell BK197.out 0).trans rfl; have hcz27_1 : w26.cell? ⟨gb197, 1, none⟩ = some (.string a0_1) := (blk_cell BK197.out 1).trans rfl; have hcz27_2 : w26.cell? ⟨gb197, 2, none⟩ = some (.string a0_2) := (blk_cell BK197.out 2).trans rfl; have hcz27_3 : w26.cell? ⟨gb197, 3, none⟩ = some (.string a0_3) := (blk_cell BK197.out 3).trans rfl; have hfz27_0 := blk_frozen BK197.out 0; have hfz27_1 := blk_frozen BK197.out 1; have hfz27_2 := blk_frozen BK197.out 2; have hfz27_3 := blk_frozen BK197.out 3))
      go_ret
      exact ⟨by first | rfl | (simp [errW_none, errW_some] <;> rfl) | (simp [*, errW_none, errW_some] <;> rfl), by repeat (first | (with_reducible first | exact HB.out | apply below_alloc | apply pw_below_drewN | apply below_drew1 | refine below_set ?_ GE197.out) | exact HB.out)⟩
     ·
      replace c17 := Bool.eq_false_iff.mpr c17
      subst c17
      have H1 : (some false) = some r := by rw [if_neg (show ¬ (false = true) by decide)] at H; exact H
      clear H
      have H := H1
      clear H1
      obtain rfl := Option.some.inj H
      go_enter Tryd.func28, Tryd.ntmps28
      go_wp2_with (first | ((with_reducible refine gate_dst (N := 1) rfl ?_); refine box_event ?hg (N := 1) ?hd (cs := #[.string a0_0, .string a0_1, .string a0_2, .string a0_3]) (t := 50) ?hr ?_; (case hd => rfl); (case hg => rfl); (case hr => first | (go_simp; done) | (go_simp; rfl)); intro gb197 hg w28 hbox hb; have n0_ := Aside0.mk (below_step (by repeat (first | (with_reducible first | exact HB.out | apply below_alloc | apply pw_below_drewN | apply below_drew1) | exact HB.out)) hb); have n1_ := Aside0.mk (hbox); have n2_ := Aside0.mk ((by rw [hg]; exact (below_size (by repeat (first | (with_reducible first | exact HB.out | apply below_alloc | apply pw_below_drewN | apply below_drew1) | exact HB.out))) : w.heap.size ≤ gb197)); have n3_ := Aside0.mk ((by rw [hg]; exact (below_size (by repeat (first | (with_reducible first | exact HB.out | apply below_alloc | apply pw_below_drewN | apply below_drew1) | exact HB.out))) : w.heap.size ≤ gb197)); clear HB; have HB := n0_; have BK197 := n1_; have GW197 := n2_; have GE197 := n3_; clear n0_ n1_ n2_ n3_; clear hb hbox hg; have hcz29_0 : w28.cell? ⟨gb197, 0, none⟩ = some (.string a0_0) := (blk_cell BK197.out 0).trans rfl; have hcz29_1 : w28.cell? ⟨gb197, 1, none⟩ = some (.string a0_1) := (blk_cell BK197.out 1).trans rfl; have hcz29_2 : w28.cell? ⟨gb197, 2, none⟩ = some (.string a0_2) := (blk_cell BK197.out 2).trans rfl; have hcz29_3 : w28.cell? ⟨gb197, 3, none⟩ = some (.string a0_3) := (blk_cell BK197.out 3).trans rfl; have hfz29_0 := blk_frozen BK197.out 0; have hfz29_1 := blk_frozen BK197.out 1; have hfz29_2 := blk_frozen BK197.out 2; have hfz29_3 := blk_frozen BK197.out 3) | ((with_reducible refine gate_callee (f := 9) rfl ?_); refine goesL_ (some 7) rfl rfl Tryd.func9 (by kernel_rfl) rfl #[.string a0_0] rfl (by (try simp only [List.map_toArray, List.map_cons, List.map_nil]); first | done | rfl | (simp only [List.length_drop, List.length_take]; rfl)) ?_; (with_reducible refine (spec_PathOk.calls k a0_0 true _ A2.out).mono ?_); rintro e w30 ⟨rfl, hb⟩; refine ⟨_, rfl, ?_⟩; have n0_ := Aside0.mk (blk_below (g := gb197) (o := .cells #[.string a0_0, .string a0_1, .string a0_2, .string a0_3] 50 (0, 0)) (by (with_reducible repeat (first | refine blk_drewN ?_ _ | refine blk_drew ?_ | refine blk_alloc ?_ _)); exact BK197.out) hb); have n1_ := Aside0.mk (below_step (by repeat (first | (with_reducible first | exact HB.out | apply below_alloc | apply pw_below_drewN | apply below_drew1 | refine below_set ?_ GE197.out) | exact HB.out)) hb); clear BK197; clear HB; have BK197 := n0_; have HB := n1_; clear n0_ n1_; (try clear hb); (try clear hb2); (try clear hk); (try clear hi); have hcz31_0 : w30.cell? ⟨gb197, 0, none⟩ = some (.string a0_0) := (blk_cell BK197.out 0).trans rfl; have hcz31_1 : w30.cell? ⟨gb197, 1, none⟩ = some (.string a0_1) := (blk_cell BK197.out 1).trans rfl; have hcz31_2 : w30.cell? ⟨gb197, 2, none⟩ = some (.string a0_2) := (blk_cell BK197.out 2).trans rfl; have hcz31_3 : w30.cell? ⟨gb197, 3, none⟩ = some (.string a0_3) := (blk_cell BK197.out 3).trans rfl; have hfz31_0 := blk_frozen BK197.out 0; have hfz31_1 := blk_frozen BK197.out 1; have hfz31_2 := blk_frozen BK197.out 2; have hfz31_3 := blk_frozen BK197.out 3) | (go_at_call 9; (with_reducible refine (spec_PathOk.calls k a0_2 true _ A5.out).mono ?_); rintro e w32 ⟨rfl, hb⟩; have n0_ := Aside0.mk (blk_below (g := gb197) (o := .cells #[.string a0_0, .string a0_1, .string a0_2, .string a0_3] 50 (0, 0)) (by (with_reducible repeat (first | refine blk_drewN ?_ _ | refine blk_drew ?_ | refine blk_alloc ?_ _)); exact BK197.out) hb); have n1_ := Aside0.mk (below_step (by repeat (first | (with_reducible first | exact HB.out | apply below_alloc | apply pw_below_drewN | apply below_drew1 | refine below_set ?_ GE197.out) | exact HB.out)) hb); clear BK197; clear HB; have BK197 := n0_; have HB := n1_; clear n0_ n1_; (try clear hb); (try clear hb2); (try clear hk); (try clear hi); have hcz33_0 : w32.cell? ⟨gb197, 0, none⟩ = some (.string a0_0) := (blk_cell BK197.out 0).trans rfl; have hcz33_1 : w32.cell? ⟨gb197, 1, none⟩ = some (.string a0_1) := (blk_cell BK197.out 1).trans rfl; have hcz33_2 : w32.cell? ⟨gb197, 2, none⟩ = some (.string a0_2) := (blk_cell BK197.out 2).trans rfl; have hcz33_3 : w32.cell? ⟨gb197, 3, none⟩ = some (.string a0_3) := (blk_cell BK197.out 3).trans rfl; have hfz33_0 := blk_frozen BK197.out 0; have hfz33_1 := blk_frozen BK197.out 1; have hfz33_2 := blk_frozen BK197.out 2; have hfz33_3 := blk_frozen BK197.out 3) | (go_at_call 27; (with_reducible refine (spec_VersionOk.calls k a0_3 false _ A7.out).mono ?_); rintro e w34 ⟨rfl, hb⟩; have n0_ := Aside0.mk (blk_below (g := gb197) (o := .cells #[.string a0_0, .string a0_1, .string a0_2, .string a0_3] 50 (0, 0)) (by (with_reducible repeat (first | refine blk_drewN ?_ _ | refine blk_drew ?_ | refine blk_alloc ?_ _)); exact BK197.out) hb); have n1_ := Aside0.mk (below_step (by repeat (first | (with_reducible first | exact HB.out | apply below_alloc | apply pw_below_drewN | apply below_drew1 | refine below_set ?_ GE197.out) | exact HB.out)) hb); clear BK197; clear HB; have BK197 := n0_; have HB := n1_; clear n0_ n1_; (try clear hb); (try clear hb2); (try clear hk); (try clear hi); have hcz35_0 : w34.cell? ⟨gb197, 0, none⟩ = some (.string a0_0) := (blk_cell BK197.out 0).trans rfl; have hcz35_1 : w34.cell? ⟨gb197, 1, none⟩ = some (.string a0_1) := (blk_cell BK197.out 1).trans rfl; have hcz35_2 : w34.cell? ⟨gb197, 2, none⟩ = some (.string a0_2) := (blk_cell BK197.out 2).trans rfl; have hcz35_3 : w34.cell? ⟨gb197, 3, none⟩ = some (.string a0_3) := (blk_cell BK197.out 3).trans rfl; have hfz35_0 := blk_frozen BK197.out 0; have hfz35_1 := blk_frozen BK197.out 1; have hfz35_2 := blk_frozen BK197.out 2; have hfz35_3 := blk_frozen BK197.out 3) | (go_at_call 46; (with_reducible refine (spec_DirOk.calls k a0_2 false _ A16.out).mono ?_); rintro e w36 ⟨rfl, hb⟩; have n0_ := Aside0.mk (blk_below (g := gb197) (o := .cells #[.string a0_0, .string a0_1, .string a0_2, .string a0_3] 50 (0, 0)) (by (with_reducible repeat (first | refine blk_drewN ?_ _ | refine blk_drew ?_ | refine blk_alloc ?_ _)); exact BK197.out) hb); have n1_ := Aside0.mk (below_step (by repeat (first | (with_reducible first | exact HB.out | apply below_alloc | apply pw_below_drewN | apply below_drew1 | refine below_set ?_ GE197.out) | exact HB.out)) hb); clear BK197; clear HB; have BK197 := n0_; have HB := n1_; clear n0_ n1_; (try clear hb); (try clear hb2); (try clear hk); (try clear hi)))
      go_ret
      exact ⟨by first | rfl | (simp [errW_none, errW_some] <;> rfl) | (simp [*, errW_none, errW_some] <;> rfl), by repeat (first | (with_reducible first | exact HB.out | apply below_alloc | apply pw_below_drewN | apply below_drew1 | refine below_set ?_ GE197.out) | exact HB.out)⟩
   ·
    replace c6 := Bool.eq_false_iff.mpr c6
    subst c6
    have H1 : ((spec_DirOk.f k a0_2).bind fun t202 => (if t202 = true then (some (a0_3.toList == ([] : List UInt8))) else (some false))) = some r := by rw [if_neg (show ¬ (false = true) by decide)] at H; exact H
    clear H
    have H := H1
    clear H1
    replace H := Option.bind_eq_some_iff.mp H
    obtain ⟨t202, A370, H⟩ := H
    replace H : (if t202 = true then (some (a0_3.toList == ([] : List UInt8))) else (some false)) = some r := H
    have A37 := Aside0.mk A370
    clear A370
    by_cases c38 : t202 = true
    ·
     subst c38
     have H1 : (some (a0_3.toList == ([] : List UInt8))) = some r := by rw [if_pos rfl] at H; exact H
     clear H
     have H := H1
     clear H1
     obtain rfl := Option.some.inj H
     go_enter Tryd.func28, Tryd.ntmps28
     go_wp2_with (first | ((with_reducible refine gate_dst (N := 1) rfl ?_); refine box_event ?hg (N := 1) ?hd (cs := #[.string a0_0, .string a0_1, .string a0_2, .string a0_3]) (t := 50) ?hr ?_; (case hd => rfl); (case hg => rfl); (case hr => first | (go_simp; done) | (go_simp; rfl)); intro gb197 hg w39 hbox hb; have n0_ := Aside0.mk (below_step (by repeat (first | (with_reducible first | exact HB.out | apply below_alloc | apply pw_below_drewN | apply below_drew1) | exact HB.out)) hb); have n1_ := Aside0.mk (hbox); have n2_ := Aside0.mk ((by rw [hg]; exact (below_size (by repeat (first | (with_reducible first | exact HB.out | apply below_alloc | apply pw_below_drewN | apply below_drew1) | exact HB.out))) : w.heap.size ≤ gb197)); have n3_ := Aside0.mk ((by rw [hg]; exact (below_size (by repeat (first | (with_reducible first | exact HB.out | apply below_alloc | apply pw_below_drewN | apply below_drew1) | exact HB.out))) : w.heap.size ≤ gb197)); clear HB; have HB := n0_; have BK197 := n1_; have GW197 := n2_; have GE197 := n3_; clear n0_ n1_ n2_ n3_; clear hb hbox hg; have hcz40_0 : w39.cell? ⟨gb197, 0, none⟩ = some (.string a0_0) := (blk_cell BK197.out 0).trans rfl; have hcz40_1 : w39.cell? ⟨gb197, 1, none⟩ = some (.string a0_1) := (blk_cell BK197.out 1).trans rfl; have hcz40_2 : w39.cell? ⟨gb197, 2, none⟩ = some (.string a0_2) := (blk_cell BK197.out 2).trans rfl; have hcz40_3 : w39.cell? ⟨gb197, 3, none⟩ = some (.string a0_3) := (blk_cell BK197.out 3).trans rfl; have hfz40_0 := blk_frozen BK197.out 0; have hfz40_1 := blk_frozen BK197.out 1; have hfz40_2 := blk_frozen BK197.out 2; have hfz40_3 := blk_frozen BK197.out 3) | ((with_reducible refine gate_callee (f := 9) rfl ?_); refine goesL_ (some 7) rfl rfl Tryd.func9 (by kernel_rfl) rfl #[.string a0_0] rfl (by (try simp only [List.map_toArray, List.map_cons, List.map_nil]); first | done | rfl | (simp only [List.length_drop, List.length_take]; rfl)) ?_; (with_reducible refine (spec_PathOk.calls k a0_0 true _ A2.out).mono ?_); rintro e w41 ⟨rfl, hb⟩; refine ⟨_, rfl, ?_⟩; have n0_ := Aside0.mk (blk_below (g := gb197) (o := .cells #[.string a0_0, .string a0_1, .string a0_2, .string a0_3] 50 (0, 0)) (by (with_reducible repeat (first | refine blk_drewN ?_ _ | refine blk_drew ?_ | refine blk_alloc ?_ _)); exact BK197.out) hb); have n1_ := Aside0.mk (below_step (by repeat (first | (with_reducible first | exact HB.out | apply below_alloc | apply pw_below_drewN | apply below_drew1 | refine below_set ?_ GE197.out) | exact HB.out)) hb); clear BK197; clear HB; have BK197 := n0_; have HB := n1_; clear n0_ n1_; (try clear hb); (try clear hb2); (try clear hk); (try clear hi); have hcz42_0 : w41.cell? ⟨gb197, 0, none⟩ = some (.string a0_0) := (blk_cell BK197.out 0).trans rfl; have hcz42_1 : w41.cell? ⟨gb197, 1, none⟩ = some (.string a0_1) := (blk_cell BK197.out 1).trans rfl; have hcz42_2 : w41.cell? ⟨gb197, 2, none⟩ = some (.string a0_2) := (blk_cell BK197.out 2).trans rfl; have hcz42_3 : w41.cell? ⟨gb197, 3, none⟩ = some (.string a0_3) := (blk_cell BK197.out 3).trans rfl; have hfz42_0 := blk_frozen BK197.out 0; have hfz42_1 := blk_frozen BK197.out 1; have hfz42_2 := blk_frozen BK197.out 2; have hfz42_3 := blk_frozen BK197.out 3) | (go_at_call 9; (with_reducible refine (spec_PathOk.calls k a0_2 false _ A5.out).mono ?_); rintro e w43 ⟨rfl, hb⟩; have n0_ := Aside0.mk (blk_below (g := gb197) (o := .cells #[.string a0_0, .string a0_1, .string a0_2, .string a0_3] 50 (0, 0)) (by (with_reducible repeat (first | refine blk_drewN ?_ _ | refine blk_drew ?_ | refine blk_alloc ?_ _)); exact BK197.out) hb); have n1_ := Aside0.mk (below_step (by repeat (first | (with_reducible first | exact HB.out | apply below_alloc | apply pw_below_drewN | apply below_drew1 | refine below_set ?_ GE197.out) | exact HB.out)) hb); clear BK197; clear HB; have BK197 := n0_; have HB := n1_; clear n0_ n1_; (try clear hb); (try clear hb2); (try clear hk); (try clear hi); have hcz44_0 : w43.cell? ⟨gb197, 0, none⟩ = some (.string a0_0) := (blk_cell BK197.out 0).trans rfl; have hcz44_1 : w43.cell? ⟨gb197, 1, none⟩ = some (.string a0_1) := (blk_cell BK197.out 1).trans rfl; have hcz44_2 : w43.cell? ⟨gb197, 2, none⟩ = some (.string a0_2) := (blk_cell BK197.out 2).trans rfl; have hcz44_3 : w43.cell? ⟨gb197, 3, none⟩ = some (.string a0_3) := (blk_cell BK197.out 3).trans rfl; have hfz44_0 := blk_frozen BK197.out 0; have hfz44_1 := blk_frozen BK197.out 1; have hfz44_2 := blk_frozen BK197.out 2; have hfz44_3 := blk_frozen BK197.out 3) | (go_at_call 46; (with_reducible refine (spec_DirOk.calls k a0_2 true _ A37.out).mono ?_); rintro e w45 ⟨rfl, hb⟩; have n0_ := Aside0.mk (blk_below (g := gb197) (o := .cells #[.string a0_0, .string a0_1, .string a0_2, .string a0_3] 50 (0, 0)) (by (with_reducible repeat (first | refine blk_drewN ?_ _ | refine blk_drew ?_ | refine blk_alloc ?_ _)); exact BK197.out) hb); have n1_ := Aside0.mk (below_step (by repeat (first | (with_reducible first | exact HB.out | apply below_alloc | apply pw_below_drewN | apply below_drew1 | refine below_set ?_ GE197.out) | exact HB.out)) hb); clear BK197; clear HB; have BK197 := n0_; have HB := n1_; clear n0_ n1_; (try clear hb); (try clear hb2); (try clear hk); (try clear hi); have hcz46_0 : w45.cell? ⟨gb197, 0, none⟩ = some (.string a0_0) := (blk_cell BK197.out 0).trans rfl; have hcz46_1 : w45.cell? ⟨gb197, 1, none⟩ = some (.string a0_1) := (blk_cell BK197.out 1).trans rfl; have hcz46_2 : w45.cell? ⟨gb197, 2, none⟩ = some (.string a0_2) := (blk_cell BK197.out 2).trans rfl; have hcz46_3 : w45.cell? ⟨gb197, 3, none⟩ = some (.string a0_3) := (blk_cell BK197.out 3).trans rfl; have hfz46_0 := blk_frozen BK197.out 0; have hfz46_1 := blk_frozen BK197.out 1; have hfz46_2 := blk_frozen BK197.out 2; have hfz46_3 := blk_frozen BK197.out 3))
     go_ret
     exact ⟨by first | rfl | (simp [errW_none, errW_some] <;> rfl) | (simp [*, errW_none, errW_some] <;> rfl), by repeat (first | (with_reducible first | exact HB.out | apply below_alloc | apply pw_below_drewN | apply below_drew1 | refine below_set ?_ GE197.out) | exact HB.out)⟩
    ·
     replace c38 := Bool.eq_false_iff.mpr c38
     subst c38
     have H1 : (some false) = some r := by rw [if_neg (show ¬ (false = true) by decide)] at H; exact H
     clear H
     have H := H1
     clear H1
     obtain rfl := Option.some.inj H
     go_enter Tryd.func28, Tryd.ntmps28
     go_wp2_with (first | ((with_reducible refine gate_dst (N := 1) rfl ?_); refine box_event ?hg (N := 1) ?hd (cs := #[.string a0_0, .string a0_1, .string a0_2, .string a0_3]) (t := 50) ?hr ?_; (case hd => rfl); (case hg => rfl); (case hr => first | (go_simp; done) | (go_simp; rfl)); intro gb197 hg w47 hbox hb; have n0_ := Aside0.mk (below_step (by repeat (first | (with_reducible first | exact HB.out | apply below_alloc | apply pw_below_drewN | apply below_drew1) | exact HB.out)) hb); have n1_ := Aside0.mk (hbox); have n2_ := Aside0.mk ((by rw [hg]; exact (below_size (by repeat (first | (with_reducible first | exact HB.out | apply below_alloc | apply pw_below_drewN | apply below_drew1) | exact HB.out))) : w.heap.size ≤ gb197)); have n3_ := Aside0.mk ((by rw [hg]; exact (below_size (by repeat (first | (with_reducible first | exact HB.out | apply below_alloc | apply pw_below_drewN | apply below_drew1) | exact HB.out))) : w.heap.size ≤ gb197)); clear HB; have HB := n0_; have BK197 := n1_; have GW197 := n2_; have GE197 := n3_; clear n0_ n1_ n2_ n3_; clear hb hbox hg; have hcz48_0 : w47.cell? ⟨gb197, 0, none⟩ = some (.string a0_0) := (blk_cell BK197.out 0).trans rfl; have hcz48_1 : w47.cell? ⟨gb197, 1, none⟩ = some (.string a0_1) := (blk_cell BK197.out 1).trans rfl; have hcz48_2 : w47.cell? ⟨gb197, 2, none⟩ = some (.string a0_2) := (blk_cell BK197.out 2).trans rfl; have hcz48_3 : w47.cell? ⟨gb197, 3, none⟩ = some (.string a0_3) := (blk_cell BK197.out 3).trans rfl; have hfz48_0 := blk_frozen BK197.out 0; have hfz48_1 := blk_frozen BK197.out 1; have hfz48_2 := blk_frozen BK197.out 2; have hfz48_3 := blk_frozen BK197.out 3) | ((with_reducible refine gate_callee (f := 9) rfl ?_); refine goesL_ (some 7) rfl rfl Tryd.func9 (by kernel_rfl) rfl #[.string a0_0] rfl (by (try simp only [List.map_toArray, List.map_cons, List.map_nil]); first | done | rfl | (simp only [List.length_drop, List.length_take]; rfl)) ?_; (with_reducible refine (spec_PathOk.calls k a0_0 true _ A2.out).mono ?_); rintro e w49 ⟨rfl, hb⟩; refine ⟨_, rfl, ?_⟩; have n0_ := Aside0.mk (blk_below (g := gb197) (o := .cells #[.string a0_0, .string a0_1, .string a0_2, .string a0_3] 50 (0, 0)) (by (with_reducible repeat (first | refine blk_drewN ?_ _ | refine blk_drew ?_ | refine blk_alloc ?_ _)); exact BK197.out) hb); have n1_ := Aside0.mk (below_step (by repeat (first | (with_reducible first | exact HB.out | apply below_alloc | apply pw_below_drewN | apply below_drew1 | refine below_set ?_ GE197.out) | exact HB.out)) hb); clear BK197; clear HB; have BK197 := n0_; have HB := n1_; clear n0_ n1_; (try clear hb); (try clear hb2); (try clear hk); (try clear hi); have hcz50_0 : w49.cell? ⟨gb197, 0, none⟩ = some (.string a0_0) := (blk_cell BK197.out 0).trans rfl; have hcz50_1 : w49.cell? ⟨gb197, 1, none⟩ = some (.string a0_1) := (blk_cell BK197.out 1).trans rfl; have hcz50_2 : w49.cell? ⟨gb197, 2, none⟩ = some (.string a0_2) := (blk_cell BK197.out 2).trans rfl; have hcz50_3 : w49.cell? ⟨gb197, 3, none⟩ = some (.string a0_3) := (blk_cell BK197.out 3).trans rfl; have hfz50_0 := blk_frozen BK197.out 0; have hfz50_1 := blk_frozen BK197.out 1; have hfz50_2 := blk_frozen BK197.out 2; have hfz50_3 := blk_frozen BK197.out 3) | (go_at_call 9; (with_reducible refine (spec_PathOk.calls k a0_2 false _ A5.out).mono ?_); rintro e w51 ⟨rfl, hb⟩; have n0_ := Aside0.mk (blk_below (g := gb197) (o := .cells #[.string a0_0, .string a0_1, .string a0_2, .string a0_3] 50 (0, 0)) (by (with_reducible repeat (first | refine blk_drewN ?_ _ | refine blk_drew ?_ | refine blk_alloc ?_ _)); exact BK197.out) hb); have n1_ := Aside0.mk (below_step (by repeat (first | (with_reducible first | exact HB.out | apply below_alloc | apply pw_below_drewN | apply below_drew1 | refine below_set ?_ GE197.out) | exact HB.out)) hb); clear BK197; clear HB; have BK197 := n0_; have HB := n1_; clear n0_ n1_; (try clear hb); (try clear hb2); (try clear hk); (try clear hi); have hcz52_0 : w51.cell? ⟨gb197, 0, none⟩ = some (.string a0_0) := (blk_cell BK197.out 0).trans rfl; have hcz52_1 : w51.cell? ⟨gb197, 1, none⟩ = some (.string a0_1) := (blk_cell BK197.out 1).trans rfl; have hcz52_2 : w51.cell? ⟨gb197, 2, none⟩ = some (.string a0_2) := (blk_cell BK197.out 2).trans rfl; have hcz52_3 : w51.cell? ⟨gb197, 3, none⟩ = some (.string a0_3) := (blk_cell BK197.out 3).trans rfl; have hfz52_0 := blk_frozen BK197.out 0; have hfz52_1 := blk_frozen BK197.out 1; have hfz52_2 := blk_frozen BK197.out 2; have hfz52_3 := blk_frozen BK197.out 3) | (go_at_call 46; (with_reducible refine (spec_DirOk.calls k a0_2 false _ A37.out).mono ?_); rintro e w53 ⟨rfl, hb⟩; have n0_ := Aside0.mk (blk_below (g := gb197) (o := .cells #[.string a0_0, .string a0_1, .string a0_2, .string a0_3] 50 (0, 0)) (by (with_reducible repeat (first | refine blk_drewN ?_ _ | refine blk_drew ?_ | refine blk_alloc ?_ _)); exact BK197.out) hb); have n1_ := Aside0.mk (below_step (by repeat (first | (with_reducible first | exact HB.out | apply below_alloc | apply pw_below_drewN | apply below_drew1 | refine below_set ?_ GE197.out) | exact HB.out)) hb); clear BK197; clear HB; have BK197 := n0_; have HB := n1_; clear n0_ n1_; (try clear hb); (try clear hb2); (try clear hk); (try clear hi)))
     go_ret
     exact ⟨by first | rfl | (simp [errW_none, errW_some] <;> rfl) | (simp [*, errW_none, errW_some] <;> rfl), by repeat (first | (with_reducible first | exact HB.out | apply below_alloc | apply pw_below_drewN | apply below_drew1 | refine below_set ?_ GE197.out) | exact HB.out)⟩
  ·
   rw [if_neg c4] at H
   have c4b0 : (a0_1.toList == ([] : List UInt8)) = false := beq_eq_false_iff_ne.mpr c4
   have c4b1 : (a0_1.toList != ([] : List UInt8)) = true := bne_iff_ne.mpr c4
   replace H := Option.bind_eq_some_iff.mp H
   obtain ⟨t203, A540, H⟩ := H
   replace H : (if t203 = true then ((spec_PathOk.f k a0_2).bind fun t204 => (if t204 = true then ((spec_VersionOk.f k a0_3).bind fun t205 => (if t205 = true then (some true) else ((spec_DirOk.f k a0_2).bind fun t206 => (if t206 = true then (some (a0_3.toList == ([] : List UInt8))) else (some false))))) else ((spec_DirOk.f k a0_2).bind fun t207 => (if t207 = true then (some (a0_3.toList == ([] : List UInt8))) else (some false))))) else (some false)) = some r := H
   have A54 := Aside0.mk A540
   clear A540
   by_cases c55 : t203 = true
   ·
    subst c55
    have H1 : ((spec_PathOk.f k a0_2).bind fun t204 => (if t204 = true then ((spec_VersionOk.f k a0_3).bind fun t205 => (if t205 = true then (some true) else ((spec_DirOk.f k a0_2).bind fun t206 => (if t206 = true then (some (a0_3.toList == ([] : List UInt8))) else (some false))))) else ((spec_DirOk.f k a0_2).bind fun t207 => (if t207 = true then (some (a0_3.toList == ([] : List UInt8))) else (some false))))) = some r := by rw [if_pos rfl] at H; exact H
    clear H
    have H := H1
    clear H1
    replace H := Option.bind_eq_some_iff.mp H
    obtain ⟨t204, A560, H⟩ := H
    replace H : (if t204 = true then ((spec_VersionOk.f k a0_3).bind fun t205 => (if t205 = true then (some true) else ((spec_DirOk.f k a0_2).bind fun t206 => (if t206 = true then (some (a0_3.toList == ([] : List UInt8))) else (some false))))) else ((spec_DirOk.f k a0_2).bind fun t207 => (if t207 = true then (some (a0_3.toList == ([] : List UInt8))) else (some false)))) = some r := H
    have A56 := Aside0.mk A560
    clear A560
    by_cases c57 : t204 = true
    ·
     subst c57
     have H1 : ((spec_VersionOk.f k a0_3).bind fun t205 => (if t205 = true then (some true) else ((spec_DirOk.f k a0_2).bind fun t206 => (if t206 = true then (some (a0_3.toList == ([] : List UInt8))) else (some false))))) = some r := by rw [if_pos rfl] at H; exact H
     clear H
     have H := H1
     clear H1
     replace H := Option.bind_eq_some_iff.mp H
     obtain ⟨t205, A580, H⟩ := H
     replace H : (if t205 = true then (some true) else ((spec_DirOk.f k a0_2).bind fun t206 => (if t206 = true then (some (a0_3.toList == ([] : List UInt8))) else (some false)))) = some r := H
     have A58 := Aside0.mk A580
     clear A580
     by_cases c59 : t205 = true
     ·
      subst c59
      have H1 : (some true) = some r := by rw [if_pos rfl] at H; exact H
      clear H
      have H := H1
      clear H1
      obtain rfl := Option.some.inj H
      go_enter Tryd.func28, Tryd.ntmps28
      go_wp2_with (first | ((with_reducible refine gate_dst (N := 1) rfl ?_); refine box_event ?hg (N := 1) ?hd (cs := #[.string a0_0, .string a0_1, .string a0_2, .string a0_3]) (t := 50) ?hr ?_; (case hd => rfl); (case hg => rfl); (case hr => first | (go_simp; done) | (go_simp; rfl)); intro gb197 hg w60 hbox hb; have n0_ := Aside0.mk (below_step (by repeat (first | (with_reducible first | exact HB.out | apply below_alloc | apply pw_below_drewN | apply below_drew1) | exact HB.out)) hb); have n1_ := Aside0.mk (hbox); have n2_ := Aside0.mk ((by rw [hg]; exact (below_size (by repeat (first | (with_reducible first | exact HB.out | apply below_alloc | apply pw_below_drewN | apply below_drew1) | exact HB.out))) : w.heap.size ≤ gb197)); have n3_ := Aside0.mk ((by rw [hg]; exact (below_size (by repeat (first | (with_reducible first | exact HB.out | apply below_alloc | apply pw_below_drewN | apply below_drew1) | exact HB.out))) : w.heap.size ≤ gb197)); clear HB; have HB := n0_; have BK197 := n1_; have GW197 := n2_; have GE197 := n3_; clear n0_ n1_ n2_ n3_; clear hb hbox hg; have hcz61_0 : w60.cell? ⟨gb197, 0, none⟩ = some (.string a0_0) := (blk_cell BK197.out 0).trans rfl; have hcz61_1 : w60.cell? ⟨gb197, 1, none⟩ = some (.string a0_1) := (blk_cell BK197.out 1).trans rfl; have hcz61_2 : w60.cell? ⟨gb197, 2, none⟩ = some (.string a0_2) := (blk_cell BK197.out 2).trans rfl; have hcz61_3 : w60.cell? ⟨gb197, 3, none⟩ = some (.string a0_3) := (blk_cell BK197.out 3).trans rfl; have hfz61_0 := blk_frozen BK197.out 0; have hfz61_1 := blk_frozen BK197.out 1; have hfz61_2 := blk_frozen BK197.out 2; have hfz61_3 := blk_frozen BK197.out 3) | ((with_reducible refine gate_callee (f := 9) rfl ?_); refine goesL_ (some 7) rfl rfl Tryd.func9 (by kernel_rfl) rfl #[.string a0_0] rfl (by (try simp only [List.map_toArray, List.map_cons, List.map_nil]); first | done | rfl | (simp only [List.length_drop, List.length_take]; rfl)) ?_; (with_reducible refine (spec_PathOk.calls k a0_0 true _ A2.out).mono ?_); rintro e w62 ⟨rfl, hb⟩; refine ⟨_, rfl, ?_⟩; have n0_ := Aside0.mk (blk_below (g := gb197) (o := .cells #[.string a0_0, .string a0_1, .string a0_2, .string a0_3] 50 (0, 0)) (by (with_reducible repeat (first | refine blk_drewN ?_ _ | refine blk_drew ?_ | refine blk_alloc ?_ _)); exact BK197.out) hb); have n1_ := Aside0.mk (below_step (by repeat (first | (with_reducible first | exact HB.out | apply below_alloc | apply pw_below_drewN | apply below_drew1 | refine below_set ?_ GE197.out) | exact HB.out)) hb); clear BK197; clear HB; have BK197 := n0_; have HB := n1_; clear n0_ n1_; (try clear hb); (try clear hb2); (try clear hk); (try clear hi); have hcz63_0 : w62.cell? ⟨gb197, 0, none⟩ = some (.string a0_0) := (blk_cell BK197.out 0).trans rfl; have hcz63_1 : w62.cell? ⟨gb197, 1, none⟩ = some (.string a0_1) := (blk_cell BK197.out 1).trans rfl; have hcz63_2 : w62.cell? ⟨gb197, 2, none⟩ = some (.string a0_2) := (blk_cell BK197.out 2).trans rfl; have hcz63_3 : w62.cell? ⟨gb197, 3, none⟩ = some (.string a0_3) := (blk_cell BK197.out 3).trans rfl; have hfz63_0 := blk_frozen BK197.out 0; have hfz63_1 := blk_frozen BK197.out 1; have hfz63_2 := blk_frozen BK197.out 2; have hfz63_3 := blk_frozen BK197.out 3) | (go_at_call 27; (with_reducible refine (spec_VersionOk.calls k a0_1 true _ A54.out).mono ?_); rintro e w64 ⟨rfl, hb⟩; have n0_ := Aside0.mk (blk_below (g := gb197) (o := .cells #[.string a0_0, .string a0_1, .string a0_2, .string a0_3] 50 (0, 0)) (by (with_reducible repeat (first | refine blk_drewN ?_ _ | refine blk_drew ?_ | refine blk_alloc ?_ _)); exact BK197.out) hb); have n1_ := Aside0.mk (below_step (by repeat (first | (with_reducible first | exact HB.out | apply below_alloc | apply pw_below_drewN | apply below_drew1 | refine below_set ?_ GE197.out) | exact HB.out)) hb); clear BK197; clear HB; have BK197 := n0_; have HB := n1_; clear n0_ n1_; (try clear hb); (try clear hb2); (try clear hk); (try clear hi); have hcz65_0 : w64.cell? ⟨gb197, 0, none⟩ = some (.string a0_0) := (blk_cell BK197.out 0).trans rfl; have hcz65_1 : w64.cell? ⟨gb197, 1, none⟩ = some (.string a0_1) := (blk_cell BK197.out 1).trans rfl; have hcz65_2 : w64.cell? ⟨gb197, 2, none⟩ = some (.string a0_2) := (blk_cell BK197.out 2).trans rfl; have hcz65_3 : w64.cell? ⟨gb197, 3, none⟩ = some (.string a0_3) := (blk_cell BK197.out 3).trans rfl; have hfz65_0 := blk_frozen BK197.out 0; have hfz65_1 := blk_frozen BK197.out 1; have hfz65_2 := blk_frozen BK197.out 2; have hfz65_3 := blk_frozen BK197.out 3) | (go_at_call 9; (with_reducible refine (spec_PathOk.calls k a0_2 true _ A56.out).mono ?_); rintro e w66 ⟨rfl, hb⟩; have n0_ := Aside0.mk (blk_below (g := gb197) (o := .cells #[.string a0_0, .string a0_1, .string a0_2, .string a0_3] 50 (0, 0)) (by (with_reducible repeat (first | refine blk_drewN ?_ _ | refine blk_drew ?_ | refine blk_alloc ?_ _)); exact BK197.out) hb); have n1_ := Aside0.mk (below_step (by repeat (first | (with_reducible first | exact HB.out | apply below_alloc | apply pw_below_drewN | apply below_drew1 | refine below_set ?_ GE197.out) | exact HB.out)) hb); clear BK197; clear HB; have BK197 := n0_; have HB := n1_; clear n0_ n1_; (try clear hb); (try clear hb2); (try clear hk); (try clear hi); have hcz67_0 : w66.cell? ⟨gb197, 0, none⟩ = some (.string a0_0) := (blk_cell BK197.out 0).trans rfl; have hcz67_1 : w66.cell? ⟨gb197, 1, none⟩ = some (.string a0_1) := (blk_cell BK197.out 1).trans rfl; have hcz67_2 : w66.cell? ⟨gb197, 2, none⟩ = some (.string a0_2) := (blk_cell BK197.out 2).trans rfl; have hcz67_3 : w66.cell? ⟨gb197, 3, none⟩ = some (.string a0_3) := (blk_cell BK197.out 3).trans rfl; have hfz67_0 := blk_frozen BK197.out 0; have hfz67_1 := blk_frozen BK197.out 1; have hfz67_2 := blk_frozen BK197.out 2; have hfz67_3 := blk_frozen BK197.out 3) | (go_at_call 27; (with_reducible refine (spec_VersionOk.calls k a0_3 true _ A58.out).mono ?_); rintro e w68 ⟨rfl, hb⟩; have n0_ := Aside0.mk (blk_below (g := gb197) (o := .cells #[.string a0_0, .string a0_1, .string a0_2, .string a0_3] 50 (0, 0)) (by (with_reducible repeat (first | refine blk_drewN ?_ _ | refine blk_drew ?_ | refine blk_alloc ?_ _)); exact BK197.out) hb); have n1_ := Aside0.mk (below_step (by repeat (first | (with_reducible first | exact HB.out | apply below_alloc | apply pw_below_drewN | apply below_drew1 | refine below_set ?_ GE197.out) | exact HB.out)) hb); clear BK197; clear HB; have BK197 := n0_; have HB := n1_; clear n0_ n1_; (try clear hb); (try clear hb2); (try clear hk); (try clear hi)))
      go_ret
      exact ⟨by first | rfl | (simp [errW_none, errW_some] <;> rfl) | (simp [*, errW_none, errW_some] <;> rfl), by repeat (first | (with_reducible first | exact HB.out | apply below_alloc | apply pw_below_drewN | apply below_drew1 | refine below_set ?_ GE197.out) | exact HB.out)⟩
     ·
      replace c59 := Bool.eq_false_iff.mpr c59
      subst c59
      have H1 : ((spec_DirOk.f k a0_2).bind fun t206 => (if t206 = true then (some (a0_3.toList == ([] : List UInt8))) else (some false))) = some r := by rw [if_neg (show ¬ (false = true) by decide)] at H; exact H
      clear H
      have H := H1
      clear H1
      replace H := Option.bind_eq_some_iff.mp H
      obtain ⟨t206, A690, H⟩ := H
      replace H : (if t206 = true then (some (a0_3.toList == ([] : List UInt8))) else (some false)) = some r := H
      have A69 := Aside0.mk A690
      clear A690
      by_cases c70 : t206 = true
      ·
       subst c70
       have H1 : (some (a0_3.toList == ([] : List UInt8))) = some r := by rw [if_pos rfl] at H; exact H
       clear H
       have H := H1
       clear H1
       obtain rfl := Option.some.inj H
       go_enter Tryd.func28, Tryd.ntmps28
       go_wp2_with (first | ((with_reducible refine gate_dst (N := 1) rfl ?_); refine box_event ?hg (N := 1) ?hd (cs := #[.string a0_0, .string a0_1, .string a0_2, .string a0_3]) (t := 50) ?hr ?_; (case hd => rfl); (case hg => rfl); (case hr => first | (go_simp; done) | (go_simp; rfl)); intro gb197 hg w71 hbox hb; have n0_ := Aside0.mk (below_step (by repeat (first | (with_reducible first | exact HB.out | apply below_alloc | apply pw_below_drewN | apply below_drew1) | exact HB.out)) hb); have n1_ := Aside0.mk (hbox); have n2_ := Aside0.mk ((by rw [hg]; exact (below_size (by repeat (first | (with_reducible first | exact HB.out | apply below_alloc | apply pw_below_drewN | apply below_drew1) | exact HB.out))) : w.heap.size ≤ gb197)); have n3_ := Aside0.mk ((by rw [hg]; exact (below_size (by repeat (first | (with_reducible first | exact HB.out | apply below_alloc | apply pw_below_drewN | apply below_drew1) | exact HB.out))) : w.heap.size ≤ gb197)); clear HB; have HB := n0_; have BK197 := n1_; have GW197 := n2_; have GE197 := n3_; clear n0_ n1_ n2_ n3_; clear hb hbox hg; have hcz72_0 : w71.cell? ⟨gb197, 0, none⟩ = some (.string a0_0) := (blk_cell BK197.out 0).trans rfl; have hcz72_1 : w71.cell? ⟨gb197, 1, none⟩ = some (.string a0_1) := (blk_cell BK197.out 1).trans rfl; have hcz72_2 : w71.cell? ⟨gb197, 2, none⟩ = some (.string a0_2) := (blk_cell BK197.out 2).trans rfl; have hcz72_3 : w71.cell? ⟨gb197, 3, none⟩ = some (.string a0_3) := (blk_cell BK197.out 3).trans rfl; have hfz72_0 := blk_frozen BK197.out 0; have hfz72_1 := blk_frozen BK197.out 1; have hfz72_2 := blk_frozen BK197.out 2; have hfz72_3 := blk_frozen BK197.out 3) | ((with_reducible refine gate_callee (f := 9) rfl ?_); refine goesL_ (some 7) rfl rfl Tryd.func9 (by kernel_rfl) rfl #[.string a0_0] rfl (by (try simp only [List.map_toArray, List.map_cons, List.map_nil]); first | done | rfl | (simp only [List.length_drop, List.length_take]; rfl)) ?_; (with_reducible refine (spec_PathOk.calls k a0_0 true _ A2.out).mono ?_); rintro e w73 ⟨rfl, hb⟩; refine ⟨_, rfl, ?_⟩; have n0_ := Aside0.mk (blk_below (g := gb197) (o := .cells #[.string a0_0, .string a0_1, .string a0_2, .string a0_3] 50 (0, 0)) (by (with_reducible repeat (first | refine blk_drewN ?_ _ | refine blk_drew ?_ | refine blk_alloc ?_ _)); exact BK197.out) hb); have n1_ := Aside0.mk (below_step (by repeat (first | (with_reducible first | exact HB.out | apply below_alloc | apply pw_below_drewN | apply below_drew1 | refine below_set ?_ GE197.out) | exact HB.out)) hb); clear BK197; clear HB; have BK197 := n0_; have HB := n1_; clear n0_ n1_; (try clear hb); (try clear hb2); (try clear hk); (try clear hi); have hcz74_0 : w73.cell? ⟨gb197, 0, none⟩ = some (.string a0_0) := (blk_cell BK197.out 0).trans rfl; have hcz74_1 : w73.cell? ⟨gb197, 1, none⟩ = some (.string a0_1) := (blk_cell BK197.out 1).trans rfl; have hcz74_2 : w73.cell? ⟨gb197, 2, none⟩ = some (.string a0_2) := (blk_cell BK197.out 2).trans rfl; have hcz74_3 : w73.cell? ⟨gb197, 3, none⟩ = some (.string a0_3) := (blk_cell BK197.out 3).trans rfl; have hfz74_0 := blk_frozen BK197.out 0; have hfz74_1 := blk_frozen BK197.out 1; have hfz74_2 := blk_frozen BK197.out 2; have hfz74_3 := blk_frozen BK197.out 3) | (go_at_call 27; (with_reducible refine (spec_VersionOk.calls k a0_1 true _ A54.out).mono ?_); rintro e w75 ⟨rfl, hb⟩; have n0_ := Aside0.mk (blk_below (g := gb197) (o := .cells #[.string a0_0, .string a0_1, .string a0_2, .string a0_3] 50 (0, 0)) (by (with_reducible repeat (first | refine blk_drewN ?_ _ | refine blk_drew ?_ | refine blk_alloc ?_ _)); exact BK197.out) hb); have n1_ := Aside0.mk (below_step (by repeat (first | (with_reducible first | exact HB.out | apply below_alloc | apply pw_below_drewN | apply below_drew1 | refine below_set ?_ GE197.out) | exact HB.out)) hb); clear BK197; clear HB; have BK197 := n0_; have HB := n1_; clear n0_ n1_; (try clear hb); (try clear hb2); (try clear hk); (try clear hi); have hcz76_0 : w75.cell? ⟨gb197, 0, none⟩ = some (.string a0_0) := (blk_cell BK197.out 0).trans rfl; have hcz76_1 : w75.cell? ⟨gb197, 1, none⟩ = some (.string a0_1) := (blk_cell BK197.out 1).trans rfl; have hcz76_2 : w75.cell? ⟨gb197, 2, none⟩ = some (.string a0_2) := (blk_cell BK197.out 2).trans rfl; have hcz76_3 : w75.cell? ⟨gb197, 3, none⟩ = some (.string a0_3) := (blk_cell BK197.out 3).trans rfl; have hfz76_0 := blk_frozen BK197.out 0; have hfz76_1 := blk_frozen BK197.out 1; have hfz76_2 := blk_frozen BK197.out 2; have hfz76_3 := blk_frozen BK197.out 3) | (go_at_call 9; (with_reducible refine (spec_PathOk.calls k a0_2 true _ A56.out).mono ?_); rintro e w77 ⟨rfl, hb⟩; have n0_ := Aside0.mk (blk_below (g := gb197) (o := .cells #[.string a0_0, .string a0_1, .string a0_2, .string a0_3] 50 (0, 0)) (by (with_reducible repeat (first | refine blk_drewN ?_ _ | refine blk_drew ?_ | refine blk_alloc ?_ _)); exact BK197.out) hb); have n1_ := Aside0.mk (below_step (by repeat (first | (with_reducible first | exact HB.out | apply below_alloc | apply pw_below_drewN | apply below_drew1 | refine below_set ?_ GE197.out) | exact HB.out)) hb); clear BK197; clear HB; have BK197 := n0_; have HB := n1_; clear n0_ n1_; (try clear hb); (try clear hb2); (try clear hk); (try clear hi); have hcz78_0 : w77.cell? ⟨gb197, 0, none⟩ = some (.string a0_0) := (blk_cell BK197.out 0).trans rfl; have hcz78_1 : w77.cell? ⟨gb197, 1, none⟩ = some (.string a0_1) := (blk_cell BK197.out 1).trans rfl; have hcz78_2 : w77.cell? ⟨gb197, 2, none⟩ = some (.string a0_2) := (blk_cell BK197.out 2).trans rfl; have hcz78_3 : w77.cell? ⟨gb197, 3, none⟩ = some (.string a0_3) := (blk_cell BK197.out 3).trans rfl; have hfz78_0 := blk_frozen BK197.out 0; have hfz78_1 := blk_frozen BK197.out 1; have hfz78_2 := blk_frozen BK197.out 2; have hfz78_3 := blk_frozen BK197.out 3) | (go_at_call 27; (with_reducible refine (spec_VersionOk.calls k a0_3 false _ A58.out).mono ?_); rintro e w79 ⟨rfl, hb⟩; have n0_ := Aside0.mk (blk_below (g := gb197) (o := .cells #[.string a0_0, .string a0_1, .string a0_2, .string a0_3] 50 (0, 0)) (by (with_reducible repeat (first | refine blk_drewN ?_ _ | refine blk_drew ?_ | refine blk_alloc ?_ _)); exact BK197.out) hb); have n1_ := Aside0.mk (below_step (by repeat (first | (with_reducible first | exact HB.out | apply below_alloc | apply pw_below_drewN | apply below_drew1 | refine below_set ?_ GE197.out) | exact HB.out)) hb); clear BK197; clear HB; have BK197 := n0_; have HB := n1_; clear n0_ n1_; (try clear hb); (try clear hb2); (try clear hk); (try clear hi); have hcz80_0 : w79.cell? ⟨gb197, 0, none⟩ = some (.string a0_0) := (blk_cell BK197.out 0).trans rfl; have hcz80_1 : w79.cell? ⟨gb197, 1, none⟩ = some (.string a0_1) := (blk_cell BK197.out 1).trans rfl; have hcz80_2 : w79.cell? ⟨gb197, 2, none⟩ = some (.string a0_2) := (blk_cell BK197.out 2).trans rfl; have hcz80_3 : w79.cell? ⟨gb197, 3, none⟩ = some (.string a0_3) := (blk_cell BK197.out 3).trans rfl; have hfz80_0 := blk_frozen BK197.out 0; have hfz80_1 := blk_frozen BK197.out 1; have hfz80_2 := blk_frozen BK197.out 2; have hfz80_3 := blk_frozen BK197.out 3) | (go_at_call 46; (with_reducible refine (spec_DirOk.calls k a0_2 true _ A69.out).mono ?_); rintro e w81 ⟨rfl, hb⟩; have n0_ := Aside0.mk (blk_below (g := gb197) (o := .cells #[.string a0_0, .string a0_1, .string a0_2, .string a0_3] 50 (0, 0)) (by (with_reducible repeat (first | refine blk_drewN ?_ _ | refine blk_drew ?_ | refine blk_alloc ?_ _)); exact BK197.out) hb); have n1_ := Aside0.mk (below_step (by repeat (first | (with_reducible first | exact HB.out | apply below_alloc | apply pw_below_drewN | apply below_drew1 | refine below_set ?_ GE197.out) | exact HB.out)) hb); clear BK197; clear HB; have BK197 := n0_; have HB := n1_; clear n0_ n1_; (try clear hb); (try clear hb2); (try clear hk); (try clear hi); have hcz82_0 : w81.cell? ⟨gb197, 0, none⟩ = some (.string a0_0) := (blk_cell BK197.out 0).trans rfl; have hcz82_1 : w81.cell? ⟨gb197, 1, none⟩ = some (.string a0_1) := (blk_cell BK197.out 1).trans rfl; have hcz82_2 : w81.cell? ⟨gb197, 2, none⟩ = some (.string a0_2) := (blk_cell BK197.out 2).trans rfl; have hcz82_3 : w81.cell? ⟨gb197, 3, none⟩ = some (.string a0_3) := (blk_cell BK197.out 3).trans rfl; have hfz82_0 := blk_frozen BK197.out 0; have hfz82_1 := blk_frozen BK197.out 1; have hfz82_2 := blk_frozen BK197.out 2; have hfz82_3 := blk_frozen BK197.out 3))
       go_ret
       exact ⟨by first | rfl | (simp [errW_none, errW_some] <;> rfl) | (simp [*, errW_none, errW_some] <;> rfl), by repeat (first | (with_reducible first | exact HB.out | apply below_alloc | apply pw_below_drewN | apply below_drew1 | refine below_set ?_ GE197.out) | exact HB.out)⟩
      ·
       replace c70 := Bool.eq_false_iff.mpr c70
       subst c70
       have H1 : (some false) = some r := by rw [if_neg (show ¬ (false = true) by decide)] at H; exact H
       clear H
       have H := H1
       clear H1
       obtain rfl := Option.some.inj H
       go_enter Tryd.func28, Tryd.ntmps28
       go_wp2_with (first | ((with_reducible refine gate_dst (N := 1) rfl ?_); refine box_event ?hg (N := 1) ?hd (cs := #[.string a0_0, .string a0_1, .string a0_2, .string a0_3]) (t := 50) ?hr ?_; (case hd => rfl); (case hg => rfl); (case hr => first | (go_simp; done) | (go_simp; rfl)); intro gb197 hg w83 hbox hb; have n0_ := Aside0.mk (below_step (by repeat (first | (with_reducible first | exact HB.out | apply below_alloc | apply pw_below_drewN | apply below_drew1) | exact HB.out)) hb); have n1_ := Aside0.mk (hbox); have n2_ := Aside0.mk ((by rw [hg]; exact (below_size (by repeat (first | (with_reducible first | exact HB.out | apply below_alloc | apply pw_below_drewN | apply below_drew1) | exact HB.out))) : w.heap.size ≤ gb197)); have n3_ := Aside0.mk ((by rw [hg]; exact (below_size (by repeat (first | (with_reducible first | exact HB.out | apply below_alloc | apply pw_below_drewN | apply below_drew1) | exact HB.out))) : w.heap.size ≤ gb197)); clear HB; have HB := n0_; have BK197 := n1_; have GW197 := n2_; have GE197 := n3_; clear n0_ n1_ n2_ n3_; clear hb hbox hg; have hcz84_0 : w83.cell? ⟨gb197, 0, none⟩ = some (.string a0_0) := (blk_cell BK197.out 0).trans rfl; have hcz84_1 : w83.cell? ⟨gb197, 1, none⟩ = some (.string a0_1) := (blk_cell BK197.out 1).trans rfl; have hcz84_2 : w83.cell? ⟨gb197, 2, none⟩ = some (.string a0_2) := (blk_cell BK197.out 2).trans rfl; have hcz84_3 : w83.cell? ⟨gb197, 3, none⟩ = some (.string a0_3) := (blk_cell BK197.out 3).trans rfl; have hfz84_0 := blk_frozen BK197.out 0; have hfz84_1 := blk_frozen BK197.out 1; have hfz84_2 := blk_frozen BK197.out 2; have hfz84_3 := blk_frozen BK197.out 3) | ((with_reducible refine gate_callee (f := 9) rfl ?_); refine goesL_ (some 7) rfl rfl Tryd.func9 (by kernel_rfl) rfl #[.string a0_0] rfl (by (try simp only [List.map_toArray, List.map_cons, List.map_nil]); first | done | rfl | (simp only [List.length_drop, List.length_take]; rfl)) ?_; (with_reducible refine (spec_PathOk.calls k a0_0 true _ A2.out).mono ?_); rintro e w85 ⟨rfl, hb⟩; refine ⟨_, rfl, ?_⟩; have n0_ := Aside0.mk (blk_below (g := gb197) (o := .cells #[.string a0_0, .string a0_1, .string a0_2, .string a0_3] 50 (0, 0)) (by (with_reducible repeat (first | refine blk_drewN ?_ _ | refine blk_drew ?_ | refine blk_alloc ?_ _)); exact BK197.out) hb); have n1_ := Aside0.mk (below_step (by repeat (first | (with_reducible first | exact HB.out | apply below_alloc | apply pw_below_drewN | apply below_drew1 | refine below_set ?_ GE197.out) | exact HB.out)) hb); clear BK197; clear HB; have BK197 := n0_; have HB := n1_; clear n0_ n1_; (try clear hb); (try clear hb2); (try clear hk); (try clear hi); have hcz86_0 : w85.cell? ⟨gb197, 0, none⟩ = some (.string a0_0) := (blk_cell BK197.out 0).trans rfl; have hcz86_1 : w85.cell? ⟨gb197, 1, none⟩ = some (.string a0_1) := (blk_cell BK197.out 1).trans rfl; have hcz86_2 : w85.cell? ⟨gb197, 2, none⟩ = some (.string a0_2) := (blk_cell BK197.out 2).trans rfl; have hcz86_3 : w85.cell? ⟨gb197, 3, none⟩ = some (.string a0_3) := (blk_cell BK197.out 3).trans rfl; have hfz86_0 := blk_frozen BK197.out 0; have hfz86_1 := blk_frozen BK197.out 1; have hfz86_2 := blk_frozen BK197.out 2; have hfz86_3 := blk_frozen BK197.out 3) | (go_at_call 27; (with_reducible refine (spec_VersionOk.calls k a0_1 true _ A54.out).mono ?_); rintro e w87 ⟨rfl, hb⟩; have n0_ := Aside0.mk (blk_below (g := gb197) (o := .cells #[.string a0_0, .string a0_1, .string a0_2, .string a0_3] 50 (0, 0)) (by (with_reducible repeat (first | refine blk_drewN ?_ _ | refine blk_drew ?_ | refine blk_alloc ?_ _)); exact BK197.out) hb); have n1_ := Aside0.mk (below_step (by repeat (first | (with_reducible first | exact HB.out | apply below_alloc | apply pw_below_drewN | apply below_drew1 | refine below_set ?_ GE197.out) | exact HB.out)) hb); clear BK197; clear HB; have BK197 := n0_; have HB := n1_; clear n0_ n1_; (try clear hb); (try clear hb2); (try clear hk); (try clear hi); have hcz88_0 : w87.cell? ⟨gb197, 0, none⟩ = some (.string a0_0) := (blk_cell BK197.out 0).trans rfl; have hcz88_1 : w87.cell? ⟨gb197, 1, none⟩ = some (.string a0_1) := (blk_cell BK197.out 1).trans rfl; have hcz88_2 : w87.cell? ⟨gb197, 2, none⟩ = some (.string a0_2) := (blk_cell BK197.out 2).trans rfl; have hcz88_3 : w87.cell? ⟨gb197, 3, none⟩ = some (.string a0_3) := (blk_cell BK197.out 3).trans rfl; have hfz88_0 := blk_frozen BK197.out 0; have hfz88_1 := blk_frozen BK197.out 1; have hfz88_2 := blk_frozen BK197.out 2; have hfz88_3 := blk_frozen BK197.out 3) | (go_at_call 9; (with_reducible refine (spec_PathOk.calls k a0_2 true _ A56.out).mono ?_); rintro e w89 ⟨rfl, hb⟩; have n0_ := Aside0.mk (blk_below (g := gb197) (o := .cells #[.string a0_0, .string a0_1, .string a0_2, .string a0_3] 50 (0, 0)) (by (with_reducible repeat (first | refine blk_drewN ?_ _ | refine blk_drew ?_ | refine blk_alloc ?_ _)); exact BK197.out) hb); have n1_ := Aside0.mk (below_step (by repeat (first | (with_reducible first | exact HB.out | apply below_alloc | apply pw_below_drewN | apply below_drew1 | refine below_set ?_ GE197.out) | exact HB.out)) hb); clear BK197; clear HB; have BK197 := n0_; have HB := n1_; clear n0_ n1_; (try clear hb); (try clear hb2); (try clear hk); (try clear hi); have hcz90_0 : w89.cell? ⟨gb197, 0, none⟩ = some (.string a0_0) := (blk_cell BK197.out 0).trans rfl; have hcz90_1 : w89.cell? ⟨gb197, 1, none⟩ = some (.string a0_1) := (blk_cell BK197.out 1).trans rfl; have hcz90_2 : w89.cell? ⟨gb197, 2, none⟩ = some (.string a0_2) := (blk_cell BK197.out 2).trans rfl; have hcz90_3 : w89.cell? ⟨gb197, 3, none⟩ = some (.string a0_3) := (blk_cell BK197.out 3).trans rfl; have hfz90_0 := blk_frozen BK197.out 0; have hfz90_1 := blk_frozen BK197.out 1; have hfz90_2 := blk_frozen BK197.out 2; have hfz90_3 := blk_frozen BK197.out 3) | (go_at_call 27; (with_reducible refine (spec_VersionOk.calls k a0_3 false _ A58.out).mono ?_); rintro e w91 ⟨rfl, hb⟩; have n0_ := Aside0.mk (blk_below (g := gb197) (o := .cells #[.string a0_0, .string a0_1, .string a0_2, .string a0_3] 50 (0, 0)) (by (with_reducible repeat (first | refine blk_drewN ?_ _ | refine blk_drew ?_ | refine blk_alloc ?_ _)); exact BK197.out) hb); have n1_ := Aside0.mk (below_step (by repeat (first | (with_reducible first | exact HB.out | apply below_alloc | apply pw_below_drewN | apply below_drew1 | refine below_set ?_ GE197.out) | exact HB.out)) hb); clear BK197; clear HB; have BK197 := n0_; have HB := n1_; clear n0_ n1_; (try clear hb); (try clear hb2); (try clear hk); (try clear hi); have hcz92_0 : w91.cell? ⟨gb197, 0, none⟩ = some (.string a0_0) := (blk_cell BK197.out 0).trans rfl; have hcz92_1 : w91.cell? ⟨gb197, 1, none⟩ = some (.string a0_1) := (blk_cell BK197.out 1).trans rfl; have hcz92_2 : w91.cell? ⟨gb197, 2, none⟩ = some (.string a0_2) := (blk_cell BK197.out 2).trans rfl; have hcz92_3 : w91.cell? ⟨gb197, 3, none⟩ = some (.string a0_3) := (blk_cell BK197.out 3).trans rfl; have hfz92_0 := blk_frozen BK197.out 0; have hfz92_1 := blk_frozen BK197.out 1; have hfz92_2 := blk_frozen BK197.out 2; have hfz92_3 := blk_frozen BK197.out 3) | (go_at_call 46; (with_reducible refine (spec_DirOk.calls k a0_2 false _ A69.out).mono ?_); rintro e w93 ⟨rfl, hb⟩; have n0_ := Aside0.mk (blk_below (g := gb197) (o := .cells #[.string a0_0, .string a0_1, .string a0_2, .string a0_3] 50 (0, 0)) (by (with_reducible repeat (first | refine blk_drewN ?_ _ | refine blk_drew ?_ | refine blk_alloc ?_ _)); exact BK197.out) hb); have n1_ := Aside0.mk (below_step (by repeat (first | (with_reducible first | exact HB.out | apply below_alloc | apply pw_below_drewN | apply below_drew1 | refine below_set ?_ GE197.out) | exact HB.out)) hb); clear BK197; clear HB; have BK197 := n0_; have HB := n1_; clear n0_ n1_; (try clear hb); (try clear hb2); (try clear hk); (try clear hi)))
       go_ret
       exact ⟨by first | rfl | (simp [errW_none, errW_some] <;> rfl) | (simp [*, errW_none, errW_some] <;> rfl), by repeat (first | (with_reducible first | exact HB.out | apply below_alloc | apply pw_below_drewN | apply below_drew1 | refine below_set ?_ GE197.out) | exact HB.out)⟩
    ·
     replace c57 := Bool.eq_false_iff.mpr c57
     subst c57
     have H1 : ((spec_DirOk.f k a0_2).bind fun t207 => (if t207 = true then (some (a0_3.toList == ([] : List UInt8))) else (some false))) = some r := by rw [if_neg (show ¬ (false = true) by decide)] at H; exact H
     clear H
     have H := H1
     clear H1
     replace H := Option.bind_eq_some_iff.mp H
     obtain ⟨t207, A940, H⟩ := H
     replace H : (if t207 = true then (some (a0_3.toList == ([] : List UInt8))) else (some false)) = some r := H
     have A94 := Aside0.mk A940
     clear A940
     by_cases c95 : t207 = true
     ·
      subst c95
      have H1 : (some (a0_3.toList == ([] : List UInt8))) = some r := by rw [if_pos rfl] at H; exact H
      clear H
      have H := H1
      clear H1
      obtain rfl := Option.some.inj H
      go_enter Tryd.func28, Tryd.ntmps28
      go_wp2_with (first | ((with_reducible refine gate_dst (N := 1) rfl ?_); refine box_event ?hg (N := 1) ?hd (cs := #[.string a0_0, .string a0_1, .string a0_2, .string a0_3]) (t := 50) ?hr ?_; (case hd => rfl); (case hg => rfl); (case hr => first | (go_simp; done) | (go_simp; rfl)); intro gb197 hg w96 hbox hb; have n0_ := Aside0.mk (below_step (by repeat (first | (with_reducible first | exact HB.out | apply below_alloc | apply pw_below_drewN | apply below_drew1) | exact HB.out)) hb); have n1_ := Aside0.mk (hbox); have n2_ := Aside0.mk ((by rw [hg]; exact (below_size (by repeat (first | (with_reducible first | exact HB.out | apply below_alloc | apply pw_below_drewN | apply below_drew1) | exact HB.out))) : w.heap.size ≤ gb197)); have n3_ := Aside0.mk ((by rw [hg]; exact (below_size (by repeat (first | (with_reducible first | exact HB.out | apply below_alloc | apply pw_below_drewN | apply below_drew1) | exact HB.out))) : w.heap.size ≤ gb197)); clear HB; have HB := n0_; have BK197 := n1_; have GW197 := n2_; have GE197 := n3_; clear n0_ n1_ n2_ n3_; clear hb hbox hg; have hcz97_0 : w96.cell? ⟨gb197, 0, none⟩ = some (.string a0_0) := (blk_cell BK197.out 0).trans rfl; have hcz97_1 : w96.cell? ⟨gb197, 1, none⟩ = some (.string a0_1) := (blk_cell BK197.out 1).trans rfl; have hcz97_2 : w96.cell? ⟨gb197, 2, none⟩ = some (.string a0_2) := (blk_cell BK197.out 2).trans rfl; have hcz97_3 : w96.cell? ⟨gb197, 3, none⟩ = some (.string a0_3) := (blk_cell BK197.out 3).trans rfl; have hfz97_0 := blk_frozen BK197.out 0; have hfz97_1 := blk_frozen BK197.out 1; have hfz97_2 := blk_frozen BK197.out 2; have hfz97_3 := blk_frozen BK197.out 3) | ((with_reducible refine gate_callee (f := 9) rfl ?_); refine goesL_ (some 7) rfl rfl Tryd.func9 (by kernel_rfl) rfl #[.string a0_0] rfl (by (try simp only [List.map_toArray, List.map_cons, List.map_nil]); first | done | rfl | (simp only [List.length_drop, List.length_take]; rfl)) ?_; (with_reducible refine (spec_PathOk.calls k a0_0 true _ A2.out).mono ?_); rintro e w98 ⟨rfl, hb⟩; refine ⟨_, rfl, ?_⟩; have n0_ := Aside0.mk (blk_below (g := gb197) (o := .cells #[.string a0_0, .string a0_1, .string a0_2, .string a0_3] 50 (0, 0)) (by (with_reducible repeat (first | refine blk_drewN ?_ _ | refine blk_drew ?_ | refine blk_alloc ?_ _)); exact BK197.out) hb); have n1_ := Aside0.mk (below_step (by repeat (first | (with_reducible first | exact HB.out | apply below_alloc | apply pw_below_drewN | apply below_drew1 | refine below_set ?_ GE197.out) | exact HB.out)) hb); clear BK197; clear HB; have BK197 := n0_; have HB := n1_; clear n0_ n1_; (try clear hb); (try clear hb2); (try clear hk); (try clear hi); have hcz99_0 : w98.cell? ⟨gb197, 0, none⟩ = some (.string a0_0) := (blk_cell BK197.out 0).trans rfl; have hcz99_1 : w98.cell? ⟨gb197, 1, none⟩ = some (.string a0_1) := (blk_cell BK197.out 1).trans rfl; have hcz99_2 : w98.cell? ⟨gb197, 2, none⟩ = some (.string a0_2) := (blk_cell BK197.out 2).trans rfl; have hcz99_3 : w98.cell? ⟨gb197, 3, none⟩ = some (.string a0_3) := (blk_cell BK197.out 3).trans rfl; have hfz99_0 := blk_frozen BK197.out 0; have hfz99_1 := blk_frozen BK197.out 1; have hfz99_2 := blk_frozen BK197.out 2; have hfz99_3 := blk_frozen BK197.out 3) | (go_at_call 27; (with_reducible refine (spec_VersionOk.calls k a0_1 true _ A54.out).mono ?_); rintro e w100 ⟨rfl, hb⟩; have n0_ := Aside0.mk (blk_below (g := gb197) (o := .cells #[.string a0_0, .string a0_1, .string a0_2, .string a0_3] 50 (0, 0)) (by (with_reducible repeat (first | refine blk_drewN ?_ _ | refine blk_drew ?_ | refine blk_alloc ?_ _)); exact BK197.out) hb); have n1_ := Aside0.mk (below_step (by repeat (first | (with_reducible first | exact HB.out | apply below_alloc | apply pw_below_drewN | apply below_drew1 | refine below_set ?_ GE197.out) | exact HB.out)) hb); clear BK197; clear HB; have BK197 := n0_; have HB := n1_; clear n0_ n1_; (try clear hb); (try clear hb2); (try clear hk); (try clear hi); have hcz101_0 : w100.cell? ⟨gb197, 0, none⟩ = some (.string a0_0) := (blk_cell BK197.out 0).trans rfl; have hcz101_1 : w100.cell? ⟨gb197, 1, none⟩ = some (.string a0_1) := (blk_cell BK197.out 1).trans rfl; have hcz101_2 : w100.cell? ⟨gb197, 2, none⟩ = some (.string a0_2) := (blk_cell BK197.out 2).trans rfl; have hcz101_3 : w100.cell? ⟨gb197, 3, none⟩ = some (.string a0_3) := (blk_cell BK197.out 3).trans rfl; have hfz101_0 := blk_frozen BK197.out 0; have hfz101_1 := blk_frozen BK197.out 1; have hfz101_2 := blk_frozen BK197.out 2; have hfz101_3 := blk_frozen BK197.out 3) | (go_at_call 9; (with_reducible refine (spec_PathOk.calls k a0_2 false _ A56.out).mono ?_); rintro e w102 ⟨rfl, hb⟩; have n0_ := Aside0.mk (blk_below (g := gb197) (o := .cells #[.string a0_0, .string a0_1, .string a0_2, .string a0_3] 50 (0, 0)) (by (with_reducible repeat (first | refine blk_drewN ?_ _ | refine blk_drew ?_ | refine blk_alloc ?_ _)); exact BK197.out) hb); have n1_ := Aside0.mk (below_step (by repeat (first | (with_reducible first | exact HB.out | apply below_alloc | apply pw_below_drewN | apply below_drew1 | refine below_set ?_ GE197.out) | exact HB.out)) hb); clear BK197; clear HB; have BK197 := n0_; have HB := n1_; clear n0_ n1_; (try clear hb); (try clear hb2); (try clear hk); (try clear hi); have hcz103_0 : w102.cell? ⟨gb197, 0, none⟩ = some (.string a0_0) := (blk_cell BK197.out 0).trans rfl; have hcz103_1 : w102.cell? ⟨gb197, 1, none⟩ = some (.string a0_1) := (blk_cell BK197.out 1).trans rfl; have hcz103_2 : w102.cell? ⟨gb197, 2, none⟩ = some (.string a0_2) := (blk_cell BK197.out 2).trans rfl; have hcz103_3 : w102.cell? ⟨gb197, 3, none⟩ = some (.string a0_3) := (blk_cell BK197.out 3).trans rfl; have hfz103_0 := blk_frozen BK197.out 0; have hfz103_1 := blk_frozen BK197.out 1; have hfz103_2 := blk_frozen BK197.out 2; have hfz103_3 := blk_frozen BK197.out 3) | (go_at_call 46; (with_reducible refine (spec_DirOk.calls k a0_2 true _ A94.out).mono ?_); rintro e w104 ⟨rfl, hb⟩; have n0_ := Aside0.mk (blk_below (g := gb197) (o := .cells #[.string a0_0, .string a0_1, .string a0_2, .string a0_3] 50 (0, 0)) (by (with_reducible repeat (first | refine blk_drewN ?_ _ | refine blk_drew ?_ | refine blk_alloc ?_ _)); exact BK197.out) hb); have n1_ := Aside0.mk (below_step (by repeat (first | (with_reducible first | exact HB.out | apply below_alloc | apply pw_below_drewN | apply below_drew1 | refine below_set ?_ GE197.out) | exact HB.out)) hb); clear BK197; clear HB; have BK197 := n0_; have HB := n1_; clear n0_ n1_; (try clear hb); (try clear hb2); (try clear hk); (try clear hi); have hcz105_0 : w104.cell? ⟨gb197, 0, none⟩ = some (.string a0_0) := (blk_cell BK197.out 0).trans rfl; have hcz105_1 : w104.cell? ⟨gb197, 1, none⟩ = some (.string a0_1) := (blk_cell BK197.out 1).trans rfl; have hcz105_2 : w104.cell? ⟨gb197, 2, none⟩ = some (.string a0_2) := (blk_cell BK197.out 2).trans rfl; have hcz105_3 : w104.cell? ⟨gb197, 3, none⟩ = some (.string a0_3) := (blk_cell BK197.out 3).trans rfl; have hfz105_0 := blk_frozen BK197.out 0; have hfz105_1 := blk_frozen BK197.out 1; have hfz105_2 := blk_frozen BK197.out 2; have hfz105_3 := blk_frozen BK197.out 3))
      go_ret
      exact ⟨by first | rfl | (simp [errW_none, errW_some] <;> rfl) | (simp [*, errW_none, errW_some] <;> rfl), by repeat (first | (with_reducible first | exact HB.out | apply below_alloc | apply pw_below_drewN | apply below_drew1 | refine below_set ?_ GE197.out) | exact HB.out)⟩
     ·
      replace c95 := Bool.eq_false_iff.mpr c95
      subst c95
      have H1 : (some false) = some r := by rw [if_neg (show ¬ (false = true) by decide)] at H; exact H
      clear H
      have H := H1
      clear H1
      obtain rfl := Option.some.inj H
      go_enter Tryd.func28, Tryd.ntmps28
      go_wp2_with (first | ((with_reducible refine gate_dst (N := 1) rfl ?_); refine box_event ?hg (N := 1) ?hd (cs := #[.string a0_0, .string a0_1, .string a0_2, .string a0_3]) (t := 50) ?hr ?_; (case hd => rfl); (case hg => rfl); (case hr => first | (go_simp; done) | (go_simp; rfl)); intro gb197 hg w106 hbox hb; have n0_ := Aside0.mk (below_step (by repeat (first | (with_reducible first | exact HB.out | apply below_alloc | apply pw_below_drewN | apply below_drew1) | exact HB.out)) hb); have n1_ := Aside0.mk (hbox); have n2_ := Aside0.mk ((by rw [hg]; exact (below_size (by repeat (first | (with_reducible first | exact HB.out | apply below_alloc | apply pw_below_drewN | apply below_drew1) | exact HB.out))) : w.heap.size ≤ gb197)); have n3_ := Aside0.mk ((by rw [hg]; exact (below_size (by repeat (first | (with_reducible first | exact HB.out | apply below_alloc | apply pw_below_drewN | apply below_drew1) | exact HB.out))) : w.heap.size ≤ gb197)); clear HB; have HB := n0_; have BK197 := n1_; have GW197 := n2_; have GE197 := n3_; clear n0_ n1_ n2_ n3_; clear hb hbox hg; have hcz107_0 : w106.cell? ⟨gb197, 0, none⟩ = some (.string a0_0) := (blk_cell BK197.out 0).trans rfl; have hcz107_1 : w106.cell? ⟨gb197, 1, none⟩ = some (.string a0_1) := (blk_cell BK197.out 1).trans rfl; have hcz107_2 : w106.cell? ⟨gb197, 2, none⟩ = some (.string a0_2) := (blk_cell BK197.out 2).trans rfl; have hcz107_3 : w106.cell? ⟨gb197, 3, none⟩ = some (.string a0_3) := (blk_cell BK197.out 3).trans rfl; have hfz107_0 := blk_frozen BK197.out 0; have hfz107_1 := blk_frozen BK197.out 1; have hfz107_2 := blk_frozen BK197.out 2; have hfz107_3 := blk_frozen BK197.out 3) | ((with_reducible refine gate_callee (f := 9) rfl ?_); refine goesL_ (some 7) rfl rfl Tryd.func9 (by kernel_rfl) rfl #[.string a0_0] rfl (by (try simp only [List.map_toArray, List.map_cons, List.map_nil]); first | done | rfl | (simp only [List.length_drop, List.length_take]; rfl)) ?_; (with_reducible refine (spec_PathOk.calls k a0_0 true _ A2.out).mono ?_); rintro e w108 ⟨rfl, hb⟩; refine ⟨_, rfl, ?_⟩; have n0_ := Aside0.mk (blk_below (g := gb197) (o := .cells #[.string a0_0, .string a0_1, .string a0_2, .string a0_3] 50 (0, 0)) (by (with_reducible repeat (first | refine blk_drewN ?_ _ | refine blk_drew ?_ | refine blk_alloc ?_ _)); exact BK197.out) hb); have n1_ := Aside0.mk (below_step (by repeat (first | (with_reducible first | exact HB.out | apply below_alloc | apply pw_below_drewN | apply below_drew1 | refine below_set ?_ GE197.out) | exact HB.out)) hb); clear BK197; clear HB; have BK197 := n0_; have HB := n1_; clear n0_ n1_; (try clear hb); (try clear hb2); (try clear hk); (try clear hi); have hcz109_0 : w108.cell? ⟨gb197, 0, none⟩ = some (.string a0_0) := (blk_cell BK197.out 0).trans rfl; have hcz109_1 : w108.cell? ⟨gb197, 1, none⟩ = some (.string a0_1) := (blk_cell BK197.out 1).trans rfl; have hcz109_2 : w108.cell? ⟨gb197, 2, none⟩ = some (.string a0_2) := (blk_cell BK197.out 2).trans rfl; have hcz109_3 : w108.cell? ⟨gb197, 3, none⟩ = some (.string a0_3) := (blk_cell BK197.out 3).trans rfl; have hfz109_0 := blk_frozen BK197.out 0; have hfz109_1 := blk_frozen BK197.out 1; have hfz109_2 := blk_frozen BK197.out 2; have hfz109_3 := blk_frozen BK197.out 3) | (go_at_call 27; (with_reducible refine (spec_VersionOk.calls k a0_1 true _ A54.out).mono ?_); rintro e w110 ⟨rfl, hb⟩; have n0_ := Aside0.mk (blk_below (g := gb197) (o := .cells #[.string a0_0, .string a0_1, .string a0_2, .string a0_3] 50 (0, 0)) (by (with_reducible repeat (first | refine blk_drewN ?_ _ | refine blk_drew ?_ | refine blk_alloc ?_ _)); exact BK197.out) hb); have n1_ := Aside0.mk (below_step (by repeat (first | (with_reducible first | exact HB.out | apply below_alloc | apply pw_below_drewN | apply below_drew1 | refine below_set ?_ GE197.out) | exact HB.out)) hb); clear BK197; clear HB; have BK197 := n0_; have HB := n1_; clear n0_ n1_; (try clear hb); (try clear hb2); (try clear hk); (try clear hi); have hcz111_0 : w110.cell? ⟨gb197, 0, none⟩ = some (.string a0_0) := (blk_cell BK197.out 0).trans rfl; have hcz111_1 : w110.cell? ⟨gb197, 1, none⟩ = some (.string a0_1) := (blk_cell BK197.out 1).trans rfl; have hcz111_2 : w110.cell? ⟨gb197, 2, none⟩ = some (.string a0_2) := (blk_cell BK197.out 2).trans rfl; have hcz111_3 : w110.cell? ⟨gb197, 3, none⟩ = some (.string a0_3) := (blk_cell BK197.out 3).trans rfl; have hfz111_0 := blk_frozen BK197.out 0; have hfz111_1 := blk_frozen BK197.out 1; have hfz111_2 := blk_frozen BK197.out 2; have hfz111_3 := blk_frozen BK197.out 3) | (go_at_call 9; (with_reducible refine (spec_PathOk.calls k a0_2 false _ A56.out).mono ?_); rintro e w112 ⟨rfl, hb⟩; have n0_ := Aside0.mk (blk_below (g := gb197) (o := .cells #[.string a0_0, .string a0_1, .string a0_2, .string a0_3] 50 (0, 0)) (by (with_reducible repeat (first | refine blk_drewN ?_ _ | refine blk_drew ?_ | refine blk_alloc ?_ _)); exact BK197.out) hb); have n1_ := Aside0.mk (below_step (by repeat (first | (with_reducible first | exact HB.out | apply below_alloc | apply pw_below_drewN | apply below_drew1 | refine below_set ?_ GE197.out) | exact HB.out)) hb); clear BK197; clear HB; have BK197 := n0_; have HB := n1_; clear n0_ n1_; (try clear hb); (try clear hb2); (try clear hk); (try clear hi); have hcz113_0 : w112.cell? ⟨gb197, 0, none⟩ = some (.string a0_0) := (blk_cell BK197.out 0).trans rfl; have hcz113_1 : w112.cell? ⟨gb197, 1, none⟩ = some (.string a0_1) := (blk_cell BK197.out 1).trans rfl; have hcz113_2 : w112.cell? ⟨gb197, 2, none⟩ = some (.string a0_2) := (blk_cell BK197.out 2).trans rfl; have hcz113_3 : w112.cell? ⟨gb197, 3, none⟩ = some (.string a0_3) := (blk_cell BK197.out 3).trans rfl; have hfz113_0 := blk_frozen BK197.out 0; have hfz113_1 := blk_frozen BK197.out 1; have hfz113_2 := blk_frozen BK197.out 2; have hfz113_3 := blk_frozen BK197.out 3) | (go_at_call 46; (with_reducible refine (spec_DirOk.calls k a0_2 false _ A94.out).mono ?_); rintro e w114 ⟨rfl, hb⟩; have n0_ := Aside0.mk (blk_below (g := gb197) (o := .cells #[.string a0_0, .string a0_1, .string a0_2, .string a0_3] 50 (0, 0)) (by (with_reducible repeat (first | refine blk_drewN ?_ _ | refine blk_drew ?_ | refine blk_alloc ?_ _)); exact BK197.out) hb); have n1_ := Aside0.mk (below_step (by repeat (first | (with_reducible first | exact HB.out | apply below_alloc | apply pw_below_drewN | apply below_drew1 | refine below_set ?_ GE197.out) | exact HB.out)) hb); clear BK197; clear HB; have BK197 := n0_; have HB := n1_; clear n0_ n1_; (try clear hb); (try clear hb2); (try clear hk); (try clear hi)))
      go_ret
      exact ⟨by first | rfl | (simp [errW_none, errW_some] <;> rfl) | (simp [*, errW_none, errW_some] <;> rfl), by repeat (first | (with_reducible first | exact HB.out | apply below_alloc | apply pw_below_drewN | apply below_drew1 | refine below_set ?_ GE197.out) | exact HB.out)⟩
   ·
    replace c55 := Bool.eq_false_iff.mpr c55
    subst c55
    have H1 : (some false) = some r := by rw [if_neg (show ¬ (false = true) by decide)] at H; exact H
    clear H
    have H := H1
    clear H1
    obtain rfl := Option.some.inj H
    go_enter Tryd.func28, Tryd.ntmps28
    go_wp2_with (first | ((with_reducible refine gate_dst (N := 1) rfl ?_); refine box_event ?hg (N := 1) ?hd (cs := #[.string a0_0, .string a0_1, .string a0_2, .string a0_3]) (t := 50) ?hr ?_; (case hd => rfl); (case hg => rfl); (case hr => first | (go_simp; done) | (go_simp; rfl)); intro gb197 hg w115 hbox hb; have n0_ := Aside0.mk (below_step (by repeat (first | (with_reducible first | exact HB.out | apply below_alloc | apply pw_below_drewN | apply below_drew1) | exact HB.out)) hb); have n1_ := Aside0.mk (hbox); have n2_ := Aside0.mk ((by rw [hg]; exact (below_size (by repeat (first | (with_reducible first | exact HB.out | apply below_alloc | apply pw_below_drewN | apply below_drew1) | exact HB.out))) : w.heap.size ≤ gb197)); have n3_ := Aside0.mk ((by rw [hg]; exact (below_size (by repeat (first | (with_reducible first | exact HB.out | apply below_alloc | apply pw_below_drewN | apply below_drew1) | exact HB.out))) : w.heap.size ≤ gb197)); clear HB; have HB := n0_; have BK197 := n1_; have GW197 := n2_; have GE197 := n3_; clear n0_ n1_ n2_ n3_; clear hb hbox hg; have hcz116_0 : w115.cell? ⟨gb197, 0, none⟩ = some (.string a0_0) := (blk_cell BK197.out 0).trans rfl; have hcz116_1 : w115.cell? ⟨gb197, 1, none⟩ = some (.string a0_1) := (blk_cell BK197.out 1).trans rfl; have hcz116_2 : w115.cell? ⟨gb197, 2, none⟩ = some (.string a0_2) := (blk_cell BK197.out 2).trans rfl; have hcz116_3 : w115.cell? ⟨gb197, 3, none⟩ = some (.string a0_3) := (blk_cell BK197.out 3).trans rfl; have hfz116_0 := blk_frozen BK197.out 0; have hfz116_1 := blk_frozen BK197.out 1; have hfz116_2 := blk_frozen BK197.out 2; have hfz116_3 := blk_frozen BK197.out 3) | ((with_reducible refine gate_callee (f := 9) rfl ?_); refine goesL_ (some 7) rfl rfl Tryd.func9 (by kernel_rfl) rfl #[.string a0_0] rfl (by (try simp only [List.map_toArray, List.map_cons, List.map_nil]); first | done | rfl | (simp only [List.length_drop, List.length_take]; rfl)) ?_; (with_reducible refine (spec_PathOk.calls k a0_0 true _ A2.out).mono ?_); rintro e w117 ⟨rfl, hb⟩; refine ⟨_, rfl, ?_⟩; have n0_ := Aside0.mk (blk_below (g := gb197) (o := .cells #[.string a0_0, .string a0_1, .string a0_2, .string a0_3] 50 (0, 0)) (by (with_reducible repeat (first | refine blk_drewN ?_ _ | refine blk_drew ?_ | refine blk_alloc ?_ _)); exact BK197.out) hb); have n1_ := Aside0.mk (below_step (by repeat (first | (with_reducible first | exact HB.out | apply below_alloc | apply pw_below_drewN | apply below_drew1 | refine below_set ?_ GE197.out) | exact HB.out)) hb); clear BK197; clear HB; have BK197 := n0_; have HB := n1_; clear n0_ n1_; (try clear hb); (try clear hb2); (try clear hk); (try clear hi); have hcz118_0 : w117.cell? ⟨gb197, 0, none⟩ = some (.string a0_0) := (blk_cell BK197.out 0).trans rfl; have hcz118_1 : w117.cell? ⟨gb197, 1, none⟩ = some (.string a0_1) := (blk_cell BK197.out 1).trans rfl; have hcz118_2 : w117.cell? ⟨gb197, 2, none⟩ = some (.string a0_2) := (blk_cell BK197.out 2).trans rfl; have hcz118_3 : w117.cell? ⟨gb197, 3, none⟩ = some (.string a0_3) := (blk_cell BK197.out 3).trans rfl; have hfz118_0 := blk_frozen BK197.out 0; have hfz118_1 := blk_frozen BK197.out 1; have hfz118_2 := blk_frozen BK197.out 2; have hfz118_3 := blk_frozen BK197.out 3) | (go_at_call 27; (with_reducible refine (spec_VersionOk.calls k a0_1 false _ A54.out).mono ?_); rintro e w119 ⟨rfl, hb⟩; have n0_ := Aside0.mk (blk_below (g := gb197) (o := .cells #[.string a0_0, .string a0_1, .string a0_2, .string a0_3] 50 (0, 0)) (by (with_reducible repeat (first | refine blk_drewN ?_ _ | refine blk_drew ?_ | refine blk_alloc ?_ _)); exact BK197.out) hb); have n1_ := Aside0.mk (below_step (by repeat (first | (with_reducible first | exact HB.out | apply below_alloc | apply pw_below_drewN | apply below_drew1 | refine below_set ?_ GE197.out) | exact HB.out)) hb); clear BK197; clear HB; have BK197 := n0_; have HB := n1_; clear n0_ n1_; (try clear hb); (try clear hb2); (try clear hk); (try clear hi)))
    go_ret
    exact ⟨by first | rfl | (simp [errW_none, errW_some] <;> rfl) | (simp [*, errW_none, errW_some] <;> rfl), by repeat (first | (with_reducible first | exact HB.out | apply below_alloc | apply pw_below_drewN | apply below_drew1 | refine below_set ?_ GE197.out) | exact HB.out)⟩
 ·
  replace c3 := Bool.eq_false_iff.mpr c3
  subst c3
  have H1 : (some false) = some r := by rw [if_neg (show ¬ (false = true) by decide)] at H; exact H
  clear H
  have H := H1
  clear H1
  obtain rfl := Option.some.inj H
  go_enter Tryd.func28, Tryd.ntmps28
  go_wp2_with (first | ((with_reducible refine gate_dst (N := 1) rfl ?_); refine box_event ?hg (N := 1) ?hd (cs := #[.string a0_0, .string a0_1, .string a0_2, .string a0_3]) (t := 50) ?hr ?_; (case hd => rfl); (case hg => rfl); (case hr => first | (go_simp; done) | (go_simp; rfl)); intro gb197 hg w120 hbox hb; have n0_ := Aside0.mk (below_step (by repeat (first | (with_reducible first | exact HB.out | apply below_alloc | apply pw_below_drewN | apply below_drew1) | exact HB.out)) hb); have n1_ := Aside0.mk (hbox); have n2_ := Aside0.mk ((by rw [hg]; exact (below_size (by repeat (first | (with_reducible first | exact HB.out | apply below_alloc | apply pw_below_drewN | apply below_drew1) | exact HB.out))) : w.heap.size ≤ gb197)); have n3_ := Aside0.mk ((by rw [hg]; exact (below_size (by repeat (first | (with_reducible first | exact HB.out | apply below_alloc | apply pw_below_drewN | apply below_drew1) | exact HB.out))) : w.heap.size ≤ gb197)); clear HB; have HB := n0_; have BK197 := n1_; have GW197 := n2_; have GE197 := n3_; clear n0_ n1_ n2_ n3_; clear hb hbox hg; have hcz121_0 : w120.cell? ⟨gb197, 0, none⟩ = some (.string a0_0) := (blk_cell BK197.out 0).trans rfl; have hcz121_1 : w120.cell? ⟨gb197, 1, none⟩ = some (.string a0_1) := (blk_cell BK197.out 1).trans rfl; have hcz121_2 : w120.cell? ⟨gb197, 2, none⟩ = some (.string a0_2) := (blk_cell BK197.out 2).trans rfl; have hcz121_3 : w120.cell? ⟨gb197, 3, none⟩ = some (.string a0_3) := (blk_cell BK197.out 3).trans rfl; have hfz121_0 := blk_frozen BK197.out 0; have hfz121_1 := blk_frozen BK197.out 1; have hfz121_2 := blk_frozen BK197.out 2; have hfz121_3 := blk_frozen BK197.out 3) | ((with_reducible refine gate_callee (f := 9) rfl ?_); refine goesL_ (some 7) rfl rfl Tryd.func9 (by kernel_rfl) rfl #[.string a0_0] rfl (by (try simp only [List.map_toArray, List.map_cons, List.map_nil]); first | done | rfl | (simp only [List.length_drop, List.length_take]; rfl)) ?_; (with_reducible refine (spec_PathOk.calls k a0_0 false _ A2.out).mono ?_); rintro e w122 ⟨rfl, hb⟩; refine ⟨_, rfl, ?_⟩; have n0_ := Aside0.mk (blk_below (g := gb197) (o := .cells #[.string a0_0, .string a0_1, .string a0_2, .string a0_3] 50 (0, 0)) (by (with_reducible repeat (first | refine blk_drewN ?_ _ | refine blk_drew ?_ | refine blk_alloc ?_ _)); exact BK197.out) hb); have n1_ := Aside0.mk (below_step (by repeat (first | (with_reducible first | exact HB.out | apply below_alloc | apply pw_below_drewN | apply below_drew1 | refine below_set ?_ GE197.out) | exact HB.out)) hb); clear BK197; clear HB; have BK197 := n0_; have HB := n1_; clear n0_ n1_; (try clear hb); (try clear hb2); (try clear hk); (try clear hi)))
  go_ret
  exact ⟨by first | rfl | (simp [errW_none, errW_some] <;> rfl) | (simp [*, errW_none, errW_some] <;> rfl), by repeat (first | (with_reducible first | exact HB.out | apply below_alloc | apply pw_below_drewN | apply below_drew1 | refine below_set ?_ GE197.out) | exact HB.out)⟩
def spec_WhyOk.l0 : Nat → ByteArray → List ByteArray → List ByteArray → Int → Int → Option (Bool)
 | 0, _, _, _, _, _ => none
 | k + 1, x0, x3, x8, x9, x10 => if x10 < x9 then (if 0 ≤ x10 then (if x10 < (x8.length : Int) then ((spec_WordOk.f k (rdOf ByteArray.empty x8 x10)).bind fun t212 => (if t212 = true then (spec_WhyOk.l0 k x0 x3 x8 x9 (wrap64 (x10 + 1))) else (some (x0.toList == ([] : List UInt8))))) else (none)) else (none)) else (some (decide ((x3.length : Int) ≤ 20)))
def spec_WhyOk.f (k : Nat) (a0 : ByteArray) : Option (Bool) := (spec_Cut.f k a0 32).bind fun t208 => (spec_WhyOk.l0 k a0 t208 t208 (t208.length : Int) 0)
set_option maxHeartbeats 8000000 in
set_option maxRecDepth 100000 in
theorem spec_WhyOk.calls (k : Nat) (a0 : ByteArray) (r : Bool) (w : World) (h : spec_WhyOk.f k a0 = some r) :
  Calls Tryd.prog 29 #[.string a0] w fun e w' => e = .returned (.bool r) ∧ Below w.heap.size w w' := by
 have HB := Aside0.mk (Below.refl w.heap.size w)
 have H : ((spec_Cut.f k a0 32).bind fun t208 => (spec_WhyOk.l0 k a0 t208 t208 (t208.length : Int) 0)) = some r := h
 clear h
 replace H := Option.bind_eq_some_iff.mp H
 obtain ⟨t208, A20, H⟩ := H
 replace H : (spec_WhyOk.l0 k a0 t208 t208 (t208.length : Int) 0) = some r := H
 have A2 := Aside0.mk A20
 clear A20
 have H' := Aside0.mk H
 clear H
 go_enter Tryd.func29, Tryd.ntmps29
 go_wp2_with (first | ((with_reducible refine gate_callee (f := 14) rfl ?_); refine goesL_ (some 7) rfl rfl Tryd.func14 (by kernel_rfl) rfl #[.string a0, .int .u8 32] rfl (by (try simp only [List.map_toArray, List.map_cons, List.map_nil]); first | done | rfl | (simp only [List.length_drop, List.length_take]; rfl)) ?_; (with_reducible refine (spec_Cut.calls k a0 32 t208 _ A2.out).mono ?_); rintro e w3 ⟨v209, rfl, ho0, hb⟩; refine ⟨_, rfl, ?_⟩; have n0_ := Aside0.mk (Kd.R_lower ho0 (below_size (by repeat (first | (with_reducible first | exact HB.out | apply below_alloc | apply pw_below_drewN | apply below_drew1) | exact HB.out)))); have n1_ := Aside0.mk (below_step (by repeat (first | (with_reducible first | exact HB.out | apply below_alloc | apply pw_below_drewN | apply below_drew1) | exact HB.out)) hb); clear HB; have HO210 := n0_; have HB := n1_; clear n0_ n1_; (try clear hb); (try clear hb2); (try clear hk); (try clear hi); (try clear ho0); obtain ⟨Ao4, co4, eo4⟩ := Kd.R_slice HO210.out; subst eo4))
 go_loopg [10] k (fun kq v10 w' => ∃ (x10_1 : Int), v10 = .int .i64 x10_1 ∧ Aside0 (spec_WhyOk.l0 kq a0 t208 t208 (t208.length : Int) x10_1 = some r) ∧ Aside0 (kq ≤ k) ∧ Aside0 (Kd.R Kd.string 9 w' w.heap.size (fun _ => True) (.slice Ao4 t208.length co4) t208) ∧ Aside0 (Kd.R Kd.string 9 w' w.heap.size (fun _ => True) (.slice Ao4 t208.length co4) t208) ∧ Aside0 (Below w.heap.size w w'))
 case atStart => exact ⟨(0), (by first | rfl | (simp; done) | (simp [*]; done)), H', ⟨Nat.le_refl _⟩, ⟨by (with_reducible repeat (first | apply Kd.R_alloc | apply Kd.R_drewN | apply Kd.R_drew)); exact HO210.out⟩, ⟨by (with_reducible repeat (first | apply Kd.R_alloc | apply Kd.R_drewN | apply Kd.R_drew)); exact HO210.out⟩, ⟨by repeat (first | (with_reducible first | exact HB.out | apply below_alloc | apply pw_below_drewN | apply below_drew1) | exact HB.out)⟩⟩
 case round =>
  clear H'
  try clear c1; try clear c2; try clear p2
  obtain ⟨x10_1, rfl, HA, HK1, HO_3, HO_8, HB⟩ := hrel
  cases gk with
  | zero => exact absurd HA.out (by simp [spec_WhyOk.l0])
  | succ k1 =>
   have H := HA.out
   clear HA
   simp only [spec_WhyOk.l0] at H
   by_cases c5 : x10_1 < (t208.length : Int)
   ·
    rw [if_pos c5] at H
    have c5b0 : decide (x10_1 < (t208.length : Int)) = true := decide_eq_true c5
    clear c5
    by_cases c6 : 0 ≤ x10_1
    ·
     rw [if_pos c6] at H
     have c6b0 : decide (0 ≤ x10_1) = true := decide_eq_true c6
     clear c6
     by_cases c7 : x10_1 < (t208.length : Int)
     ·
      rw [if_pos c7] at H
      have c7b0 : decide (x10_1 < (t208.length : Int)) = true := decide_eq_true c7
      clear c7
      replace H := Option.bind_eq_some_iff.mp H
      obtain ⟨t212, A80, H⟩ := H
      replace H : (if t212 = true then (spec_WhyOk.l0 k1 a0 t208 t208 (t208.length : Int) (wrap64 (x10_1 + 1))) else (some (a0.toList == ([] : List UInt8)))) = some r := H
      have A8 := Aside0.mk A80
      clear A80
      by_cases c9 : t212 = true
      ·
       subst c9
       have H1 : (spec_WhyOk.l0 k1 a0 t208 t208 (t208.length : Int) (wrap64 (x10_1 + 1))) = some r := by rw [if_pos rfl] at H; exact H
       clear H
       have H := H1
       clear H1
       have H' := Aside0.mk H
       clear H
       have p211 : 0 ≤ (x10_1 : Int) := of_decide_eq_true (by first | (with_reducible assumption) | assumption)
       have q211 : x10_1 < (t208.length : Int) := of_decide_eq_true (by first | (with_reducible assumption) | assumption)
       obtain ⟨ad211, e211, hx211_0⟩ := Kd.at_string (Kd.R_reads' HO_8.out).2.2 x10_1 p211 q211
       cases e211
       replace p211 := eq_true p211
       replace q211 := eq_true q211
       go_wp2_with (first | ((with_reducible refine gate_callee (f := 26) rfl ?_); refine goesL_ (some 15) rfl rfl Tryd.func26 (by kernel_rfl) rfl #[.string (rdOf ByteArray.empty t208 x10_1)] rfl (by (try simp only [List.map_toArray, List.map_cons, List.map_nil]); first | done | rfl | (simp only [List.length_drop, List.length_take]; rfl)) ?_; (with_reducible refine (spec_WordOk.calls k1 (rdOf ByteArray.empty t208 x10_1) true _ A8.out).mono ?_); rintro e w' ⟨rfl, ⟨nd, rfl⟩⟩; refine ⟨_, rfl, ?_⟩))
       go_roundg k1
       case measure => have := HK1.out; omega
       case rel => exact ⟨(wrap64 (x10_1 + 1)), (by first | rfl | (simp; done) | (simp [*]; done)), H', ⟨by have := HK1.out; omega⟩, ⟨by (with_reducible repeat (first | apply Kd.R_alloc | apply Kd.R_drewN | apply Kd.R_drew)); exact HO_3.out⟩, ⟨by (with_reducible repeat (first | apply Kd.R_alloc | apply Kd.R_drewN | apply Kd.R_drew)); exact HO_8.out⟩, ⟨by repeat (first | (with_reducible first | exact HB.out | apply below_alloc | apply pw_below_drewN | apply below_drew1) | exact HB.out)⟩⟩
      ·
       replace c9 := Bool.eq_false_iff.mpr c9
       subst c9
       have H1 : (some (a0.toList == ([] : List UInt8))) = some r := by rw [if_neg (show ¬ (false = true) by decide)] at H; exact H
       clear H
       have H := H1
       clear H1
       obtain rfl := Option.some.inj H
       have p211 : 0 ≤ (x10_1 : Int) := of_decide_eq_true (by first | (with_reducible assumption) | assumption)
       have q211 : x10_1 < (t208.length : Int) := of_decide_eq_true (by first | (with_reducible assumption) | assumption)
       obtain ⟨ad211, e211, hx211_0⟩ := Kd.at_string (Kd.R_reads' HO_8.out).2.2 x10_1 p211 q211
       cases e211
       replace p211 := eq_true p211
       replace q211 := eq_true q211
       go_wp2_with (first | ((with_reducible refine gate_callee (f := 26) rfl ?_); refine goesL_ (some 15) rfl rfl Tryd.func26 (by kernel_rfl) rfl #[.string (rdOf ByteArray.empty t208 x10_1)] rfl (by (try simp only [List.map_toArray, List.map_cons, List.map_nil]); first | done | rfl | (simp only [List.length_drop, List.length_take]; rfl)) ?_; (with_reducible refine (spec_WordOk.calls k1 (rdOf ByteArray.empty t208 x10_1) false _ A8.out).mono ?_); rintro e w' ⟨rfl, ⟨nd, rfl⟩⟩; refine ⟨_, rfl, ?_⟩))
       go_ret
       exact ⟨by first | rfl | (simp [errW_none, errW_some] <;> rfl) | (simp [*, errW_none, errW_some] <;> rfl), by repeat (first | (with_reducible first | exact HB.out | apply below_alloc | apply pw_below_drewN | apply below_drew1) | exact HB.out)⟩
     ·
      rw [if_neg c7] at H
      exact absurd H (by simp)
    ·
     rw [if_neg c6] at H
     exact absurd H (by simp)
   ·
    rw [if_neg c5] at H
    have c5b0 : decide (x10_1 < (t208.length : Int)) = false := decide_eq_false c5
    clear c5
    obtain rfl := Option.some.inj H
    go_wp2
    go_ret
    exact ⟨by first | rfl | (simp [errW_none, errW_some] <;> rfl) | (simp [*, errW_none, errW_some] <;> rfl), by repeat (first | (with_reducible first | exact HB.out | apply below_alloc | apply pw_below_drewN | apply below_drew1) | exact HB.out)⟩
def spec_section.l0 : Nat → ByteArray → List (S57) → Bool → List ByteArray → ByteArray → List (S57) → Int → Int → Option (List ByteArray)
 | 0, _, _, _, _, _, _, _, _ => none
 | k + 1, x0, x1, x2, x7, x8, x13, x14, x15 => if x15 < x14 then (if 0 ≤ x15 then (if x15 < (x13.length : Int) then (if ((rd_T57 x13 x15).f0).toList = ([] : List UInt8) then (if 0 + x0.size ≤ 9223372036854775807 then (if ((⟨#[]⟩ : ByteArray) ++ x0).size + 1 ≤ 9223372036854775807 then (if (((⟨#[]⟩ : ByteArray) ++ x0) ++ (⟨#[32]⟩ : ByteArray)).size + ((rd_T57 x13 x15).f1).size ≤ 9223372036854775807 then (if ((((⟨#[]⟩ : ByteArray) ++ x0) ++ (⟨#[32]⟩ : ByteArray)) ++ ((rd_T57 x13 x15).f1)).size + 1 ≤ 9223372036854775807 then (if x7.length < 8796093022208 then ((some (x7 ++ [((((⟨#[]⟩ : ByteArray) ++ x0) ++ (⟨#[32]⟩ : ByteArray)) ++ ((rd_T57 x13 x15).f1)) ++ (⟨#[10]⟩ : ByteArray)] : List ByteArray)).bind fun y244 => (if ([] : List UInt8) = ([] : List UInt8) then (if 1 + ((rd_T57 x13 x15).f1).size ≤ 9223372036854775807 then (if ((⟨#[9]⟩ : ByteArray) ++ ((rd_T57 x13 x15).f1)).size + 1 ≤ 9223372036854775807 then (if x8.size + (((⟨#[9]⟩ : ByteArray) ++ ((rd_T57 x13 x15).f1)) ++ (⟨#[10]⟩ : ByteArray)).size ≤ 9223372036854775807 then (spec_section.l0 k x0 x1 x2 y244 (x8 ++ (((⟨#[9]⟩ : ByteArray) ++ ((rd_T57 x13 x15).f1)) ++ (⟨#[10]⟩ : ByteArray))) x13 x14 (wrap64 (x15 + 1))) else (none)) else (none)) else (none)) else (if 1 + 0 ≤ 9223372036854775807 then (if x8.size + 1 ≤ 9223372036854775807 then (if 1 + ((rd_T57 x13 x15).f1).size ≤ 9223372036854775807 then (if ((⟨#[9]⟩ : ByteArray) ++ ((rd_T57 x13 x15).f1)).size + 1 ≤ 9223372036854775807 then (if (x8 ++ ((⟨#[9]⟩ : ByteArray) ++ (⟨#[]⟩ : ByteArray))).size + (((⟨#[9]⟩ : ByteArray) ++ ((rd_T57 x13 x15).f1)) ++ (⟨#[10]⟩ : ByteArray)).size ≤ 9223372036854775807 then (spec_section.l0 k x0 x1 x2 y244 ((x8 ++ ((⟨#[9]⟩ : ByteArray) ++ (⟨#[]⟩ : ByteArray))) ++ (((⟨#[9]⟩ : ByteArray) ++ ((rd_T57 x13 x15).f1)) ++ (⟨#[10]⟩ : ByteArray))) x13 x14 (wrap64 (x15 + 1))) else (none)) else (none)) else (none)) else (none)) else (none)))) else (none)) else (none)) else (none)) else (none)) else (none)) else (if 3 + ((rd_T57 x13 x15).f0).size ≤ 9223372036854775807 then (if ((⟨#[47, 47, 32]⟩ : ByteArray) ++ ((rd_T57 x13 x15).f0)).size + 1 ≤ 9223372036854775807 then (if (((⟨#[47, 47, 32]⟩ : ByteArray) ++ ((rd_T57 x13 x15).f0)) ++ (⟨#[10]⟩ : ByteArray)).size + x0.size ≤ 9223372036854775807 then (if ((((⟨#[47, 47, 32]⟩ : ByteArray) ++ ((rd_T57 x13 x15).f0)) ++ (⟨#[10]⟩ : ByteArray)) ++ x0).size + 1 ≤ 9223372036854775807 then (if (((((⟨#[47, 47, 32]⟩ : ByteArray) ++ ((rd_T57 x13 x15).f0)) ++ (⟨#[10]⟩ : ByteArray)) ++ x0) ++ (⟨#[32]⟩ : ByteArray)).size + ((rd_T57 x13 x15).f1).size ≤ 9223372036854775807 then (if ((((((⟨#[47, 47, 32]⟩ : ByteArray) ++ ((rd_T57 x13 x15).f0)) ++ (⟨#[10]⟩ : ByteArray)) ++ x0) ++ (⟨#[32]⟩ : ByteArray)) ++ ((rd_T57 x13 x15).f1)).size + 1 ≤ 9223372036854775807 then (if x7.length < 8796093022208 then ((some (x7 ++ [((((((⟨#[47, 47, 32]⟩ : ByteArray) ++ ((rd_T57 x13 x15).f0)) ++ (⟨#[10]⟩ : ByteArray)) ++ x0) ++ (⟨#[32]⟩ : ByteArray)) ++ ((rd_T57 x13 x15).f1)) ++ (⟨#[10]⟩ : ByteArray)] : List ByteArray)).bind fun y247 => (if (((⟨#[47, 47, 32]⟩ : ByteArray) ++ ((rd_T57 x13 x15).f0)) ++ (⟨#[10]⟩ : ByteArray)).toList = ([] : List UInt8) then (if 1 + ((rd_T57 x13 x15).f1).size ≤ 9223372036854775807 then (if ((⟨#[9]⟩ : ByteArray) ++ ((rd_T57 x13 x15).f1)).size + 1 ≤ 9223372036854775807 then (if x8.size + (((⟨#[9]⟩ : ByteArray) ++ ((rd_T57 x13 x15).f1)) ++ (⟨#[10]⟩ : ByteArray)).size ≤ 9223372036854775807 then (spec_section.l0 k x0 x1 x2 y247 (x8 ++ (((⟨#[9]⟩ : ByteArray) ++ ((rd_T57 x13 x15).f1)) ++ (⟨#[10]⟩ : ByteArray))) x13 x14 (wrap64 (x15 + 1))) else (none)) else (none)) else (none)) else (if 1 + (((⟨#[47, 47, 32]⟩ : ByteArray) ++ ((rd_T57 x13 x15).f0)) ++ (⟨#[10]⟩ : ByteArray)).size ≤ 9223372036854775807 then (if x8.size + ((⟨#[9]⟩ : ByteArray) ++ (((⟨#[47, 47, 32]⟩ : ByteArray) ++ ((rd_T57 x13 x15).f0)) ++ (⟨#[10]⟩ : ByteArray))).size ≤ 9223372036854775807 then (if 1 + ((rd_T57 x13 x15).f1).size ≤ 9223372036854775807 then (if ((⟨#[9]⟩ : ByteArray) ++ ((rd_T57 x13 x15).f1)).size + 1 ≤ 9223372036854775807 then (if (x8 ++ ((⟨#[9]⟩ : ByteArray) ++ (((⟨#[47, 47, 32]⟩ : ByteArray) ++ ((rd_T57 x13 x15).f0)) ++ (⟨#[10]⟩ : ByteArray)))).size + (((⟨#[9]⟩ : ByteArray) ++ ((rd_T57 x13 x15).f1)) ++ (⟨#[10]⟩ : ByteArray)).size ≤ 9223372036854775807 then (spec_section.l0 k x0 x1 x2 y247 ((x8 ++ ((⟨#[9]⟩ : ByteArray) ++ (((⟨#[47, 47, 32]⟩ : ByteArray) ++ ((rd_T57 x13 x15).f0)) ++ (⟨#[10]⟩ : ByteArray)))) ++ (((⟨#[9]⟩ : ByteArray) ++ ((rd_T57 x13 x15).f1)) ++ (⟨#[10]⟩ : ByteArray))) x13 x14 (wrap64 (x15 + 1))) else (none)) else (none)) else (none)) else (none)) else (none)))) else (none)) else (none)) else (none)) else (none)) else (none)) else (none)) else (none))) else (none)) else (none)) else (if x2 = true then (if (x1.length : Int) > 0 then (if x0.size + 3 ≤ 9223372036854775807 then (if (x0 ++ (⟨#[32, 40, 10]⟩ : ByteArray)).size + x8.size ≤ 9223372036854775807 then (if ((x0 ++ (⟨#[32, 40, 10]⟩ : ByteArray)) ++ x8).size + 2 ≤ 9223372036854775807 then (some (([((x0 ++ (⟨#[32, 40, 10]⟩ : ByteArray)) ++ x8) ++ (⟨#[41, 10]⟩ : ByteArray)] : List ByteArray))) else (none)) else (none)) else (none)) else (some x7)) else (some x7))
def spec_section.f (k : Nat) (a0 : ByteArray) (l1 : List (S57)) (a2 : Bool) : Option (List ByteArray) := spec_section.l0 k a0 l1 a2 (([] : List ByteArray)) (⟨#[]⟩ : ByteArray) l1 (l1.length : Int) 0
set_option maxHeartbeats 8000000 in
set_option maxRecDepth 100000 in
theorem spec_section.calls (k : Nat) (a0 : ByteArray) (A1 : Option Addr) (c1 : Nat) (l1 : List (S57)) (a2 : Bool) (r : List ByteArray) (w : World) (hr1 : Kd.C k57 w A1 l1.length l1) (hc1 : l1.length ≤ c1) (h : spec_section.f k a0 l1 a2 = some r) :
  Calls Tryd.prog 30 #[.string a0, .slice A1 l1.length c1, .bool a2] w fun e w' => ∃ v0_ : Value, e = .returned (v0_) ∧ Kd.R Kd.string 9 w' w.heap.size (fun _ => True) v0_ r ∧ Below w.heap.size w w' := by
 have hu57 := Tryd.underlying57
 have HR1 := Aside0.mk hr1
 have HC1 := Aside0.mk hc1
 clear hr1 hc1
 have HB := Aside0.mk (Below.refl w.heap.size w)
 have H : (spec_section.l0 k a0 l1 a2 (([] : List ByteArray)) (⟨#[]⟩ : ByteArray) l1 (l1.length : Int) 0) = some r := h
 clear h
 obtain ⟨y236, hy236⟩ : ∃ y_ : List ByteArray, y_ = (([] : List ByteArray)) := ⟨_, rfl⟩
 replace H : (spec_section.l0 k a0 l1 a2 y236 (⟨#[]⟩ : ByteArray) l1 (l1.length : Int) 0) = some r := by first | (rw [hy236]; with_reducible exact H) | (have H2_ := (Option.bind_some _ _).symm.trans H; rw [hy236]; with_reducible exact H2_) | (have H2_ := (Option.bind_some _ _).symm.trans H; with_reducible exact H2_) | with_reducible exact H | (rw [hy236]; exact H) | exact H
 have Ny236 := Aside0.mk hy236
 clear hy236
 have H' := Aside0.mk H
 clear H
 go_enter Tryd.func30, Tryd.ntmps30
 go_wp2_with (first | ((with_reducible refine gate_dst (N := 12) rfl ?_); (try (refine gate_guard (by rfl) ?_; dsimp only)); refine Kd.R_lit Kd.string _ 9 ?hg (N := 12) ?hd (xs := ([] : List ByteArray)) (inner := []) (ok := fun _ => True) (okp := fun _ => True) ?hr ?hp (fun _ hk => hk) trivial (Below.refl _ _) (Nat.le_refl _) (by simp) ?_; (case hd => rfl); (case hg => rfl); (case hr => first | (go_simp; done) | (go_simp; rfl)); (case hp => exact (Reps.none _ _)); intro v237 w4 ho5 hb hg_ hnew_; clear hg_ hnew_; (first | rw [← Ny236.out] at ho5 | (simp only [Int.reduceToNat] at ho5; rw [← Ny236.out] at ho5)); have n0_ := Aside0.mk (Kd.R_lower ho5 (below_size (by repeat (first | (with_reducible first | exact HB.out | apply below_alloc | apply pw_below_drewN | apply below_drew1) | exact HB.out)))); have n1_ := Aside0.mk (below_step (by repeat (first | (with_reducible first | exact HB.out | apply below_alloc | apply pw_below_drewN | apply below_drew1) | exact HB.out)) hb); clear HB; have HO238 := n0_; have HB := n1_; clear n0_ n1_; clear hb ho5))
 go_loopg [7, 8, 15] k (fun kq v7 v8 v15 w' => ∃ (x7_1 : List ByteArray) (x8_1 : ByteArray) (x15_1 : Int), v8 = .string x8_1 ∧ v15 = .int .i64 x15_1 ∧ Aside0 (spec_section.l0 kq a0 l1 a2 x7_1 x8_1 l1 (l1.length : Int) x15_1 = some r) ∧ Aside0 (kq ≤ k) ∧ Aside0 (Kd.R Kd.string 9 w' w.heap.size (fun _ => True) v7 x7_1) ∧ Aside0 (Below w.heap.size w w'))
 case atStart => exact ⟨(y236), ((⟨#[]⟩ : ByteArray)), (0), (by first | rfl | (simp; done) | (simp [*]; done)), (by first | rfl | (simp; done) | (simp [*]; done)), H', ⟨Nat.le_refl _⟩, ⟨by (with_reducible repeat (first | apply Kd.R_alloc | apply Kd.R_drewN | apply Kd.R_drew)); exact HO238.out⟩, ⟨by repeat (first | (with_reducible first | exact HB.out | apply below_alloc | apply pw_below_drewN | apply below_drew1) | exact HB.out)⟩⟩
 case round =>
  clear H'
  try clear c1; try clear p2; try clear c3
  obtain ⟨x7_1, x8_1, x15_1, rfl, rfl, HA, HK1, HO_7, HB⟩ := hrel
  cases gk with
  | zero => exact absurd HA.out (by simp [spec_section.l0])
  | succ k1 =>
   have H := HA.out
   clear HA
   simp only [spec_section.l0] at H
   by_cases c6 : x15_1 < (l1.length : Int)
   ·
    rw [if_pos c6] at H
    have c6b0 : decide (x15_1 < (l1.length : Int)) = true := decide_eq_true c6
    clear c6
    by_cases c7 : 0 ≤ x15_1
    ·
     rw [if_pos c7] at H
     have c7b0 : decide (0 ≤ x15_1) = true := decide_eq_true c7
     clear c7
     by_cases c8 : x15_1 < (l1.length : Int)
     ·
      rw [if_pos c8] at H
      have c8b0 : decide (x15_1 < (l1.length : Int)) = true := decide_eq_true c8
      clear c8
      by_cases c9 : ((rd_T57 l1 x15_1).f0).toList = ([] : List UInt8)
      ·
       rw [if_pos c9] at H
       have c9b0 : (((rd_T57 l1 x15_1).f0).toList == ([] : List UInt8)) = true := beq_iff_eq.mpr c9
       have c9b1 : (((rd_T57 l1 x15_1).f0).toList != ([] : List UInt8)) = false := bne_eq_false_iff_eq.mpr c9
       clear c9
       by_cases c10 : 0 + a0.size ≤ 9223372036854775807
       ·
        rw [if_pos c10] at H
        have c10b0 := eq_true c10
        have c10b1 : decide (0 + a0.size ≤ 9223372036854775807) = true := decide_eq_true c10
        try have c10b2 : (9223372036854775807 < 0 + a0.size) = False := eq_false (Nat.not_lt.2 c10)
        by_cases c11 : ((⟨#[]⟩ : ByteArray) ++ a0).size + 1 ≤ 9223372036854775807
        ·
         rw [if_pos c11] at H
         have c11b0 := eq_true c11
         have c11b1 : decide (((⟨#[]⟩ : ByteArray) ++ a0).size + 1 ≤ 9223372036854775807) = true := decide_eq_true c11
         try have c11b2 : (9223372036854775807 < ((⟨#[]⟩ : ByteArray) ++ a0).size + 1) = False := eq_false (Nat.not_lt.2 c11)
         try have c11b4 : (9223372036854775807 < a0.size + 1) = False := eq_false (Nat.not_lt.2 (by have h_ := c11; simp only [ByteArray.size_append] at h_; have z_ : (⟨#[]⟩ : ByteArray).size = 0 := rfl; simp only [z_, Nat.zero_add, Nat.add_zero] at h_; exact h_))
         try have c11b3 : (9223372036854775807 < 0 + a0.size + 1) = False := eq_false (Nat.not_lt.2 (by have h_ := c11; simp only [ByteArray.size_append] at h_; exact h_))
         by_cases c12 : (((⟨#[]⟩ : ByteArray) ++ a0) ++ (⟨#[32]⟩ : ByteArray)).size + ((rd_T57 l1 x15_1).f1).size ≤ 9223372036854775807
         ·
          rw [if_pos c12] at H
          have c12b0 := eq_true c12
          have c12b1 : decide ((((⟨#[]⟩ : ByteArray) ++ a0) ++ (⟨#[32]⟩ : ByteArray)).size + ((rd_T57 l1 x15_1).f1).size ≤ 9223372036854775807) = true := decide_eq_true c12
          try have c12b2 : (9223372036854775807 < (((⟨#[]⟩ : ByteArray) ++ a0) ++ (⟨#[32]⟩ : ByteArray)).size + ((rd_T57 l1 x15_1).f1).size) = False := eq_false (Nat.not_lt.2 c12)
          try have c12b4 : (9223372036854775807 < a0.size + 1 + ((rd_T57 l1 x15_1).f1).size) = False := eq_false (Nat.not_lt.2 (by have h_ := c12; simp only [ByteArray.size_append] at h_; have z_ : (⟨#[]⟩ : ByteArray).size = 0 := rfl; simp only [z_, Nat.zero_add, Nat.add_zero] at h_; exact h_))
          try have c12b3 : (9223372036854775807 < 0 + a0.size + 1 + ((rd_T57 l1 x15_1).f1).size) = False := eq_false (Nat.not_lt.2 (by have h_ := c12; simp only [ByteArray.size_append] at h_; exact h_))
          by_cases c13 : ((((⟨#[]⟩ : ByteArray) ++ a0) ++ (⟨#[32]⟩ : ByteArray)) ++ ((rd_T57 l1 x15_1).f1)).size + 1 ≤ 9223372036854775807
          ·
           rw [if_pos c13] at H
           have c13b0 := eq_true c13
           have c13b1 : decide (((((⟨#[]⟩ : ByteArray) ++ a0) ++ (⟨#[32]⟩ : ByteArray)) ++ ((rd_T57 l1 x15_1).f1)).size + 1 ≤ 9223372036854775807) = true := decide_eq_true c13
           try have c13b2 : (9223372036854775807 < ((((⟨#[]⟩ : ByteArray) ++ a0) ++ (⟨#[32]⟩ : ByteArray)) ++ ((rd_T57 l1 x15_1).f1)).size + 1) = False := eq_false (Nat.not_lt.2 c13)
           try have c13b4 : (9223372036854775807 < a0.size + 1 + ((rd_T57 l1 x15_1).f1).size + 1) = False := eq_false (Nat.not_lt.2 (by have h_ := c13; simp only [ByteArray.size_append] at h_; have z_ : (⟨#[]⟩ : ByteArray).size = 0 := rfl; simp only [z_, Nat.zero_add, Nat.add_zero] at h_; exact h_))
           try have c13b3 : (9223372036854775807 < 0 + a0.size + 1 + ((rd_T57 l1 x15_1).f1).size + 1) = False := eq_false (Nat.not_lt.2 (by have h_ := c13; simp only [ByteArray.size_append] at h_; exact h_))
           by_cases c14 : x7_1.length < 8796093022208
           ·
            rw [if_pos c14] at H
            have LMc14 := Aside0.mk c14
            clear c14
            obtain ⟨y244, hy244⟩ : ∃ y_ : List ByteArray, y_ = (x7_1 ++ [((((⟨#[]⟩ : ByteArray) ++ a0) ++ (⟨#[32]⟩ : ByteArray)) ++ ((rd_T57 l1 x15_1).f1)) ++ (⟨#[10]⟩ : ByteArray)]) := ⟨_, rfl⟩
            replace H : (if ([] : List UInt8) = ([] : List UInt8) then (if 1 + ((rd_T57 l1 x15_1).f1).size ≤ 9223372036854775807 then (if ((⟨#[9]⟩ : ByteArray) ++ ((rd_T57 l1 x15_1).f1)).size + 1 ≤ 9223372036854775807 then (if x8_1.size + (((⟨#[9]⟩ : ByteArray) ++ ((rd_T57 l1 x15_1).f1)) ++ (⟨#[10]⟩ : ByteArray)).size ≤ 9223372036854775807 then (spec_section.l0 k1 a0 l1 a2 y244 (x8_1 ++ (((⟨#[9]⟩ : ByteArray) ++ ((rd_T57 l1 x15_1).f1)) ++ (⟨#[10]⟩ : ByteArray))) l1 (l1.length : Int) (wrap64 (x15_1 + 1))) else (none)) else (none)) else (none)) else (if 1 + 0 ≤ 9223372036854775807 then (if x8_1.size + 1 ≤ 9223372036854775807 then (if 1 + ((rd_T57 l1 x15_1).f1).size ≤ 9223372036854775807 then (if ((⟨#[9]⟩ : ByteArray) ++ ((rd_T57 l1 x15_1).f1)).size + 1 ≤ 9223372036854775807 then (if (x8_1 ++ ((⟨#[9]⟩ : ByteArray) ++ (⟨#[]⟩ : ByteArray))).size + (((⟨#[9]⟩ : ByteArray) ++ ((rd_T57 l1 x15_1).f1)) ++ (⟨#[10]⟩ : ByteArray)).size ≤ 9223372036854775807 then (spec_section.l0 k1 a0 l1 a2 y244 ((x8_1 ++ ((⟨#[9]⟩ : ByteArray) ++ (⟨#[]⟩ : ByteArray))) ++ (((⟨#[9]⟩ : ByteArray) ++ ((rd_T57 l1 x15_1).f1)) ++ (⟨#[10]⟩ : ByteArray))) l1 (l1.length : Int) (wrap64 (x15_1 + 1))) else (none)) else (none)) else (none)) else (none)) else (none))) = some r := by first | (rw [hy244]; with_reducible exact H) | (have H2_ := (Option.bind_some _ _).symm.trans H; rw [hy244]; with_reducible exact H2_) | (have H2_ := (Option.bind_some _ _).symm.trans H; with_reducible exact H2_) | with_reducible exact H | (rw [hy244]; exact H) | exact H
            have Ny244 := Aside0.mk hy244
            clear hy244
            by_cases c15 : ([] : List UInt8) = ([] : List UInt8)
            ·
             rw [if_pos c15] at H
             have c15b0 : (([] : List UInt8) == ([] : List UInt8)) = true := beq_iff_eq.mpr c15
             have c15b1 : (([] : List UInt8) != ([] : List UInt8)) = false := bne_eq_false_iff_eq.mpr c15
             clear c15
             by_cases c16 : 1 + ((rd_T57 l1 x15_1).f1).size ≤ 9223372036854775807
             ·
              rw [if_pos c16] at H
              have c16b0 := eq_true c16
              have c16b1 : decide (1 + ((rd_T57 l1 x15_1).f1).size ≤ 9223372036854775807) = true := decide_eq_true c16
              try have c16b2 : (9223372036854775807 < 1 + ((rd_T57 l1 x15_1).f1).size) = False := eq_false (Nat.not_lt.2 c16)
              by_cases c17 : ((⟨#[9]⟩ : ByteArray) ++ ((rd_T57 l1 x15_1).f1)).size + 1 ≤ 9223372036854775807
              ·
               rw [if_pos c17] at H
               have c17b0 := eq_true c17
               have c17b1 : decide (((⟨#[9]⟩ : ByteArray) ++ ((rd_T57 l1 x15_1).f1)).size + 1 ≤ 9223372036854775807) = true := decide_eq_true c17
               try have c17b2 : (9223372036854775807 < ((⟨#[9]⟩ : ByteArray) ++ ((rd_T57 l1 x15_1).f1)).size + 1) = False := eq_false (Nat.not_lt.2 c17)
               try have c17b3 : (9223372036854775807 < 1 + ((rd_T57 l1 x15_1).f1).size + 1) = False := eq_false (Nat.not_lt.2 (by have h_ := c17; simp only [ByteArray.size_append] at h_; exact h_))
               by_cases c18 : x8_1.size + (((⟨#[9]⟩ : ByteArray) ++ ((rd_T57 l1 x15_1).f1)) ++ (⟨#[10]⟩ : ByteArray)).size ≤ 9223372036854775807
               ·
                rw [if_pos c18] at H
                have c18b0 := eq_true c18
                have c18b1 : decide (x8_1.size + (((⟨#[9]⟩ : ByteArray) ++ ((rd_T57 l1 x15_1).f1)) ++ (⟨#[10]⟩ : ByteArray)).size ≤ 9223372036854775807) = true := decide_eq_true c18
                try have c18b2 : (9223372036854775807 < x8_1.size + (((⟨#[9]⟩ : ByteArray) ++ ((rd_T57 l1 x15_1).f1)) ++ (⟨#[10]⟩ : ByteArray)).size) = False := eq_false (Nat.not_lt.2 c18)
                try have c18b3 : (9223372036854775807 < x8_1.size + (1 + ((rd_T57 l1 x15_1).f1).size + 1)) = False := eq_false (Nat.not_lt.2 (by have h_ := c18; simp only [ByteArray.size_append] at h_; exact h_))
                have H' := Aside0.mk H
                clear H
                have p242 : 0 ≤ (x15_1 : Int) := of_decide_eq_true (by first | (with_reducible assumption) | assumption)
                have q242 : x15_1 < (l1.length : Int) := of_decide_eq_true (by first | (with_reducible assumption) | assumption)
                obtain ⟨ad242, e242, hx242_0, hx242_1⟩ := at_T57 HR1.out x15_1 p242 q242
                cases e242
                replace hx242_0 := (HB.out.cell (World.block_lt_of_cell? w _ hx242_0)).trans hx242_0
                replace hx242_1 := (HB.out.cell (World.block_lt_of_cell? w _ hx242_1)).trans hx242_1
                replace p242 := eq_true p242
                replace q242 := eq_true q242
                go_wp2_with (first | ((with_reducible refine gate_dst (N := 10) rfl ?_); (try (refine gate_guard (by rfl) ?_; dsimp only)); refine box_event ?hg (N := 10) ?hd (cs := #[.string (⟨#[]⟩ : ByteArray), .string (⟨#[]⟩ : ByteArray)]) (t := 57) ?hr ?_; (case hd => rfl); (case hg => rfl); (case hr => first | (go_simp; done) | (go_simp; rfl)); intro gb243 hg w19 hbox hb; have n0_ := Aside0.mk (Kd.R_below (by (with_reducible repeat (first | apply Kd.R_alloc | apply Kd.R_drewN | apply Kd.R_drew)); exact HO_7.out) hb); have n1_ := Aside0.mk (below_step (by repeat (first | (with_reducible first | exact HB.out | apply below_alloc | apply pw_below_drewN | apply below_drew1) | exact HB.out)) hb); have n2_ := Aside0.mk (hbox); have n3_ := Aside0.mk ((by rw [hg]; exact (below_size (by repeat (first | (with_reducible first | exact HB.out | apply below_alloc | apply pw_below_drewN | apply below_drew1) | exact HB.out))) : w.heap.size ≤ gb243)); have n4_ := Aside0.mk ((by rw [hg]; exact (below_size (by repeat (first | (with_reducible first | exact HB.out | apply below_alloc | apply pw_below_drewN | apply below_drew1) | exact HB.out))) : w.heap.size ≤ gb243)); clear HO_7; clear HB; have HO_7 := n0_; have HB := n1_; have BK243 := n2_; have GW243 := n3_; have GE243 := n4_; clear n0_ n1_ n2_ n3_ n4_; clear hb hbox hg; have hcz20_0 : w19.cell? ⟨gb243, 0, none⟩ = some (.string (⟨#[]⟩ : ByteArray)) := (blk_cell BK243.out 0).trans rfl; have hcz20_1 : w19.cell? ⟨gb243, 1, none⟩ = some (.string (⟨#[]⟩ : ByteArray)) := (blk_cell BK243.out 1).trans rfl; have hfz20_0 := blk_frozen BK243.out 0; have hfz20_1 := blk_frozen BK243.out 1) | ((with_reducible refine gate_builtin (b := .append) (xs := #[.tmp 26, .tmp 35]) rfl ?_); (try (refine gate_guard (by rfl) ?_; dsimp only)); at_builtin; refine Kd.R_append Kd.string (w0 := w) w.heap.size rfl (.tmp 26) (.tmp 35) 30 9 (.string ⟨#[]⟩) 16 rfl Tryd.underlying30 info9 rfl (by decide) (by omega) u7 x7_1 (((((⟨#[]⟩ : ByteArray) ++ a0) ++ (⟨#[32]⟩ : ByteArray)) ++ ((rd_T57 l1 x15_1).f1)) ++ (⟨#[10]⟩ : ByteArray)) [.string (((((⟨#[]⟩ : ByteArray) ++ a0) ++ (⟨#[32]⟩ : ByteArray)) ++ ((rd_T57 l1 x15_1).f1)) ++ (⟨#[10]⟩ : ByteArray))] (fun _ => True) (fun _ => False) rfl (by first | (go_simp; done) | (go_simp; rfl)) ?aP (fun _ hk => hk.elim) ?aF ?aO ?aB ?aS ?aL ?_; (case aP => exact rfl); (case aB => exact (by repeat (first | (with_reducible first | exact HB.out | apply below_alloc | apply pw_below_drewN | apply below_drew1 | refine below_set ?_ GE243.out) | exact HB.out))); (case aF => exact (fun _ _ => trivial)); (case aO => exact (by (with_reducible repeat (first | apply Kd.R_alloc | apply Kd.R_drewN | apply Kd.R_drew)); exact Kd.R_mono (Kd.R_far (p := ⟨gb243, 1, none⟩) (Kd.R_far (p := ⟨gb243, 0, none⟩) (Kd.R_types HO_7.out BK243.out (by decide)) (fun _ hk => hk.2) (.string ((rd_T57 l1 x15_1).f0))) (fun _ hk => hk.2) (.string ((rd_T57 l1 x15_1).f1))) (fun _ hk => trivial))); (case aS => exact (below_size (by repeat (first | (with_reducible first | exact HB.out | apply below_alloc | apply pw_below_drewN | apply below_drew1 | refine below_set ?_ GE243.out) | exact HB.out)))); (case aL => have := LMc14.out; omega); intro v245 w21 ho hb hg hat; rw [← Ny244.out] at ho; have n0_ := Aside0.mk (blk_grown (g := gb243) (o := .cells #[.string ((rd_T57 l1 x15_1).f0), .string ((rd_T57 l1 x15_1).f1)] 57 (0, 0)) (by (with_reducible repeat (first | refine blk_drewN ?_ _ | refine blk_drew ?_ | refine blk_alloc ?_ _)); refine blk_put (cs := #[.string ((rd_T57 l1 x15_1).f0), .string (⟨#[]⟩ : ByteArray)]) ?_ 1 _ rfl; (with_reducible repeat (first | refine blk_drewN ?_ _ | refine blk_drew ?_ | refine blk_alloc ?_ _)); refine blk_put (cs := #[.string (⟨#[]⟩ : ByteArray), .string (⟨#[]⟩ : ByteArray)]) ?_ 0 _ rfl; (with_reducible repeat (first | refine blk_drewN ?_ _ | refine blk_drew ?_ | refine blk_alloc ?_ _)); exact BK243.out) hg (Kd.R_ne HO_7.out BK243.out (by decide))); have n1_ := Aside0.mk (hb); have n2_ := Aside0.mk (ho); clear BK243; clear HB; clear HO_7; have BK243 := n0_; have HB := n1_; have HO246 := n2_; clear n0_ n1_ n2_; clear ho hb hg hat; have hcz22_0 : w21.cell? ⟨gb243, 0, none⟩ = some (.string ((rd_T57 l1 x15_1).f0)) := (blk_cell BK243.out 0).trans rfl; have hcz22_1 : w21.cell? ⟨gb243, 1, none⟩ = some (.string ((rd_T57 l1 x15_1).f1)) := (blk_cell BK243.out 1).trans rfl; have hfz22_0 := blk_frozen BK243.out 0; have hfz22_1 := blk_frozen BK243.out 1))
                go_roundg k1
                case measure => have := HK1.out; omega
                case rel => exact ⟨(y244), (x8_1 ++ (((⟨#[9]⟩ : ByteArray) ++ ((rd_T57 l1 x15_1).f1)) ++ (⟨#[10]⟩ : ByteArray))), (wrap64 (x15_1 + 1)), (by first | rfl | (simp; done) | (simp [*]; done)), (by first | rfl | (simp; done) | (simp [*]; done)), H', ⟨by have := HK1.out; omega⟩, ⟨by (with_reducible repeat (first | apply Kd.R_alloc | apply Kd.R_drewN | apply Kd.R_drew)); exact HO246.out⟩, ⟨by repeat (first | (with_reducible first | exact HB.out | apply below_alloc | apply pw_below_drewN | apply below_drew1 | refine below_set ?_ GE243.out) | exact HB.out)⟩⟩
               ·
                rw [if_neg c18] at H
                exact absurd H (by simp)
              ·
               rw [if_neg c17] at H
               exact absurd H (by simp)
             ·
              rw [if_neg c16] at H
              exact absurd H (by simp)
            ·
             rw [if_neg c15] at H
             exact absurd rfl c15
           ·
            rw [if_neg c14] at H
            exact absurd H (by simp)
          ·
           rw [if_neg c13] at H
           exact absurd H (by simp)
         ·
          rw [if_neg c12] at H
          exact absurd H (by simp)
        ·
         rw [if_neg c11] at H
         exact absurd H (by simp)
       ·
        rw [if_neg c10] at H
        exact absurd H (by simp)
      ·
       rw [if_neg c9] at H
       have c9b0 : (((rd_T57 l1 x15_1).f0).toList == ([] : List UInt8)) = false := beq_eq_false_iff_ne.mpr c9
       have c9b1 : (((rd_T57 l1 x15_1).f0).toList != ([] : List UInt8)) = true := bne_iff_ne.mpr c9
       by_cases c32 : 3 + ((rd_T57 l1 x15_1).f0).size ≤ 9223372036854775807
       ·
        rw [if_pos c32] at H
        have c32b0 := eq_true c32
        have c32b1 : decide (3 + ((rd_T57 l1 x15_1).f0).size ≤ 9223372036854775807) = true := decide_eq_true c32
        try have c32b2 : (9223372036854775807 < 3 + ((rd_T57 l1 x15_1).f0).size) = False := eq_false (Nat.not_lt.2 c32)
        by_cases c33 : ((⟨#[47, 47, 32]⟩ : ByteArray) ++ ((rd_T57 l1 x15_1).f0)).size + 1 ≤ 9223372036854775807
        ·
         rw [if_pos c33] at H
         have c33b0 := eq_true c33
         have c33b1 : decide (((⟨#[47, 47, 32]⟩ : ByteArray) ++ ((rd_T57 l1 x15_1).f0)).size + 1 ≤ 9223372036854775807) = true := decide_eq_true c33
         try have c33b2 : (9223372036854775807 < ((⟨#[47, 47, 32]⟩ : ByteArray) ++ ((rd_T57 l1 x15_1).f0)).size + 1) = False := eq_false (Nat.not_lt.2 c33)
         try have c33b3 : (9223372036854775807 < 3 + ((rd_T57 l1 x15_1).f0).size + 1) = False := eq_false (Nat.not_lt.2 (by have h_ := c33; simp only [ByteArray.size_append] at h_; exact h_))
         by_cases c34 : (((⟨#[47, 47, 32]⟩ : ByteArray) ++ ((rd_T57 l1 x15_1).f0)) ++ (⟨#[10]⟩ : ByteArray)).size + a0.size ≤ 9223372036854775807
         ·
          rw [if_pos c34] at H
          have c34b0 := eq_true c34
          have c34b1 : decide ((((⟨#[47, 47, 32]⟩ : ByteArray) ++ ((rd_T57 l1 x15_1).f0)) ++ (⟨#[10]⟩ : ByteArray)).size + a0.size ≤ 9223372036854775807) = true := decide_eq_true c34
          try have c34b2 : (9223372036854775807 < (((⟨#[47, 47, 32]⟩ : ByteArray) ++ ((rd_T57 l1 x15_1).f0)) ++ (⟨#[10]⟩ : ByteArray)).size + a0.size) = False := eq_false (Nat.not_lt.2 c34)
          try have c34b3 : (9223372036854775807 < 3 + ((rd_T57 l1 x15_1).f0).size + 1 + a0.size) = False := eq_false (Nat.not_lt.2 (by have h_ := c34; simp only [ByteArray.size_append] at h_; exact h_))
          by_cases c35 : ((((⟨#[47, 47, 32]⟩ : ByteArray) ++ ((rd_T57 l1 x15_1).f0)) ++ (⟨#[10]⟩ : ByteArray)) ++ a0).size + 1 ≤ 9223372036854775807
          ·
           rw [if_pos c35] at H
           have c35b0 := eq_true c35
           have c35b1 : decide (((((⟨#[47, 47, 32]⟩ : ByteArray) ++ ((rd_T57 l1 x15_1).f0)) ++ (⟨#[10]⟩ : ByteArray)) ++ a0).size + 1 ≤ 9223372036854775807) = true := decide_eq_true c35
           try have c35b2 : (9223372036854775807 < ((((⟨#[47, 47, 32]⟩ : ByteArray) ++ ((rd_T57 l1 x15_1).f0)) ++ (⟨#[10]⟩ : ByteArray)) ++ a0).size + 1) = False := eq_false (Nat.not_lt.2 c35)
           try have c35b3 : (9223372036854775807 < 3 + ((rd_T57 l1 x15_1).f0).size + 1 + a0.size + 1) = False := eq_false (Nat.not_lt.2 (by have h_ := c35; simp only [ByteArray.size_append] at h_; exact h_))
           by_cases c36 : (((((⟨#[47, 47, 32]⟩ : ByteArray) ++ ((rd_T57 l1 x15_1).f0)) ++ (⟨#[10]⟩ : ByteArray)) ++ a0) ++ (⟨#[32]⟩ : ByteArray)).size + ((rd_T57 l1 x15_1).f1).size ≤ 9223372036854775807
           ·
            rw [if_pos c36] at H
            have c36b0 := eq_true c36
            have c36b1 : decide ((((((⟨#[47, 47, 32]⟩ : ByteArray) ++ ((rd_T57 l1 x15_1).f0)) ++ (⟨#[10]⟩ : ByteArray)) ++ a0) ++ (⟨#[32]⟩ : ByteArray)).size + ((rd_T57 l1 x15_1).f1).size ≤ 9223372036854775807) = true := decide_eq_true c36
            try have c36b2 : (9223372036854775807 < (((((⟨#[47, 47, 32]⟩ : ByteArray) ++ ((rd_T57 l1 x15_1).f0)) ++ (⟨#[10]⟩ : ByteArray)) ++ a0) ++ (⟨#[32]⟩ : ByteArray)).size + ((rd_T57 l1 x15_1).f1).size) = False := eq_false (Nat.not_lt.2 c36)
            try have c36b3 : (9223372036854775807 < 3 + ((rd_T57 l1 x15_1).f0).size + 1 + a0.size + 1 + ((rd_T57 l1 x15_1).f1).size) = False := eq_false (Nat.not_lt.2 (by have h_ := c36; simp only [ByteArray.size_append] at h_; exact h_))
            by_cases c37 : ((((((⟨#[47, 47, 32]⟩ : ByteArray) ++ ((rd_T57 l1 x15_1).f0)) ++ (⟨#[10]⟩ : ByteArray)) ++ a0) ++ (⟨#[32]⟩ : ByteArray)) ++ ((rd_T57 l1 x15_1).f1)).size + 1 ≤ 9223372036854775807
            ·
             rw [if_pos c37] at H
             have c37b0 := eq_true c37
             have c37b1 : decide (((((((⟨#[47, 47, 32]⟩ : ByteArray) ++ ((rd_T57 l1 x15_1).f0)) ++ (⟨#[10]⟩ : ByteArray)) ++ a0) ++ (⟨#[32]⟩ : ByteArray)) ++ ((rd_T57 l1 x15_1).f1)).size + 1 ≤ 9223372036854775807) = true := decide_eq_true c37
             try have c37b2 : (9223372036854775807 < ((((((⟨#[47, 47, 32]⟩ : ByteArray) ++ ((rd_T57 l1 x15_1).f0)) ++ (⟨#[10]⟩ : ByteArray)) ++ a0) ++ (⟨#[32]⟩ : ByteArray)) ++ ((rd_T57 l1 x15_1).f1)).size + 1) = False := eq_false (Nat.not_lt.2 c37)
             try have c37b3 : (9223372036854775807 < 3 + ((rd_T57 l1 x15_1).f0).size + 1 + a0.size + 1 + ((rd_T57 l1 x15_1).f1).size + 1) = False := eq_false (Nat.not_lt.2 (by have h_ := c37; simp only [ByteArray.size_append] at h_; exact h_))
             by_cases c38 : x7_1.length < 8796093022208
             ·
              rw [if_pos c38] at H
              have LMc38 := Aside0.mk c38
              clear c38
              obtain ⟨y247, hy247⟩ : ∃ y_ : List ByteArray, y_ = (x7_1 ++ [((((((⟨#[47, 47, 32]⟩ : ByteArray) ++ ((rd_T57 l1 x15_1).f0)) ++ (⟨#[10]⟩ : ByteArray)) ++ a0) ++ (⟨#[32]⟩ : ByteArray)) ++ ((rd_T57 l1 x15_1).f1)) ++ (⟨#[10]⟩ : ByteArray)]) := ⟨_, rfl⟩
              replace H : (if (((⟨#[47, 47, 32]⟩ : ByteArray) ++ ((rd_T57 l1 x15_1).f0)) ++ (⟨#[10]⟩ : ByteArray)).toList = ([] : List UInt8) then (if 1 + ((rd_T57 l1 x15_1).f1).size ≤ 9223372036854775807 then (if ((⟨#[9]⟩ : ByteArray) ++ ((rd_T57 l1 x15_1).f1)).size + 1 ≤ 9223372036854775807 then (if x8_1.size + (((⟨#[9]⟩ : ByteArray) ++ ((rd_T57 l1 x15_1).f1)) ++ (⟨#[10]⟩ : ByteArray)).size ≤ 9223372036854775807 then (spec_section.l0 k1 a0 l1 a2 y247 (x8_1 ++ (((⟨#[9]⟩ : ByteArray) ++ ((rd_T57 l1 x15_1).f1)) ++ (⟨#[10]⟩ : ByteArray))) l1 (l1.length : Int) (wrap64 (x15_1 + 1))) else (none)) else (none)) else (none)) else (if 1 + (((⟨#[47, 47, 32]⟩ : ByteArray) ++ ((rd_T57 l1 x15_1).f0)) ++ (⟨#[10]⟩ : ByteArray)).size ≤ 9223372036854775807 then (if x8_1.size + ((⟨#[9]⟩ : ByteArray) ++ (((⟨#[47, 47, 32]⟩ : ByteArray) ++ ((rd_T57 l1 x15_1).f0)) ++ (⟨#[10]⟩ : ByteArray))).size ≤ 9223372036854775807 then (if 1 + ((rd_T57 l1 x15_1).f1).size ≤ 9223372036854775807 then (if ((⟨#[9]⟩ : ByteArray) ++ ((rd_T57 l1 x15_1).f1)).size + 1 ≤ 9223372036854775807 then (if (x8_1 ++ ((⟨#[9]⟩ : ByteArray) ++ (((⟨#[47, 47, 32]⟩ : ByteArray) ++ ((rd_T57 l1 x15_1).f0)) ++ (⟨#[10]⟩ : ByteArray)))).size + (((⟨#[9]⟩ : ByteArray) ++ ((rd_T57 l1 x15_1).f1)) ++ (⟨#[10]⟩ : ByteArray)).size ≤ 9223372036854775807 then (spec_section.l0 k1 a0 l1 a2 y247 ((x8_1 ++ ((⟨#[9]⟩ : ByteArray) ++ (((⟨#[47, 47, 32]⟩ : ByteArray) ++ ((rd_T57 l1 x15_1).f0)) ++ (⟨#[10]⟩ : ByteArray)))) ++ (((⟨#[9]⟩ : ByteArray) ++ ((rd_T57 l1 x15_1).f1)) ++ (⟨#[10]⟩ : ByteArray))) l1 (l1.length : Int) (wrap64 (x15_1 + 1))) else (none)) else (none)) else (none)) else (none)) else (none))) = some r := by first | (rw [hy247]; with_reducible exact H) | (have H2_ := (Option.bind_some _ _).symm.trans H; rw [hy247]; with_reducible exact H2_) | (have H2_ := (Option.bind_some _ _).symm.trans H; with_reducible exact H2_) | with_reducible exact H | (rw [hy247]; exact H) | exact H
              have Ny247 := Aside0.mk hy247
              clear hy247
              by_cases c39 : (((⟨#[47, 47, 32]⟩ : ByteArray) ++ ((rd_T57 l1 x15_1).f0)) ++ (⟨#[10]⟩ : ByteArray)).toList = ([] : List UInt8)
              ·
               rw [if_pos c39] at H
               have c39b0 : ((((⟨#[47, 47, 32]⟩ : ByteArray) ++ ((rd_T57 l1 x15_1).f0)) ++ (⟨#[10]⟩ : ByteArray)).toList == ([] : List UInt8)) = true := beq_iff_eq.mpr c39
               have c39b1 : ((((⟨#[47, 47, 32]⟩ : ByteArray) ++ ((rd_T57 l1 x15_1).f0)) ++ (⟨#[10]⟩ : ByteArray)).toList != ([] : List UInt8)) = false := bne_eq_false_iff_eq.mpr c39
               clear c39
               by_cases c40 : 1 + ((rd_T57 l1 x15_1).f1).size ≤ 9223372036854775807
               ·
                rw [if_pos c40] at H
                have c40b0 := eq_true c40
                have c40b1 : decide (1 + ((rd_T57 l1 x15_1).f1).size ≤ 9223372036854775807) = true := decide_eq_true c40
                try have c40b2 : (9223372036854775807 < 1 + ((rd_T57 l1 x15_1).f1).size) = False := eq_false (Nat.not_lt.2 c40)
                by_cases c41 : ((⟨#[9]⟩ : ByteArray) ++ ((rd_T57 l1 x15_1).f1)).size + 1 ≤ 9223372036854775807
                ·
                 rw [if_pos c41] at H
                 have c41b0 := eq_true c41
                 have c41b1 : decide (((⟨#[9]⟩ : ByteArray) ++ ((rd_T57 l1 x15_1).f1)).size + 1 ≤ 9223372036854775807) = true := decide_eq_true c41
                 try have c41b2 : (9223372036854775807 < ((⟨#[9]⟩ : ByteArray) ++ ((rd_T57 l1 x15_1).f1)).size + 1) = False := eq_false (Nat.not_lt.2 c41)
                 try have c41b3 : (9223372036854775807 < 1 + ((rd_T57 l1 x15_1).f1).size + 1) = False := eq_false (Nat.not_lt.2 (by have h_ := c41; simp only [ByteArray.size_append] at h_; exact h_))
                 by_cases c42 : x8_1.size + (((⟨#[9]⟩ : ByteArray) ++ ((rd_T57 l1 x15_1).f1)) ++ (⟨#[10]⟩ : ByteArray)).size ≤ 9223372036854775807
                 ·
                  rw [if_pos c42] at H
                  have c42b0 := eq_true c42
                  have c42b1 : decide (x8_1.size + (((⟨#[9]⟩ : ByteArray) ++ ((rd_T57 l1 x15_1).f1)) ++ (⟨#[10]⟩ : ByteArray)).size ≤ 9223372036854775807) = true := decide_eq_true c42
                  try have c42b2 : (9223372036854775807 < x8_1.size + (((⟨#[9]⟩ : ByteArray) ++ ((rd_T57 l1 x15_1).f1)) ++ (⟨#[10]⟩ : ByteArray)).size) = False := eq_false (Nat.not_lt.2 c42)
                  try have c42b3 : (9223372036854775807 < x8_1.size + (1 + ((rd_T57 l1 x15_1).f1).size + 1)) = False := eq_false (Nat.not_lt.2 (by have h_ := c42; simp only [ByteArray.size_append] at h_; exact h_))
                  have H' := Aside0.mk H
                  clear H
                  have p242 : 0 ≤ (x15_1 : Int) := of_decide_eq_true (by first | (with_reducible assumption) | assumption)
                  have q242 : x15_1 < (l1.length : Int) := of_decide_eq_true (by first | (with_reducible assumption) | assumption)
                  obtain ⟨ad242, e242, hx242_0, hx242_1⟩ := at_T57 HR1.out x15_1 p242 q242
                  cases e242
                  replace hx242_0 := (HB.out.cell (World.block_lt_of_cell? w _ hx242_0)).trans hx242_0
                  replace hx242_1 := (HB.out.cell (World.block_lt_of_cell? w _ hx242_1)).trans hx242_1
                  replace p242 := eq_true p242
                  replace q242 := eq_true q242
                  go_wp2_with (first | ((with_reducible refine gate_dst (N := 10) rfl ?_); (try (refine gate_guard (by rfl) ?_; dsimp only)); refine box_event ?hg (N := 10) ?hd (cs := #[.string (⟨#[]⟩ : ByteArray), .string (⟨#[]⟩ : ByteArray)]) (t := 57) ?hr ?_; (case hd => rfl); (case hg => rfl); (case hr => first | (go_simp; done) | (go_simp; rfl)); intro gb243 hg w43 hbox hb; have n0_ := Aside0.mk (Kd.R_below (by (with_reducible repeat (first | apply Kd.R_alloc | apply Kd.R_drewN | apply Kd.R_drew)); exact HO_7.out) hb); have n1_ := Aside0.mk (below_step (by repeat (first | (with_reducible first | exact HB.out | apply below_alloc | apply pw_below_drewN | apply below_drew1) | exact HB.out)) hb); have n2_ := Aside0.mk (hbox); have n3_ := Aside0.mk ((by rw [hg]; exact (below_size (by repeat (first | (with_reducible first | exact HB.out | apply below_alloc | apply pw_below_drewN | apply below_drew1) | exact HB.out))) : w.heap.size ≤ gb243)); have n4_ := Aside0.mk ((by rw [hg]; exact (below_size (by repeat (first | (with_reducible first | exact HB.out | apply below_alloc | apply pw_below_drewN | apply below_drew1) | exact HB.out))) : w.heap.size ≤ gb243)); clear HO_7; clear HB; have HO_7 := n0_; have HB := n1_; have BK243 := n2_; have GW243 := n3_; have GE243 := n4_; clear n0_ n1_ n2_ n3_ n4_; clear hb hbox hg; have hcz44_0 : w43.cell? ⟨gb243, 0, none⟩ = some (.string (⟨#[]⟩ : ByteArray)) := (blk_cell BK243.out 0).trans rfl; have hcz44_1 : w43.cell? ⟨gb243, 1, none⟩ = some (.string (⟨#[]⟩ : ByteArray)) := (blk_cell BK243.out 1).trans rfl; have hfz44_0 := blk_frozen BK243.out 0; have hfz44_1 := blk_frozen BK243.out 1) | ((with_reducible refine gate_builtin (b := .append) (xs := #[.tmp 26, .tmp 35]) rfl ?_); (try (refine gate_guard (by rfl) ?_; dsimp only)); at_builtin; refine Kd.R_append Kd.string (w0 := w) w.heap.size rfl (.tmp 26) (.tmp 35) 30 9 (.string ⟨#[]⟩) 16 rfl Tryd.underlying30 info9 rfl (by decide) (by omega) u7 x7_1 (((((((⟨#[47, 47, 32]⟩ : ByteArray) ++ ((rd_T57 l1 x15_1).f0)) ++ (⟨#[10]⟩ : ByteArray)) ++ a0) ++ (⟨#[32]⟩ : ByteArray)) ++ ((rd_T57 l1 x15_1).f1)) ++ (⟨#[10]⟩ : ByteArray)) [.string (((((((⟨#[47, 47, 32]⟩ : ByteArray) ++ ((rd_T57 l1 x15_1).f0)) ++ (⟨#[10]⟩ : ByteArray)) ++ a0) ++ (⟨#[32]⟩ : ByteArray)) ++ ((rd_T57 l1 x15_1).f1)) ++ (⟨#[10]⟩ : ByteArray))] (fun _ => True) (fun _ => False) rfl (by first | (go_simp; done) | (go_simp; rfl)) ?aP (fun _ hk => hk.elim) ?aF ?aO ?aB ?aS ?aL ?_; (case aP => exact rfl); (case aB => exact (by repeat (first | (with_reducible first | exact HB.out | apply below_alloc | apply pw_below_drewN | apply below_drew1 | refine below_set ?_ GE243.out) | exact HB.out))); (case aF => exact (fun _ _ => trivial)); (case aO => exact (by (with_reducible repeat (first | apply Kd.R_alloc | apply Kd.R_drewN | apply Kd.R_drew)); exact Kd.R_mono (Kd.R_far (p := ⟨gb243, 1, none⟩) (Kd.R_far (p := ⟨gb243, 0, none⟩) (Kd.R_types HO_7.out BK243.out (by decide)) (fun _ hk => hk.2) (.string ((rd_T57 l1 x15_1).f0))) (fun _ hk => hk.2) (.string ((rd_T57 l1 x15_1).f1))) (fun _ hk => trivial))); (case aS => exact (below_size (by repeat (first | (with_reducible first | exact HB.out | apply below_alloc | apply pw_below_drewN | apply below_drew1 | refine below_set ?_ GE243.out) | exact HB.out)))); (case aL => have := LMc38.out; omega); intro v248 w45 ho hb hg hat; rw [← Ny247.out] at ho; have n0_ := Aside0.mk (blk_grown (g := gb243) (o := .cells #[.string ((rd_T57 l1 x15_1).f0), .string ((rd_T57 l1 x15_1).f1)] 57 (0, 0)) (by (with_reducible repeat (first | refine blk_drewN ?_ _ | refine blk_drew ?_ | refine blk_alloc ?_ _)); refine blk_put (cs := #[.string ((rd_T57 l1 x15_1).f0), .string (⟨#[]⟩ : ByteArray)]) ?_ 1 _ rfl; (with_reducible repeat (first | refine blk_drewN ?_ _ | refine blk_drew ?_ | refine blk_alloc ?_ _)); refine blk_put (cs := #[.string (⟨#[]⟩ : ByteArray), .string (⟨#[]⟩ : ByteArray)]) ?_ 0 _ rfl; (with_reducible repeat (first | refine blk_drewN ?_ _ | refine blk_drew ?_ | refine blk_alloc ?_ _)); exact BK243.out) hg (Kd.R_ne HO_7.out BK243.out (by decide))); have n1_ := Aside0.mk (hb); have n2_ := Aside0.mk (ho); clear BK243; clear HB; clear HO_7; have BK243 := n0_; have HB := n1_; have HO249 := n2_; clear n0_ n1_ n2_; clear ho hb hg hat; have hcz46_0 : w45.cell? ⟨gb243, 0, none⟩ = some (.string ((rd_T57 l1 x15_1).f0)) := (blk_cell BK243.out 0).trans rfl; have hcz46_1 : w45.cell? ⟨gb243, 1, none⟩ = some (.string ((rd_T57 l1 x15_1).f1)) := (blk_cell BK243.out 1).trans rfl; have hfz46_0 := blk_frozen BK243.out 0; have hfz46_1 := blk_frozen BK243.out 1))
                  go_roundg k1
                  case measure => have := HK1.out; omega
                  case rel => exact ⟨(y247), (x8_1 ++ (((⟨#[9]⟩ : ByteArray) ++ ((rd_T57 l1 x15_1).f1)) ++ (⟨#[10]⟩ : ByteArray))), (wrap64 (x15_1 + 1)), (by first | rfl | (simp; done) | (simp [*]; done)), (by first | rfl | (simp; done) | (simp [*]; done)), H', ⟨by have := HK1.out; omega⟩, ⟨by (with_reducible repeat (first | apply Kd.R_alloc | apply Kd.R_drewN | apply Kd.R_drew)); exact HO249.out⟩, ⟨by repeat (first | (with_reducible first | exact HB.out | apply below_alloc | apply pw_below_drewN | apply below_drew1 | refine below_set ?_ GE243.out) | exact HB.out)⟩⟩
                 ·
                  rw [if_neg c42] at H
                  exact absurd H (by simp)
                ·
                 rw [if_neg c41] at H
                 exact absurd H (by simp)
               ·
                rw [if_neg c40] at H
                exact absurd H (by simp)
              ·
               rw [if_neg c39] at H
               have c39b0 : ((((⟨#[47, 47, 32]⟩ : ByteArray) ++ ((rd_T57 l1 x15_1).f0)) ++ (⟨#[10]⟩ : ByteArray)).toList == ([] : List UInt8)) = false := beq_eq_false_iff_ne.mpr c39
               have c39b1 : ((((⟨#[47, 47, 32]⟩ : ByteArray) ++ ((rd_T57 l1 x15_1).f0)) ++ (⟨#[10]⟩ : ByteArray)).toList != ([] : List UInt8)) = true := bne_iff_ne.mpr c39
               by_cases c47 : 1 + (((⟨#[47, 47, 32]⟩ : ByteArray) ++ ((rd_T57 l1 x15_1).f0)) ++ (⟨#[10]⟩ : ByteArray)).size ≤ 9223372036854775807
               ·
                rw [if_pos c47] at H
                have c47b0 := eq_true c47
                have c47b1 : decide (1 + (((⟨#[47, 47, 32]⟩ : ByteArray) ++ ((rd_T57 l1 x15_1).f0)) ++ (⟨#[10]⟩ : ByteArray)).size ≤ 9223372036854775807) = true := decide_eq_true c47
                try have c47b2 : (9223372036854775807 < 1 + (((⟨#[47, 47, 32]⟩ : ByteArray) ++ ((rd_T57 l1 x15_1).f0)) ++ (⟨#[10]⟩ : ByteArray)).size) = False := eq_false (Nat.not_lt.2 c47)
                try have c47b3 : (9223372036854775807 < 1 + (3 + ((rd_T57 l1 x15_1).f0).size + 1)) = False := eq_false (Nat.not_lt.2 (by have h_ := c47; simp only [ByteArray.size_append] at h_; exact h_))
                by_cases c48 : x8_1.size + ((⟨#[9]⟩ : ByteArray) ++ (((⟨#[47, 47, 32]⟩ : ByteArray) ++ ((rd_T57 l1 x15_1).f0)) ++ (⟨#[10]⟩ : ByteArray))).size ≤ 9223372036854775807
                ·
                 rw [if_pos c48] at H
                 have c48b0 := eq_true c48
                 have c48b1 : decide (x8_1.size + ((⟨#[9]⟩ : ByteArray) ++ (((⟨#[47, 47, 32]⟩ : ByteArray) ++ ((rd_T57 l1 x15_1).f0)) ++ (⟨#[10]⟩ : ByteArray))).size ≤ 9223372036854775807) = true := decide_eq_true c48
                 try have c48b2 : (9223372036854775807 < x8_1.size + ((⟨#[9]⟩ : ByteArray) ++ (((⟨#[47, 47, 32]⟩ : ByteArray) ++ ((rd_T57 l1 x15_1).f0)) ++ (⟨#[10]⟩ : ByteArray))).size) = False := eq_false (Nat.not_lt.2 c48)
                 try have c48b3 : (9223372036854775807 < x8_1.size + (1 + (3 + ((rd_T57 l1 x15_1).f0).size + 1))) = False := eq_false (Nat.not_lt.2 (by have h_ := c48; simp only [ByteArray.size_append] at h_; exact h_))
                 by_cases c49 : 1 + ((rd_T57 l1 x15_1).f1).size ≤ 9223372036854775807
                 ·
                  rw [if_pos c49] at H
                  have c49b0 := eq_true c49
                  have c49b1 : decide (1 + ((rd_T57 l1 x15_1).f1).size ≤ 9223372036854775807) = true := decide_eq_true c49
                  try have c49b2 : (9223372036854775807 < 1 + ((rd_T57 l1 x15_1).f1).size) = False := eq_false (Nat.not_lt.2 c49)
                  by_cases c50 : ((⟨#[9]⟩ : ByteArray) ++ ((rd_T57 l1 x15_1).f1)).size + 1 ≤ 9223372036854775807
                  ·
                   rw [if_pos c50] at H
                   have c50b0 := eq_true c50
                   have c50b1 : decide (((⟨#[9]⟩ : ByteArray) ++ ((rd_T57 l1 x15_1).f1)).size + 1 ≤ 9223372036854775807) = true := decide_eq_true c50
                   try have c50b2 : (9223372036854775807 < ((⟨#[9]⟩ : ByteArray) ++ ((rd_T57 l1 x15_1).f1)).size + 1) = False := eq_false (Nat.not_lt.2 c50)
                   try have c50b3 : (9223372036854775807 < 1 + ((rd_T57 l1 x15_1).f1).size + 1) = False := eq_false (Nat.not_lt.2 (by have h_ := c50; simp only [ByteArray.size_append] at h_; exact h_))
                   by_cases c51 : (x8_1 ++ ((⟨#[9]⟩ : ByteArray) ++ (((⟨#[47, 47, 32]⟩ : ByteArray) ++ ((rd_T57 l1 x15_1).f0)) ++ (⟨#[10]⟩ : ByteArray)))).size + (((⟨#[9]⟩ : ByteArray) ++ ((rd_T57 l1 x15_1).f1)) ++ (⟨#[10]⟩ : ByteArray)).size ≤ 9223372036854775807
                   ·
                    rw [if_pos c51] at H
                    have c51b0 := eq_true c51
                    have c51b1 : decide ((x8_1 ++ ((⟨#[9]⟩ : ByteArray) ++ (((⟨#[47, 47, 32]⟩ : ByteArray) ++ ((rd_T57 l1 x15_1).f0)) ++ (⟨#[10]⟩ : ByteArray)))).size + (((⟨#[9]⟩ : ByteArray) ++ ((rd_T57 l1 x15_1).f1)) ++ (⟨#[10]⟩ : ByteArray)).size ≤ 9223372036854775807) = true := decide_eq_true c51
                    try have c51b2 : (9223372036854775807 < (x8_1 ++ ((⟨#[9]⟩ : ByteArray) ++ (((⟨#[47, 47, 32]⟩ : ByteArray) ++ ((rd_T57 l1 x15_1).f0)) ++ (⟨#[10]⟩ : ByteArray)))).size + (((⟨#[9]⟩ : ByteArray) ++ ((rd_T57 l1 x15_1).f1)) ++ (⟨#[10]⟩ : ByteArray)).size) = False := eq_false (Nat.not_lt.2 c51)
                    try have c51b3 : (9223372036854775807 < x8_1.size + (1 + (3 + ((rd_T57 l1 x15_1).f0).size + 1)) + (1 + ((rd_T57 l1 x15_1).f1).size + 1)) = False := eq_false (Nat.not_lt.2 (by have h_ := c51; simp only [ByteArray.size_append] at h_; exact h_))
                    have H' := Aside0.mk H
                    clear H
                    have p242 : 0 ≤ (x15_1 : Int) := of_decide_eq_true (by first | (with_reducible assumption) | assumption)
                    have q242 : x15_1 < (l1.length : Int) := of_decide_eq_true (by first | (with_reducible assumption) | assumption)
                    obtain ⟨ad242, e242, hx242_0, hx242_1⟩ := at_T57 HR1.out x15_1 p242 q242
                    cases e242
                    replace hx242_0 := (HB.out.cell (World.block_lt_of_cell? w _ hx242_0)).trans hx242_0
                    replace hx242_1 := (HB.out.cell (World.block_lt_of_cell? w _ hx242_1)).trans hx242_1
                    replace p242 := eq_true p242
                    replace q242 := eq_true q242
                    go_wp2_with (first | ((with_reducible refine gate_dst (N := 10) rfl ?_); (try (refine gate_guard (by rfl) ?_; dsimp only)); refine box_event ?hg (N := 10) ?hd (cs := #[.string (⟨#[]⟩ : ByteArray), .string (⟨#[]⟩ : ByteArray)]) (t := 57) ?hr ?_; (case hd => rfl); (case hg => rfl); (case hr => first | (go_simp; done) | (go_simp; rfl)); intro gb243 hg w52 hbox hb; have n0_ := Aside0.mk (Kd.R_below (by (with_reducible repeat (first | apply Kd.R_alloc | apply Kd.R_drewN | apply Kd.R_drew)); exact HO_7.out) hb); have n1_ := Aside0.mk (below_step (by repeat (first | (with_reducible first | exact HB.out | apply below_alloc | apply pw_below_drewN | apply below_drew1) | exact HB.out)) hb); have n2_ := Aside0.mk (hbox); have n3_ := Aside0.mk ((by rw [hg]; exact (below_size (by repeat (first | (with_reducible first | exact HB.out | apply below_alloc | apply pw_below_drewN | apply below_drew1) | exact HB.out))) : w.heap.size ≤ gb243)); have n4_ := Aside0.mk ((by rw [hg]; exact (below_size (by repeat (first | (with_reducible first | exact HB.out | apply below_alloc | apply pw_below_drewN | apply below_drew1) | exact HB.out))) : w.heap.size ≤ gb243)); clear HO_7; clear HB; have HO_7 := n0_; have HB := n1_; have BK243 := n2_; have GW243 := n3_; have GE243 := n4_; clear n0_ n1_ n2_ n3_ n4_; clear hb hbox hg; have hcz53_0 : w52.cell? ⟨gb243, 0, none⟩ = some (.string (⟨#[]⟩ : ByteArray)) := (blk_cell BK243.out 0).trans rfl; have hcz53_1 : w52.cell? ⟨gb243, 1, none⟩ = some (.string (⟨#[]⟩ : ByteArray)) := (blk_cell BK243.out 1).trans rfl; have hfz53_0 := blk_frozen BK243.out 0; have hfz53_1 := blk_frozen BK243.out 1) | ((with_reducible refine gate_builtin (b := .append) (xs := #[.tmp 26, .tmp 35]) rfl ?_); (try (refine gate_guard (by rfl) ?_; dsimp only)); at_builtin; refine Kd.R_append Kd.string (w0 := w) w.heap.size rfl (.tmp 26) (.tmp 35) 30 9 (.string ⟨#[]⟩) 16 rfl Tryd.underlying30 info9 rfl (by decide) (by omega) u7 x7_1 (((((((⟨#[47, 47, 32]⟩ : ByteArray) ++ ((rd_T57 l1 x15_1).f0)) ++ (⟨#[10]⟩ : ByteArray)) ++ a0) ++ (⟨#[32]⟩ : ByteArray)) ++ ((rd_T57 l1 x15_1).f1)) ++ (⟨#[10]⟩ : ByteArray)) [.string (((((((⟨#[47, 47, 32]⟩ : ByteArray) ++ ((rd_T57 l1 x15_1).f0)) ++ (⟨#[10]⟩ : ByteArray)) ++ a0) ++ (⟨#[32]⟩ : ByteArray)) ++ ((rd_T57 l1 x15_1).f1)) ++ (⟨#[10]⟩ : ByteArray))] (fun _ => True) (fun _ => False) rfl (by first | (go_simp; done) | (go_simp; rfl)) ?aP (fun _ hk => hk.elim) ?aF ?aO ?aB ?aS ?aL ?_; (case aP => exact rfl); (case aB => exact (by repeat (first | (with_reducible first | exact HB.out | apply below_alloc | apply pw_below_drewN | apply below_drew1 | refine below_set ?_ GE243.out) | exact HB.out))); (case aF => exact (fun _ _ => trivial)); (case aO => exact (by (with_reducible repeat (first | apply Kd.R_alloc | apply Kd.R_drewN | apply Kd.R_drew)); exact Kd.R_mono (Kd.R_far (p := ⟨gb243, 1, none⟩) (Kd.R_far (p := ⟨gb243, 0, none⟩) (Kd.R_types HO_7.out BK243.out (by decide)) (fun _ hk => hk.2) (.string ((rd_T57 l1 x15_1).f0))) (fun _ hk => hk.2) (.string ((rd_T57 l1 x15_1).f1))) (fun _ hk => trivial))); (case aS => exact (below_size (by repeat (first | (with_reducible first | exact HB.out | apply below_alloc | apply pw_below_drewN | apply below_drew1 | refine below_set ?_ GE243.out) | exact HB.out)))); (case aL => have := LMc38.out; omega); intro v248 w54 ho hb hg hat; rw [← Ny247.out] at ho; have n0_ := Aside0.mk (blk_grown (g := gb243) (o := .cells #[.string ((rd_T57 l1 x15_1).f0), .string ((rd_T57 l1 x15_1).f1)] 57 (0, 0)) (by (with_reducible repeat (first | refine blk_drewN ?_ _ | refine blk_drew ?_ | refine blk_alloc ?_ _)); refine blk_put (cs := #[.string ((rd_T57 l1 x15_1).f0), .string (⟨#[]⟩ : ByteArray)]) ?_ 1 _ rfl; (with_reducible repeat (first | refine blk_drewN ?_ _ | refine blk_drew ?_ | refine blk_alloc ?_ _)); refine blk_put (cs := #[.string (⟨#[]⟩ : ByteArray), .string (⟨#[]⟩ : ByteArray)]) ?_ 0 _ rfl; (with_reducible repeat (first | refine blk_drewN ?_ _ | refine blk_drew ?_ | refine blk_alloc ?_ _)); exact BK243.out) hg (Kd.R_ne HO_7.out BK243.out (by decide))); have n1_ := Aside0.mk (hb); have n2_ := Aside0.mk (ho); clear BK243; clear HB; clear HO_7; have BK243 := n0_; have HB := n1_; have HO249 := n2_; clear n0_ n1_ n2_; clear ho hb hg hat; have hcz55_0 : w54.cell? ⟨gb243, 0, none⟩ = some (.string ((rd_T57 l1 x15_1).f0)) := (blk_cell BK243.out 0).trans rfl; have hcz55_1 : w54.cell? ⟨gb243, 1, none⟩ = some (.string ((rd_T57 l1 x15_1).f1)) := (blk_cell BK243.out 1).trans rfl; have hfz55_0 := blk_frozen BK243.out 0; have hfz55_1 := blk_frozen BK243.out 1))
                    go_roundg k1
                    case measure => have := HK1.out; omega
                    case rel => exact ⟨(y247), ((x8_1 ++ ((⟨#[9]⟩ : ByteArray) ++ (((⟨#[47, 47, 32]⟩ : ByteArray) ++ ((rd_T57 l1 x15_1).f0)) ++ (⟨#[10]⟩ : ByteArray)))) ++ (((⟨#[9]⟩ : ByteArray) ++ ((rd_T57 l1 x15_1).f1)) ++ (⟨#[10]⟩ : ByteArray))), (wrap64 (x15_1 + 1)), (by first | rfl | (simp; done) | (simp [*]; done)), (by first | rfl | (simp; done) | (simp [*]; done)), H', ⟨by have := HK1.out; omega⟩, ⟨by (with_reducible repeat (first | apply Kd.R_alloc | apply Kd.R_drewN | apply Kd.R_drew)); exact HO249.out⟩, ⟨by repeat (first | (with_reducible first | exact HB.out | apply below_alloc | apply pw_below_drewN | apply below_drew1 | refine below_set ?_ GE243.out) | exact HB.out)⟩⟩
                   ·
                    rw [if_neg c51] at H
                    exact absurd H (by simp)
                  ·
                   rw [if_neg c50] at H
                   exact absurd H (by simp)
                 ·
                  rw [if_neg c49] at H
                  exact absurd H (by simp)
                ·
                 rw [if_neg c48] at H
                 exact absurd H (by simp)
               ·
                rw [if_neg c47] at H
                exact absurd H (by simp)
             ·
              rw [if_neg c38] at H
              exact absurd H (by simp)
            ·
             rw [if_neg c37] at H
             exact absurd H (by simp)
           ·
            rw [if_neg c36] at H
            exact absurd H (by simp)
          ·
           rw [if_neg c35] at H
           exact absurd H (by simp)
         ·
          rw [if_neg c34] at H
          exact absurd H (by simp)
        ·
         rw [if_neg c33] at H
         exact absurd H (by simp)
       ·
        rw [if_neg c32] at H
        exact absurd H (by simp)
     ·
      rw [if_neg c8] at H
      exact absurd H (by simp)
    ·
     rw [if_neg c7] at H
     exact absurd H (by simp)
   ·
    rw [if_neg c6] at H
    have c6b0 : decide (x15_1 < (l1.length : Int)) = false := decide_eq_false c6
    clear c6
    by_cases c56 : a2 = true
    ·
     subst c56
     have H1 : (if (l1.length : Int) > 0 then (if a0.size + 3 ≤ 9223372036854775807 then (if (a0 ++ (⟨#[32, 40, 10]⟩ : ByteArray)).size + x8_1.size ≤ 9223372036854775807 then (if ((a0 ++ (⟨#[32, 40, 10]⟩ : ByteArray)) ++ x8_1).size + 2 ≤ 9223372036854775807 then (some (([((a0 ++ (⟨#[32, 40, 10]⟩ : ByteArray)) ++ x8_1) ++ (⟨#[41, 10]⟩ : ByteArray)] : List ByteArray))) else (none)) else (none)) else (none)) else (some x7_1)) = some r := by rw [if_pos rfl] at H; exact H
     clear H
     have H := H1
     clear H1
     by_cases c57 : (l1.length : Int) > 0
     ·
      rw [if_pos c57] at H
      have c57b0 : decide (0 < (l1.length : Int)) = true := decide_eq_true c57
      have c57b1 : decide (0 < l1.length) = true := decide_eq_true (by omega)
      clear c57
      by_cases c58 : a0.size + 3 ≤ 9223372036854775807
      ·
       rw [if_pos c58] at H
       have c58b0 := eq_true c58
       have c58b1 : decide (a0.size + 3 ≤ 9223372036854775807) = true := decide_eq_true c58
       try have c58b2 : (9223372036854775807 < a0.size + 3) = False := eq_false (Nat.not_lt.2 c58)
       by_cases c59 : (a0 ++ (⟨#[32, 40, 10]⟩ : ByteArray)).size + x8_1.size ≤ 9223372036854775807
       ·
        rw [if_pos c59] at H
        have c59b0 := eq_true c59
        have c59b1 : decide ((a0 ++ (⟨#[32, 40, 10]⟩ : ByteArray)).size + x8_1.size ≤ 9223372036854775807) = true := decide_eq_true c59
        try have c59b2 : (9223372036854775807 < (a0 ++ (⟨#[32, 40, 10]⟩ : ByteArray)).size + x8_1.size) = False := eq_false (Nat.not_lt.2 c59)
        try have c59b3 : (9223372036854775807 < a0.size + 3 + x8_1.size) = False := eq_false (Nat.not_lt.2 (by have h_ := c59; simp only [ByteArray.size_append] at h_; exact h_))
        by_cases c60 : ((a0 ++ (⟨#[32, 40, 10]⟩ : ByteArray)) ++ x8_1).size + 2 ≤ 9223372036854775807
        ·
         rw [if_pos c60] at H
         have c60b0 := eq_true c60
         have c60b1 : decide (((a0 ++ (⟨#[32, 40, 10]⟩ : ByteArray)) ++ x8_1).size + 2 ≤ 9223372036854775807) = true := decide_eq_true c60
         try have c60b2 : (9223372036854775807 < ((a0 ++ (⟨#[32, 40, 10]⟩ : ByteArray)) ++ x8_1).size + 2) = False := eq_false (Nat.not_lt.2 c60)
         try have c60b3 : (9223372036854775807 < a0.size + 3 + x8_1.size + 2) = False := eq_false (Nat.not_lt.2 (by have h_ := c60; simp only [ByteArray.size_append] at h_; exact h_))
         obtain ⟨y239, hy239⟩ : ∃ y_ : List ByteArray, y_ = (([((a0 ++ (⟨#[32, 40, 10]⟩ : ByteArray)) ++ x8_1) ++ (⟨#[41, 10]⟩ : ByteArray)] : List ByteArray)) := ⟨_, rfl⟩
         replace H : (some y239) = some r := by first | (rw [hy239]; with_reducible exact H) | (have H2_ := (Option.bind_some _ _).symm.trans H; rw [hy239]; with_reducible exact H2_) | (have H2_ := (Option.bind_some _ _).symm.trans H; with_reducible exact H2_) | with_reducible exact H | (rw [hy239]; exact H) | exact H
         have Ny239 := Aside0.mk hy239
         clear hy239
         obtain rfl := Option.some.inj H
         go_wp2_with (first | ((with_reducible refine gate_dst (N := 61) rfl ?_); (try (refine gate_guard (by rfl) ?_; dsimp only)); refine Kd.R_lit Kd.string _ 9 ?hg (N := 61) ?hd (xs := ([((a0 ++ (⟨#[32, 40, 10]⟩ : ByteArray)) ++ x8_1) ++ (⟨#[41, 10]⟩ : ByteArray)] : List ByteArray)) (inner := [.string (((a0 ++ (⟨#[32, 40, 10]⟩ : ByteArray)) ++ x8_1) ++ (⟨#[41, 10]⟩ : ByteArray))]) (ok := fun _ => True) (okp := fun _ => True) ?hr ?hp (fun _ hk => hk) trivial (Below.refl _ _) (Nat.le_refl _) (by simp) ?_; (case hd => rfl); (case hg => rfl); (case hr => first | (go_simp; done) | (go_simp; rfl)); (case hp => exact (Reps.one (show Kd.M Kd.string _ _ _ (((a0 ++ (⟨#[32, 40, 10]⟩ : ByteArray)) ++ x8_1) ++ (⟨#[41, 10]⟩ : ByteArray)) [.string (((a0 ++ (⟨#[32, 40, 10]⟩ : ByteArray)) ++ x8_1) ++ (⟨#[41, 10]⟩ : ByteArray))] from rfl) (Reps.none _ _))); intro v240 w61 ho62 hb hg_ hnew_; clear hg_ hnew_; (first | rw [← Ny239.out] at ho62 | (simp only [Int.reduceToNat] at ho62; rw [← Ny239.out] at ho62)); have n0_ := Aside0.mk (Kd.R_elder' (by (with_reducible repeat (first | apply Kd.R_alloc | apply Kd.R_drewN | apply Kd.R_drew)); exact HO_7.out) (Kd.R_base ho62) hb); have n1_ := Aside0.mk (Kd.R_lower (Kd.R_new' ho62 (Kd.R_lt (by (with_reducible repeat (first | apply Kd.R_alloc | apply Kd.R_drewN | apply Kd.R_drew)); exact HO_7.out))) (below_size (by repeat (first | (with_reducible first | exact HB.out | apply below_alloc | apply pw_below_drewN | apply below_drew1) | exact HB.out)))); have n2_ := Aside0.mk (below_step (by repeat (first | (with_reducible first | exact HB.out | apply below_alloc | apply pw_below_drewN | apply below_drew1) | exact HB.out)) hb); clear HO_7; clear HB; have HO_7 := n0_; have HO241 := n1_; have HB := n2_; clear n0_ n1_ n2_; clear hb ho62))
         go_ret
         exact ⟨_, by first | rfl | (simp [errW_none, errW_some] <;> rfl) | (simp [*, errW_none, errW_some] <;> rfl), by (with_reducible repeat (first | apply Kd.R_alloc | apply Kd.R_drewN | apply Kd.R_drew)); exact Kd.R_mono HO241.out (fun _ hk => trivial), by repeat (first | (with_reducible first | exact HB.out | apply below_alloc | apply pw_below_drewN | apply below_drew1) | exact HB.out)⟩
        ·
         rw [if_neg c60] at H
         exact absurd H (by simp)
       ·
        rw [if_neg c59] at H
        exact absurd H (by simp)
      ·
       rw [if_neg c58] at H
       exact absurd H (by simp)
     ·
      rw [if_neg c57] at H
      have c57b0 : decide (0 < (l1.length : Int)) = false := decide_eq_false c57
      have c57b1 : decide (0 < l1.length) = false := decide_eq_false (by omega)
      clear c57
      obtain rfl := Option.some.inj H
      go_wp2
      go_ret
      exact ⟨_, by first | rfl | (simp [errW_none, errW_some] <;> rfl) | (simp [*, errW_none, errW_some] <;> rfl), by (with_reducible repeat (first | apply Kd.R_alloc | apply Kd.R_drewN | apply Kd.R_drew)); exact HO_7.out, by repeat (first | (with_reducible first | exact HB.out | apply below_alloc | apply pw_below_drewN | apply below_drew1) | exact HB.out)⟩
    ·
     replace c56 := Bool.eq_false_iff.mpr c56
     subst c56
     have H1 : (some x7_1) = some r := by rw [if_neg (show ¬ (false = true) by decide)] at H; exact H
     clear H
     have H := H1
     clear H1
     obtain rfl := Option.some.inj H
     go_wp2
     go_ret
     exact ⟨_, by first | rfl | (simp [errW_none, errW_some] <;> rfl) | (simp [*, errW_none, errW_some] <;> rfl), by (with_reducible repeat (first | apply Kd.R_alloc | apply Kd.R_drewN | apply Kd.R_drew)); exact HO_7.out, by repeat (first | (with_reducible first | exact HB.out | apply below_alloc | apply pw_below_drewN | apply below_drew1) | exact HB.out)⟩
end Go.Proofs.YtlnmchehnhgfnaaDoor.PCont
