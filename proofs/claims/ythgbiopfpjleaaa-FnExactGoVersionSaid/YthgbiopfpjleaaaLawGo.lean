/- For every string the law FnExactGoVersion answers true, and the string reads afterwards as it read before. Conditions: none. -/
import Derived.Test.YthgbiopfpjleaaaRows
import Derived.Test.YthgbiopfpjleaaaGvG
import Derived.WalkKit
import Derived.ProofKit
import Derived.OpenShut
import Derived.ShutString
import Derived.ChangeOld
import Derived.Below
import Derived.SizedLaws
namespace Go.Proofs.Ythgbiopfpjleaaa.Gv
open Go.RowKit Go.Proofs.Ythgbiopfpjleaaa.PGoVersion Go.Proofs.YthgbiopfpjleaaaW.PrintWords

theorem pub_any (a : ByteArray) (w : World) (ha : a.size ≤ 140737488351232) : Calls Try.prog 16 #[.string a] w fun e w' => e = .returned (.bool (matchB a)) ∧ Drawn0 w w' := by
  go_enter Try.func16, Try.ntmps16
  go_wp2_with (go_at_call 22; (with_reducible refine (match_any a _ ha).mono ?_); rintro e w' ⟨rfl, ⟨n, rfl⟩⟩)
  go_ret
  exact ⟨rfl, by repeat (first | exact Drawn0.refl _ | apply Drawn0.step)⟩

theorem impl_any (a : ByteArray) (w : World) (ha : a.size ≤ 140737488351232) : Calls Try.prog 10 #[.string a] w fun e w' => e = .returned (.bool (matchB a)) ∧ Drawn0 w w' := by
  go_enter Try.func10, Try.ntmps10
  go_wp2_with (go_at_call 16; (with_reducible refine (pub_any a _ ha).mono ?_); rintro e w' ⟨rfl, ⟨n, rfl⟩⟩)
  go_ret
  exact ⟨rfl, by repeat (first | exact Drawn0.refl _ | apply Drawn0.step)⟩

theorem impl_is (a : ByteArray) (r : Bool) (w : World) (ha : a.size ≤ 140737488351232) (H : Hid (matchB a = r)) : Calls Try.prog 10 #[.string a] w fun e w' => e = .returned (.bool r) ∧ Drawn0 w w' := by
  have h := H.out
  subst h
  exact impl_any a w ha

set_option maxHeartbeats 4000000 in
set_option maxRecDepth 100000 in
theorem law_any (a : ByteArray) (w : World) (ha : a.size ≤ 140737488351232) : Calls Try.prog 5 #[.string a] w fun e w' => e = .returned (.bool true) ∧ Below w.heap.size w w' := by
  by_cases c : 2147483647 < a.size
  · have b1 : decide (2147483647 < (a.size : Int)) = true := decide_eq_true (by omega)
    have b2 : decide (2147483647 < a.size) = true := decide_eq_true c
    clear c
    go_enter Try.func5, Try.ntmps5
    go_wp2
    go_ret
    exact ⟨rfl, Below.refl _ _⟩
  · have b1 : decide (2147483647 < (a.size : Int)) = false := decide_eq_false (by omega)
    have b2 : decide (2147483647 < a.size) = false := decide_eq_false c
    obtain ⟨k, hk⟩ := match_spec a (by omega)
    obtain ⟨r, hr⟩ : ∃ r, matchB a = r := ⟨_, rfl⟩
    rw [hr] at hk
    have HK := Lib.hid hk
    have HR := Lib.hid hr
    have H12 := Lib.hid match_12
    have e1 : (r == r) = true := by simp
    have z12 : (⟨#[49, 46, 50]⟩ : ByteArray).size ≤ 140737488351232 := by decide
    clear hk hr c
    go_enter Try.func5, Try.ntmps5
    go_wp2_with (first | (go_at_call 10; first | ((with_reducible refine (impl_is a r _ ha HR).mono ?_); rintro e w' ⟨rfl, ⟨n, rfl⟩⟩) | ((with_reducible refine (impl_is (⟨#[49, 46, 50]⟩ : ByteArray) true _ z12 H12).mono ?_); rintro e w' ⟨rfl, ⟨n, rfl⟩⟩)) | (go_at_call 11; (with_reducible refine (spec_GoVersion.calls k a r _ HK.out).mono ?_); rintro e w1 ⟨rfl, hb⟩))
    go_ret
    refine ⟨rfl, ?_⟩
    have hb' := hb
    rw [World.heap_drewN] at hb'
    exact ((Drawn0.step (Drawn0.refl _) _).below.trans hb').trans ((Drawn0.step (Drawn0.refl _) _).below.mono hb'.size)

end Go.Proofs.Ythgbiopfpjleaaa.Gv
namespace Go.Proofs.Ythgbiopfpjleaaa.fnExactGoVersion
open Go.ChangeShapes Go.WideShapes Go.ChangeAt Go.RowKit
open Go.ChangeMaps (open_string shut_string)
set_option linter.unusedVariables false
theorem own : ownKnob Try.prog.godebug = none := by kernel_rfl
set_option maxRecDepth 100000 in
theorem lifted (os : Os) (started : os.Started) (H : Type) (enc : TypeId × Value → H) :
    ReturnsInHanded {} Try.checked os 5 .any (Rows.fnExactGoVersionSpec.pre6 enc Try.prog Try.f5 Rows.fnExactGoVersionRow.domain false) (Rows.fnExactGoVersionSpec.post enc Try.prog Try.f5 false true false false) := by
  refine returnsInHanded_of_change_sized (C := Try.checked) own started (by kernel_rfl) Try.func5
    (ChangeSpec.witness6 (enc := enc) (C := Try.checked) false ⟨#[], #[.string ByteArray.empty], []⟩ 8 (by kernel_rfl) (by kernel_rfl) (by kernel_rfl) (by kernel_rfl)) ?_
  intro W base args ds gs before hval0 hW hcnd hsz0 _
  have hsz : (DataW.weightsEach Try.prog (Try.f5.params.toList ++ Rows.fnExactGoVersionSpec.plain.varTypes Try.prog) (ds ++ gs)).all (· ≤ reachBytes) = true := hsz0
  have hval : ∀ (j : Nat) t v, Try.f5.params[j]? = some t → args[j]? = some v → Value.okWide Try.prog W .any base t v := hval0
  have hW' := hW
  obtain ⟨p, q, hA0, hV, rfl, hfz, hnd⟩ := hW
  have hA : DataW.TrodAll enc Try.prog W 0 (fun _ => true) true Try.f5.params.toList args.toList ds p := hA0
  rw [Try.params5] at hA hval hsz
  obtain ⟨v0, vs0, d0, ds0, p0, q0, hargs, rfl, rfl, h0, r0⟩ := trodAll_cons hA
  obtain ⟨rfl, rfl, rfl⟩ := trodAll_nil r0
  obtain rfl : args = #[v0] := by cases args; simp_all
  obtain ⟨rfl, rfl⟩ := trodVars_none hV
  obtain ⟨a0, rfl, rfl, rfl, y0⟩ := open_string Try.underlying9 (hval 0 9 v0 rfl rfl) h0
  have w0 : a0.size ≤ 140737488351232 := by
    have z := sized_string hsz (j := 0) (t := 9) rfl rfl
    rw [Array.length_toList] at z
    exact z
  clear hA0 hval0 hsz0 hsz
  refine (Gv.law_any a0 W w0).mono fun e W' ⟨he, bel⟩ => ?_
  subst he
  exact ⟨_, rfl, _, _, _, [], _, [], hW', trodAll_mk1 (shut_bool Try.underlying4 _), (trodAll_cons_mk (shut_string Try.underlying9 y0) trodAll_mk0), rfl, bel.frame _, fun h => by cases h⟩
theorem over : Rows.fnExactGoVersionRow.holds Try.pinned (OpenSpec.ofChange Rows.fnExactGoVersionSpec) :=
  OpenClaim.holds_of_wide 5 Try.f5 rfl rfl rfl rfl rfl rfl rfl ⟨rfl, rfl, rfl, rfl, rfl⟩ rfl rfl rfl rfl rfl (by kernel_rfl) Try.func5 (by kernel_rfl)
    (of_decide_eq_true (by kernel_rfl)) (by unfold Func.isWrapper; first | (rw [if_pos (by decide +kernel)]; kernel_rfl) | (rw [if_neg (by decide +kernel)]; exact ⟨rfl, rfl⟩))
    (fun os started H enc _ => lifted os started H enc)
theorem proved : Rows.FnExactGoVersionSaid := over
#print axioms proved
end Go.Proofs.Ythgbiopfpjleaaa.fnExactGoVersion
namespace Go.Proofs.Ythgbiopfpjleaaa
/-- The row, under a short name, for the claim. -/
theorem fnExactGoVersion_holds : Rows.FnExactGoVersionSaid := fnExactGoVersion.proved
end Go.Proofs.Ythgbiopfpjleaaa
