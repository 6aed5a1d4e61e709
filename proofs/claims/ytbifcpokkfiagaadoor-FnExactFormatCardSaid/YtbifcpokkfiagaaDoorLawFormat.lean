/- For every input the law FnExactFormat answers true, and the arguments read afterwards as they read before; the card ties the tables of Go's library that the row lists to the program's text. Conditions: the row lists tables of Go's library as they are laid; nothing else. -/
import Derived.Test.YtbifcpokkfiagaaDoorRows
import Derived.Test.YtbifcpokkfiagaaDoorCards
import Derived.Test.YtbifcpokkfiagaaDoorTie
import Derived.Test.YtbifcpokkfiagaaDoorLawF
import Derived.PinnedBridge
import Derived.Handed
import Derived.Deep.DeepWitnessRef
import Derived.WalkKit
import Derived.ProofKit
import Derived.OpenShut
import Derived.ShutString
import Derived.ChangeOld
import Derived.Below
import Derived.SizedLaws
import Derived.SevenTiedAt
namespace Go.Proofs.YtbifcpokkfiagaaDoor.fnExactFormat
open Go.ChangeShapes Go.WideShapes Go.ChangeAt Go.RowKit Go.Lib
open Go.ChangeMaps (open_string shut_string)
open Go.Proofs.YtbifcpokkfiagaaDoor.F (laidL laidWorld laid_met plain_eq tab_of own)
set_option maxRecDepth 100000

theorem start_ok (os : Os) : Input.okWideB Tryd.checked.prog ((laidWorld os).forCall (fun _ _ => 0) ⟨#[], #[.slice none 0 0], []⟩) 3 ⟨#[], #[.slice none 0 0], []⟩ = true := by kernel_rfl

theorem witness (os : Os) {H : Type} (enc : TypeId × Value → H) :
    ∃ (w : World) (tape : Tape) (i : Input), w.os = os ∧ (w.forCall tape i).Shaped Tryd.checked.prog ∧ i.vars = [] ∧ Input.okWide Tryd.checked.prog (w.forCall tape i) .any w.heap.size 3 i ∧
      ((Rows.fnExactFormatSpec.pre enc Tryd.checked.prog Tryd.f3 [] false (w.forCall tape i).memory i.args ∧ laidMetH Tryd.prog laidL (w.forCall tape i).memory) ∧ sizedMet enc Tryd.checked.prog Tryd.f3 (OpenSpec.ofChange Rows.fnExactFormatSpec) false (w.forCall tape i).memory i.args) ∧ ({ modest := false } : Assume).holds Tryd.checked.prog (lone (Frame.enter Tryd.checked.prog 3 i.args .normal) [] (w.forCall tape i)) :=
  ⟨laidWorld os, fun _ _ => 0, ⟨#[], #[.slice none 0 0], []⟩, rfl, World.shaped_of_RefB (by kernel_rfl) (by kernel_rfl), (Input.okWide_of_okWideB (base := 0) (start_ok os)).1, (Input.okWide_of_okWideB (start_ok os)).2, ⟨⟨ChangeSpec.pre_of_preB (fuel := 8) (by kernel_rfl), by rw [plain_eq]; exact laid_met os _⟩, sizedMet_of_sizedB (fuel := 8) (by kernel_rfl)⟩, by
    simp only [Assume.holds]
    exact ⟨by simp, by simp, fun _ => Modest.zero, by simp, by simp⟩⟩

theorem lifted (os : Os) (started : os.Started) (H : Type) (enc : TypeId × Value → H) :
    ReturnsInHanded {} Tryd.checked os 3 .any (fun w args => (Rows.fnExactFormatSpec.pre enc Tryd.prog Tryd.f3 [] false w args ∧ laidMetH Tryd.prog laidL w) ∧ sizedMet enc Tryd.prog Tryd.f3 (OpenSpec.ofChange Rows.fnExactFormatSpec) false w args)
      (Rows.fnExactFormatSpec.post enc Tryd.prog Tryd.f3 false true false false) := by
  refine returnsInHanded_of_change_and (C := Tryd.checked) (X := fun w _ => laidMetH Tryd.prog laidL w) (fun _ _ _ hh h => h.of_heap hh) own started (by kernel_rfl) Tryd.func3
    (witness os enc) ?_
  intro W base args ds gs before hval0 hW _ _ hL0 _
  have hval : ∀ (j : Nat) t v, Tryd.f3.params[j]? = some t → args[j]? = some v → Value.okWide Tryd.prog W .any base t v := hval0
  have hW' := hW
  obtain ⟨p, q, hA0, hV, rfl, hfz, hnd⟩ := hW
  have hA : DataW.TrodAll enc Tryd.prog W 0 (fun _ => true) true Tryd.f3.params.toList args.toList ds p := hA0
  have hL : laidMet Tryd.prog laidL W := by rw [← plain_eq]; exact hL0
  rw [Tryd.params3] at hA hval
  obtain ⟨v0, vs0, d0, ds0, p0, q0, hargs, rfl, rfl, h0, r0⟩ := trodAll_cons hA
  obtain ⟨rfl, rfl, rfl⟩ := trodAll_nil r0
  obtain rfl : args = #[v0] := by cases args; simp_all
  obtain ⟨rfl, rfl⟩ := trodVars_none hV
  obtain ⟨A, c, l, rfl, hcl, hC⟩ := F.open_tree (hval 0 22 v0 rfl rfl) h0
  clear hval0
  refine (F.law_is l.length (Lib.hid rfl) (Lib.hid hC) hcl (Lib.hid (tab_of W hL))).mono fun e W' ⟨he, hbel⟩ => ?_
  have bel := hbel.out
  subst he
  exact ⟨_, rfl, _, _, _, [], _, [], hW', trodAll_mk1 (shut_bool Tryd.underlying4 _), DataW.TrodAll.respare F.kids F.full (by rw [Tryd.params3]; decide) (F.trodAll_below bel hA0) (fun q hq => by simpa using DataW.TrodAll.lt hA0 q hq), rfl, bel.frame _, fun h => by cases h⟩

theorem row_holds : Rows.FnExactFormatSaid :=
  OpenClaim.holds_of_wide 3 Tryd.f3 rfl rfl rfl rfl rfl rfl rfl ⟨rfl, rfl, rfl, rfl, rfl⟩ rfl rfl rfl rfl rfl (by kernel_rfl) Tryd.func3 (by kernel_rfl)
    (of_decide_eq_true (by kernel_rfl)) (by unfold Func.isWrapper; first | (rw [if_pos (by decide +kernel)]; kernel_rfl) | (rw [if_neg (by decide +kernel)]; exact ⟨rfl, rfl⟩))
    (fun os started H enc _ => lifted os started H enc)

/-- The tied card. -/
theorem card : Rows.FnExactFormatCardSaid :=
  Claim7.holds_tied_plain_at .later [] [.data, .listed, .sentinel, .data, .pinned] true (true, "b48ac4e221476e4f5cb1164c57f08117ad2bb6e6c123e252d1b6bbcab99fa7ac") true
    row_holds (fun _ h => by cases h) (by kernel_rfl) (fun _ h => by cases h) fnExactFormat_row_tie rfl ⟨rfl, rfl⟩ (by kernel_rfl) rfl
    (fun f fn hf hfn => by
      obtain rfl : f = 3 := Option.some.inj ((show Tryd.prog.funcNamed Rows.fnExactFormatRow.func = some 3 by kernel_rfl).symm.trans hf) |>.symm
      obtain rfl : fn = Tryd.f3 := (Option.some.inj (Tryd.func3.symm.trans hfn)).symm
      exact ⟨by kernel_rfl, fun j t ht => by
        rw [Tryd.params3] at ht
        rcases j with _ | j
        · obtain rfl : t = 22 := by simpa using ht.symm
          exact (show Tryd.prog.wantsStandIn 22 = false by kernel_rfl)
        · simp at ht⟩)
    (by kernel_rfl)
#print axioms card
end Go.Proofs.YtbifcpokkfiagaaDoor.fnExactFormat
namespace Go.Proofs.YtbifcpokkfiagaaDoor
/-- The card, under a short name, for the claim. -/
theorem fnExactFormat_holds : Rows.FnExactFormatCardSaid := fnExactFormat.card
end Go.Proofs.YtbifcpokkfiagaaDoor
