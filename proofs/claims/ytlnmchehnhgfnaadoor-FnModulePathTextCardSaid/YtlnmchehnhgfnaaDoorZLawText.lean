/- For every input the law FnModulePathText answers true, and the arguments read afterwards as they read before; the card ties the tables of Go's library that the row lists to the program's text. Conditions: the row lists tables of Go's library as they are laid; nothing else. -/
import Derived.Test.YtlnmchehnhgfnaaDoorRows
import Derived.Test.YtlnmchehnhgfnaaDoorCards
import Derived.Test.YtlnmchehnhgfnaaDoorTie
import Derived.Test.YtlnmchehnhgfnaaDoorZTd
import Derived.Test.YtlnmchehnhgfnaaDoorZOp
import Derived.Test.YtlnmchehnhgfnaaDoorZLawM
import Derived.PinnedBridge
import Derived.Handed
import Derived.Deep.DeepWitnessRef
import Derived.WalkKit
import Derived.ProofKit
import Derived.OpenShut
import Derived.ShutString
import Derived.ChangeOld
import Derived.Below
import Derived.SizedLaws
import Derived.SevenTiedAt
namespace Go.Proofs.YtlnmchehnhgfnaaDoor.fnModulePathText
open Go.ChangeShapes Go.WideShapes Go.ChangeAt Go.RowKit Go.Lib
open Go.ChangeMaps (open_string shut_string)
open Go.Proofs.YtlnmchehnhgfnaaDoor.M (laidL laidWorld laid_met plain_eq tab_of own)
set_option maxRecDepth 100000
theorem start_ok (os : Os) : Input.okWideB Tryd.checked.prog ((laidWorld os).forCall (fun _ _ => 0) ⟨#[], #[.agg #[.string ByteArray.empty, .string ByteArray.empty, .string ByteArray.empty, .slice none 0 0, .slice none 0 0, .slice none 0 0, .slice none 0 0, .slice none 0 0, .slice none 0 0], .bool false], []⟩) 5 ⟨#[], #[.agg #[.string ByteArray.empty, .string ByteArray.empty, .string ByteArray.empty, .slice none 0 0, .slice none 0 0, .slice none 0 0, .slice none 0 0, .slice none 0 0, .slice none 0 0], .bool false], []⟩ = true := by kernel_rfl
theorem witness (os : Os) {H : Type} (enc : TypeId × Value → H) :
    ∃ (w : World) (tape : Tape) (i : Input), w.os = os ∧ (w.forCall tape i).Shaped Tryd.checked.prog ∧ i.vars = [] ∧ Input.okWide Tryd.checked.prog (w.forCall tape i) .any w.heap.size 5 i ∧
      ((Rows.fnModulePathTextSpec.pre enc Tryd.checked.prog Tryd.f5 [] false (w.forCall tape i).memory i.args ∧ laidMetH Tryd.prog laidL (w.forCall tape i).memory) ∧ sizedMet enc Tryd.checked.prog Tryd.f5 (OpenSpec.ofChange Rows.fnModulePathTextSpec) false (w.forCall tape i).memory i.args) ∧ ({ modest := false } : Assume).holds Tryd.checked.prog (lone (Frame.enter Tryd.checked.prog 5 i.args .normal) [] (w.forCall tape i)) :=
  ⟨laidWorld os, fun _ _ => 0, ⟨#[], #[.agg #[.string ByteArray.empty, .string ByteArray.empty, .string ByteArray.empty, .slice none 0 0, .slice none 0 0, .slice none 0 0, .slice none 0 0, .slice none 0 0, .slice none 0 0], .bool false], []⟩, rfl, World.shaped_of_RefB (by kernel_rfl) (by kernel_rfl), (Input.okWide_of_okWideB (base := 0) (start_ok os)).1, (Input.okWide_of_okWideB (start_ok os)).2, ⟨⟨ChangeSpec.pre_of_preB (fuel := 8) (by kernel_rfl), by rw [plain_eq]; exact laid_met os _⟩, sizedMet_of_sizedB (fuel := 8) (by kernel_rfl)⟩, by
    simp only [Assume.holds]
    exact ⟨by simp, by simp, fun _ => Modest.zero, by simp, by simp⟩⟩
theorem lifted (os : Os) (started : os.Started) (H : Type) (enc : TypeId × Value → H) :
    ReturnsInHanded {} Tryd.checked os 5 .any (fun w args => (Rows.fnModulePathTextSpec.pre enc Tryd.prog Tryd.f5 [] false w args ∧ laidMetH Tryd.prog laidL w) ∧ sizedMet enc Tryd.prog Tryd.f5 (OpenSpec.ofChange Rows.fnModulePathTextSpec) false w args)
      (Rows.fnModulePathTextSpec.post enc Tryd.prog Tryd.f5 false true false false) := by
  refine returnsInHanded_of_change_and (C := Tryd.checked) (X := fun w _ => laidMetH Tryd.prog laidL w) (fun _ _ _ hh h => h.of_heap hh) own started (by kernel_rfl) Tryd.func5
    (witness os enc) ?_
  intro W base args ds gs before hval0 hW _ _ hL0 _
  have hval : ∀ (j : Nat) t v, Tryd.f5.params[j]? = some t → args[j]? = some v → Value.okWide Tryd.prog W .any base t v := hval0
  have hW' := hW
  obtain ⟨p, q, hA0, hV, rfl, hfz, hnd⟩ := hW
  have hA : DataW.TrodAll enc Tryd.prog W 0 (fun _ => true) true Tryd.f5.params.toList args.toList ds p := hA0
  have hL : laidMet Tryd.prog laidL W := by rw [← plain_eq]; exact hL0
  rw [Tryd.params5] at hA hval
  obtain ⟨v0, vs0, d0, ds0, p0, q0, hargs, rfl, rfl, h0, r0⟩ := trodAll_cons hA
  obtain ⟨v1, vs1, d1, ds1, p1, q1, rfl, rfl, rfl, h1, r1⟩ := trodAll_cons r0
  obtain ⟨rfl, rfl, rfl⟩ := trodAll_nil r1
  obtain rfl : args = #[v0, v1] := by cases args; simp_all
  obtain ⟨rfl, rfl⟩ := trodVars_none hV
  obtain ⟨b, rfl, rfl, rfl⟩ := open_bool Tryd.underlying4 (hval 1 4 v1 rfl rfl) h1
  obtain ⟨s0, s1, s2, A3, A4, A5, A6, A7, A8, c3, c4, c5, c6, c7, c8, l3, l4, l5, l6, l7, l8, rfl, k3, m3, k4, m4, k5, m5, k6, m6, k7, m7, k8, m8⟩ := M.open_content (hval 0 32 v0 rfl rfl) h0
  clear hval0
  refine (M.textLaw_any s0 s1 s2 A3 A4 A5 A6 A7 A8 c3 c4 c5 c6 c7 c8 l3 l4 l5 l6 l7 l8 b W k3 m3 k4 m4 k5 m5 k6 m6 k7 m7 k8 m8 (Lib.hid (tab_of W hL))).mono fun e W' ⟨he, bel⟩ => ?_
  subst he
  exact ⟨_, rfl, _, _, _, [], _, [], hW', trodAll_mk1 (shut_bool Tryd.underlying4 _), DataW.TrodAll.respare M.kids M.full (by rw [Tryd.params5]; decide) (M.trodAll_below bel hA0) (fun q hq => by simpa using DataW.TrodAll.lt hA0 q hq), rfl, bel.frame _, fun h => by cases h⟩
theorem row_holds : Rows.FnModulePathTextSaid :=
  OpenClaim.holds_of_wide 5 Tryd.f5 rfl rfl rfl rfl rfl rfl rfl ⟨rfl, rfl, rfl, rfl, rfl⟩ rfl rfl rfl rfl rfl (by kernel_rfl) Tryd.func5 (by kernel_rfl)
    (of_decide_eq_true (by kernel_rfl)) (by unfold Func.isWrapper; first | (rw [if_pos (by decide +kernel)]; kernel_rfl) | (rw [if_neg (by decide +kernel)]; exact ⟨rfl, rfl⟩))
    (fun os started H enc _ => lifted os started H enc)
/-- The tied card. -/
theorem card : Rows.FnModulePathTextCardSaid :=
  Claim7.holds_tied_plain_at .later [] [.data, .sentinel, .listed, .data, .pinned] true (true, "4fcd12a8a52cf16050a5045a49dc9138cc58ef1527858e6ee1cacf5f7830bde9") false
    row_holds (fun _ h => by cases h) (by kernel_rfl) (fun _ h => by cases h) fnModulePathText_row_tie rfl ⟨rfl, rfl⟩ (by kernel_rfl) rfl
    (fun f fn hf hfn => by
      obtain rfl : f = 5 := Option.some.inj ((show Tryd.prog.funcNamed Rows.fnModulePathTextRow.func = some 5 by kernel_rfl).symm.trans hf) |>.symm
      obtain rfl : fn = Tryd.f5 := (Option.some.inj (Tryd.func5.symm.trans hfn)).symm
      exact ⟨by kernel_rfl, fun j t ht => by
        rw [Tryd.params5] at ht
        rcases j with _ | _ | j
        · obtain rfl : t = 32 := by simpa using ht.symm
          exact (show Tryd.prog.wantsStandIn 32 = false by kernel_rfl)
        · obtain rfl : t = 4 := by simpa using ht.symm
          exact (show Tryd.prog.wantsStandIn 4 = false by kernel_rfl)
        · simp at ht⟩)
    (by kernel_rfl)
#print axioms card
end Go.Proofs.YtlnmchehnhgfnaaDoor.fnModulePathText
namespace Go.Proofs.YtlnmchehnhgfnaaDoor
/-- The card, under a short name, for the claim. -/
theorem fnModulePathText_holds : Rows.FnModulePathTextCardSaid := fnModulePathText.card
end Go.Proofs.YtlnmchehnhgfnaaDoor
