/- For every input the law FnExactMustQuote answers true, and the arguments read afterwards as they read before; the card ties the tables of Go's library that the row lists to the program's text. Conditions: the row lists tables of Go's library as they are laid; nothing else. -/
import Derived.Test.YtkmebbdkiamliaaDoorRows
import Derived.Test.YtkmebbdkiamliaaDoorCards
import Derived.Test.YtkmebbdkiamliaaDoorTie
import Derived.Test.YtkmebbdkiamliaaDoorQd
import Derived.Test.YtkmebbdkiamliaaDoorLawMQ
import Derived.PinnedBridge
import Derived.Handed
import Derived.Deep.DeepWitnessRef
import Derived.WalkKit
import Derived.ProofKit
import Derived.OpenShut
import Derived.ShutString
import Derived.ChangeOld
import Derived.Below
import Derived.SizedLaws
import Derived.SevenTiedAt
namespace Go.Proofs.YtkmebbdkiamliaaDoor.fnExactMustQuote
open Go.ChangeShapes Go.WideShapes Go.ChangeAt Go.RowKit Go.Lib
open Go.ChangeMaps (open_string shut_string)
open Go.Proofs.YtkmebbdkiamliaaDoor.MQ (laidL laidWorld laid_met plain_eq mem_of own)
set_option maxRecDepth 100000

theorem start_ok (os : Os) : Input.okWideB Tryd.checked.prog ((laidWorld os).forCall (fun _ _ => 0) ⟨#[], #[.string ByteArray.empty], []⟩) 4 ⟨#[], #[.string ByteArray.empty], []⟩ = true := by kernel_rfl

theorem witness (os : Os) {H : Type} (enc : TypeId × Value → H) :
    ∃ (w : World) (tape : Tape) (i : Input), w.os = os ∧ (w.forCall tape i).Shaped Tryd.checked.prog ∧ i.vars = [] ∧ Input.okWide Tryd.checked.prog (w.forCall tape i) .any w.heap.size 4 i ∧
      ((Rows.fnExactMustQuoteSpec.pre enc Tryd.checked.prog Tryd.f4 [] false (w.forCall tape i).memory i.args ∧ laidMetH Tryd.prog laidL (w.forCall tape i).memory) ∧ sizedMet enc Tryd.checked.prog Tryd.f4 (OpenSpec.ofChange Rows.fnExactMustQuoteSpec) false (w.forCall tape i).memory i.args) ∧ ({ modest := false } : Assume).holds Tryd.checked.prog (lone (Frame.enter Tryd.checked.prog 4 i.args .normal) [] (w.forCall tape i)) :=
  ⟨laidWorld os, fun _ _ => 0, ⟨#[], #[.string ByteArray.empty], []⟩, rfl, World.shaped_of_RefB (by kernel_rfl) (by kernel_rfl), (Input.okWide_of_okWideB (base := 0) (start_ok os)).1, (Input.okWide_of_okWideB (start_ok os)).2, ⟨⟨ChangeSpec.pre_of_preB (fuel := 8) (by kernel_rfl), by rw [plain_eq]; exact laid_met os _⟩, sizedMet_of_sizedB (fuel := 8) (by kernel_rfl)⟩, by
    simp only [Assume.holds]
    exact ⟨by simp, by simp, fun _ => Modest.zero, by simp, by simp⟩⟩

theorem lifted (os : Os) (started : os.Started) (H : Type) (enc : TypeId × Value → H) :
    ReturnsInHanded {} Tryd.checked os 4 .any (fun w args => (Rows.fnExactMustQuoteSpec.pre enc Tryd.prog Tryd.f4 [] false w args ∧ laidMetH Tryd.prog laidL w) ∧ sizedMet enc Tryd.prog Tryd.f4 (OpenSpec.ofChange Rows.fnExactMustQuoteSpec) false w args)
      (Rows.fnExactMustQuoteSpec.post enc Tryd.prog Tryd.f4 false true false false) := by
  refine returnsInHanded_of_change_and (C := Tryd.checked) (X := fun w _ => laidMetH Tryd.prog laidL w) (fun _ _ _ hh h => h.of_heap hh) own started (by kernel_rfl) Tryd.func4
    (witness os enc) ?_
  intro W base args ds gs before hval0 hW _ _ hL0 _
  have hval : ∀ (j : Nat) t v, Tryd.f4.params[j]? = some t → args[j]? = some v → Value.okWide Tryd.prog W .any base t v := hval0
  have hW' := hW
  obtain ⟨p, q, hA0, hV, rfl, hfz, hnd⟩ := hW
  have hA : DataW.TrodAll enc Tryd.prog W 0 (fun _ => true) true Tryd.f4.params.toList args.toList ds p := hA0
  have hL : laidMet Tryd.prog laidL W := by rw [← plain_eq]; exact hL0
  rw [Tryd.params4] at hA hval
  obtain ⟨v0, vs0, d0, ds0, p0, q0, hargs, rfl, rfl, h0, r0⟩ := trodAll_cons hA
  obtain ⟨rfl, rfl, rfl⟩ := trodAll_nil r0
  obtain rfl : args = #[v0] := by cases args; simp_all
  obtain ⟨rfl, rfl⟩ := trodVars_none hV
  obtain ⟨a0, rfl, rfl, rfl, y0⟩ := open_string Tryd.underlying9 (hval 0 9 v0 rfl rfl) h0
  clear hA0 hval0
  refine (Q.exactMQ_any MQ.propZ a0 W (Lib.hid (mem_of W hL))).mono fun e W' ⟨he, bel⟩ => ?_
  subst he
  exact ⟨_, rfl, _, _, _, [], _, [], hW', trodAll_mk1 (shut_bool Tryd.underlying4 _), (trodAll_cons_mk (shut_string Tryd.underlying9 y0) trodAll_mk0), rfl, bel.frame _, fun h => by cases h⟩

theorem row_holds : Rows.FnExactMustQuoteSaid :=
  OpenClaim.holds_of_wide 4 Tryd.f4 rfl rfl rfl rfl rfl rfl rfl ⟨rfl, rfl, rfl, rfl, rfl⟩ rfl rfl rfl rfl rfl (by kernel_rfl) Tryd.func4 (by kernel_rfl)
    (of_decide_eq_true (by kernel_rfl)) (by unfold Func.isWrapper; first | (rw [if_pos (by decide +kernel)]; kernel_rfl) | (rw [if_neg (by decide +kernel)]; exact ⟨rfl, rfl⟩))
    (fun os started H enc _ => lifted os started H enc)

/-- The tied card. -/
theorem card : Rows.FnExactMustQuoteCardSaid :=
  Claim7.holds_tied_plain_at .later [] [.data, .sentinel, .listed, .data, .data, .pinned] true (true, "7bdbf05362fc0c2527cb558b063b8fdc5db466886484bf538eb808463b14a1f7") false
    row_holds (fun _ h => by cases h) (by kernel_rfl) (fun _ h => by cases h) fnExactMustQuote_row_tie rfl ⟨rfl, rfl⟩ (by kernel_rfl) rfl
    (fun f fn hf hfn => by
      obtain rfl : f = 4 := Option.some.inj ((show Tryd.prog.funcNamed Rows.fnExactMustQuoteRow.func = some 4 by kernel_rfl).symm.trans hf) |>.symm
      obtain rfl : fn = Tryd.f4 := (Option.some.inj (Tryd.func4.symm.trans hfn)).symm
      exact ⟨by kernel_rfl, fun j t ht => by
        rw [Tryd.params4] at ht
        have h3 : t = 9 := by
          rcases j with _ | j
          · simpa using ht.symm
          · simp at ht
        subst h3
        exact (show Tryd.prog.wantsStandIn 9 = false by kernel_rfl)⟩)
    (by kernel_rfl)
#print axioms card
end Go.Proofs.YtkmebbdkiamliaaDoor.fnExactMustQuote
namespace Go.Proofs.YtkmebbdkiamliaaDoor
/-- The card, under a short name, for the claim. -/
theorem fnExactMustQuote_holds : Rows.FnExactMustQuoteCardSaid := fnExactMustQuote.card
end Go.Proofs.YtkmebbdkiamliaaDoor
