/- For every string the law FnExactAutoQuote answers true, and the string reads afterwards as it read before; the card ties the tables of Go's library that the row lists to the program's text. Conditions: the row lists eight tables of Go's library as they are laid; nothing else. -/
import Derived.Test.YtkmebbdkiamliaaDoorRows
import Derived.Test.YtkmebbdkiamliaaDoorCards
import Derived.Test.YtkmebbdkiamliaaDoorTie
import Derived.Test.YtkmebbdkiamliaaDoorQc
import Derived.PinnedBridge
import Derived.MakeChecks
import Derived.Lib.LaidIn
import Derived.Lib.LaidSlice
import Derived.Handed
import Derived.Deep.DeepWitnessRef
import Derived.WalkKit
import Derived.ProofKit
import Derived.OpenShut
import Derived.ShutString
import Derived.ChangeOld
import Derived.Below
import Derived.SizedLaws
import Derived.SevenTiedAt
namespace Go.Proofs.YtkmebbdkiamliaaDoor.fnExactAutoQuote
open Go.ChangeShapes Go.WideShapes Go.ChangeAt Go.RowKit Go.Lib
open Go.ChangeMaps (open_string shut_string)
open Go.Proofs.YtkmebbdkiamliaaDoor.Q (Mem Props)
set_option maxRecDepth 100000

theorem own : ownKnob Tryd.prog.godebug = none := by kernel_rfl

abbrev laidL : List (String × DataW Unit) := Rows.fnExactAutoQuoteRow.laid

/-! ### what the row lists is what the contracts ask -/

def numsOf : DataW Unit → List Int
  | .agg parts => parts.map fun
    | .lit (.int _ z) => z
    | _ => 0
  | _ => []
def propZ : List Int := numsOf Rows.laid_unicode_properties
theorem prop_eq : (Rows.laid_unicode_properties : DataW Unit) = tabData .u8 propZ := by kernel_rfl
theorem accept_eq : (Rows.laid_unicode_utf8_acceptRanges : DataW Unit) = acceptData := by kernel_rfl
theorem first_eq : Rows.laid_unicode_utf8_first = firstData := Pinned.utf8First_eq
theorem p16_eq : Rows.laid_strconv_isPrint16 = sliceData .u16 goPrintTabs.p16 := Pinned.isPrint16_eq
theorem n16_eq : Rows.laid_strconv_isNotPrint16 = sliceData .u16 goPrintTabs.n16 := Pinned.isNotPrint16_eq
theorem p32_eq : Rows.laid_strconv_isPrint32 = sliceData .u32 goPrintTabs.p32 := Pinned.isPrint32_eq
theorem n32_eq : Rows.laid_strconv_isNotPrint32 = sliceData .u16 goPrintTabs.n32 := Pinned.isNotPrint32_eq
theorem g16_eq : Rows.laid_strconv_isGraphic = sliceData .u16 Pinned.isGraphicZ := by kernel_rfl

theorem prop_len : propZ.length = 256 := by kernel_rfl
theorem prop_bits : ((List.range 127).all fun c => (Go.bits .and .u8 (propZ.getD c 0) 128 != 0) == decide (32 ≤ (c : Int))) = true := by kernel_rfl

theorem mem_of (W : World) (hL : laidMet Tryd.prog laidL W) : Mem propZ goPrintTabs W := by
  have r7 : VarReads Tryd.prog W "unicode/utf8.acceptRanges" Rows.laid_unicode_utf8_acceptRanges := laidMet.reads hL (.head _)
  have r0 : VarReads Tryd.prog W "unicode.properties" Rows.laid_unicode_properties := laidMet.reads hL (.tail _ (.head _))
  have r9 : VarReads Tryd.prog W "strconv.isNotPrint16" Rows.laid_strconv_isNotPrint16 := laidMet.reads hL (.tail _ (.tail _ (.tail _ (.head _))))
  have r11 : VarReads Tryd.prog W "strconv.isNotPrint32" Rows.laid_strconv_isNotPrint32 := laidMet.reads hL (.tail _ (.tail _ (.tail _ (.tail _ (.head _)))))
  have r8 : VarReads Tryd.prog W "strconv.isPrint16" Rows.laid_strconv_isPrint16 := laidMet.reads hL (.tail _ (.tail _ (.tail _ (.tail _ (.tail _ (.head _))))))
  have r10 : VarReads Tryd.prog W "strconv.isPrint32" Rows.laid_strconv_isPrint32 := laidMet.reads hL (.tail _ (.tail _ (.tail _ (.tail _ (.tail _ (.tail _ (.head _)))))))
  have r6 : VarReads Tryd.prog W "unicode/utf8.first" Rows.laid_unicode_utf8_first := laidMet.reads hL (.tail _ (.tail _ (.tail _ (.tail _ (.tail _ (.tail _ (.tail _ (.head _))))))))
  rw [accept_eq] at r7
  rw [prop_eq] at r0
  rw [n16_eq] at r9
  rw [n32_eq] at r11
  rw [p16_eq] at r8
  rw [p32_eq] at r10
  rw [first_eq] at r6
  refine ⟨?_, ?_, ?_⟩
  · intro c hc
    obtain ⟨g, t, cs, fuel, p, hg, hty, hvar, hd⟩ := r0
    obtain rfl : g = 0 := (Option.some.inj ((show Tryd.prog.globalNamed "unicode.properties" = some 0 by kernel_rfl).symm.trans hg)).symm
    obtain rfl : t = 39 := (Option.some.inj ((show (Tryd.prog.globals[(0 : Nat)]?).map (·.type) = some 39 by kernel_rfl).symm.trans hty)).symm
    have hcs := cells_of_tab Tryd.underlying39 Tryd.underlying5 (by kernel_rfl) (by kernel_rfl) hd
    have hv := World.var?_cell hg hvar c
    have hb := List.all_eq_true.mp prop_bits c (List.mem_range.mpr (by omega))
    refine ⟨?_, by simpa using hb⟩
    rw [hv, ← Array.getElem?_toList, hcs]
    have hl : c < propZ.length := by rw [prop_len]; omega
    simp [List.getD, hl]
  · exact printTabs_of_reads (ρ := Tryd.lays177_ren) { Tryd.lays177 with } ⟨by kernel_rfl, by kernel_rfl, by kernel_rfl, by kernel_rfl, by kernel_rfl, by kernel_rfl, by kernel_rfl, by kernel_rfl, by kernel_rfl, by kernel_rfl⟩ r8 r9 r10 r11
  · exact utf8Tabs_of_reads (ρ := Tryd.lays177_ren) { Tryd.lays177 with } ⟨by kernel_rfl, by kernel_rfl, by kernel_rfl, by kernel_rfl, by kernel_rfl, by kernel_rfl, by kernel_rfl⟩ r6 r7

/-! ### the witness: a world in which the tables lie -/

noncomputable def laidWorld (os : Os) : World :=
  let N := (World.settled Tryd.prog os).heap.size
  let T := goPrintTabs
  let w0 := World.holding Tryd.prog os ⟨#[.cells (intCellsOf .u16 Pinned.isGraphicZ) 62, .cells (intCellsOf .u16 T.n16) 62, .cells (intCellsOf .u16 T.n32) 62, .cells (intCellsOf .u16 T.p16) 62, .cells (intCellsOf .u32 T.p32) 38], #[], []⟩
  let put (h : Array Obj) (g : Nat) (cs : Array Value) : Array Obj := h.modify g fun
    | .cells _ t frozen => .cells cs t frozen
    | o => o
  let h1 := put w0.heap 6 (firstTab.map fun z => Value.int .u8 z).toArray
  let h2 := put h1 7 ((List.range 16).flatMap fun i => [Value.int .u8 (accLo i), Value.int .u8 (accHi i)]).toArray
  let h3 := put h2 0 (propZ.map fun z => Value.int .u8 z).toArray
  let h4 := put h3 12 #[.slice (some ⟨N, 0, none⟩) Pinned.isGraphicZ.length Pinned.isGraphicZ.length]
  let h5 := put h4 9 #[.slice (some ⟨N + 1, 0, none⟩) T.n16.length T.n16.length]
  let h6 := put h5 11 #[.slice (some ⟨N + 2, 0, none⟩) T.n32.length T.n32.length]
  let h7 := put h6 8 #[.slice (some ⟨N + 3, 0, none⟩) T.p16.length T.p16.length]
  let h8 := put h7 10 #[.slice (some ⟨N + 4, 0, none⟩) T.p32.length T.p32.length]
  { w0 with heap := h8 }

noncomputable abbrev N0 : Nat := (World.settled Tryd.prog default).heap.size

noncomputable abbrev start (os : Os) (args : Array Value) : World := ((laidWorld os).forCall (fun _ _ => 0) ⟨#[], args, []⟩).memory

theorem pieceA (os : Os) (args : Array Value) : LaidIn Tryd.prog (start os args) [("unicode/utf8.acceptRanges", Rows.laid_unicode_utf8_acceptRanges), ("unicode.properties", Rows.laid_unicode_properties)] [7, 0] :=
  LaidIn.of_run [7, 0] 8 (by kernel_rfl) (by kernel_rfl) (by kernel_rfl) (by kernel_rfl)
theorem pieceG (os : Os) (args : Array Value) : LaidIn Tryd.prog (start os args) [("unicode/utf8.first", Rows.laid_unicode_utf8_first)] [6] :=
  LaidIn.of_run [6] 8 (by kernel_rfl) (by kernel_rfl) (by kernel_rfl) (by kernel_rfl)
theorem pieceB (os : Os) (args : Array Value) : LaidIn Tryd.prog (start os args) [("strconv.isGraphic", Rows.laid_strconv_isGraphic)] [12, N0] := by
  rw [g16_eq]
  exact laidIn_slice (t := 79) (e := 62) (te := 62) Pinned.isGraphicZ N0 (by kernel_rfl) (by kernel_rfl) (by kernel_rfl) (by kernel_rfl) (by kernel_rfl) (by kernel_rfl) (by kernel_rfl) (by kernel_rfl) (of_decide_eq_true (by kernel_rfl)) (of_decide_eq_true (by kernel_rfl))
theorem pieceC (os : Os) (args : Array Value) : LaidIn Tryd.prog (start os args) [("strconv.isNotPrint16", Rows.laid_strconv_isNotPrint16)] [9, N0 + 1] := by
  rw [n16_eq]
  exact laidIn_slice (t := 79) (e := 62) (te := 62) goPrintTabs.n16 (N0 + 1) (by kernel_rfl) (by kernel_rfl) (by kernel_rfl) (by kernel_rfl) (by kernel_rfl) (by kernel_rfl) (by kernel_rfl) (by kernel_rfl) (of_decide_eq_true (by kernel_rfl)) (of_decide_eq_true (by kernel_rfl))
theorem pieceD (os : Os) (args : Array Value) : LaidIn Tryd.prog (start os args) [("strconv.isNotPrint32", Rows.laid_strconv_isNotPrint32)] [11, N0 + 2] := by
  rw [n32_eq]
  exact laidIn_slice (t := 79) (e := 62) (te := 62) goPrintTabs.n32 (N0 + 2) (by kernel_rfl) (by kernel_rfl) (by kernel_rfl) (by kernel_rfl) (by kernel_rfl) (by kernel_rfl) (by kernel_rfl) (by kernel_rfl) (of_decide_eq_true (by kernel_rfl)) (of_decide_eq_true (by kernel_rfl))
theorem pieceE (os : Os) (args : Array Value) : LaidIn Tryd.prog (start os args) [("strconv.isPrint16", Rows.laid_strconv_isPrint16)] [8, N0 + 3] := by
  rw [p16_eq]
  exact laidIn_slice (t := 79) (e := 62) (te := 62) goPrintTabs.p16 (N0 + 3) (by kernel_rfl) (by kernel_rfl) (by kernel_rfl) (by kernel_rfl) (by kernel_rfl) (by kernel_rfl) (by kernel_rfl) (by kernel_rfl) (of_decide_eq_true (by kernel_rfl)) (of_decide_eq_true (by kernel_rfl))
theorem pieceF (os : Os) (args : Array Value) : LaidIn Tryd.prog (start os args) [("strconv.isPrint32", Rows.laid_strconv_isPrint32)] [10, N0 + 4] := by
  rw [p32_eq]
  exact laidIn_slice (t := 82) (e := 38) (te := 38) goPrintTabs.p32 (N0 + 4) (by kernel_rfl) (by kernel_rfl) (by kernel_rfl) (by kernel_rfl) (by kernel_rfl) (by kernel_rfl) (by kernel_rfl) (by kernel_rfl) (of_decide_eq_true (by kernel_rfl)) (of_decide_eq_true (by kernel_rfl))

theorem laid_met (os : Os) (args : Array Value) : laidMet Tryd.prog laidL (start os args) :=
  (((((((pieceA os args).append (pieceB os args) (by kernel_rfl)).append (pieceC os args) (by kernel_rfl)).append (pieceD os args) (by kernel_rfl)).append (pieceE os args) (by kernel_rfl)).append (pieceF os args) (by kernel_rfl)).append (pieceG os args) (by kernel_rfl)).met

theorem plain_eq (w : World) : laidMetH Tryd.prog laidL w = laidMet Tryd.prog laidL w := MakeChecks.laidMetH_plain _ _ _ (by kernel_rfl)

theorem start_ok (os : Os) : Input.okWideB Tryd.checked.prog ((laidWorld os).forCall (fun _ _ => 0) ⟨#[], #[.string ByteArray.empty], []⟩) 3 ⟨#[], #[.string ByteArray.empty], []⟩ = true := by kernel_rfl

theorem witness (os : Os) {H : Type} (enc : TypeId × Value → H) :
    ∃ (w : World) (tape : Tape) (i : Input), w.os = os ∧ (w.forCall tape i).Shaped Tryd.checked.prog ∧ i.vars = [] ∧ Input.okWide Tryd.checked.prog (w.forCall tape i) .any w.heap.size 3 i ∧
      ((Rows.fnExactAutoQuoteSpec.pre enc Tryd.checked.prog Tryd.f3 [] false (w.forCall tape i).memory i.args ∧ laidMetH Tryd.prog laidL (w.forCall tape i).memory) ∧ sizedMet enc Tryd.checked.prog Tryd.f3 (OpenSpec.ofChange Rows.fnExactAutoQuoteSpec) false (w.forCall tape i).memory i.args) ∧ ({ modest := false } : Assume).holds Tryd.checked.prog (lone (Frame.enter Tryd.checked.prog 3 i.args .normal) [] (w.forCall tape i)) :=
  ⟨laidWorld os, fun _ _ => 0, ⟨#[], #[.string ByteArray.empty], []⟩, rfl, World.shaped_of_RefB (by kernel_rfl) (by kernel_rfl), (Input.okWide_of_okWideB (base := 0) (start_ok os)).1, (Input.okWide_of_okWideB (start_ok os)).2, ⟨⟨ChangeSpec.pre_of_preB (fuel := 8) (by kernel_rfl), by rw [plain_eq]; exact laid_met os _⟩, sizedMet_of_sizedB (fuel := 8) (by kernel_rfl)⟩, by
    simp only [Assume.holds]
    exact ⟨by simp, by simp, fun _ => Modest.zero, by simp, by simp⟩⟩

theorem lifted (os : Os) (started : os.Started) (H : Type) (enc : TypeId × Value → H) :
    ReturnsInHanded {} Tryd.checked os 3 .any (fun w args => (Rows.fnExactAutoQuoteSpec.pre enc Tryd.prog Tryd.f3 [] false w args ∧ laidMetH Tryd.prog laidL w) ∧ sizedMet enc Tryd.prog Tryd.f3 (OpenSpec.ofChange Rows.fnExactAutoQuoteSpec) false w args)
      (Rows.fnExactAutoQuoteSpec.post enc Tryd.prog Tryd.f3 false true false false) := by
  refine returnsInHanded_of_change_and (C := Tryd.checked) (X := fun w _ => laidMetH Tryd.prog laidL w) (fun _ _ _ hh h => h.of_heap hh) own started (by kernel_rfl) Tryd.func3
    (witness os enc) ?_
  intro W base args ds gs before hval0 hW _ _ hL0 _
  have hval : ∀ (j : Nat) t v, Tryd.f3.params[j]? = some t → args[j]? = some v → Value.okWide Tryd.prog W .any base t v := hval0
  have hW' := hW
  obtain ⟨p, q, hA0, hV, rfl, hfz, hnd⟩ := hW
  have hA : DataW.TrodAll enc Tryd.prog W 0 (fun _ => true) true Tryd.f3.params.toList args.toList ds p := hA0
  have hL : laidMet Tryd.prog laidL W := by rw [← plain_eq]; exact hL0
  rw [Tryd.params3] at hA hval
  obtain ⟨v0, vs0, d0, ds0, p0, q0, hargs, rfl, rfl, h0, r0⟩ := trodAll_cons hA
  obtain ⟨rfl, rfl, rfl⟩ := trodAll_nil r0
  obtain rfl : args = #[v0] := by cases args; simp_all
  obtain ⟨rfl, rfl⟩ := trodVars_none hV
  obtain ⟨a0, rfl, rfl, rfl, y0⟩ := open_string Tryd.underlying9 (hval 0 9 v0 rfl rfl) h0
  clear hA0 hval0
  refine (Q.autoLaw_any propZ goPrintTabs a0 W (Lib.hid (mem_of W hL))).mono fun e W' ⟨he, bel⟩ => ?_
  subst he
  exact ⟨_, rfl, _, _, _, [], _, [], hW', trodAll_mk1 (shut_bool Tryd.underlying4 _), (trodAll_cons_mk (shut_string Tryd.underlying9 y0) trodAll_mk0), rfl, bel.frame _, fun h => by cases h⟩

theorem row_holds : Rows.FnExactAutoQuoteSaid :=
  OpenClaim.holds_of_wide 3 Tryd.f3 rfl rfl rfl rfl rfl rfl rfl ⟨rfl, rfl, rfl, rfl, rfl⟩ rfl rfl rfl rfl rfl (by kernel_rfl) Tryd.func3 (by kernel_rfl)
    (of_decide_eq_true (by kernel_rfl)) (by unfold Func.isWrapper; first | (rw [if_pos (by decide +kernel)]; kernel_rfl) | (rw [if_neg (by decide +kernel)]; exact ⟨rfl, rfl⟩))
    (fun os started H enc _ => lifted os started H enc)

/-- The tied card. -/
theorem card : Rows.FnExactAutoQuoteCardSaid :=
  Claim7.holds_tied_plain_at .later [] [.data, .data, .pinned, .pinned, .pinned, .pinned, .pinned, .pinned] true (true, "7bdbf05362fc0c2527cb558b063b8fdc5db466886484bf538eb808463b14a1f7") false
    row_holds (fun _ h => by cases h) (by kernel_rfl) (fun _ h => by cases h) fnExactAutoQuote_row_tie rfl ⟨rfl, rfl⟩ (by kernel_rfl) rfl
    (fun f fn hf hfn => by
      obtain rfl : f = 3 := Option.some.inj ((show Tryd.prog.funcNamed Rows.fnExactAutoQuoteRow.func = some 3 by kernel_rfl).symm.trans hf) |>.symm
      obtain rfl : fn = Tryd.f3 := (Option.some.inj (Tryd.func3.symm.trans hfn)).symm
      exact ⟨by kernel_rfl, fun j t ht => by
        rw [Tryd.params3] at ht
        have h3 : t = 9 := by
          rcases j with _ | j
          · simpa using ht.symm
          · simp at ht
        subst h3
        exact (show Tryd.prog.wantsStandIn 9 = false by kernel_rfl)⟩)
    (by kernel_rfl)
#print axioms card
end Go.Proofs.YtkmebbdkiamliaaDoor.fnExactAutoQuote
namespace Go.Proofs.YtkmebbdkiamliaaDoor
/-- The card, under a short name, for the claim. -/
theorem fnExactAutoQuote_holds : Rows.FnExactAutoQuoteCardSaid := fnExactAutoQuote.card
end Go.Proofs.YtkmebbdkiamliaaDoor
