/- What the row FnExactMustQuote lists of Go's tables, and a world in which they lie; what the walk asks of memory. Conditions: none. -/
import Derived.Test.YtkmebbdkiamliaaDoorRows
import Derived.Test.YtkmebbdkiamliaaDoorQd
import Derived.PinnedBridge
import Derived.MakeChecks
import Derived.Lib.LaidIn
import Derived.Lib.LaidSlice
import Derived.Lib.LaidTab
import Derived.Handed
import Derived.Deep.DeepWitnessRef
import Derived.WalkKit
import Derived.ProofKit
import Derived.OpenShut
import Derived.ShutString
import Derived.ChangeOld
import Derived.Below
import Derived.SizedLaws
namespace Go.Proofs.YtkmebbdkiamliaaDoor.MQ
open Go.ChangeShapes Go.WideShapes Go.ChangeAt Go.RowKit Go.Lib
open Go.Proofs.YtkmebbdkiamliaaDoor.Q (MemM Props)
set_option maxRecDepth 100000

theorem own : ownKnob Tryd.prog.godebug = none := by kernel_rfl

abbrev laidL : List (String × DataW Unit) := Rows.fnExactMustQuoteRow.laid

def numsOf : DataW Unit → List Int
  | .agg parts => parts.map fun
    | .lit (.int _ z) => z
    | _ => 0
  | _ => []
def propZ : List Int := numsOf Rows.laid_unicode_properties
theorem prop_eq : (Rows.laid_unicode_properties : DataW Unit) = tabData .u8 propZ := by kernel_rfl
theorem space_eq : (Rows.laid_bytes_asciiSpace : DataW Unit) = tabData .u8 Lib.asciiSpaceTab := by kernel_rfl
theorem prop_len : propZ.length = 256 := by kernel_rfl
theorem prop_bits : ((List.range 127).all fun c => (Go.bits .and .u8 (propZ.getD c 0) 128 != 0) == decide (32 ≤ (c : Int))) = true := by kernel_rfl

theorem mem_of (W : World) (hL : laidMet Tryd.prog laidL W) : MemM propZ W := by
  have r0 : VarReads Tryd.prog W "unicode.properties" Rows.laid_unicode_properties := laidMet.reads hL (.tail _ (.tail _ (.tail _ (.head _))))
  have r1 : VarReads Tryd.prog W "bytes.asciiSpace" Rows.laid_bytes_asciiSpace := laidMet.reads hL (.tail _ (.tail _ (.tail _ (.tail _ (.head _)))))
  rw [prop_eq] at r0
  rw [space_eq] at r1
  refine ⟨?_, ?_⟩
  · intro c hc
    obtain ⟨g, t, cs, fuel, p, hg, hty, hvar, hd⟩ := r0
    obtain rfl : g = 0 := (Option.some.inj ((show Tryd.prog.globalNamed "unicode.properties" = some 0 by kernel_rfl).symm.trans hg)).symm
    obtain rfl : t = 39 := (Option.some.inj ((show (Tryd.prog.globals[(0 : Nat)]?).map (·.type) = some 39 by kernel_rfl).symm.trans hty)).symm
    have hcs := cells_of_tab Tryd.underlying39 Tryd.underlying5 (by kernel_rfl) (by kernel_rfl) hd
    have hv := World.var?_cell hg hvar c
    have hb := List.all_eq_true.mp prop_bits c (List.mem_range.mpr (by omega))
    refine ⟨?_, by simpa using hb⟩
    rw [hv, ← Array.getElem?_toList, hcs]
    have hl : c < propZ.length := by rw [prop_len]; omega
    simp [List.getD, hl]
  · obtain ⟨g, t, cs, fuel, p, hg, hty, hvar, hd⟩ := r1
    obtain rfl : g = 2 := (Option.some.inj ((show Tryd.prog.globalNamed "bytes.asciiSpace" = some 2 by kernel_rfl).symm.trans hg)).symm
    obtain rfl : t = 39 := (Option.some.inj ((show (Tryd.prog.globals[(2 : Nat)]?).map (·.type) = some 39 by kernel_rfl).symm.trans hty)).symm
    have hcs := cells_of_tab Tryd.underlying39 Tryd.underlying5 (by kernel_rfl) (by kernel_rfl) hd
    show W.var? _ _ = _
    rw [hvar, ← hcs]

noncomputable def laidWorld (os : Os) : World :=
  let N := (World.settled Tryd.prog os).heap.size
  let w0 := World.holding Tryd.prog os ⟨#[.cells #[.string ⟨#[105, 110, 118, 97, 108, 105, 100, 32, 115, 121, 110, 116, 97, 120]⟩] 105,
    .cells #[.slice (some ⟨N + 2, 0, none⟩) 7 7, .slice none 0 0, .int .i64 2] 61,
    .cells (([9, 13, 1, 32, 133, 101, 160, 5760, 5600, 8192, 8202, 1, 8232, 8233, 1, 8239, 8287, 48, 12288, 12288, 1] : List Int).map fun z => Value.int .u16 z).toArray 64], #[], []⟩
  let put (h : Array Obj) (g : Nat) (cs : Array Value) : Array Obj := h.modify g fun
    | .cells _ t frozen => .cells cs t frozen
    | o => o
  let h1 := put w0.heap 6 (firstTab.map fun z => Value.int .u8 z).toArray
  let h2 := put h1 7 ((List.range 16).flatMap fun i => [Value.int .u8 (accLo i), Value.int .u8 (accHi i)]).toArray
  let h3 := put h2 2 (Lib.asciiSpaceTab.map fun z => Value.int .u8 z).toArray
  let h4 := put h3 3 #[.iface 86 (.pointer (some ⟨N, 0, none⟩))]
  let h5 := put h4 5 #[.pointer (some ⟨N + 1, 0, none⟩)]
  let h6 := put h5 0 (propZ.map fun z => Value.int .u8 z).toArray
  { w0 with heap := h6 }

noncomputable abbrev N0 : Nat := (World.settled Tryd.prog default).heap.size

noncomputable abbrev start (os : Os) (args : Array Value) : World := ((laidWorld os).forCall (fun _ _ => 0) ⟨#[], args, []⟩).memory

theorem pieceA (os : Os) (args : Array Value) : LaidIn Tryd.prog (start os args) [("unicode/utf8.acceptRanges", Rows.laid_unicode_utf8_acceptRanges), ("strconv.ErrSyntax", Rows.laid_strconv_ErrSyntax), ("unicode.White_Space", Rows.laid_unicode_White_Space)] [7, 3, N0, 5, N0 + 1, N0 + 2] :=
  LaidIn.of_run [7, 3, N0, 5, N0 + 1, N0 + 2] 8 (by kernel_rfl) (by kernel_rfl) (by kernel_rfl) (by kernel_rfl)
theorem pieceB (os : Os) (args : Array Value) : LaidIn Tryd.prog (start os args) [("unicode.properties", Rows.laid_unicode_properties)] [0] :=
  LaidIn.of_run [0] 8 (by kernel_rfl) (by kernel_rfl) (by kernel_rfl) (by kernel_rfl)
theorem pieceC (os : Os) (args : Array Value) : LaidIn Tryd.prog (start os args) [("bytes.asciiSpace", Rows.laid_bytes_asciiSpace)] [2] :=
  LaidIn.of_run [2] 8 (by kernel_rfl) (by kernel_rfl) (by kernel_rfl) (by kernel_rfl)
theorem pieceD (os : Os) (args : Array Value) : LaidIn Tryd.prog (start os args) [("unicode/utf8.first", Rows.laid_unicode_utf8_first)] [6] :=
  LaidIn.of_run [6] 8 (by kernel_rfl) (by kernel_rfl) (by kernel_rfl) (by kernel_rfl)

theorem laid_met (os : Os) (args : Array Value) : laidMet Tryd.prog laidL (start os args) :=
  ((((pieceA os args).append (pieceB os args) (by kernel_rfl)).append (pieceC os args) (by kernel_rfl)).append (pieceD os args) (by kernel_rfl)).met

theorem plain_eq (w : World) : laidMetH Tryd.prog laidL w = laidMet Tryd.prog laidL w := MakeChecks.laidMetH_plain _ _ _ (by kernel_rfl)

theorem shaped (os : Os) (args : Array Value) : ((laidWorld os).forCall (fun _ _ => 0) ⟨#[], args, []⟩).Shaped Tryd.checked.prog := World.shaped_of_RefB (by kernel_rfl) (by kernel_rfl)

end Go.Proofs.YtkmebbdkiamliaaDoor.MQ
