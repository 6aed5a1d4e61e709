/- What the rows of this seat list of Go's tables, and a world in which they lie; the table of spaces that the walk reads. Conditions: none. -/
import Derived.Test.YtbifcpokkfiagaaDoorRows
import Derived.Test.YtbifcpokkfiagaaDoorOpF
import Derived.PinnedBridge
import Derived.MakeChecks
import Derived.Lib.LaidIn
import Derived.Lib.LaidSlice
import Derived.Lib.LaidTab
import Derived.Handed
import Derived.Deep.DeepWitnessRef
import Derived.WalkKit
import Derived.ProofKit
import Derived.OpenShut
import Derived.ShutString
import Derived.ChangeOld
import Derived.Below
import Derived.SizedLaws
namespace Go.Proofs.YtbifcpokkfiagaaDoor.F
open Go.ChangeShapes Go.WideShapes Go.ChangeAt Go.RowKit Go.Lib
set_option maxRecDepth 100000

theorem own : ownKnob Tryd.prog.godebug = none := by kernel_rfl

abbrev laidL : List (String × DataW Unit) := Rows.fnExactFormatRow.laid

theorem space_eq : (Rows.laid_strings_asciiSpace : DataW Unit) = tabData .u8 Lib.asciiSpaceTab := by kernel_rfl

theorem tab_of (W : World) (hL : laidMet Tryd.prog laidL W) : Tab W := by
  have r0 : VarReads Tryd.prog W "strings.asciiSpace" Rows.laid_strings_asciiSpace := laidMet.reads hL (.tail _ (.tail _ (.tail _ (.head _))))
  rw [space_eq] at r0
  obtain ⟨g, t, cs, fuel, p, hg, hty, hvar, hd⟩ := r0
  obtain rfl : g = 0 := (Option.some.inj ((show Tryd.prog.globalNamed "strings.asciiSpace" = some 0 by kernel_rfl).symm.trans hg)).symm
  obtain rfl : t = 99 := (Option.some.inj ((show (Tryd.prog.globals[(0 : Nat)]?).map (·.type) = some 99 by kernel_rfl).symm.trans hty)).symm
  have hcs := cells_of_tab Tryd.underlying99 Tryd.underlying5 (by kernel_rfl) (by kernel_rfl) hd
  show W.var? _ _ = _
  rw [hvar, ← hcs]

noncomputable def laidWorld (os : Os) : World :=
  let N := (World.settled Tryd.prog os).heap.size
  let w0 := World.holding Tryd.prog os ⟨#[.cells #[.string ⟨#[98, 121, 116, 101, 115, 46, 66, 117, 102, 102, 101, 114, 58, 32, 116, 111, 111, 32, 108, 97, 114, 103, 101]⟩] 149,
    .cells #[.slice (some ⟨N + 2, 0, none⟩) 7 7, .slice none 0 0, .int .i64 2] 115,
    .cells (([9, 13, 1, 32, 133, 101, 160, 5760, 5600, 8192, 8202, 1, 8232, 8233, 1, 8239, 8287, 48, 12288, 12288, 1] : List Int).map fun z => Value.int .u16 z).toArray 118], #[], []⟩
  let put (h : Array Obj) (g : Nat) (cs : Array Value) : Array Obj := h.modify g fun
    | .cells _ t frozen => .cells cs t frozen
    | o => o
  let h1 := put w0.heap 3 (firstTab.map fun z => Value.int .u8 z).toArray
  let h2 := put h1 4 ((List.range 16).flatMap fun i => [Value.int .u8 (accLo i), Value.int .u8 (accHi i)]).toArray
  let h3 := put h2 0 (Lib.asciiSpaceTab.map fun z => Value.int .u8 z).toArray
  let h4 := put h3 1 #[.iface 129 (.pointer (some ⟨N, 0, none⟩))]
  let h5 := put h4 2 #[.pointer (some ⟨N + 1, 0, none⟩)]
  { w0 with heap := h5 }

noncomputable abbrev N0 : Nat := (World.settled Tryd.prog default).heap.size

noncomputable abbrev start (os : Os) (args : Array Value) : World := ((laidWorld os).forCall (fun _ _ => 0) ⟨#[], args, []⟩).memory

theorem pieceA (os : Os) (args : Array Value) : LaidIn Tryd.prog (start os args) [("unicode/utf8.acceptRanges", Rows.laid_unicode_utf8_acceptRanges), ("unicode.White_Space", Rows.laid_unicode_White_Space), ("bytes.ErrTooLarge", Rows.laid_bytes_ErrTooLarge)] [4, 2, N0 + 1, N0 + 2, 1, N0] :=
  LaidIn.of_run [4, 2, N0 + 1, N0 + 2, 1, N0] 8 (by kernel_rfl) (by kernel_rfl) (by kernel_rfl) (by kernel_rfl)
theorem pieceB (os : Os) (args : Array Value) : LaidIn Tryd.prog (start os args) [("strings.asciiSpace", Rows.laid_strings_asciiSpace)] [0] :=
  LaidIn.of_run [0] 8 (by kernel_rfl) (by kernel_rfl) (by kernel_rfl) (by kernel_rfl)
theorem pieceC (os : Os) (args : Array Value) : LaidIn Tryd.prog (start os args) [("unicode/utf8.first", Rows.laid_unicode_utf8_first)] [3] :=
  LaidIn.of_run [3] 8 (by kernel_rfl) (by kernel_rfl) (by kernel_rfl) (by kernel_rfl)

theorem laid_met (os : Os) (args : Array Value) : laidMet Tryd.prog laidL (start os args) :=
  (((pieceA os args).append (pieceB os args) (by kernel_rfl)).append (pieceC os args) (by kernel_rfl)).met

theorem plain_eq (w : World) : laidMetH Tryd.prog laidL w = laidMet Tryd.prog laidL w := MakeChecks.laidMetH_plain _ _ _ (by kernel_rfl)

theorem shaped (os : Os) (args : Array Value) : ((laidWorld os).forCall (fun _ _ => 0) ⟨#[], args, []⟩).Shaped Tryd.checked.prog := World.shaped_of_RefB (by kernel_rfl) (by kernel_rfl)

end Go.Proofs.YtbifcpokkfiagaaDoor.F
