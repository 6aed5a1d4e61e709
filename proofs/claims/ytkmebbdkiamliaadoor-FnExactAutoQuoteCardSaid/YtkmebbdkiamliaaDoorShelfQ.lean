/- The contracts of the library's functions that this seat's proofs use, laid at this translation by the kit's tools (lay-shelf, lay-plain), cut down to those that are used. -/
import Derived.Shelf.Strconv.Quote
import Derived.Test.YtkmebbdkiamliaaDoorProg
namespace Go.Proofs
open Go.Shelf
def Tryd.lays177_ren : Go.Shelf.Ren := ⟨fun | 177 => 15 | 250 => 19 | 289 => 27 | 197 => 34 | 323 => 35 | 260 => 46 | 339 => 47 | 340 => 48 | 242 => 43 | 119 => 49 | 345 => 57 | 346 => 58 | 278 => 56 | n => n, fun | 9 => 9 | 5 => 5 | 4 => 4 | 3 => 3 | 37 => 27 | 21 => 21 | 105 => 49 | 46 => 51 | 119 => 39 | 0 => 0 | 139 => 74 | 138 => 73 | 49 => 62 | 234 => 79 | 131 => 80 | 51 => 38 | 236 => 82 | n => n, fun | 3 => 6 | 4 => 7 | 20 => 8 | 21 => 9 | 22 => 10 | 23 => 11 | 24 => 12 | n => n⟩
theorem Tryd.lays177 : Go.Proofs.Lays.n177 Tryd.prog Tryd.lays177_ren := {
  mixed := by kernel_rfl
  f119 := Tryd.func49.trans (congrArg some (by kernel_rfl))
  f177 := Tryd.func15.trans (congrArg some (by kernel_rfl))
  f197 := Tryd.func34.trans (congrArg some (by kernel_rfl))
  f242 := Tryd.func43.trans (congrArg some (by kernel_rfl))
  f250 := Tryd.func19.trans (congrArg some (by kernel_rfl))
  f260 := Tryd.func46.trans (congrArg some (by kernel_rfl))
  f278 := Tryd.func56.trans (congrArg some (by kernel_rfl))
  f289 := Tryd.func27.trans (congrArg some (by kernel_rfl))
  f323 := Tryd.func35.trans (congrArg some (by kernel_rfl))
  f339 := Tryd.func47.trans (congrArg some (by kernel_rfl))
  f340 := Tryd.func48.trans (congrArg some (by kernel_rfl))
  f345 := Tryd.func57.trans (congrArg some (by kernel_rfl))
  f346 := Tryd.func58.trans (congrArg some (by kernel_rfl))
  t0 := Tryd.underlying0
  a0 := Tryd.isAgg0
  z0 := Tryd.sizeOf0
  v0 := Tryd.zeroValue0
  t3 := Tryd.underlying3
  a3 := Tryd.isAgg3
  z3 := Tryd.sizeOf3
  v3 := Tryd.zeroValue3
  t4 := Tryd.underlying4
  a4 := Tryd.isAgg4
  z4 := Tryd.sizeOf4
  v4 := Tryd.zeroValue4
  t5 := Tryd.underlying5
  a5 := Tryd.isAgg5
  z5 := Tryd.sizeOf5
  v5 := Tryd.zeroValue5
  t9 := Tryd.underlying9
  a9 := Tryd.isAgg9
  z9 := Tryd.sizeOf9
  v9 := Tryd.zeroValue9
  t21 := Tryd.underlying21
  a21 := Tryd.isAgg21
  z21 := Tryd.sizeOf21
  v21 := Tryd.zeroValue21
  t37 := Tryd.underlying27
  a37 := Tryd.isAgg27
  z37 := Tryd.sizeOf27
  v37 := Tryd.zeroValue27
  t46 := Tryd.underlying51
  a46 := Tryd.isAgg51
  z46 := Tryd.sizeOf51
  v46 := Tryd.zeroValue51
  t49 := Tryd.underlying62
  a49 := Tryd.isAgg62
  z49 := Tryd.sizeOf62
  v49 := Tryd.zeroValue62
  t51 := Tryd.underlying38
  a51 := Tryd.isAgg38
  z51 := Tryd.sizeOf38
  v51 := Tryd.zeroValue38
  t105 := Tryd.underlying49
  a105 := Tryd.isAgg49
  z105 := Tryd.sizeOf49
  v105 := Tryd.zeroValue49
  t119 := Tryd.underlying39
  a119 := Tryd.isAgg39
  z119 := Tryd.sizeOf39
  t131 := Tryd.underlying80
  a131 := Tryd.isAgg80
  z131 := Tryd.sizeOf80
  v131 := Tryd.zeroValue80
  t138 := Tryd.underlying73
  a138 := Tryd.isAgg73
  z138 := Tryd.sizeOf73
  v138 := Tryd.zeroValue73
  t139 := Tryd.underlying74
  a139 := Tryd.isAgg74
  z139 := Tryd.sizeOf74
  v139 := Tryd.zeroValue74
  t234 := Tryd.underlying79
  a234 := Tryd.isAgg79
  z234 := Tryd.sizeOf79
  v234 := Tryd.zeroValue79
  t236 := Tryd.underlying82
  a236 := Tryd.isAgg82
  z236 := Tryd.sizeOf82
  v236 := Tryd.zeroValue82
  g3 := by kernel_rfl
  g4 := by kernel_rfl
  g20 := by kernel_rfl
  g21 := by kernel_rfl
  g22 := by kernel_rfl
  g23 := by kernel_rfl
  g24 := by kernel_rfl }
open Go.RowKit in
/-- **strconv.Quote AT EVERY STRING, VALID UTF-8 OR NOT** (of at most some 2^43 bytes: ten bytes may come of one): 'strOfNums (Lib.quoteZ T s)': Derived/Lib/QuoteLoop.lean: a row of Lean a statement of Go. Of what was there nothing has turned. (LAID: no walk: one application.) -/
theorem Tryd.strconv_Quote (T : Lib.PrintTabs) (s : ByteArray) (w : World) (hlen : 10 * s.size + 12 ≤ 140737488355328) (hT : Lib.PrintTabsAt 8 9 10 11 T w) (hU : Lib.Utf8Tabs 6 7 w) :
    Calls Tryd.prog 15 #[.string s] w fun e w' => e = .returned (.string (strOfNums (Lib.quoteZ T s))) ∧ Below w.heap.size w w' := Any.strconv_Quote Tryd.lays177 (by kernel_rfl) T s w hlen hT hU
end Go.Proofs
