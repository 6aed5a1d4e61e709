/- The contracts of the library's functions that this seat's proofs use, laid at this translation by the kit's tools (lay-shelf, lay-plain), cut down to those that are used. -/
import Derived.Shelf.Bytes.SlSearch0
import Derived.Shelf.Bytes.SlSmallAll
import Derived.Shelf.Bytes.SlIndexAt
import Derived.Shelf.Bytes.IndexByte
import Derived.Shelf.Bytes.TrimSpace
import Derived.Test.YtkmebbdkiamliaaDoorProg
namespace Go.Proofs
open Go.Shelf
def Tryd.lays187_ren : Go.Shelf.Ren := ⟨fun | 187 => 20 | 255 => 28 | n => n, fun | 37 => 27 | 5 => 5 | 3 => 3 | n => n, fun | n => n⟩
theorem Tryd.lays187 : Go.Proofs.Lays.n187 Tryd.prog Tryd.lays187_ren := {
  mixed := by kernel_rfl
  f187 := Tryd.func20.trans (congrArg some (by kernel_rfl))
  f255 := Tryd.func28.trans (congrArg some (by kernel_rfl))
  t3 := Tryd.underlying3
  a3 := Tryd.isAgg3
  z3 := Tryd.sizeOf3
  v3 := Tryd.zeroValue3
  t5 := Tryd.underlying5
  a5 := Tryd.isAgg5
  z5 := Tryd.sizeOf5
  v5 := Tryd.zeroValue5
  t37 := Tryd.underlying27
  a37 := Tryd.isAgg27
  z37 := Tryd.sizeOf27
  v37 := Tryd.zeroValue27 }
def Tryd.laysnb116_ren : Go.Shelf.Ren := ⟨fun | 116 => 23 | 115 => 31 | n => n, fun | 37 => 27 | 4 => 4 | 3 => 3 | 9 => 9 | 5 => 5 | n => n, fun | n => n⟩
theorem Tryd.laysnb116 : Go.Proofs.Lays.nb116 Tryd.prog Tryd.laysnb116_ren := {
  mixed := by kernel_rfl
  f115 := Tryd.func31.trans (congrArg some (by kernel_rfl))
  f116 := Tryd.func23.trans (congrArg some (by kernel_rfl))
  t3 := Tryd.underlying3
  a3 := Tryd.isAgg3
  z3 := Tryd.sizeOf3
  v3 := Tryd.zeroValue3
  t4 := Tryd.underlying4
  a4 := Tryd.isAgg4
  z4 := Tryd.sizeOf4
  v4 := Tryd.zeroValue4
  t9 := Tryd.underlying9
  a9 := Tryd.isAgg9
  z9 := Tryd.sizeOf9
  v9 := Tryd.zeroValue9
  t37 := Tryd.underlying27
  a37 := Tryd.isAgg27
  z37 := Tryd.sizeOf27
  v37 := Tryd.zeroValue27
  t5 := Tryd.underlying5
  a5 := Tryd.isAgg5
  z5 := Tryd.sizeOf5
  v5 := Tryd.zeroValue5 }
/-- bytes.HasPrefix: WHOLE: each argument nil, or of no byte at whatever address, or at an address with its cells. (LAID: no walk: one application.) -/
theorem Tryd.bytes_HasPrefix_all (p1 p2 : Option Addr) (n c m d : Nat) (xs ys : List Int) (w : World) (hx : xs.length = n) (hy : ys.length = m) (hnc : n ≤ c) (h1 : Lib.BytesIn w p1 n xs) (h2 : Lib.BytesIn w p2 m ys) :
    Calls Tryd.prog 23 #[.slice p1 n c, .slice p2 m d] w fun e w' => e = .returned (.bool (Lib.hasPrefix (Lib.bytesOf xs) (Lib.bytesOf ys))) ∧ w' = w := Any.bytes_HasPrefix_all Tryd.laysnb116 p1 p2 n c m d xs ys w hx hy hnc h1 h2
/-- bytes.IndexByte: "IndexByte returns the index of the first instance of c in b, or -1 if c is not present in b.": IT RETURNS 'Lib.indexByte (the bytes of b) c'; the world is as it was. 'xs': the numbers that the slice's cells hold. (LAID: no walk: one application.) -/
theorem Tryd.bytes_IndexByte (b o n c : Nat) (xs : List Int) (cv : Int) (w : World) (hx : xs.length = n) (hc : ∀ i, i < n → w.cell? ⟨b, o + i, none⟩ = some (.int .u8 (xs.getD i 0))) :
    Calls Tryd.prog 20 #[.slice (some ⟨b, o, none⟩) n c, .int .u8 cv] w fun e w' => e = .returned (.int .i64 (Lib.indexByte (Lib.bytesOf xs) cv.toNat.toUInt8)) ∧ w' = w := Any.bytes_IndexByte Tryd.lays187 b o n c xs cv w hx hc
def Tryd.laysbs188_ren : Go.Shelf.Ren := ⟨fun | 188 => 22 | 256 => 29 | 199 => 30 | 293 => 37 | 292 => 36 | 261 => 38 | 327 => 52 | 325 => 50 | 326 => 51 | 311 => 44 | 312 => 45 | 341 => 59 | 342 => 60 | 120 => 61 | n => n, fun | 37 => 27 | 3 => 3 | 0 => 0 | 5 => 5 | 4 => 4 | 40 => 28 | 119 => 39 | 21 => 21 | 51 => 38 | 141 => 47 | 105 => 49 | 196 => 61 | 193 => 58 | 198 => 64 | 49 => 62 | 194 => 59 | 201 => 67 | 226 => 77 | 46 => 51 | 227 => 78 | 139 => 74 | 138 => 73 | n => n, fun | 2 => 2 | 6 => 5 | 3 => 6 | 4 => 7 | n => n⟩
theorem Tryd.laysbs188 : Go.Proofs.Lays.nbs188 Tryd.prog Tryd.laysbs188_ren := {
  mixed := by kernel_rfl
  f120 := Tryd.func61.trans (congrArg some (by kernel_rfl))
  f188 := Tryd.func22.trans (congrArg some (by kernel_rfl))
  f199 := Tryd.func30.trans (congrArg some (by kernel_rfl))
  f256 := Tryd.func29.trans (congrArg some (by kernel_rfl))
  f261 := Tryd.func38.trans (congrArg some (by kernel_rfl))
  f292 := Tryd.func36.trans (congrArg some (by kernel_rfl))
  f293 := Tryd.func37.trans (congrArg some (by kernel_rfl))
  f311 := Tryd.func44.trans (congrArg some (by kernel_rfl))
  f312 := Tryd.func45.trans (congrArg some (by kernel_rfl))
  f325 := Tryd.func50.trans (congrArg some (by kernel_rfl))
  f326 := Tryd.func51.trans (congrArg some (by kernel_rfl))
  f327 := Tryd.func52.trans (congrArg some (by kernel_rfl))
  f341 := Tryd.func59.trans (congrArg some (by kernel_rfl))
  f342 := Tryd.func60.trans (congrArg some (by kernel_rfl))
  t0 := Tryd.underlying0
  a0 := Tryd.isAgg0
  z0 := Tryd.sizeOf0
  v0 := Tryd.zeroValue0
  t3 := Tryd.underlying3
  a3 := Tryd.isAgg3
  z3 := Tryd.sizeOf3
  v3 := Tryd.zeroValue3
  t4 := Tryd.underlying4
  a4 := Tryd.isAgg4
  z4 := Tryd.sizeOf4
  v4 := Tryd.zeroValue4
  t5 := Tryd.underlying5
  a5 := Tryd.isAgg5
  z5 := Tryd.sizeOf5
  v5 := Tryd.zeroValue5
  t21 := Tryd.underlying21
  a21 := Tryd.isAgg21
  z21 := Tryd.sizeOf21
  v21 := Tryd.zeroValue21
  t37 := Tryd.underlying27
  a37 := Tryd.isAgg27
  z37 := Tryd.sizeOf27
  v37 := Tryd.zeroValue27
  t40 := Tryd.underlying28
  a40 := Tryd.isAgg28
  z40 := Tryd.sizeOf28
  v40 := Tryd.zeroValue28
  t46 := Tryd.underlying51
  a46 := Tryd.isAgg51
  z46 := Tryd.sizeOf51
  v46 := Tryd.zeroValue51
  t49 := Tryd.underlying62
  a49 := Tryd.isAgg62
  z49 := Tryd.sizeOf62
  v49 := Tryd.zeroValue62
  t51 := Tryd.underlying38
  a51 := Tryd.isAgg38
  z51 := Tryd.sizeOf38
  v51 := Tryd.zeroValue38
  t105 := Tryd.underlying49
  a105 := Tryd.isAgg49
  z105 := Tryd.sizeOf49
  v105 := Tryd.zeroValue49
  t119 := Tryd.underlying39
  a119 := Tryd.isAgg39
  z119 := Tryd.sizeOf39
  t138 := Tryd.underlying73
  a138 := Tryd.isAgg73
  z138 := Tryd.sizeOf73
  v138 := Tryd.zeroValue73
  t139 := Tryd.underlying74
  a139 := Tryd.isAgg74
  z139 := Tryd.sizeOf74
  v139 := Tryd.zeroValue74
  t141 := Tryd.underlying47
  a141 := Tryd.isAgg47
  z141 := Tryd.sizeOf47
  v141 := Tryd.zeroValue47
  t193 := Tryd.underlying58
  a193 := Tryd.isAgg58
  z193 := Tryd.sizeOf58
  v193 := Tryd.zeroValue58
  t194 := Tryd.underlying59
  a194 := Tryd.isAgg59
  z194 := Tryd.sizeOf59
  v194 := Tryd.zeroValue59
  t196 := Tryd.underlying61
  a196 := Tryd.isAgg61
  z196 := Tryd.sizeOf61
  v196 := Tryd.zeroValue61
  t198 := Tryd.underlying64
  a198 := Tryd.isAgg64
  z198 := Tryd.sizeOf64
  v198 := Tryd.zeroValue64
  t201 := Tryd.underlying67
  a201 := Tryd.isAgg67
  z201 := Tryd.sizeOf67
  v201 := Tryd.zeroValue67
  t226 := Tryd.underlying77
  a226 := Tryd.isAgg77
  z226 := Tryd.sizeOf77
  v226 := Tryd.zeroValue77
  t227 := Tryd.underlying78
  a227 := Tryd.isAgg78
  z227 := Tryd.sizeOf78
  v227 := Tryd.zeroValue78
  g2 := by kernel_rfl
  g3 := by kernel_rfl
  g4 := by kernel_rfl
  g6 := by kernel_rfl
  gNamed := by kernel_rfl }
open Go.RowKit in
/-- bytes.TrimSpace: "TrimSpace returns a subslice of s by slicing off all leading and trailing white space, as defined by Unicode.": ON ASCII BYTES ('hascii': each number below 128): IT RETURNS 'Lib.bytesTrimSpace b o c (the bytes of s)': a slice OF THE ARGUMENT's OWN MEMORY, nil where all is white space; the world is as it was. 'htab': the table bytes.asciiSpace holds its numbers (as strings.TrimSpace's contract asks of its own). (LAID: no walk: one application.) -/
theorem Tryd.bytes_TrimSpace (b o n c : Nat) (xs : List Int) (w : World) (hx : xs.length = n) (hnc : n ≤ c) (hbig : n ≤ 9223372036854775807) (hc : ∀ i, i < n → w.cell? ⟨b, o + i, none⟩ = some (.int .u8 (xs.getD i 0))) (hascii : ∀ i, i < n → 0 ≤ xs.getD i 0 ∧ xs.getD i 0 < 128) (htab : Lib.TabIs Tryd.prog w "bytes.asciiSpace" .u8 Lib.asciiSpaceTab) :
    Calls Tryd.prog 22 #[.slice (some ⟨b, o, none⟩) n c] w fun e w' => e = .returned (Lib.bytesTrimSpace b o c (Lib.bytesOf xs)) ∧ w' = w := Any.bytes_TrimSpace Tryd.laysbs188 b o n c xs w hx hnc hbig hc hascii htab
def Tryd.lays188_ren : Go.Shelf.Ren := ⟨fun | 188 => 22 | 256 => 29 | 199 => 30 | 293 => 37 | 292 => 36 | 261 => 38 | 327 => 52 | 325 => 50 | 326 => 51 | 311 => 44 | 312 => 45 | 341 => 59 | 342 => 60 | 120 => 61 | n => n, fun | 37 => 27 | 3 => 3 | 0 => 0 | 5 => 5 | 4 => 4 | 40 => 28 | 119 => 39 | 21 => 21 | 51 => 38 | 141 => 47 | 105 => 49 | 196 => 61 | 193 => 58 | 198 => 64 | 49 => 62 | 194 => 59 | 201 => 67 | 226 => 77 | 46 => 51 | 227 => 78 | 139 => 74 | 138 => 73 | n => n, fun | 2 => 2 | 6 => 5 | 3 => 6 | 4 => 7 | n => n⟩
theorem Tryd.lays188 : Go.Proofs.Lays.n188 Tryd.prog Tryd.lays188_ren := {
  mixed := by kernel_rfl
  f120 := Tryd.func61.trans (congrArg some (by kernel_rfl))
  f188 := Tryd.func22.trans (congrArg some (by kernel_rfl))
  f199 := Tryd.func30.trans (congrArg some (by kernel_rfl))
  f256 := Tryd.func29.trans (congrArg some (by kernel_rfl))
  f261 := Tryd.func38.trans (congrArg some (by kernel_rfl))
  f292 := Tryd.func36.trans (congrArg some (by kernel_rfl))
  f293 := Tryd.func37.trans (congrArg some (by kernel_rfl))
  f311 := Tryd.func44.trans (congrArg some (by kernel_rfl))
  f312 := Tryd.func45.trans (congrArg some (by kernel_rfl))
  f325 := Tryd.func50.trans (congrArg some (by kernel_rfl))
  f326 := Tryd.func51.trans (congrArg some (by kernel_rfl))
  f327 := Tryd.func52.trans (congrArg some (by kernel_rfl))
  f341 := Tryd.func59.trans (congrArg some (by kernel_rfl))
  f342 := Tryd.func60.trans (congrArg some (by kernel_rfl))
  t0 := Tryd.underlying0
  a0 := Tryd.isAgg0
  z0 := Tryd.sizeOf0
  v0 := Tryd.zeroValue0
  t3 := Tryd.underlying3
  a3 := Tryd.isAgg3
  z3 := Tryd.sizeOf3
  v3 := Tryd.zeroValue3
  t4 := Tryd.underlying4
  a4 := Tryd.isAgg4
  z4 := Tryd.sizeOf4
  v4 := Tryd.zeroValue4
  t5 := Tryd.underlying5
  a5 := Tryd.isAgg5
  z5 := Tryd.sizeOf5
  v5 := Tryd.zeroValue5
  t21 := Tryd.underlying21
  a21 := Tryd.isAgg21
  z21 := Tryd.sizeOf21
  v21 := Tryd.zeroValue21
  t37 := Tryd.underlying27
  a37 := Tryd.isAgg27
  z37 := Tryd.sizeOf27
  v37 := Tryd.zeroValue27
  t40 := Tryd.underlying28
  a40 := Tryd.isAgg28
  z40 := Tryd.sizeOf28
  v40 := Tryd.zeroValue28
  t46 := Tryd.underlying51
  a46 := Tryd.isAgg51
  z46 := Tryd.sizeOf51
  v46 := Tryd.zeroValue51
  t49 := Tryd.underlying62
  a49 := Tryd.isAgg62
  z49 := Tryd.sizeOf62
  v49 := Tryd.zeroValue62
  t51 := Tryd.underlying38
  a51 := Tryd.isAgg38
  z51 := Tryd.sizeOf38
  v51 := Tryd.zeroValue38
  t105 := Tryd.underlying49
  a105 := Tryd.isAgg49
  z105 := Tryd.sizeOf49
  v105 := Tryd.zeroValue49
  t119 := Tryd.underlying39
  a119 := Tryd.isAgg39
  z119 := Tryd.sizeOf39
  t138 := Tryd.underlying73
  a138 := Tryd.isAgg73
  z138 := Tryd.sizeOf73
  v138 := Tryd.zeroValue73
  t139 := Tryd.underlying74
  a139 := Tryd.isAgg74
  z139 := Tryd.sizeOf74
  v139 := Tryd.zeroValue74
  t141 := Tryd.underlying47
  a141 := Tryd.isAgg47
  z141 := Tryd.sizeOf47
  v141 := Tryd.zeroValue47
  t193 := Tryd.underlying58
  a193 := Tryd.isAgg58
  z193 := Tryd.sizeOf58
  v193 := Tryd.zeroValue58
  t194 := Tryd.underlying59
  a194 := Tryd.isAgg59
  z194 := Tryd.sizeOf59
  v194 := Tryd.zeroValue59
  t196 := Tryd.underlying61
  a196 := Tryd.isAgg61
  z196 := Tryd.sizeOf61
  v196 := Tryd.zeroValue61
  t198 := Tryd.underlying64
  a198 := Tryd.isAgg64
  z198 := Tryd.sizeOf64
  v198 := Tryd.zeroValue64
  t201 := Tryd.underlying67
  a201 := Tryd.isAgg67
  z201 := Tryd.sizeOf67
  v201 := Tryd.zeroValue67
  t226 := Tryd.underlying77
  a226 := Tryd.isAgg77
  z226 := Tryd.sizeOf77
  v226 := Tryd.zeroValue77
  t227 := Tryd.underlying78
  a227 := Tryd.isAgg78
  z227 := Tryd.sizeOf78
  v227 := Tryd.zeroValue78
  g2 := by kernel_rfl
  g3 := by kernel_rfl
  g4 := by kernel_rfl
  g6 := by kernel_rfl }
open Go.RowKit in
/-- bytes.TrimSpace AT nil: nil. (LAID: no walk: one application.) -/
theorem Tryd.bytes_TrimSpace_nil (w : World) :
    Calls Tryd.prog 22 #[.slice none 0 0] w fun e w' => e = .returned (.slice none 0 0) ∧ w' = w := Any.bytes_TrimSpace_nil Tryd.lays188 w
end Go.Proofs
