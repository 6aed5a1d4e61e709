/- The contracts of the library's functions that this seat's proofs use, laid at this translation by the kit's tools (lay-shelf, lay-plain), cut down to those that are used. -/
import Derived.Shelf.Bytes.SlSearch0
import Derived.Shelf.Bytes.SlSmallAll
import Derived.Shelf.Bytes.SlIndexAt
import Derived.Shelf.Bytes.IndexByte
import Derived.Shelf.Bytes.TrimSpace
import Derived.Test.YtlnmchehnhgfnaaDoorProg
namespace Go.Proofs
open Go.Shelf
def Tryd.lays187_ren : Go.Shelf.Ren := ⟨fun | 187 => 34 | 255 => 47 | n => n, fun | 37 => 37 | 5 => 5 | 3 => 3 | n => n, fun | n => n⟩
theorem Tryd.lays187 : Go.Proofs.Lays.n187 Tryd.prog Tryd.lays187_ren := {
  mixed := by kernel_rfl
  f187 := Tryd.func34.trans (congrArg some (by kernel_rfl))
  f255 := Tryd.func47.trans (congrArg some (by kernel_rfl))
  t3 := Tryd.underlying3
  a3 := Tryd.isAgg3
  z3 := Tryd.sizeOf3
  v3 := Tryd.zeroValue3
  t5 := Tryd.underlying5
  a5 := Tryd.isAgg5
  z5 := Tryd.sizeOf5
  v5 := Tryd.zeroValue5
  t37 := Tryd.underlying37
  a37 := Tryd.isAgg37
  z37 := Tryd.sizeOf37
  v37 := Tryd.zeroValue37 }
def Tryd.laysnb116_ren : Go.Shelf.Ren := ⟨fun | 116 => 37 | 115 => 50 | n => n, fun | 37 => 37 | 4 => 4 | 3 => 3 | 9 => 9 | 5 => 5 | n => n, fun | n => n⟩
theorem Tryd.laysnb116 : Go.Proofs.Lays.nb116 Tryd.prog Tryd.laysnb116_ren := {
  mixed := by kernel_rfl
  f115 := Tryd.func50.trans (congrArg some (by kernel_rfl))
  f116 := Tryd.func37.trans (congrArg some (by kernel_rfl))
  t3 := Tryd.underlying3
  a3 := Tryd.isAgg3
  z3 := Tryd.sizeOf3
  v3 := Tryd.zeroValue3
  t4 := Tryd.underlying4
  a4 := Tryd.isAgg4
  z4 := Tryd.sizeOf4
  v4 := Tryd.zeroValue4
  t9 := Tryd.underlying9
  a9 := Tryd.isAgg9
  z9 := Tryd.sizeOf9
  v9 := Tryd.zeroValue9
  t37 := Tryd.underlying37
  a37 := Tryd.isAgg37
  z37 := Tryd.sizeOf37
  v37 := Tryd.zeroValue37
  t5 := Tryd.underlying5
  a5 := Tryd.isAgg5
  z5 := Tryd.sizeOf5
  v5 := Tryd.zeroValue5 }
/-- bytes.HasPrefix: WHOLE: each argument nil, or of no byte at whatever address, or at an address with its cells. (LAID: no walk: one application.) -/
theorem Tryd.bytes_HasPrefix_all (p1 p2 : Option Addr) (n c m d : Nat) (xs ys : List Int) (w : World) (hx : xs.length = n) (hy : ys.length = m) (hnc : n ≤ c) (h1 : Lib.BytesIn w p1 n xs) (h2 : Lib.BytesIn w p2 m ys) :
    Calls Tryd.prog 37 #[.slice p1 n c, .slice p2 m d] w fun e w' => e = .returned (.bool (Lib.hasPrefix (Lib.bytesOf xs) (Lib.bytesOf ys))) ∧ w' = w := Any.bytes_HasPrefix_all Tryd.laysnb116 p1 p2 n c m d xs ys w hx hy hnc h1 h2
/-- bytes.IndexByte: "IndexByte returns the index of the first instance of c in b, or -1 if c is not present in b.": IT RETURNS 'Lib.indexByte (the bytes of b) c'; the world is as it was. 'xs': the numbers that the slice's cells hold. (LAID: no walk: one application.) -/
theorem Tryd.bytes_IndexByte (b o n c : Nat) (xs : List Int) (cv : Int) (w : World) (hx : xs.length = n) (hc : ∀ i, i < n → w.cell? ⟨b, o + i, none⟩ = some (.int .u8 (xs.getD i 0))) :
    Calls Tryd.prog 34 #[.slice (some ⟨b, o, none⟩) n c, .int .u8 cv] w fun e w' => e = .returned (.int .i64 (Lib.indexByte (Lib.bytesOf xs) cv.toNat.toUInt8)) ∧ w' = w := Any.bytes_IndexByte Tryd.lays187 b o n c xs cv w hx hc
def Tryd.laysbs188_ren : Go.Shelf.Ren := ⟨fun | 188 => 36 | 256 => 48 | 199 => 49 | 293 => 53 | 292 => 52 | 261 => 54 | 327 => 63 | 325 => 61 | 326 => 62 | 311 => 64 | 312 => 65 | 341 => 72 | 342 => 73 | 120 => 74 | n => n, fun | 37 => 37 | 3 => 3 | 0 => 0 | 5 => 5 | 4 => 4 | 40 => 74 | 119 => 75 | 21 => 21 | 51 => 78 | 141 => 80 | 105 => 83 | 196 => 93 | 193 => 90 | 198 => 96 | 49 => 94 | 194 => 91 | 201 => 99 | 226 => 108 | 46 => 105 | 227 => 109 | 139 => 104 | 138 => 103 | n => n, fun | 2 => 0 | 6 => 3 | 3 => 4 | 4 => 5 | n => n⟩
theorem Tryd.laysbs188 : Go.Proofs.Lays.nbs188 Tryd.prog Tryd.laysbs188_ren := {
  mixed := by kernel_rfl
  f120 := Tryd.func74.trans (congrArg some (by kernel_rfl))
  f188 := Tryd.func36.trans (congrArg some (by kernel_rfl))
  f199 := Tryd.func49.trans (congrArg some (by kernel_rfl))
  f256 := Tryd.func48.trans (congrArg some (by kernel_rfl))
  f261 := Tryd.func54.trans (congrArg some (by kernel_rfl))
  f292 := Tryd.func52.trans (congrArg some (by kernel_rfl))
  f293 := Tryd.func53.trans (congrArg some (by kernel_rfl))
  f311 := Tryd.func64.trans (congrArg some (by kernel_rfl))
  f312 := Tryd.func65.trans (congrArg some (by kernel_rfl))
  f325 := Tryd.func61.trans (congrArg some (by kernel_rfl))
  f326 := Tryd.func62.trans (congrArg some (by kernel_rfl))
  f327 := Tryd.func63.trans (congrArg some (by kernel_rfl))
  f341 := Tryd.func72.trans (congrArg some (by kernel_rfl))
  f342 := Tryd.func73.trans (congrArg some (by kernel_rfl))
  t0 := Tryd.underlying0
  a0 := Tryd.isAgg0
  z0 := Tryd.sizeOf0
  v0 := Tryd.zeroValue0
  t3 := Tryd.underlying3
  a3 := Tryd.isAgg3
  z3 := Tryd.sizeOf3
  v3 := Tryd.zeroValue3
  t4 := Tryd.underlying4
  a4 := Tryd.isAgg4
  z4 := Tryd.sizeOf4
  v4 := Tryd.zeroValue4
  t5 := Tryd.underlying5
  a5 := Tryd.isAgg5
  z5 := Tryd.sizeOf5
  v5 := Tryd.zeroValue5
  t21 := Tryd.underlying21
  a21 := Tryd.isAgg21
  z21 := Tryd.sizeOf21
  v21 := Tryd.zeroValue21
  t37 := Tryd.underlying37
  a37 := Tryd.isAgg37
  z37 := Tryd.sizeOf37
  v37 := Tryd.zeroValue37
  t40 := Tryd.underlying74
  a40 := Tryd.isAgg74
  z40 := Tryd.sizeOf74
  v40 := Tryd.zeroValue74
  t46 := Tryd.underlying105
  a46 := Tryd.isAgg105
  z46 := Tryd.sizeOf105
  v46 := Tryd.zeroValue105
  t49 := Tryd.underlying94
  a49 := Tryd.isAgg94
  z49 := Tryd.sizeOf94
  v49 := Tryd.zeroValue94
  t51 := Tryd.underlying78
  a51 := Tryd.isAgg78
  z51 := Tryd.sizeOf78
  v51 := Tryd.zeroValue78
  t105 := Tryd.underlying83
  a105 := Tryd.isAgg83
  z105 := Tryd.sizeOf83
  v105 := Tryd.zeroValue83
  t119 := Tryd.underlying75
  a119 := Tryd.isAgg75
  z119 := Tryd.sizeOf75
  t138 := Tryd.underlying103
  a138 := Tryd.isAgg103
  z138 := Tryd.sizeOf103
  v138 := Tryd.zeroValue103
  t139 := Tryd.underlying104
  a139 := Tryd.isAgg104
  z139 := Tryd.sizeOf104
  v139 := Tryd.zeroValue104
  t141 := Tryd.underlying80
  a141 := Tryd.isAgg80
  z141 := Tryd.sizeOf80
  v141 := Tryd.zeroValue80
  t193 := Tryd.underlying90
  a193 := Tryd.isAgg90
  z193 := Tryd.sizeOf90
  v193 := Tryd.zeroValue90
  t194 := Tryd.underlying91
  a194 := Tryd.isAgg91
  z194 := Tryd.sizeOf91
  v194 := Tryd.zeroValue91
  t196 := Tryd.underlying93
  a196 := Tryd.isAgg93
  z196 := Tryd.sizeOf93
  v196 := Tryd.zeroValue93
  t198 := Tryd.underlying96
  a198 := Tryd.isAgg96
  z198 := Tryd.sizeOf96
  v198 := Tryd.zeroValue96
  t201 := Tryd.underlying99
  a201 := Tryd.isAgg99
  z201 := Tryd.sizeOf99
  v201 := Tryd.zeroValue99
  t226 := Tryd.underlying108
  a226 := Tryd.isAgg108
  z226 := Tryd.sizeOf108
  v226 := Tryd.zeroValue108
  t227 := Tryd.underlying109
  a227 := Tryd.isAgg109
  z227 := Tryd.sizeOf109
  v227 := Tryd.zeroValue109
  g2 := by kernel_rfl
  g3 := by kernel_rfl
  g4 := by kernel_rfl
  g6 := by kernel_rfl
  gNamed := by kernel_rfl }
open Go.RowKit in
/-- bytes.TrimSpace: "TrimSpace returns a subslice of s by slicing off all leading and trailing white space, as defined by Unicode.": ON ASCII BYTES ('hascii': each number below 128): IT RETURNS 'Lib.bytesTrimSpace b o c (the bytes of s)': a slice OF THE ARGUMENT's OWN MEMORY, nil where all is white space; the world is as it was. 'htab': the table bytes.asciiSpace holds its numbers (as strings.TrimSpace's contract asks of its own). (LAID: no walk: one application.) -/
theorem Tryd.bytes_TrimSpace (b o n c : Nat) (xs : List Int) (w : World) (hx : xs.length = n) (hnc : n ≤ c) (hbig : n ≤ 9223372036854775807) (hc : ∀ i, i < n → w.cell? ⟨b, o + i, none⟩ = some (.int .u8 (xs.getD i 0))) (hascii : ∀ i, i < n → 0 ≤ xs.getD i 0 ∧ xs.getD i 0 < 128) (htab : Lib.TabIs Tryd.prog w "bytes.asciiSpace" .u8 Lib.asciiSpaceTab) :
    Calls Tryd.prog 36 #[.slice (some ⟨b, o, none⟩) n c] w fun e w' => e = .returned (Lib.bytesTrimSpace b o c (Lib.bytesOf xs)) ∧ w' = w := Any.bytes_TrimSpace Tryd.laysbs188 b o n c xs w hx hnc hbig hc hascii htab
def Tryd.lays188_ren : Go.Shelf.Ren := ⟨fun | 188 => 36 | 256 => 48 | 199 => 49 | 293 => 53 | 292 => 52 | 261 => 54 | 327 => 63 | 325 => 61 | 326 => 62 | 311 => 64 | 312 => 65 | 341 => 72 | 342 => 73 | 120 => 74 | n => n, fun | 37 => 37 | 3 => 3 | 0 => 0 | 5 => 5 | 4 => 4 | 40 => 74 | 119 => 75 | 21 => 21 | 51 => 78 | 141 => 80 | 105 => 83 | 196 => 93 | 193 => 90 | 198 => 96 | 49 => 94 | 194 => 91 | 201 => 99 | 226 => 108 | 46 => 105 | 227 => 109 | 139 => 104 | 138 => 103 | n => n, fun | 2 => 0 | 6 => 3 | 3 => 4 | 4 => 5 | n => n⟩
theorem Tryd.lays188 : Go.Proofs.Lays.n188 Tryd.prog Tryd.lays188_ren := {
  mixed := by kernel_rfl
  f120 := Tryd.func74.trans (congrArg some (by kernel_rfl))
  f188 := Tryd.func36.trans (congrArg some (by kernel_rfl))
  f199 := Tryd.func49.trans (congrArg some (by kernel_rfl))
  f256 := Tryd.func48.trans (congrArg some (by kernel_rfl))
  f261 := Tryd.func54.trans (congrArg some (by kernel_rfl))
  f292 := Tryd.func52.trans (congrArg some (by kernel_rfl))
  f293 := Tryd.func53.trans (congrArg some (by kernel_rfl))
  f311 := Tryd.func64.trans (congrArg some (by kernel_rfl))
  f312 := Tryd.func65.trans (congrArg some (by kernel_rfl))
  f325 := Tryd.func61.trans (congrArg some (by kernel_rfl))
  f326 := Tryd.func62.trans (congrArg some (by kernel_rfl))
  f327 := Tryd.func63.trans (congrArg some (by kernel_rfl))
  f341 := Tryd.func72.trans (congrArg some (by kernel_rfl))
  f342 := Tryd.func73.trans (congrArg some (by kernel_rfl))
  t0 := Tryd.underlying0
  a0 := Tryd.isAgg0
  z0 := Tryd.sizeOf0
  v0 := Tryd.zeroValue0
  t3 := Tryd.underlying3
  a3 := Tryd.isAgg3
  z3 := Tryd.sizeOf3
  v3 := Tryd.zeroValue3
  t4 := Tryd.underlying4
  a4 := Tryd.isAgg4
  z4 := Tryd.sizeOf4
  v4 := Tryd.zeroValue4
  t5 := Tryd.underlying5
  a5 := Tryd.isAgg5
  z5 := Tryd.sizeOf5
  v5 := Tryd.zeroValue5
  t21 := Tryd.underlying21
  a21 := Tryd.isAgg21
  z21 := Tryd.sizeOf21
  v21 := Tryd.zeroValue21
  t37 := Tryd.underlying37
  a37 := Tryd.isAgg37
  z37 := Tryd.sizeOf37
  v37 := Tryd.zeroValue37
  t40 := Tryd.underlying74
  a40 := Tryd.isAgg74
  z40 := Tryd.sizeOf74
  v40 := Tryd.zeroValue74
  t46 := Tryd.underlying105
  a46 := Tryd.isAgg105
  z46 := Tryd.sizeOf105
  v46 := Tryd.zeroValue105
  t49 := Tryd.underlying94
  a49 := Tryd.isAgg94
  z49 := Tryd.sizeOf94
  v49 := Tryd.zeroValue94
  t51 := Tryd.underlying78
  a51 := Tryd.isAgg78
  z51 := Tryd.sizeOf78
  v51 := Tryd.zeroValue78
  t105 := Tryd.underlying83
  a105 := Tryd.isAgg83
  z105 := Tryd.sizeOf83
  v105 := Tryd.zeroValue83
  t119 := Tryd.underlying75
  a119 := Tryd.isAgg75
  z119 := Tryd.sizeOf75
  t138 := Tryd.underlying103
  a138 := Tryd.isAgg103
  z138 := Tryd.sizeOf103
  v138 := Tryd.zeroValue103
  t139 := Tryd.underlying104
  a139 := Tryd.isAgg104
  z139 := Tryd.sizeOf104
  v139 := Tryd.zeroValue104
  t141 := Tryd.underlying80
  a141 := Tryd.isAgg80
  z141 := Tryd.sizeOf80
  v141 := Tryd.zeroValue80
  t193 := Tryd.underlying90
  a193 := Tryd.isAgg90
  z193 := Tryd.sizeOf90
  v193 := Tryd.zeroValue90
  t194 := Tryd.underlying91
  a194 := Tryd.isAgg91
  z194 := Tryd.sizeOf91
  v194 := Tryd.zeroValue91
  t196 := Tryd.underlying93
  a196 := Tryd.isAgg93
  z196 := Tryd.sizeOf93
  v196 := Tryd.zeroValue93
  t198 := Tryd.underlying96
  a198 := Tryd.isAgg96
  z198 := Tryd.sizeOf96
  v198 := Tryd.zeroValue96
  t201 := Tryd.underlying99
  a201 := Tryd.isAgg99
  z201 := Tryd.sizeOf99
  v201 := Tryd.zeroValue99
  t226 := Tryd.underlying108
  a226 := Tryd.isAgg108
  z226 := Tryd.sizeOf108
  v226 := Tryd.zeroValue108
  t227 := Tryd.underlying109
  a227 := Tryd.isAgg109
  z227 := Tryd.sizeOf109
  v227 := Tryd.zeroValue109
  g2 := by kernel_rfl
  g3 := by kernel_rfl
  g4 := by kernel_rfl
  g6 := by kernel_rfl }
open Go.RowKit in
/-- bytes.TrimSpace AT nil: nil. (LAID: no walk: one application.) -/
theorem Tryd.bytes_TrimSpace_nil (w : World) :
    Calls Tryd.prog 36 #[.slice none 0 0] w fun e w' => e = .returned (.slice none 0 0) ∧ w' = w := Any.bytes_TrimSpace_nil Tryd.lays188 w
end Go.Proofs
