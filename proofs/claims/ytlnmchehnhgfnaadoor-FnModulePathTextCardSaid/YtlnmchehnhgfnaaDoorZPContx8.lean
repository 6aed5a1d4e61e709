/- Functions of the program and their contracts, as the print writes them, cut to what this claim uses. -/
import Derived.Test.YtlnmchehnhgfnaaDoorZPContx0
import Derived.Test.YtlnmchehnhgfnaaDoorZPContx6
import Derived.Test.YtlnmchehnhgfnaaDoorZPContx7
namespace Go.Proofs.YtlnmchehnhgfnaaDoor.PCont
open Go.RowKit Go.Proofs.YtlnmchehnhgfnaaDoorW.PrintWords Go.Proofs.YtlnmchehnhgfnaaDoorW.PrintLast Go.Proofs.YtlnmchehnhgfnaaDoorW.PrintMore
attribute [local go_sem] max2_int min2_int max_two min_two max_three min_three max_four min_four max_six   -- for this text's walks alone
set_option linter.unusedVariables false
set_option linter.unusedSimpArgs false
mutual
def spec_Text.j0 : Nat → Bool → List ByteArray → ByteArray → ByteArray → ByteArray → List (S46) → List (S48) → List (S50) → List (S53) → List ByteArray → List ByteArray → Option (ByteArray)
 | 0, _, _, _, _, _, _, _, _, _, _, _ => none
 | k + 1, x1, x5, x254000, x254001, x254002, x254003, x254004, x254005, x254006, x254007, x254008 => if x254002.toList = ([] : List UInt8) then (spec_Text.j1 k x1 x5 x254000 x254001 x254002 x254003 x254004 x254005 x254006 x254007 x254008) else (if 10 + x254002.size ≤ 9223372036854775807 then (if ((⟨#[116, 111, 111, 108, 99, 104, 97, 105, 110, 32]⟩ : ByteArray) ++ x254002).size + 1 ≤ 9223372036854775807 then (if x5.length < 8796093022208 then (spec_Text.j1 k x1 (x5 ++ [((⟨#[116, 111, 111, 108, 99, 104, 97, 105, 110, 32]⟩ : ByteArray) ++ x254002) ++ (⟨#[10]⟩ : ByteArray)]) x254000 x254001 x254002 x254003 x254004 x254005 x254006 x254007 x254008) else (none)) else (none)) else (none))
def spec_Text.j1 : Nat → Bool → List ByteArray → ByteArray → ByteArray → ByteArray → List (S46) → List (S48) → List (S50) → List (S53) → List ByteArray → List ByteArray → Option (ByteArray)
 | 0, _, _, _, _, _, _, _, _, _, _, _ => none
 | k + 1, x1, x5, x254000, x254001, x254002, x254003, x254004, x254005, x254006, x254007, x254008 => spec_Text.l0 k x1 x5 (([] : List (S57))) x254003 (x254003.length : Int) 0 x254000 x254001 x254002 x254003 x254004 x254005 x254006 x254007 x254008
def spec_Text.l0 : Nat → Bool → List ByteArray → List (S57) → List (S46) → Int → Int → ByteArray → ByteArray → ByteArray → List (S46) → List (S48) → List (S50) → List (S53) → List ByteArray → List ByteArray → Option (ByteArray)
 | 0, _, _, _, _, _, _, _, _, _, _, _, _, _, _, _ => none
 | k + 1, x1, x5, x6, x49, x50, x51, x254000, x254001, x254002, x254003, x254004, x254005, x254006, x254007, x254008 => if x51 < x50 then (if 0 ≤ x51 then (if x51 < (x49.length : Int) then ((spec_RequireText.f ((rd_T46 x49 x51).f0) ((rd_T46 x49 x51).f1) ((rd_T46 x49 x51).f2)).bind fun t271 => (if x6.length < 4398046511104 then (spec_Text.l0 k x1 x5 (x6 ++ [(⟨(⟨#[]⟩ : ByteArray), t271⟩ : S57)]) x49 x50 (wrap64 (x51 + 1)) x254000 x254001 x254002 x254003 x254004 x254005 x254006 x254007 x254008) else (none))) else (none)) else (none)) else ((spec_section.f k (⟨#[114, 101, 113, 117, 105, 114, 101]⟩ : ByteArray) x6 x1).bind fun t275 => (if x5.length + t275.length < 8796093022208 then (spec_Text.l1 k x1 (x5 ++ t275) ([] : List (S57)) x254004 (x254004.length : Int) 0 x254000 x254001 x254002 x254003 x254004 x254005 x254006 x254007 x254008) else (none)))
def spec_Text.l1 : Nat → Bool → List ByteArray → List (S57) → List (S48) → Int → Int → ByteArray → ByteArray → ByteArray → List (S46) → List (S48) → List (S50) → List (S53) → List ByteArray → List ByteArray → Option (ByteArray)
 | 0, _, _, _, _, _, _, _, _, _, _, _, _, _, _, _ => none
 | k + 1, x1, x5, x6, x68, x69, x70, x254000, x254001, x254002, x254003, x254004, x254005, x254006, x254007, x254008 => if x70 < x69 then (if 0 ≤ x70 then (if x70 < (x68.length : Int) then ((spec_VersionText.f ((rd_T48 x68 x70).f0) ((rd_T48 x68 x70).f1)).bind fun t283 => (if x6.length < 4398046511104 then (spec_Text.l1 k x1 x5 (x6 ++ [(⟨(⟨#[]⟩ : ByteArray), t283⟩ : S57)]) x68 x69 (wrap64 (x70 + 1)) x254000 x254001 x254002 x254003 x254004 x254005 x254006 x254007 x254008) else (none))) else (none)) else (none)) else ((spec_section.f k (⟨#[101, 120, 99, 108, 117, 100, 101]⟩ : ByteArray) x6 x1).bind fun t287 => (if x5.length + t287.length < 8796093022208 then (spec_Text.l2 k x1 (x5 ++ t287) ([] : List (S57)) x254005 (x254005.length : Int) 0 x254000 x254001 x254002 x254003 x254004 x254005 x254006 x254007 x254008) else (none)))
def spec_Text.l2 : Nat → Bool → List ByteArray → List (S57) → List (S50) → Int → Int → ByteArray → ByteArray → ByteArray → List (S46) → List (S48) → List (S50) → List (S53) → List ByteArray → List ByteArray → Option (ByteArray)
 | 0, _, _, _, _, _, _, _, _, _, _, _, _, _, _, _ => none
 | k + 1, x1, x5, x6, x87, x88, x89, x254000, x254001, x254002, x254003, x254004, x254005, x254006, x254007, x254008 => if x89 < x88 then (if 0 ≤ x89 then (if x89 < (x87.length : Int) then ((spec_VersionText.f ((rd_T50 x87 x89).f0.f0) ((rd_T50 x87 x89).f0.f1)).bind fun t295 => (if t295.size + 4 ≤ 9223372036854775807 then ((spec_VersionText.f ((rd_T50 x87 x89).f1.f0) ((rd_T50 x87 x89).f1.f1)).bind fun t296 => (if (t295 ++ (⟨#[32, 61, 62, 32]⟩ : ByteArray)).size + t296.size ≤ 9223372036854775807 then (if x6.length < 4398046511104 then (spec_Text.l2 k x1 x5 (x6 ++ [(⟨(⟨#[]⟩ : ByteArray), (t295 ++ (⟨#[32, 61, 62, 32]⟩ : ByteArray)) ++ t296⟩ : S57)]) x87 x88 (wrap64 (x89 + 1)) x254000 x254001 x254002 x254003 x254004 x254005 x254006 x254007 x254008) else (none)) else (none))) else (none))) else (none)) else (none)) else ((spec_section.f k (⟨#[114, 101, 112, 108, 97, 99, 101]⟩ : ByteArray) x6 x1).bind fun t300 => (if x5.length + t300.length < 8796093022208 then (spec_Text.l3 k x1 (x5 ++ t300) ([] : List (S57)) x254006 (x254006.length : Int) 0 x254000 x254001 x254002 x254003 x254004 x254005 x254006 x254007 x254008) else (none)))
def spec_Text.l3 : Nat → Bool → List ByteArray → List (S57) → List (S53) → Int → Int → ByteArray → ByteArray → ByteArray → List (S46) → List (S48) → List (S50) → List (S53) → List ByteArray → List ByteArray → Option (ByteArray)
 | 0, _, _, _, _, _, _, _, _, _, _, _, _, _, _, _ => none
 | k + 1, x1, x5, x6, x112, x113, x114, x254000, x254001, x254002, x254003, x254004, x254005, x254006, x254007, x254008 => if x114 < x113 then (if 0 ≤ x114 then (if x114 < (x112.length : Int) then ((spec_RetractText.f ((rd_T53 x112 x114).f0) ((rd_T53 x112 x114).f1) ((rd_T53 x112 x114).f2)).bind fun t308 => (if x6.length < 4398046511104 then (spec_Text.l3 k x1 x5 (x6 ++ [(⟨(rd_T53 x112 x114).f2, t308⟩ : S57)]) x112 x113 (wrap64 (x114 + 1)) x254000 x254001 x254002 x254003 x254004 x254005 x254006 x254007 x254008) else (none))) else (none)) else (none)) else ((spec_section.f k (⟨#[114, 101, 116, 114, 97, 99, 116]⟩ : ByteArray) x6 x1).bind fun t312 => (if x5.length + t312.length < 8796093022208 then (spec_Text.l4 k x1 (x5 ++ t312) ([] : List (S57)) x254007 (x254007.length : Int) 0 x254000 x254001 x254002 x254003 x254004 x254005 x254006 x254007 x254008) else (none)))
def spec_Text.l4 : Nat → Bool → List ByteArray → List (S57) → List ByteArray → Int → Int → ByteArray → ByteArray → ByteArray → List (S46) → List (S48) → List (S50) → List (S53) → List ByteArray → List ByteArray → Option (ByteArray)
 | 0, _, _, _, _, _, _, _, _, _, _, _, _, _, _, _ => none
 | k + 1, x1, x5, x6, x133, x134, x135, x254000, x254001, x254002, x254003, x254004, x254005, x254006, x254007, x254008 => if x135 < x134 then (if 0 ≤ x135 then (if x135 < (x133.length : Int) then (if x6.length < 4398046511104 then (spec_Text.l4 k x1 x5 (x6 ++ [(⟨(⟨#[]⟩ : ByteArray), rdOf ByteArray.empty x133 x135⟩ : S57)]) x133 x134 (wrap64 (x135 + 1)) x254000 x254001 x254002 x254003 x254004 x254005 x254006 x254007 x254008) else (none)) else (none)) else (none)) else ((spec_section.f k (⟨#[116, 111, 111, 108]⟩ : ByteArray) x6 x1).bind fun t322 => (if x5.length + t322.length < 8796093022208 then (spec_Text.l5 k x1 (x5 ++ t322) ([] : List (S57)) x254008 (x254008.length : Int) 0) else (none)))
def spec_Text.l5 : Nat → Bool → List ByteArray → List (S57) → List ByteArray → Int → Int → Option (ByteArray)
 | 0, _, _, _, _, _, _ => none
 | k + 1, x1, x5, x6, x151, x152, x153 => if x153 < x152 then (if 0 ≤ x153 then (if x153 < (x151.length : Int) then (if x6.length < 4398046511104 then (spec_Text.l5 k x1 x5 (x6 ++ [(⟨(⟨#[]⟩ : ByteArray), rdOf ByteArray.empty x151 x153⟩ : S57)]) x151 x152 (wrap64 (x153 + 1))) else (none)) else (none)) else (none)) else ((spec_section.f k (⟨#[105, 103, 110, 111, 114, 101]⟩ : ByteArray) x6 x1).bind fun t332 => (if x5.length + t332.length < 8796093022208 then ((some (x5 ++ t332 : List ByteArray)).bind fun y335 => (spec_Text.l6 k (⟨#[]⟩ : ByteArray) y335 (y335.length : Int) 0)) else (none)))
def spec_Text.l6 : Nat → ByteArray → List ByteArray → Int → Int → Option (ByteArray)
 | 0, _, _, _, _ => none
 | k + 1, x19, x168, x169, x170 => if x170 < x169 then (if 0 ≤ x170 then (if x170 < (x168.length : Int) then (if x170 > 0 then (if x19.size + 1 ≤ 9223372036854775807 then (if (x19 ++ (⟨#[10]⟩ : ByteArray)).size + (rdOf ByteArray.empty x168 x170).size ≤ 9223372036854775807 then (spec_Text.l6 k ((x19 ++ (⟨#[10]⟩ : ByteArray)) ++ (rdOf ByteArray.empty x168 x170)) x168 x169 (wrap64 (x170 + 1))) else (none)) else (none)) else (if x19.size + (rdOf ByteArray.empty x168 x170).size ≤ 9223372036854775807 then (spec_Text.l6 k (x19 ++ (rdOf ByteArray.empty x168 x170)) x168 x169 (wrap64 (x170 + 1))) else (none))) else (none)) else (none)) else (some x19)
end
def spec_Text.f (k : Nat) (a0_0 : ByteArray) (a0_1 : ByteArray) (a0_2 : ByteArray) (l0_3 : List (S46)) (l0_4 : List (S48)) (l0_5 : List (S50)) (l0_6 : List (S53)) (l0_7 : List ByteArray) (l0_8 : List ByteArray) (a1 : Bool) : Option (ByteArray) := (spec_section.f k (⟨#[109, 111, 100, 117, 108, 101]⟩ : ByteArray) (([(⟨(⟨#[]⟩ : ByteArray), a0_0⟩ : S57)] : List (S57))) false).bind fun t257 => (if a0_1.toList = ([] : List UInt8) then (spec_Text.j0 k a1 t257 a0_0 a0_1 a0_2 l0_3 l0_4 l0_5 l0_6 l0_7 l0_8) else (if 3 + a0_1.size ≤ 9223372036854775807 then (if ((⟨#[103, 111, 32]⟩ : ByteArray) ++ a0_1).size + 1 ≤ 9223372036854775807 then (if t257.length < 8796093022208 then (spec_Text.j0 k a1 (t257 ++ [((⟨#[103, 111, 32]⟩ : ByteArray) ++ a0_1) ++ (⟨#[10]⟩ : ByteArray)]) a0_0 a0_1 a0_2 l0_3 l0_4 l0_5 l0_6 l0_7 l0_8) else (none)) else (none)) else (none)))
def spec_Text.T24 : Bool × List (List Nat × List Nat) := (true, [([], []), ([], []), ([1], [1]), ([2], [2]), ([3], [3]), ([], []), ([5], [5]), ([6, 3], [6]), ([4, 7], [4, 7]), ([8], [8]), ([9], [9]), ([0, 10, 7], [0, 10]), ([11, 11, 0, 1, 2, 3, 4, 5, 6, 7, 8, 9, 10, 11], [0, 11])])
def spec_Text.B24 : List Nat := [0, 0, 2, 6, 14, 0, 32, 110, 254, 510, 1022, 2047, 4095]
theorem spec_Text.tab24 : rtab .any (opsOf Tryd.f12 24) = spec_Text.T24 := by kernel_rfl
theorem spec_Text.bits24 : waitsOk spec_Text.T24.2 spec_Text.B24 = true := by kernel_rfl
def spec_Text.T31 : Bool × List (List Nat × List Nat) := (true, [([], []), ([], []), ([1], [1]), ([], []), ([3], [3]), ([2, 4], [2, 4]), ([5], [5]), ([0, 6, 4], [0, 6]), ([7, 7, 0, 1, 2, 3, 4, 5, 6, 7], [0, 7])])
def spec_Text.B31 : List Nat := [0, 0, 2, 0, 8, 30, 62, 127, 255]
theorem spec_Text.tab31 : rtab .any (opsOf Tryd.f12 31) = spec_Text.T31 := by kernel_rfl
theorem spec_Text.bits31 : waitsOk spec_Text.T31.2 spec_Text.B31 = true := by kernel_rfl
set_option maxHeartbeats 8000000 in
set_option maxRecDepth 100000 in
theorem spec_Text.calls (k : Nat) (a0_0 : ByteArray) (a0_1 : ByteArray) (a0_2 : ByteArray) (A0_3 : Option Addr) (c0_3 : Nat) (l0_3 : List (S46)) (A0_4 : Option Addr) (c0_4 : Nat) (l0_4 : List (S48)) (A0_5 : Option Addr) (c0_5 : Nat) (l0_5 : List (S50)) (A0_6 : Option Addr) (c0_6 : Nat) (l0_6 : List (S53)) (A0_7 : Option Addr) (c0_7 : Nat) (l0_7 : List ByteArray) (A0_8 : Option Addr) (c0_8 : Nat) (l0_8 : List ByteArray) (a1 : Bool) (r : ByteArray) (w : World) (hr0_3 : Kd.C k46 w A0_3 l0_3.length l0_3) (hc0_3 : l0_3.length ≤ c0_3) (hr0_4 : Kd.C k48 w A0_4 l0_4.length l0_4) (hc0_4 : l0_4.length ≤ c0_4) (hr0_5 : Kd.C k50 w A0_5 l0_5.length l0_5) (hc0_5 : l0_5.length ≤ c0_5) (hr0_6 : Kd.C k53 w A0_6 l0_6.length l0_6) (hc0_6 : l0_6.length ≤ c0_6) (hr0_7 : Kd.C Kd.string w A0_7 l0_7.length l0_7) (hc0_7 : l0_7.length ≤ c0_7) (hr0_8 : Kd.C Kd.string w A0_8 l0_8.length l0_8) (hc0_8 : l0_8.length ≤ c0_8) (h : spec_Text.f k a0_0 a0_1 a0_2 l0_3 l0_4 l0_5 l0_6 l0_7 l0_8 a1 = some r) :
  Calls Tryd.prog 12 #[.agg #[.string a0_0, .string a0_1, .string a0_2, .slice A0_3 l0_3.length c0_3, .slice A0_4 l0_4.length c0_4, .slice A0_5 l0_5.length c0_5, .slice A0_6 l0_6.length c0_6, .slice A0_7 l0_7.length c0_7, .slice A0_8 l0_8.length c0_8], .bool a1] w fun e w' => e = .returned (.string r) ∧ Below w.heap.size w w' := by
 have hu32 := Tryd.underlying32
 have hu57 := Tryd.underlying57
 have hu46 := Tryd.underlying46
 have hu48 := Tryd.underlying48
 have hu50 := Tryd.underlying50
 have hu53 := Tryd.underlying53
 have HR0_3 := Aside0.mk hr0_3
 have HC0_3 := Aside0.mk hc0_3
 clear hr0_3 hc0_3
 have HR0_4 := Aside0.mk hr0_4
 have HC0_4 := Aside0.mk hc0_4
 clear hr0_4 hc0_4
 have HR0_5 := Aside0.mk hr0_5
 have HC0_5 := Aside0.mk hc0_5
 clear hr0_5 hc0_5
 have HR0_6 := Aside0.mk hr0_6
 have HC0_6 := Aside0.mk hc0_6
 clear hr0_6 hc0_6
 have HR0_7 := Aside0.mk hr0_7
 have HC0_7 := Aside0.mk hc0_7
 clear hr0_7 hc0_7
 have HR0_8 := Aside0.mk hr0_8
 have HC0_8 := Aside0.mk hc0_8
 clear hr0_8 hc0_8
 have HB := Aside0.mk (Below.refl w.heap.size w)
 have H : ((spec_section.f k (⟨#[109, 111, 100, 117, 108, 101]⟩ : ByteArray) (([(⟨(⟨#[]⟩ : ByteArray), a0_0⟩ : S57)] : List (S57))) false).bind fun t257 => (if a0_1.toList = ([] : List UInt8) then (spec_Text.j0 k a1 t257 a0_0 a0_1 a0_2 l0_3 l0_4 l0_5 l0_6 l0_7 l0_8) else (if 3 + a0_1.size ≤ 9223372036854775807 then (if ((⟨#[103, 111, 32]⟩ : ByteArray) ++ a0_1).size + 1 ≤ 9223372036854775807 then (if t257.length < 8796093022208 then (spec_Text.j0 k a1 (t257 ++ [((⟨#[103, 111, 32]⟩ : ByteArray) ++ a0_1) ++ (⟨#[10]⟩ : ByteArray)]) a0_0 a0_1 a0_2 l0_3 l0_4 l0_5 l0_6 l0_7 l0_8) else (none)) else (none)) else (none)))) = some r := h
 clear h
 obtain ⟨y254, hy254⟩ : ∃ y_ : List (S57), y_ = (([(⟨(⟨#[]⟩ : ByteArray), a0_0⟩ : S57)] : List (S57))) := ⟨_, rfl⟩
 replace H : ((spec_section.f k (⟨#[109, 111, 100, 117, 108, 101]⟩ : ByteArray) y254 false).bind fun t257 => (if a0_1.toList = ([] : List UInt8) then (spec_Text.j0 k a1 t257 a0_0 a0_1 a0_2 l0_3 l0_4 l0_5 l0_6 l0_7 l0_8) else (if 3 + a0_1.size ≤ 9223372036854775807 then (if ((⟨#[103, 111, 32]⟩ : ByteArray) ++ a0_1).size + 1 ≤ 9223372036854775807 then (if t257.length < 8796093022208 then (spec_Text.j0 k a1 (t257 ++ [((⟨#[103, 111, 32]⟩ : ByteArray) ++ a0_1) ++ (⟨#[10]⟩ : ByteArray)]) a0_0 a0_1 a0_2 l0_3 l0_4 l0_5 l0_6 l0_7 l0_8) else (none)) else (none)) else (none)))) = some r := by first | (rw [hy254]; with_reducible exact H) | (have H2_ := (Option.bind_some _ _).symm.trans H; rw [hy254]; with_reducible exact H2_) | (have H2_ := (Option.bind_some _ _).symm.trans H; with_reducible exact H2_) | with_reducible exact H | (rw [hy254]; exact H) | exact H
 have Ny254 := Aside0.mk hy254
 clear hy254
 replace H := Option.bind_eq_some_iff.mp H
 obtain ⟨t257, A30, H⟩ := H
 replace H : (if a0_1.toList = ([] : List UInt8) then (spec_Text.j0 k a1 t257 a0_0 a0_1 a0_2 l0_3 l0_4 l0_5 l0_6 l0_7 l0_8) else (if 3 + a0_1.size ≤ 9223372036854775807 then (if ((⟨#[103, 111, 32]⟩ : ByteArray) ++ a0_1).size + 1 ≤ 9223372036854775807 then (if t257.length < 8796093022208 then (spec_Text.j0 k a1 (t257 ++ [((⟨#[103, 111, 32]⟩ : ByteArray) ++ a0_1) ++ (⟨#[10]⟩ : ByteArray)]) a0_0 a0_1 a0_2 l0_3 l0_4 l0_5 l0_6 l0_7 l0_8) else (none)) else (none)) else (none))) = some r := H
 have A3 := Aside0.mk A30
 clear A30
 have HC4 := Aside0.mk H
 clear H
 go_enter Tryd.func12, Tryd.ntmps12
 go_upto_if 29 with (first | ((with_reducible refine gate_dst (N := 2) rfl ?_); refine box_event ?hg (N := 2) ?hd (cs := #[.string a0_0, .string a0_1, .string a0_2, .slice A0_3 l0_3.length c0_3, .slice A0_4 l0_4.length c0_4, .slice A0_5 l0_5.length c0_5, .slice A0_6 l0_6.length c0_6, .slice A0_7 l0_7.length c0_7, .slice A0_8 l0_8.length c0_8]) (t := 32) ?hr ?_; (case hd => rfl); (case hg => rfl); (case hr => first | (go_simp; done) | (go_simp; rfl)); intro gb253 hg w5 hbox hb; have n0_ := Aside0.mk (below_step (by repeat (first | (with_reducible first | exact HB.out | apply below_alloc | apply pw_below_drewN | apply below_drew1) | exact HB.out)) hb); have n1_ := Aside0.mk (hbox); have n2_ := Aside0.mk ((by rw [hg]; exact (below_size (by repeat (first | (with_reducible first | exact HB.out | apply below_alloc | apply pw_below_drewN | apply below_drew1) | exact HB.out))) : w.heap.size ≤ gb253)); have n3_ := Aside0.mk ((by rw [hg]; exact (below_size (by repeat (first | (with_reducible first | exact HB.out | apply below_alloc | apply pw_below_drewN | apply below_drew1) | exact HB.out))) : w.heap.size ≤ gb253)); clear HB; have HB := n0_; have BK253 := n1_; have GW253 := n2_; have GE253 := n3_; clear n0_ n1_ n2_ n3_; clear hb hbox hg; have hcz6_0 : w5.cell? ⟨gb253, 0, none⟩ = some (.string a0_0) := (blk_cell BK253.out 0).trans rfl; have hcz6_1 : w5.cell? ⟨gb253, 1, none⟩ = some (.string a0_1) := (blk_cell BK253.out 1).trans rfl; have hcz6_2 : w5.cell? ⟨gb253, 2, none⟩ = some (.string a0_2) := (blk_cell BK253.out 2).trans rfl; have hcz6_3 : w5.cell? ⟨gb253, 3, none⟩ = some (.slice A0_3 l0_3.length c0_3) := (blk_cell BK253.out 3).trans rfl; have hcz6_4 : w5.cell? ⟨gb253, 4, none⟩ = some (.slice A0_4 l0_4.length c0_4) := (blk_cell BK253.out 4).trans rfl; have hcz6_5 : w5.cell? ⟨gb253, 5, none⟩ = some (.slice A0_5 l0_5.length c0_5) := (blk_cell BK253.out 5).trans rfl; have hcz6_6 : w5.cell? ⟨gb253, 6, none⟩ = some (.slice A0_6 l0_6.length c0_6) := (blk_cell BK253.out 6).trans rfl; have hcz6_7 : w5.cell? ⟨gb253, 7, none⟩ = some (.slice A0_7 l0_7.length c0_7) := (blk_cell BK253.out 7).trans rfl; have hcz6_8 : w5.cell? ⟨gb253, 8, none⟩ = some (.slice A0_8 l0_8.length c0_8) := (blk_cell BK253.out 8).trans rfl; have hfz6_0 := blk_frozen BK253.out 0; have hfz6_1 := blk_frozen BK253.out 1; have hfz6_2 := blk_frozen BK253.out 2; have hfz6_3 := blk_frozen BK253.out 3; have hfz6_4 := blk_frozen BK253.out 4; have hfz6_5 := blk_frozen BK253.out 5; have hfz6_6 := blk_frozen BK253.out 6; have hfz6_7 := blk_frozen BK253.out 7; have hfz6_8 := blk_frozen BK253.out 8) | ((with_reducible refine gate_dst (N := 25) rfl ?_); refine Kd.R_lit k57 _ 57 ?hg (N := 25) ?hd (xs := ([(⟨(⟨#[]⟩ : ByteArray), a0_0⟩ : S57)] : List (S57))) (inner := [.string (⟨#[]⟩ : ByteArray), .string a0_0]) (ok := fun _ => True) (okp := fun _ => True) ?hr ?hp (fun _ hk => hk) trivial (Below.refl _ _) (Nat.le_refl _) (by simp) ?_; (case hd => rfl); (case hg => rfl); (case hr => first | (go_simp; done) | (go_simp; rfl)); (case hp => exact (Reps.c2 (show Kd.M k57 _ _ _ (⟨(⟨#[]⟩ : ByteArray), a0_0⟩ : S57) [.string (⟨#[]⟩ : ByteArray), .string a0_0] from (k57_mkM _ _ _ (⟨(⟨#[]⟩ : ByteArray), a0_0⟩ : S57) )) (Reps.none _ _))); intro v255 w7 ho8 hb hg_ hnew_; clear hg_ hnew_; (first | rw [← Ny254.out] at ho8 | (simp only [Int.reduceToNat] at ho8; rw [← Ny254.out] at ho8)); have n0_ := Aside0.mk (Kd.R_lower ho8 (below_size (by repeat (first | (with_reducible first | exact HB.out | apply below_alloc | apply pw_below_drewN | apply below_drew1 | refine below_set ?_ GE253.out) | exact HB.out)))); have n1_ := Aside0.mk (blk_below (g := gb253) (o := .cells #[.string a0_0, .string a0_1, .string a0_2, .slice A0_3 l0_3.length c0_3, .slice A0_4 l0_4.length c0_4, .slice A0_5 l0_5.length c0_5, .slice A0_6 l0_6.length c0_6, .slice A0_7 l0_7.length c0_7, .slice A0_8 l0_8.length c0_8] 32 (0, 0)) (by (with_reducible repeat (first | refine blk_drewN ?_ _ | refine blk_drew ?_ | refine blk_alloc ?_ _)); exact BK253.out) hb); have n2_ := Aside0.mk (below_step (by repeat (first | (with_reducible first | exact HB.out | apply below_alloc | apply pw_below_drewN | apply below_drew1 | refine below_set ?_ GE253.out) | exact HB.out)) hb); clear BK253; clear HB; have HO256 := n0_; have BK253 := n1_; have HB := n2_; clear n0_ n1_ n2_; clear hb ho8; obtain ⟨Ao9, co9, eo9⟩ := Kd.R_slice HO256.out; subst eo9) | ((with_reducible refine gate_callee (f := 30) rfl ?_); refine goesL_ (some 26) rfl rfl Tryd.func30 (by kernel_rfl) rfl #[.string (⟨#[109, 111, 100, 117, 108, 101]⟩ : ByteArray), .slice Ao9 y254.length co9, .bool false] rfl (by (try simp only [List.map_toArray, List.map_cons, List.map_nil]); first | done | rfl | (simp only [List.length_drop, List.length_take]; rfl)) ?_; (with_reducible refine (spec_section.calls k (⟨#[109, 111, 100, 117, 108, 101]⟩ : ByteArray) _ _ y254 false t257 _ ?side1 ?side2 A3.out).mono ?_); (case side1 => repeat (first | exact (Kd.R_reads' HO256.out).2.2 | (with_reducible refine Kd.C_alloc ?_ _) | (with_reducible refine Kd.C_drewN ?_ _) | (with_reducible refine Kd.C_drew ?_))); (case side2 => exact (Kd.R_reads' HO256.out).2.1); rintro e w10 ⟨v258, rfl, ho0, hb⟩; refine ⟨_, rfl, ?_⟩; have n0_ := Aside0.mk (Kd.R_below (by (with_reducible repeat (first | apply Kd.R_alloc | apply Kd.R_drewN | apply Kd.R_drew)); exact HO256.out) hb); have n1_ := Aside0.mk (Kd.R_lower ho0 (below_size (by repeat (first | (with_reducible first | exact HB.out | apply below_alloc | apply pw_below_drewN | apply below_drew1 | refine below_set ?_ GE253.out) | exact HB.out)))); have n2_ := Aside0.mk (blk_below (g := gb253) (o := .cells #[.string a0_0, .string a0_1, .string a0_2, .slice A0_3 l0_3.length c0_3, .slice A0_4 l0_4.length c0_4, .slice A0_5 l0_5.length c0_5, .slice A0_6 l0_6.length c0_6, .slice A0_7 l0_7.length c0_7, .slice A0_8 l0_8.length c0_8] 32 (0, 0)) (by (with_reducible repeat (first | refine blk_drewN ?_ _ | refine blk_drew ?_ | refine blk_alloc ?_ _)); exact BK253.out) hb); have n3_ := Aside0.mk (below_step (by repeat (first | (with_reducible first | exact HB.out | apply below_alloc | apply pw_below_drewN | apply below_drew1 | refine below_set ?_ GE253.out) | exact HB.out)) hb); clear HO256; clear BK253; clear HB; have HO256 := n0_; have HO259 := n1_; have BK253 := n2_; have HB := n3_; clear n0_ n1_ n2_ n3_; (try clear hb); (try clear hb2); (try clear hk); (try clear hi); (try clear ho0); have hcz11_0 : w10.cell? ⟨gb253, 0, none⟩ = some (.string a0_0) := (blk_cell BK253.out 0).trans rfl; have hcz11_1 : w10.cell? ⟨gb253, 1, none⟩ = some (.string a0_1) := (blk_cell BK253.out 1).trans rfl; have hcz11_2 : w10.cell? ⟨gb253, 2, none⟩ = some (.string a0_2) := (blk_cell BK253.out 2).trans rfl; have hcz11_3 : w10.cell? ⟨gb253, 3, none⟩ = some (.slice A0_3 l0_3.length c0_3) := (blk_cell BK253.out 3).trans rfl; have hcz11_4 : w10.cell? ⟨gb253, 4, none⟩ = some (.slice A0_4 l0_4.length c0_4) := (blk_cell BK253.out 4).trans rfl; have hcz11_5 : w10.cell? ⟨gb253, 5, none⟩ = some (.slice A0_5 l0_5.length c0_5) := (blk_cell BK253.out 5).trans rfl; have hcz11_6 : w10.cell? ⟨gb253, 6, none⟩ = some (.slice A0_6 l0_6.length c0_6) := (blk_cell BK253.out 6).trans rfl; have hcz11_7 : w10.cell? ⟨gb253, 7, none⟩ = some (.slice A0_7 l0_7.length c0_7) := (blk_cell BK253.out 7).trans rfl; have hcz11_8 : w10.cell? ⟨gb253, 8, none⟩ = some (.slice A0_8 l0_8.length c0_8) := (blk_cell BK253.out 8).trans rfl; have hfz11_0 := blk_frozen BK253.out 0; have hfz11_1 := blk_frozen BK253.out 1; have hfz11_2 := blk_frozen BK253.out 2; have hfz11_3 := blk_frozen BK253.out 3; have hfz11_4 := blk_frozen BK253.out 4; have hfz11_5 := blk_frozen BK253.out 5; have hfz11_6 := blk_frozen BK253.out 6; have hfz11_7 := blk_frozen BK253.out 7; have hfz11_8 := blk_frozen BK253.out 8))
 (try simp only [Act.put, List.setIfInBounds_toArray, List.set_cons_zero, List.set_cons_succ])
 go_cut [5] (fun v5 wc => ∃ (kq : Nat) (x5_3 : List ByteArray), Aside0 (spec_Text.j0 kq a1 x5_3 a0_0 a0_1 a0_2 l0_3 l0_4 l0_5 l0_6 l0_7 l0_8 = some r) ∧ Aside0 (kq ≤ k) ∧ Aside0 (Kd.R Kd.string 9 wc w.heap.size (fun _ => True) v5 x5_3) ∧ Aside0 (wc.heap[gb253]? = some (.cells #[.string a0_0, .string a0_1, .string a0_2, (.slice A0_3 l0_3.length c0_3), (.slice A0_4 l0_4.length c0_4), (.slice A0_5 l0_5.length c0_5), (.slice A0_6 l0_6.length c0_6), (.slice A0_7 l0_7.length c0_7), (.slice A0_8 l0_8.length c0_8)] 32 (0, 0))) ∧ Aside0 (Below w.heap.size w wc))
 case first =>
  have H := HC4.out
  clear HC4
  by_cases c12 : a0_1.toList = ([] : List UInt8)
  ·
   rw [if_pos c12] at H
   have c12b0 : (a0_1.toList == ([] : List UInt8)) = true := beq_iff_eq.mpr c12
   have c12b1 : (a0_1.toList != ([] : List UInt8)) = false := bne_eq_false_iff_eq.mpr c12
   try have c12b5 : a0_1.toList.isEmpty = true := by simpa using c12b1
   try have c12b6 : (!a0_1.toList.isEmpty) = false := by simpa using c12b1
   clear c12
   (first | rw [c12b6] | rw [c12b5] | rw [c12b0] | (simp only [i64_w, i32_w]; rw [c12b0]) | skip)
   have H' := Aside0.mk H
   clear H
   go_wp2
   go_meet
   case rel => exact ⟨_, (t257), H', ⟨by first | omega | exact Nat.le_refl _⟩, ⟨by (with_reducible repeat (first | apply Kd.R_alloc | apply Kd.R_drewN | apply Kd.R_drew)); exact HO259.out⟩, ⟨by (with_reducible repeat (first | refine blk_drewN ?_ _ | refine blk_drew ?_ | refine blk_alloc ?_ _)); exact BK253.out⟩, ⟨by repeat (first | (with_reducible first | exact HB.out | apply below_alloc | apply pw_below_drewN | apply below_drew1 | refine below_set ?_ GE253.out) | exact HB.out)⟩⟩
  ·
   rw [if_neg c12] at H
   have c12b0 : (a0_1.toList == ([] : List UInt8)) = false := beq_eq_false_iff_ne.mpr c12
   have c12b1 : (a0_1.toList != ([] : List UInt8)) = true := bne_iff_ne.mpr c12
   try have c12b5 : a0_1.toList.isEmpty = false := by simpa using c12b1
   try have c12b6 : (!a0_1.toList.isEmpty) = true := by simpa using c12b1
   (first | rw [c12b6] | rw [c12b5] | rw [c12b0] | (simp only [i64_w, i32_w]; rw [c12b0]) | skip)
   by_cases c13 : 3 + a0_1.size ≤ 9223372036854775807
   ·
    rw [if_pos c13] at H
    have c13b0 := eq_true c13
    have c13b1 : decide (3 + a0_1.size ≤ 9223372036854775807) = true := decide_eq_true c13
    try have c13b2 : (9223372036854775807 < 3 + a0_1.size) = False := eq_false (Nat.not_lt.2 c13)
    by_cases c14 : ((⟨#[103, 111, 32]⟩ : ByteArray) ++ a0_1).size + 1 ≤ 9223372036854775807
    ·
     rw [if_pos c14] at H
     have c14b0 := eq_true c14
     have c14b1 : decide (((⟨#[103, 111, 32]⟩ : ByteArray) ++ a0_1).size + 1 ≤ 9223372036854775807) = true := decide_eq_true c14
     try have c14b2 : (9223372036854775807 < ((⟨#[103, 111, 32]⟩ : ByteArray) ++ a0_1).size + 1) = False := eq_false (Nat.not_lt.2 c14)
     try have c14b3 : (9223372036854775807 < 3 + a0_1.size + 1) = False := eq_false (Nat.not_lt.2 (by have h_ := c14; simp only [ByteArray.size_append] at h_; exact h_))
     by_cases c15 : t257.length < 8796093022208
     ·
      rw [if_pos c15] at H
      have LMc15 := Aside0.mk c15
      clear c15
      obtain ⟨y260, hy260⟩ : ∃ y_ : List ByteArray, y_ = (t257 ++ [((⟨#[103, 111, 32]⟩ : ByteArray) ++ a0_1) ++ (⟨#[10]⟩ : ByteArray)]) := ⟨_, rfl⟩
      replace H : (spec_Text.j0 k a1 y260 a0_0 a0_1 a0_2 l0_3 l0_4 l0_5 l0_6 l0_7 l0_8) = some r := by first | (rw [hy260]; with_reducible exact H) | (have H2_ := (Option.bind_some _ _).symm.trans H; rw [hy260]; with_reducible exact H2_) | (have H2_ := (Option.bind_some _ _).symm.trans H; with_reducible exact H2_) | with_reducible exact H | (rw [hy260]; exact H) | exact H
      have Ny260 := Aside0.mk hy260
      clear hy260
      have H' := Aside0.mk H
      clear H
      have hcz16_0 : w10.cell? ⟨gb253, 0, none⟩ = some (.string a0_0) := (blk_cell BK253.out 0).trans rfl
      have hcz16_1 : w10.cell? ⟨gb253, 1, none⟩ = some (.string a0_1) := (blk_cell BK253.out 1).trans rfl
      have hcz16_2 : w10.cell? ⟨gb253, 2, none⟩ = some (.string a0_2) := (blk_cell BK253.out 2).trans rfl
      have hcz16_3 : w10.cell? ⟨gb253, 3, none⟩ = some (.slice A0_3 l0_3.length c0_3) := (blk_cell BK253.out 3).trans rfl
      have hcz16_4 : w10.cell? ⟨gb253, 4, none⟩ = some (.slice A0_4 l0_4.length c0_4) := (blk_cell BK253.out 4).trans rfl
      have hcz16_5 : w10.cell? ⟨gb253, 5, none⟩ = some (.slice A0_5 l0_5.length c0_5) := (blk_cell BK253.out 5).trans rfl
      have hcz16_6 : w10.cell? ⟨gb253, 6, none⟩ = some (.slice A0_6 l0_6.length c0_6) := (blk_cell BK253.out 6).trans rfl
      have hcz16_7 : w10.cell? ⟨gb253, 7, none⟩ = some (.slice A0_7 l0_7.length c0_7) := (blk_cell BK253.out 7).trans rfl
      have hcz16_8 : w10.cell? ⟨gb253, 8, none⟩ = some (.slice A0_8 l0_8.length c0_8) := (blk_cell BK253.out 8).trans rfl
      have hfz16_0 := blk_frozen BK253.out 0
      have hfz16_1 := blk_frozen BK253.out 1
      have hfz16_2 := blk_frozen BK253.out 2
      have hfz16_3 := blk_frozen BK253.out 3
      have hfz16_4 := blk_frozen BK253.out 4
      have hfz16_5 := blk_frozen BK253.out 5
      have hfz16_6 := blk_frozen BK253.out 6
      have hfz16_7 := blk_frozen BK253.out 7
      have hfz16_8 := blk_frozen BK253.out 8
      go_wp2_with (first | ((with_reducible refine gate_builtin (b := .append) (xs := #[.tmp 30, .tmp 35]) rfl ?_); at_builtin; refine Kd.R_append Kd.string (w0 := w) w.heap.size rfl (.tmp 30) (.tmp 35) 30 9 (.string ⟨#[]⟩) 16 rfl Tryd.underlying30 info9 rfl (by decide) (by omega) v258 t257 (((⟨#[103, 111, 32]⟩ : ByteArray) ++ a0_1) ++ (⟨#[10]⟩ : ByteArray)) [.string (((⟨#[103, 111, 32]⟩ : ByteArray) ++ a0_1) ++ (⟨#[10]⟩ : ByteArray))] (fun _ => True) (fun _ => False) rfl rfl ?aP (fun _ hk => hk.elim) ?aF ?aO ?aB ?aS ?aL ?_; (case aP => exact rfl); (case aB => exact (by repeat (first | (with_reducible first | exact HB.out | apply below_alloc | apply pw_below_drewN | apply below_drew1 | refine below_set ?_ GE253.out) | exact HB.out))); (case aF => exact (fun _ _ => trivial)); (case aO => exact (by (with_reducible repeat (first | apply Kd.R_alloc | apply Kd.R_drewN | apply Kd.R_drew)); exact HO259.out)); (case aS => exact (below_size (by repeat (first | (with_reducible first | exact HB.out | apply below_alloc | apply pw_below_drewN | apply below_drew1 | refine below_set ?_ GE253.out) | exact HB.out)))); (case aL => have := LMc15.out; omega); intro v261 w17 ho hb hg hat; rw [← Ny260.out] at ho; have n0_ := Aside0.mk (blk_grown (g := gb253) (o := .cells #[.string a0_0, .string a0_1, .string a0_2, .slice A0_3 l0_3.length c0_3, .slice A0_4 l0_4.length c0_4, .slice A0_5 l0_5.length c0_5, .slice A0_6 l0_6.length c0_6, .slice A0_7 l0_7.length c0_7, .slice A0_8 l0_8.length c0_8] 32 (0, 0)) (by (with_reducible repeat (first | refine blk_drewN ?_ _ | refine blk_drew ?_ | refine blk_alloc ?_ _)); exact BK253.out) hg (Kd.R_ne HO259.out BK253.out (by decide))); have n1_ := Aside0.mk (Kd.R_over' (by (with_reducible repeat (first | apply Kd.R_alloc | apply Kd.R_drewN | apply Kd.R_drew)); exact HO256.out) (Kd.R_typed (by (with_reducible repeat (first | apply Kd.R_alloc | apply Kd.R_drewN | apply Kd.R_drew)); exact HO259.out)) (by decide) hg); have n2_ := Aside0.mk (hb); have n3_ := Aside0.mk (ho); clear BK253; clear HO256; clear HB; clear HO259; have BK253 := n0_; have HO256 := n1_; have HB := n2_; have HO262 := n3_; clear n0_ n1_ n2_ n3_; clear ho hb hg hat))
      go_meet
      case rel => exact ⟨_, (y260), H', ⟨by first | omega | exact Nat.le_refl _⟩, ⟨by (with_reducible repeat (first | apply Kd.R_alloc | apply Kd.R_drewN | apply Kd.R_drew)); exact HO262.out⟩, ⟨by (with_reducible repeat (first | refine blk_drewN ?_ _ | refine blk_drew ?_ | refine blk_alloc ?_ _)); exact BK253.out⟩, ⟨by repeat (first | (with_reducible first | exact HB.out | apply below_alloc | apply pw_below_drewN | apply below_drew1 | refine below_set ?_ GE253.out) | exact HB.out)⟩⟩
     ·
      rw [if_neg c15] at H
      exact absurd H (by simp)
    ·
     rw [if_neg c14] at H
     exact absurd H (by simp)
   ·
    rw [if_neg c13] at H
    exact absurd H (by simp)
 case rest =>
  clear HC4
  clear hcz11_0
  clear hcz11_1
  clear hcz11_2
  clear hcz11_3
  clear hcz11_4
  clear hcz11_5
  clear hcz11_6
  clear hcz11_7
  clear hcz11_8
  clear hcz6_0
  clear hcz6_1
  clear hcz6_2
  clear hcz6_3
  clear hcz6_4
  clear hcz6_5
  clear hcz6_6
  clear hcz6_7
  clear hcz6_8
  clear hfz11_0
  clear hfz11_1
  clear hfz11_2
  clear hfz11_3
  clear hfz11_4
  clear hfz11_5
  clear hfz11_6
  clear hfz11_7
  clear hfz11_8
  clear hfz6_0
  clear hfz6_1
  clear hfz6_2
  clear hfz6_3
  clear hfz6_4
  clear hfz6_5
  clear hfz6_6
  clear hfz6_7
  clear hfz6_8
  obtain ⟨kq, x5_3, HA, HJ3, HO_5, BK253, HB⟩ := hcut
  cases kq with
  | zero => exact absurd HA.out (by simp [spec_Text.j0])
  | succ kj3 =>
   have H := HA.out
   clear HA
   simp only [spec_Text.j0] at H
   have HC18 := Aside0.mk H
   clear H
   have hcz19_0 : wc.cell? ⟨gb253, 0, none⟩ = some (.string a0_0) := (blk_cell BK253.out 0).trans rfl
   have hcz19_1 : wc.cell? ⟨gb253, 1, none⟩ = some (.string a0_1) := (blk_cell BK253.out 1).trans rfl
   have hcz19_2 : wc.cell? ⟨gb253, 2, none⟩ = some (.string a0_2) := (blk_cell BK253.out 2).trans rfl
   have hcz19_3 : wc.cell? ⟨gb253, 3, none⟩ = some (.slice A0_3 l0_3.length c0_3) := (blk_cell BK253.out 3).trans rfl
   have hcz19_4 : wc.cell? ⟨gb253, 4, none⟩ = some (.slice A0_4 l0_4.length c0_4) := (blk_cell BK253.out 4).trans rfl
   have hcz19_5 : wc.cell? ⟨gb253, 5, none⟩ = some (.slice A0_5 l0_5.length c0_5) := (blk_cell BK253.out 5).trans rfl
   have hcz19_6 : wc.cell? ⟨gb253, 6, none⟩ = some (.slice A0_6 l0_6.length c0_6) := (blk_cell BK253.out 6).trans rfl
   have hcz19_7 : wc.cell? ⟨gb253, 7, none⟩ = some (.slice A0_7 l0_7.length c0_7) := (blk_cell BK253.out 7).trans rfl
   have hcz19_8 : wc.cell? ⟨gb253, 8, none⟩ = some (.slice A0_8 l0_8.length c0_8) := (blk_cell BK253.out 8).trans rfl
   have hfz19_0 := blk_frozen BK253.out 0
   have hfz19_1 := blk_frozen BK253.out 1
   have hfz19_2 := blk_frozen BK253.out 2
   have hfz19_3 := blk_frozen BK253.out 3
   have hfz19_4 := blk_frozen BK253.out 4
   have hfz19_5 := blk_frozen BK253.out 5
   have hfz19_6 := blk_frozen BK253.out 6
   have hfz19_7 := blk_frozen BK253.out 7
   have hfz19_8 := blk_frozen BK253.out 8
   go_upto_if 39 with (fail)
   go_cut [5] (fun v5 wc => ∃ (kq : Nat) (x5_17 : List ByteArray), Aside0 (spec_Text.j1 kq a1 x5_17 a0_0 a0_1 a0_2 l0_3 l0_4 l0_5 l0_6 l0_7 l0_8 = some r) ∧ Aside0 (kq ≤ kj3) ∧ Aside0 (Kd.R Kd.string 9 wc w.heap.size (fun _ => True) v5 x5_17) ∧ Aside0 (wc.heap[gb253]? = some (.cells #[.string a0_0, .string a0_1, .string a0_2, (.slice A0_3 l0_3.length c0_3), (.slice A0_4 l0_4.length c0_4), (.slice A0_5 l0_5.length c0_5), (.slice A0_6 l0_6.length c0_6), (.slice A0_7 l0_7.length c0_7), (.slice A0_8 l0_8.length c0_8)] 32 (0, 0))) ∧ Aside0 (Below w.heap.size w wc))
   case first =>
    have H := HC18.out
    clear HC18
    by_cases c20 : a0_2.toList = ([] : List UInt8)
    ·
     rw [if_pos c20] at H
     have c20b0 : (a0_2.toList == ([] : List UInt8)) = true := beq_iff_eq.mpr c20
     have c20b1 : (a0_2.toList != ([] : List UInt8)) = false := bne_eq_false_iff_eq.mpr c20
     try have c20b5 : a0_2.toList.isEmpty = true := by simpa using c20b1
     try have c20b6 : (!a0_2.toList.isEmpty) = false := by simpa using c20b1
     clear c20
     (first | rw [c20b6] | rw [c20b5] | rw [c20b0] | (simp only [i64_w, i32_w]; rw [c20b0]) | skip)
     have H' := Aside0.mk H
     clear H
     go_wp2
     go_meet
     case rel => exact ⟨_, (x5_3), H', ⟨by have := HJ3.out; first | omega | exact Nat.le_refl _⟩, ⟨by (with_reducible repeat (first | apply Kd.R_alloc | apply Kd.R_drewN | apply Kd.R_drew)); exact HO_5.out⟩, ⟨by (with_reducible repeat (first | refine blk_drewN ?_ _ | refine blk_drew ?_ | refine blk_alloc ?_ _)); exact BK253.out⟩, ⟨by repeat (first | (with_reducible first | exact HB.out | apply below_alloc | apply pw_below_drewN | apply below_drew1 | refine below_set ?_ GE253.out) | exact HB.out)⟩⟩
    ·
     rw [if_neg c20] at H
     have c20b0 : (a0_2.toList == ([] : List UInt8)) = false := beq_eq_false_iff_ne.mpr c20
     have c20b1 : (a0_2.toList != ([] : List UInt8)) = true := bne_iff_ne.mpr c20
     try have c20b5 : a0_2.toList.isEmpty = false := by simpa using c20b1
     try have c20b6 : (!a0_2.toList.isEmpty) = true := by simpa using c20b1
     (first | rw [c20b6] | rw [c20b5] | rw [c20b0] | (simp only [i64_w, i32_w]; rw [c20b0]) | skip)
     by_cases c21 : 10 + a0_2.size ≤ 9223372036854775807
     ·
      rw [if_pos c21] at H
      have c21b0 := eq_true c21
      have c21b1 : decide (10 + a0_2.size ≤ 9223372036854775807) = true := decide_eq_true c21
      try have c21b2 : (9223372036854775807 < 10 + a0_2.size) = False := eq_false (Nat.not_lt.2 c21)
      by_cases c22 : ((⟨#[116, 111, 111, 108, 99, 104, 97, 105, 110, 32]⟩ : ByteArray) ++ a0_2).size + 1 ≤ 9223372036854775807
      ·
       rw [if_pos c22] at H
       have c22b0 := eq_true c22
       have c22b1 : decide (((⟨#[116, 111, 111, 108, 99, 104, 97, 105, 110, 32]⟩ : ByteArray) ++ a0_2).size + 1 ≤ 9223372036854775807) = true := decide_eq_true c22
       try have c22b2 : (9223372036854775807 < ((⟨#[116, 111, 111, 108, 99, 104, 97, 105, 110, 32]⟩ : ByteArray) ++ a0_2).size + 1) = False := eq_false (Nat.not_lt.2 c22)
       try have c22b3 : (9223372036854775807 < 10 + a0_2.size + 1) = False := eq_false (Nat.not_lt.2 (by have h_ := c22; simp only [ByteArray.size_append] at h_; exact h_))
       by_cases c23 : x5_3.length < 8796093022208
       ·
        rw [if_pos c23] at H
        have LMc23 := Aside0.mk c23
        clear c23
        obtain ⟨y263, hy263⟩ : ∃ y_ : List ByteArray, y_ = (x5_3 ++ [((⟨#[116, 111, 111, 108, 99, 104, 97, 105, 110, 32]⟩ : ByteArray) ++ a0_2) ++ (⟨#[10]⟩ : ByteArray)]) := ⟨_, rfl⟩
        replace H : (spec_Text.j1 kj3 a1 y263 a0_0 a0_1 a0_2 l0_3 l0_4 l0_5 l0_6 l0_7 l0_8) = some r := by first | (rw [hy263]; with_reducible exact H) | (have H2_ := (Option.bind_some _ _).symm.trans H; rw [hy263]; with_reducible exact H2_) | (have H2_ := (Option.bind_some _ _).symm.trans H; with_reducible exact H2_) | with_reducible exact H | (rw [hy263]; exact H) | exact H
        have Ny263 := Aside0.mk hy263
        clear hy263
        have H' := Aside0.mk H
        clear H
        have hcz24_0 : wc.cell? ⟨gb253, 0, none⟩ = some (.string a0_0) := (blk_cell BK253.out 0).trans rfl
        have hcz24_1 : wc.cell? ⟨gb253, 1, none⟩ = some (.string a0_1) := (blk_cell BK253.out 1).trans rfl
        have hcz24_2 : wc.cell? ⟨gb253, 2, none⟩ = some (.string a0_2) := (blk_cell BK253.out 2).trans rfl
        have hcz24_3 : wc.cell? ⟨gb253, 3, none⟩ = some (.slice A0_3 l0_3.length c0_3) := (blk_cell BK253.out 3).trans rfl
        have hcz24_4 : wc.cell? ⟨gb253, 4, none⟩ = some (.slice A0_4 l0_4.length c0_4) := (blk_cell BK253.out 4).trans rfl
        have hcz24_5 : wc.cell? ⟨gb253, 5, none⟩ = some (.slice A0_5 l0_5.length c0_5) := (blk_cell BK253.out 5).trans rfl
        have hcz24_6 : wc.cell? ⟨gb253, 6, none⟩ = some (.slice A0_6 l0_6.length c0_6) := (blk_cell BK253.out 6).trans rfl
        have hcz24_7 : wc.cell? ⟨gb253, 7, none⟩ = some (.slice A0_7 l0_7.length c0_7) := (blk_cell BK253.out 7).trans rfl
        have hcz24_8 : wc.cell? ⟨gb253, 8, none⟩ = some (.slice A0_8 l0_8.length c0_8) := (blk_cell BK253.out 8).trans rfl
        have hfz24_0 := blk_frozen BK253.out 0
        have hfz24_1 := blk_frozen BK253.out 1
        have hfz24_2 := blk_frozen BK253.out 2
        have hfz24_3 := blk_frozen BK253.out 3
        have hfz24_4 := blk_frozen BK253.out 4
        have hfz24_5 := blk_frozen BK253.out 5
        have hfz24_6 := blk_frozen BK253.out 6
        have hfz24_7 := blk_frozen BK253.out 7
        have hfz24_8 := blk_frozen BK253.out 8
        go_wp2_with (first | ((with_reducible refine gate_builtin (b := .append) (xs := #[.tmp 40, .tmp 45]) rfl ?_); at_builtin; refine Kd.R_append Kd.string (w0 := w) w.heap.size rfl (.tmp 40) (.tmp 45) 30 9 (.string ⟨#[]⟩) 16 rfl Tryd.underlying30 info9 rfl (by decide) (by omega) u5 x5_3 (((⟨#[116, 111, 111, 108, 99, 104, 97, 105, 110, 32]⟩ : ByteArray) ++ a0_2) ++ (⟨#[10]⟩ : ByteArray)) [.string (((⟨#[116, 111, 111, 108, 99, 104, 97, 105, 110, 32]⟩ : ByteArray) ++ a0_2) ++ (⟨#[10]⟩ : ByteArray))] (fun _ => True) (fun _ => False) rfl rfl ?aP (fun _ hk => hk.elim) ?aF ?aO ?aB ?aS ?aL ?_; (case aP => exact rfl); (case aB => exact (by repeat (first | (with_reducible first | exact HB.out | apply below_alloc | apply pw_below_drewN | apply below_drew1 | refine below_set ?_ GE253.out) | exact HB.out))); (case aF => exact (fun _ _ => trivial)); (case aO => exact (by (with_reducible repeat (first | apply Kd.R_alloc | apply Kd.R_drewN | apply Kd.R_drew)); exact HO_5.out)); (case aS => exact (below_size (by repeat (first | (with_reducible first | exact HB.out | apply below_alloc | apply pw_below_drewN | apply below_drew1 | refine below_set ?_ GE253.out) | exact HB.out)))); (case aL => have := LMc23.out; omega); intro v264 w25 ho hb hg hat; rw [← Ny263.out] at ho; have n0_ := Aside0.mk (blk_grown (g := gb253) (o := .cells #[.string a0_0, .string a0_1, .string a0_2, .slice A0_3 l0_3.length c0_3, .slice A0_4 l0_4.length c0_4, .slice A0_5 l0_5.length c0_5, .slice A0_6 l0_6.length c0_6, .slice A0_7 l0_7.length c0_7, .slice A0_8 l0_8.length c0_8] 32 (0, 0)) (by (with_reducible repeat (first | refine blk_drewN ?_ _ | refine blk_drew ?_ | refine blk_alloc ?_ _)); exact BK253.out) hg (Kd.R_ne HO_5.out BK253.out (by decide))); have n1_ := Aside0.mk (hb); have n2_ := Aside0.mk (ho); clear BK253; clear HB; clear HO_5; have BK253 := n0_; have HB := n1_; have HO265 := n2_; clear n0_ n1_ n2_; clear ho hb hg hat))
        go_meet
        case rel => exact ⟨_, (y263), H', ⟨by have := HJ3.out; first | omega | exact Nat.le_refl _⟩, ⟨by (with_reducible repeat (first | apply Kd.R_alloc | apply Kd.R_drewN | apply Kd.R_drew)); exact HO265.out⟩, ⟨by (with_reducible repeat (first | refine blk_drewN ?_ _ | refine blk_drew ?_ | refine blk_alloc ?_ _)); exact BK253.out⟩, ⟨by repeat (first | (with_reducible first | exact HB.out | apply below_alloc | apply pw_below_drewN | apply below_drew1 | refine below_set ?_ GE253.out) | exact HB.out)⟩⟩
       ·
        rw [if_neg c23] at H
        exact absurd H (by simp)
      ·
       rw [if_neg c22] at H
       exact absurd H (by simp)
     ·
      rw [if_neg c21] at H
      exact absurd H (by simp)
   case rest =>
    clear HC18
    clear hcz19_0
    clear hcz19_1
    clear hcz19_2
    clear hcz19_3
    clear hcz19_4
    clear hcz19_5
    clear hcz19_6
    clear hcz19_7
    clear hcz19_8
    clear hfz19_0
    clear hfz19_1
    clear hfz19_2
    clear hfz19_3
    clear hfz19_4
    clear hfz19_5
    clear hfz19_6
    clear hfz19_7
    clear hfz19_8
    obtain ⟨kq, x5_17, HA, HJ17, HO_5, BK253, HB⟩ := hcut
    cases kq with
    | zero => exact absurd HA.out (by simp [spec_Text.j1])
    | succ kj17 =>
     have H := HA.out
     clear HA
     simp only [spec_Text.j1] at H
     obtain ⟨y266, hy266⟩ : ∃ y_ : List (S57), y_ = (([] : List (S57))) := ⟨_, rfl⟩
     replace H : (spec_Text.l0 kj17 a1 x5_17 y266 l0_3 (l0_3.length : Int) 0 a0_0 a0_1 a0_2 l0_3 l0_4 l0_5 l0_6 l0_7 l0_8) = some r := by first | (rw [hy266]; with_reducible exact H) | (have H2_ := (Option.bind_some _ _).symm.trans H; rw [hy266]; with_reducible exact H2_) | (have H2_ := (Option.bind_some _ _).symm.trans H; with_reducible exact H2_) | with_reducible exact H | (rw [hy266]; exact H) | exact H
     have Ny266 := Aside0.mk hy266
     clear hy266
     have H' := Aside0.mk H
     clear H
     go_wp2_with (first | ((with_reducible refine gate_dst (N := 47) rfl ?_); refine Kd.R_lit k57 _ 57 ?hg (N := 47) ?hd (xs := ([] : List (S57))) (inner := []) (ok := fun _ => True) (okp := fun _ => True) ?hr ?hp (fun _ hk => hk) trivial (Below.refl _ _) (Nat.le_refl _) (by simp) ?_; (case hd => rfl); (case hg => rfl); (case hr => first | (go_simp; done) | (go_simp; rfl)); (case hp => exact (Reps.none _ _)); intro v267 w26 ho27 hb hg_ hnew_; clear hg_ hnew_; (first | rw [← Ny266.out] at ho27 | (simp only [Int.reduceToNat] at ho27; rw [← Ny266.out] at ho27)); have n0_ := Aside0.mk (Kd.R_below (by (with_reducible repeat (first | apply Kd.R_alloc | apply Kd.R_drewN | apply Kd.R_drew)); exact HO_5.out) hb); have n1_ := Aside0.mk (Kd.R_lower ho27 (below_size (by repeat (first | (with_reducible first | exact HB.out | apply below_alloc | apply pw_below_drewN | apply below_drew1 | refine below_set ?_ GE253.out) | exact HB.out)))); have n2_ := Aside0.mk (blk_below (g := gb253) (o := .cells #[.string a0_0, .string a0_1, .string a0_2, .slice A0_3 l0_3.length c0_3, .slice A0_4 l0_4.length c0_4, .slice A0_5 l0_5.length c0_5, .slice A0_6 l0_6.length c0_6, .slice A0_7 l0_7.length c0_7, .slice A0_8 l0_8.length c0_8] 32 (0, 0)) (by (with_reducible repeat (first | refine blk_drewN ?_ _ | refine blk_drew ?_ | refine blk_alloc ?_ _)); exact BK253.out) hb); have n3_ := Aside0.mk (below_step (by repeat (first | (with_reducible first | exact HB.out | apply below_alloc | apply pw_below_drewN | apply below_drew1 | refine below_set ?_ GE253.out) | exact HB.out)) hb); clear HO_5; clear BK253; clear HB; have HO_5 := n0_; have HO268 := n1_; have BK253 := n2_; have HB := n3_; clear n0_ n1_ n2_ n3_; clear hb ho27; have hcz28_0 : w26.cell? ⟨gb253, 0, none⟩ = some (.string a0_0) := (blk_cell BK253.out 0).trans rfl; have hcz28_1 : w26.cell? ⟨gb253, 1, none⟩ = some (.string a0_1) := (blk_cell BK253.out 1).trans rfl; have hcz28_2 : w26.cell? ⟨gb253, 2, none⟩ = some (.string a0_2) := (blk_cell BK253.out 2).trans rfl; have hcz28_3 : w26.cell? ⟨gb253, 3, none⟩ = some (.slice A0_3 l0_3.length c0_3) := (blk_cell BK253.out 3).trans rfl; have hcz28_4 : w26.cell? ⟨gb253, 4, none⟩ = some (.slice A0_4 l0_4.length c0_4) := (blk_cell BK253.out 4).trans rfl; have hcz28_5 : w26.cell? ⟨gb253, 5, none⟩ = some (.slice A0_5 l0_5.length c0_5) := (blk_cell BK253.out 5).trans rfl; have hcz28_6 : w26.cell? ⟨gb253, 6, none⟩ = some (.slice A0_6 l0_6.length c0_6) := (blk_cell BK253.out 6).trans rfl; have hcz28_7 : w26.cell? ⟨gb253, 7, none⟩ = some (.slice A0_7 l0_7.length c0_7) := (blk_cell BK253.out 7).trans rfl; have hcz28_8 : w26.cell? ⟨gb253, 8, none⟩ = some (.slice A0_8 l0_8.length c0_8) := (blk_cell BK253.out 8).trans rfl; have hfz28_0 := blk_frozen BK253.out 0; have hfz28_1 := blk_frozen BK253.out 1; have hfz28_2 := blk_frozen BK253.out 2; have hfz28_3 := blk_frozen BK253.out 3; have hfz28_4 := blk_frozen BK253.out 4; have hfz28_5 := blk_frozen BK253.out 5; have hfz28_6 := blk_frozen BK253.out 6; have hfz28_7 := blk_frozen BK253.out 7; have hfz28_8 := blk_frozen BK253.out 8))
     go_loopg [6, 51] kj17 (fun kq v6 v51 w' => ∃ (x6_3 : List (S57)) (x51_3 : Int), v51 = .int .i64 x51_3 ∧ Aside0 (spec_Text.l0 kq a1 x5_17 x6_3 l0_3 (l0_3.length : Int) x51_3 a0_0 a0_1 a0_2 l0_3 l0_4 l0_5 l0_6 l0_7 l0_8 = some r) ∧ Aside0 (kq ≤ kj17) ∧ Aside0 (Kd.R Kd.string 9 w' w.heap.size (fun _ => True) u5 x5_17) ∧ Aside0 (Kd.R k57 57 w' w.heap.size (fun _ => True) v6 x6_3) ∧ Aside0 (w'.heap[gb253]? = some (.cells #[.string a0_0, .string a0_1, .string a0_2, (.slice A0_3 l0_3.length c0_3), (.slice A0_4 l0_4.length c0_4), (.slice A0_5 l0_5.length c0_5), (.slice A0_6 l0_6.length c0_6), (.slice A0_7 l0_7.length c0_7), (.slice A0_8 l0_8.length c0_8)] 32 (0, 0))) ∧ Aside0 (Below w.heap.size w w'))
     case atStart => exact ⟨(y266), (0), (by first | rfl | (simp; done) | (simp [*]; done)), H', ⟨Nat.le_refl _⟩, ⟨by (with_reducible repeat (first | apply Kd.R_alloc | apply Kd.R_drewN | apply Kd.R_drew)); exact HO_5.out⟩, ⟨by (with_reducible repeat (first | apply Kd.R_alloc | apply Kd.R_drewN | apply Kd.R_drew)); exact HO268.out⟩, ⟨by (with_reducible repeat (first | refine blk_drewN ?_ _ | refine blk_drew ?_ | refine blk_alloc ?_ _)); exact BK253.out⟩, ⟨by repeat (first | (with_reducible first | exact HB.out | apply below_alloc | apply pw_below_drewN | apply below_drew1 | refine below_set ?_ GE253.out) | exact HB.out)⟩⟩
     case round =>
      clear H'
      clear hcz28_0
      clear hcz28_1
      clear hcz28_2
      clear hcz28_3
      clear hcz28_4
      clear hcz28_5
      clear hcz28_6
      clear hcz28_7
      clear hcz28_8
      clear hfz28_0
      clear hfz28_1
      clear hfz28_2
      clear hfz28_3
      clear hfz28_4
      clear hfz28_5
      clear hfz28_6
      clear hfz28_7
      clear hfz28_8
      obtain ⟨x6_3, x51_3, rfl, HA, HK3, HO_5, HO_6, BK253, HB⟩ := hrel
      cases gk with
      | zero => exact absurd HA.out (by simp [spec_Text.l0])
      | succ k3 =>
       have H := HA.out
       clear HA
       simp only [spec_Text.l0] at H
       by_cases c29 : x51_3 < (l0_3.length : Int)
       ·
        rw [if_pos c29] at H
        have c29b0 : decide (x51_3 < (l0_3.length : Int)) = true := decide_eq_true c29
        clear c29
        by_cases c30 : 0 ≤ x51_3
        ·
         rw [if_pos c30] at H
         have c30b0 : decide (0 ≤ x51_3) = true := decide_eq_true c30
         clear c30
         by_cases c31 : x51_3 < (l0_3.length : Int)
         ·
          rw [if_pos c31] at H
          have c31b0 : decide (x51_3 < (l0_3.length : Int)) = true := decide_eq_true c31
          clear c31
          replace H := Option.bind_eq_some_iff.mp H
          obtain ⟨t271, A320, H⟩ := H
          replace H : (if x6_3.length < 4398046511104 then (spec_Text.l0 k3 a1 x5_17 (x6_3 ++ [(⟨(⟨#[]⟩ : ByteArray), t271⟩ : S57)]) l0_3 (l0_3.length : Int) (wrap64 (x51_3 + 1)) a0_0 a0_1 a0_2 l0_3 l0_4 l0_5 l0_6 l0_7 l0_8) else (none)) = some r := H
          have A32 := Aside0.mk A320
          clear A320
          by_cases c33 : x6_3.length < 4398046511104
          ·
           rw [if_pos c33] at H
           have LMc33 := Aside0.mk c33
           clear c33
           obtain ⟨y272, hy272⟩ : ∃ y_ : List (S57), y_ = (x6_3 ++ [(⟨(⟨#[]⟩ : ByteArray), t271⟩ : S57)]) := ⟨_, rfl⟩
           replace H : (spec_Text.l0 k3 a1 x5_17 y272 l0_3 (l0_3.length : Int) (wrap64 (x51_3 + 1)) a0_0 a0_1 a0_2 l0_3 l0_4 l0_5 l0_6 l0_7 l0_8) = some r := by first | (rw [hy272]; with_reducible exact H) | (have H2_ := (Option.bind_some _ _).symm.trans H; rw [hy272]; with_reducible exact H2_) | (have H2_ := (Option.bind_some _ _).symm.trans H; with_reducible exact H2_) | with_reducible exact H | (rw [hy272]; exact H) | exact H
           have Ny272 := Aside0.mk hy272
           clear hy272
           have H' := Aside0.mk H
           clear H
           have p269 : 0 ≤ (x51_3 : Int) := of_decide_eq_true (by first | (with_reducible assumption) | assumption)
           have q269 : x51_3 < (l0_3.length : Int) := of_decide_eq_true (by first | (with_reducible assumption) | assumption)
           obtain ⟨ad269, e269, hx269_0, hx269_1, hx269_2⟩ := at_T46 HR0_3.out x51_3 p269 q269
           cases e269
           replace hx269_0 := (HB.out.cell (World.block_lt_of_cell? w _ hx269_0)).trans hx269_0
           replace hx269_1 := (HB.out.cell (World.block_lt_of_cell? w _ hx269_1)).trans hx269_1
           replace hx269_2 := (HB.out.cell (World.block_lt_of_cell? w _ hx269_2)).trans hx269_2
           replace p269 := eq_true p269
           replace q269 := eq_true q269
           go_wp2_with (first | ((with_reducible refine gate_dst (N := 8) rfl ?_); refine box_event ?hg (N := 8) ?hd (cs := #[.string (⟨#[]⟩ : ByteArray), .string (⟨#[]⟩ : ByteArray), .bool false]) (t := 46) ?hr ?_; (case hd => rfl); (case hg => rfl); (case hr => first | (go_simp; done) | (go_simp; rfl)); intro gb270 hg w34 hbox hb; have n0_ := Aside0.mk (Kd.R_below (by (with_reducible repeat (first | apply Kd.R_alloc | apply Kd.R_drewN | apply Kd.R_drew)); exact HO_5.out) hb); have n1_ := Aside0.mk (Kd.R_below (by (with_reducible repeat (first | apply Kd.R_alloc | apply Kd.R_drewN | apply Kd.R_drew)); exact HO_6.out) hb); have n2_ := Aside0.mk (blk_below (g := gb253) (o := .cells #[.string a0_0, .string a0_1, .string a0_2, .slice (some ad269) l0_3.length c0_3, .slice A0_4 l0_4.length c0_4, .slice A0_5 l0_5.length c0_5, .slice A0_6 l0_6.length c0_6, .slice A0_7 l0_7.length c0_7, .slice A0_8 l0_8.length c0_8] 32 (0, 0)) (by (with_reducible repeat (first | refine blk_drewN ?_ _ | refine blk_drew ?_ | refine blk_alloc ?_ _)); exact BK253.out) hb); have n3_ := Aside0.mk (below_step (by repeat (first | (with_reducible first | exact HB.out | apply below_alloc | apply pw_below_drewN | apply below_drew1 | refine below_set ?_ GE253.out) | exact HB.out)) hb); have n4_ := Aside0.mk (hbox); have n5_ := Aside0.mk ((by rw [hg]; exact (below_size (by repeat (first | (with_reducible first | exact HB.out | apply below_alloc | apply pw_below_drewN | apply below_drew1 | refine below_set ?_ GE253.out) | exact HB.out))) : w.heap.size ≤ gb270)); have n6_ := Aside0.mk ((by rw [hg]; exact (below_size (by repeat (first | (with_reducible first | exact HB.out | apply below_alloc | apply pw_below_drewN | apply below_drew1 | refine below_set ?_ GE253.out) | exact HB.out))) : w.heap.size ≤ gb270)); have n7_ := Aside0.mk ((by rw [hg]; exact Nat.ne_of_lt (blk_lt (g := gb253) (o := .cells #[.string a0_0, .string a0_1, .string a0_2, .slice (some ad269) l0_3.length c0_3, .slice A0_4 l0_4.length c0_4, .slice A0_5 l0_5.length c0_5, .slice A0_6 l0_6.length c0_6, .slice A0_7 l0_7.length c0_7, .slice A0_8 l0_8.length c0_8] 32 (0, 0)) (by (with_reducible repeat (first | refine blk_drewN ?_ _ | refine blk_drew ?_ | refine blk_alloc ?_ _)); exact BK253.out)) : gb253 ≠ gb270)); have n8_ := Aside0.mk ((by rw [hg]; exact Nat.ne_of_gt (blk_lt (g := gb253) (o := .cells #[.string a0_0, .string a0_1, .string a0_2, .slice (some ad269) l0_3.length c0_3, .slice A0_4 l0_4.length c0_4, .slice A0_5 l0_5.length c0_5, .slice A0_6 l0_6.length c0_6, .slice A0_7 l0_7.length c0_7, .slice A0_8 l0_8.length c0_8] 32 (0, 0)) (by (with_reducible repeat (first | refine blk_drewN ?_ _ | refine blk_drew ?_ | refine blk_alloc ?_ _)); exact BK253.out)) : gb270 ≠ gb253)); clear HO_5; clear HO_6; clear BK253; clear HB; have HO_5 := n0_; have HO_6 := n1_; have BK253 := n2_; have HB := n3_; have BK270 := n4_; have GW270 := n5_; have GE270 := n6_; have NB253_270 := n7_; have NB270_253 := n8_; clear n0_ n1_ n2_ n3_ n4_ n5_ n6_ n7_ n8_; clear hb hbox hg; have hnb35 := NB270_253.out; have hnc35 := NB253_270.out; have hcz36_0 : w34.cell? ⟨gb270, 0, none⟩ = some (.string (⟨#[]⟩ : ByteArray)) := (blk_cell BK270.out 0).trans rfl; have hcz36_1 : w34.cell? ⟨gb270, 1, none⟩ = some (.string (⟨#[]⟩ : ByteArray)) := (blk_cell BK270.out 1).trans rfl; have hcz36_2 : w34.cell? ⟨gb270, 2, none⟩ = some (.bool false) := (blk_cell BK270.out 2).trans rfl; have hfz36_0 := blk_frozen BK270.out 0; have hfz36_1 := blk_frozen BK270.out 1; have hfz36_2 := blk_frozen BK270.out 2) | ((with_reducible refine gate_callee (f := 31) rfl ?_); refine goesL_ (some 57) rfl rfl Tryd.func31 (by kernel_rfl) rfl #[.agg #[.string ((rd_T46 l0_3 x51_3).f0), .string ((rd_T46 l0_3 x51_3).f1), .bool ((rd_T46 l0_3 x51_3).f2)]] rfl (by (try simp only [List.map_toArray, List.map_cons, List.map_nil]); first | done | rfl | (simp only [List.length_drop, List.length_take]; rfl)) ?_; (with_reducible refine (spec_RequireText.calls ((rd_T46 l0_3 x51_3).f0) ((rd_T46 l0_3 x51_3).f1) ((rd_T46 l0_3 x51_3).f2) t271 _ A32.out).mono ?_); rintro e w37 ⟨rfl, hb⟩; refine ⟨_, rfl, ?_⟩; have n0_ := Aside0.mk (Kd.R_below (by (with_reducible repeat (first | apply Kd.R_alloc | apply Kd.R_drewN | apply Kd.R_drew)); exact (Kd.R_mono (Kd.R_far (p := ⟨gb270, 2, none⟩) (Kd.R_far (p := ⟨gb270, 1, none⟩) (Kd.R_far (p := ⟨gb270, 0, none⟩) (Kd.R_types HO_5.out BK270.out (by decide)) (fun _ hk => hk.2) (.string ((rd_T46 l0_3 x51_3).f0))) (fun _ hk => hk.2) (.string ((rd_T46 l0_3 x51_3).f1))) (fun _ hk => hk.2) (.bool ((rd_T46 l0_3 x51_3).f2))) (fun _ h_ => h_.1))) hb); have n1_ := Aside0.mk (Kd.R_below (by (with_reducible repeat (first | apply Kd.R_alloc | apply Kd.R_drewN | apply Kd.R_drew)); exact (Kd.R_mono (Kd.R_far (p := ⟨gb270, 2, none⟩) (Kd.R_far (p := ⟨gb270, 1, none⟩) (Kd.R_far (p := ⟨gb270, 0, none⟩) (Kd.R_types HO_6.out BK270.out (by decide)) (fun _ hk => hk.2) (.string ((rd_T46 l0_3 x51_3).f0))) (fun _ hk => hk.2) (.string ((rd_T46 l0_3 x51_3).f1))) (fun _ hk => hk.2) (.bool ((rd_T46 l0_3 x51_3).f2))) (fun _ h_ => h_.1))) hb); have n2_ := Aside0.mk (blk_below (g := gb253) (o := .cells #[.string a0_0, .string a0_1, .string a0_2, .slice (some ad269) l0_3.length c0_3, .slice A0_4 l0_4.length c0_4, .slice A0_5 l0_5.length c0_5, .slice A0_6 l0_6.length c0_6, .slice A0_7 l0_7.length c0_7, .slice A0_8 l0_8.length c0_8] 32 (0, 0)) (by (with_reducible repeat (first | refine blk_drewN ?_ _ | refine blk_drew ?_ | refine blk_alloc ?_ _)); refine blk_far ?_ NB253_270.out _; (with_reducible repeat (first | refine blk_drewN ?_ _ | refine blk_drew ?_ | refine blk_alloc ?_ _)); refine blk_far ?_ NB253_270.out _; (with_reducible repeat (first | refine blk_drewN ?_ _ | refine blk_drew ?_ | refine blk_alloc ?_ _)); refine blk_far ?_ NB253_270.out _; (with_reducible repeat (first | refine blk_drewN ?_ _ | refine blk_drew ?_ | refine blk_alloc ?_ _)); exact BK253.out) hb); have n3_ := Aside0.mk (blk_below (g := gb270) (o := .cells #[.string ((rd_T46 l0_3 x51_3).f0), .string ((rd_T46 l0_3 x51_3).f1), .bool ((rd_T46 l0_3 x51_3).f2)] 46 (0, 0)) (by (with_reducible repeat (first | refine blk_drewN ?_ _ | refine blk_drew ?_ | refine blk_alloc ?_ _)); refine blk_put (cs := #[.string ((rd_T46 l0_3 x51_3).f0), .string ((rd_T46 l0_3 x51_3).f1), .bool false]) ?_ 2 _ rfl; (with_reducible repeat (first | refine blk_drewN ?_ _ | refine blk_drew ?_ | refine blk_alloc ?_ _)); refine blk_put (cs := #[.string ((rd_T46 l0_3 x51_3).f0), .string (⟨#[]⟩ : ByteArray), .bool false]) ?_ 1 _ rfl; (with_reducible repeat (first | refine blk_drewN ?_ _ | refine blk_drew ?_ | refine blk_alloc ?_ _)); refine blk_put (cs := #[.string (⟨#[]⟩ : ByteArray), .string (⟨#[]⟩ : ByteArray), .bool false]) ?_ 0 _ rfl; (with_reducible repeat (first | refine blk_drewN ?_ _ | refine blk_drew ?_ | refine blk_alloc ?_ _)); exact BK270.out) hb); have n4_ := Aside0.mk (below_step (by repeat (first | (with_reducible first | exact HB.out | apply below_alloc | apply pw_below_drewN | apply below_drew1 | refine below_set ?_ GE253.out | refine below_set ?_ GE270.out) | exact HB.out)) hb); clear HO_5; clear HO_6; clear BK253; clear BK270; clear HB; have HO_5 := n0_; have HO_6 := n1_; have BK253 := n2_; have BK270 := n3_; have HB := n4_; clear n0_ n1_ n2_ n3_ n4_; (try clear hb); (try clear hb2); (try clear hk); (try clear hi)) | ((with_reducible refine gate_builtin (b := .append) (xs := #[.tmp 55, .tmp 59]) rfl ?_); at_builtin; refine Kd.R_append k57 (w0 := w) w.heap.size rfl (.tmp 55) (.tmp 59) 58 57 (.agg #[(.string ⟨#[]⟩), (.string ⟨#[]⟩)]) 32 rfl Tryd.underlying58 info57 rfl (by decide) (by omega) u6 x6_3 (⟨(⟨#[]⟩ : ByteArray), t271⟩ : S57) [.string (⟨#[]⟩ : ByteArray), .string t271] (fun _ => True) (fun _ => False) rfl rfl ?aP (fun _ hk => hk.elim) ?aF ?aO ?aB ?aS ?aL ?_; (case aP => exact k57_mkM _ _ _ (⟨(⟨#[]⟩ : ByteArray), t271⟩ : S57)); (case aB => exact (by repeat (first | (with_reducible first | exact HB.out | apply below_alloc | apply pw_below_drewN | apply below_drew1 | refine below_set ?_ GE253.out | refine below_set ?_ GE270.out) | exact HB.out))); (case aF => exact (fun _ _ => trivial)); (case aO => exact (by (with_reducible repeat (first | apply Kd.R_alloc | apply Kd.R_drewN | apply Kd.R_drew)); exact HO_6.out)); (case aS => exact (below_size (by repeat (first | (with_reducible first | exact HB.out | apply below_alloc | apply pw_below_drewN | apply below_drew1 | refine below_set ?_ GE253.out | refine below_set ?_ GE270.out) | exact HB.out)))); (case aL => have := LMc33.out; omega); intro v273 w38 ho hb hg hat; rw [← Ny272.out] at ho; have n0_ := Aside0.mk (Kd.R_over' (by (with_reducible repeat (first | apply Kd.R_alloc | apply Kd.R_drewN | apply Kd.R_drew)); exact HO_5.out) (Kd.R_typed (by (with_reducible repeat (first | apply Kd.R_alloc | apply Kd.R_drewN | apply Kd.R_drew)); exact HO_6.out)) (by decide) hg); have n1_ := Aside0.mk (blk_grown (g := gb253) (o := .cells #[.string a0_0, .string a0_1, .string a0_2, .slice (some ad269) l0_3.length c0_3, .slice A0_4 l0_4.length c0_4, .slice A0_5 l0_5.length c0_5, .slice A0_6 l0_6.length c0_6, .slice A0_7 l0_7.length c0_7, .slice A0_8 l0_8.length c0_8] 32 (0, 0)) (by (with_reducible repeat (first | refine blk_drewN ?_ _ | refine blk_drew ?_ | refine blk_alloc ?_ _)); exact BK253.out) hg (Kd.R_ne HO_6.out BK253.out (by decide))); have n2_ := Aside0.mk (blk_grown (g := gb270) (o := .cells #[.string ((rd_T46 l0_3 x51_3).f0), .string ((rd_T46 l0_3 x51_3).f1), .bool ((rd_T46 l0_3 x51_3).f2)] 46 (0, 0)) (by (with_reducible repeat (first | refine blk_drewN ?_ _ | refine blk_drew ?_ | refine blk_alloc ?_ _)); exact BK270.out) hg (Kd.R_ne HO_6.out BK270.out (by decide))); have n3_ := Aside0.mk (hb); have n4_ := Aside0.mk (ho); clear HO_5; clear BK253; clear BK270; clear HB; clear HO_6; have HO_5 := n0_; have BK253 := n1_; have BK270 := n2_; have HB := n3_; have HO274 := n4_; clear n0_ n1_ n2_ n3_ n4_; clear ho hb hg hat))
           go_roundg k3
           case measure => have := HJ3.out; have := HJ17.out; have := HK3.out; omega
           case rel => exact ⟨(y272), (wrap64 (x51_3 + 1)), (by first | rfl | (simp; done) | (simp [*]; done)), H', ⟨by have := HJ3.out; have := HJ17.out; have := HK3.out; omega⟩, ⟨by (with_reducible repeat (first | apply Kd.R_alloc | apply Kd.R_drewN | apply Kd.R_drew)); exact HO_5.out⟩, ⟨by (with_reducible repeat (first | apply Kd.R_alloc | apply Kd.R_drewN | apply Kd.R_drew)); exact HO274.out⟩, ⟨by (with_reducible repeat (first | refine blk_drewN ?_ _ | refine blk_drew ?_ | refine blk_alloc ?_ _)); exact BK253.out⟩, ⟨by repeat (first | (with_reducible first | exact HB.out | apply below_alloc | apply pw_below_drewN | apply below_drew1 | refine below_set ?_ GE253.out | refine below_set ?_ GE270.out) | exact HB.out)⟩⟩
          ·
           rw [if_neg c33] at H
           exact absurd H (by simp)
         ·
          rw [if_neg c31] at H
          exact absurd H (by simp)
        ·
         rw [if_neg c30] at H
         exact absurd H (by simp)
       ·
        rw [if_neg c29] at H
        have c29b0 : decide (x51_3 < (l0_3.length : Int)) = false := decide_eq_false c29
        clear c29
        replace H := Option.bind_eq_some_iff.mp H
        obtain ⟨t275, A390, H⟩ := H
        replace H : (if x5_17.length + t275.length < 8796093022208 then (spec_Text.l1 k3 a1 (x5_17 ++ t275) ([] : List (S57)) l0_4 (l0_4.length : Int) 0 a0_0 a0_1 a0_2 l0_3 l0_4 l0_5 l0_6 l0_7 l0_8) else (none)) = some r := H
        have A39 := Aside0.mk A390
        clear A390
        by_cases c40 : x5_17.length + t275.length < 8796093022208
        ·
         rw [if_pos c40] at H
         have LMc40 := Aside0.mk c40
         clear c40
         obtain ⟨y278, hy278⟩ : ∃ y_ : List ByteArray, y_ = (x5_17 ++ t275) := ⟨_, rfl⟩
         replace H : (spec_Text.l1 k3 a1 y278 ([] : List (S57)) l0_4 (l0_4.length : Int) 0 a0_0 a0_1 a0_2 l0_3 l0_4 l0_5 l0_6 l0_7 l0_8) = some r := by first | (rw [hy278]; with_reducible exact H) | (have H2_ := (Option.bind_some _ _).symm.trans H; rw [hy278]; with_reducible exact H2_) | (have H2_ := (Option.bind_some _ _).symm.trans H; with_reducible exact H2_) | with_reducible exact H | (rw [hy278]; exact H) | exact H
         have Ny278 := Aside0.mk hy278
         clear hy278
         have H' := Aside0.mk H
         clear H
         obtain ⟨Ao41, co41, eo41⟩ := Kd.R_slice HO_6.out
         subst eo41
         go_wp2_with (first | ((with_reducible refine gate_callee (f := 30) rfl ?_); refine goesL_ (some 65) rfl rfl Tryd.func30 (by kernel_rfl) rfl #[.string (⟨#[114, 101, 113, 117, 105, 114, 101]⟩ : ByteArray), .slice Ao41 x6_3.length co41, .bool a1] rfl (by (try simp only [List.map_toArray, List.map_cons, List.map_nil]); first | done | rfl | (simp only [List.length_drop, List.length_take]; rfl)) ?_; (with_reducible refine (spec_section.calls k3 (⟨#[114, 101, 113, 117, 105, 114, 101]⟩ : ByteArray) _ _ x6_3 a1 t275 _ ?side1 ?side2 A39.out).mono ?_); (case side1 => repeat (first | exact (Kd.R_reads' HO_6.out).2.2 | (with_reducible refine Kd.C_alloc ?_ _) | (with_reducible refine Kd.C_drewN ?_ _) | (with_reducible refine Kd.C_drew ?_))); (case side2 => exact (Kd.R_reads' HO_6.out).2.1); rintro e w42 ⟨v276, rfl, ho0, hb⟩; refine ⟨_, rfl, ?_⟩; have n0_ := Aside0.mk (Kd.R_elder' (by (with_reducible repeat (first | apply Kd.R_alloc | apply Kd.R_drewN | apply Kd.R_drew)); exact HO_5.out) (Kd.R_base ho0) hb); have n1_ := Aside0.mk (Kd.R_below (by (with_reducible repeat (first | apply Kd.R_alloc | apply Kd.R_drewN | apply Kd.R_drew)); exact HO_6.out) hb); have n2_ := Aside0.mk (Kd.R_lower (Kd.R_new' ho0 (Kd.R_lt (by (with_reducible repeat (first | apply Kd.R_alloc | apply Kd.R_drewN | apply Kd.R_drew)); exact HO_5.out))) (below_size (by repeat (first | (with_reducible first | exact HB.out | apply below_alloc | apply pw_below_drewN | apply below_drew1 | refine below_set ?_ GE253.out) | exact HB.out)))); have n3_ := Aside0.mk (blk_below (g := gb253) (o := .cells #[.string a0_0, .string a0_1, .string a0_2, .slice A0_3 l0_3.length c0_3, .slice A0_4 l0_4.length c0_4, .slice A0_5 l0_5.length c0_5, .slice A0_6 l0_6.length c0_6, .slice A0_7 l0_7.length c0_7, .slice A0_8 l0_8.length c0_8] 32 (0, 0)) (by (with_reducible repeat (first | refine blk_drewN ?_ _ | refine blk_drew ?_ | refine blk_alloc ?_ _)); exact BK253.out) hb); have n4_ := Aside0.mk (below_step (by repeat (first | (with_reducible first | exact HB.out | apply below_alloc | apply pw_below_drewN | apply below_drew1 | refine below_set ?_ GE253.out) | exact HB.out)) hb); clear HO_5; clear HO_6; clear BK253; clear HB; have HO_5 := n0_; have HO_6 := n1_; have HO277 := n2_; have BK253 := n3_; have HB := n4_; clear n0_ n1_ n2_ n3_ n4_; (try clear hb); (try clear hb2); (try clear hk); (try clear hi); (try clear ho0); obtain ⟨Ao44, co44, eo44⟩ := Kd.R_slice HO277.out; subst eo44) | ((with_reducible refine gate_builtin (b := .append) (xs := #[.tmp 62, .tmp 65]) rfl ?_); at_builtin; refine Kd.R_append_rows Kd.string (w0 := w) w.heap.size rfl (.tmp 62) (.tmp 65) 30 9 (.string ⟨#[]⟩) 16 rfl Tryd.underlying30 info9 rfl (by decide) (by omega) u5 x5_17 t275 _ _ _ (fun k_ => some k_ ≠ (.slice Ao44 t275.length co44 : Value).ownBlock) (fun _ => False) rfl rfl ?aO ?aR (fun _ _ h => h) (fun _ h => h.elim) ?aF ?aB ?aS ?aL ?_; (case aR => repeat (first | exact (Kd.R_reads' HO277.out).2.2 | (with_reducible refine Kd.C_alloc ?_ _) | (with_reducible refine Kd.C_drewN ?_ _) | (with_reducible refine Kd.C_drew ?_))); (case aB => exact (by repeat (first | (with_reducible first | exact HB.out | apply below_alloc | apply pw_below_drewN | apply below_drew1 | refine below_set ?_ GE253.out) | exact HB.out))); (case aF => exact (fun k_ hk => Kd.fresh' (Kd.R_lt (by (with_reducible repeat (first | apply Kd.R_alloc | apply Kd.R_drewN | apply Kd.R_drew)); exact HO277.out)) k_ hk)); (case aO => exact (by (with_reducible repeat (first | apply Kd.R_alloc | apply Kd.R_drewN | apply Kd.R_drew)); exact Kd.R_mono HO_5.out (fun _ hk => hk.2))); (case aS => exact (below_size (by repeat (first | (with_reducible first | exact HB.out | apply below_alloc | apply pw_below_drewN | apply below_drew1 | refine below_set ?_ GE253.out) | exact HB.out)))); (case aL => have := LMc40.out; omega); intro v279 w43 ho hb hg hat; rw [← Ny278.out] at ho; have n0_ := Aside0.mk (Kd.R_over' (by (with_reducible repeat (first | apply Kd.R_alloc | apply Kd.R_drewN | apply Kd.R_drew)); exact HO_6.out) (Kd.R_typed (by (with_reducible repeat (first | apply Kd.R_alloc | apply Kd.R_drewN | apply Kd.R_drew)); exact HO_5.out)) (by decide) hg); have n1_ := Aside0.mk (blk_grown (g := gb253) (o := .cells #[.string a0_0, .string a0_1, .string a0_2, .slice A0_3 l0_3.length c0_3, .slice A0_4 l0_4.length c0_4, .slice A0_5 l0_5.length c0_5, .slice A0_6 l0_6.length c0_6, .slice A0_7 l0_7.length c0_7, .slice A0_8 l0_8.length c0_8] 32 (0, 0)) (by (with_reducible repeat (first | refine blk_drewN ?_ _ | refine blk_drew ?_ | refine blk_alloc ?_ _)); exact BK253.out) hg (Kd.R_ne HO_5.out BK253.out (by decide))); have n2_ := Aside0.mk (Kd.R_after (ok := (fun _ => True)) (by (with_reducible repeat (first | apply Kd.R_alloc | apply Kd.R_drewN | apply Kd.R_drew)); exact HO277.out) hg hat); have n3_ := Aside0.mk (hb); have n4_ := Aside0.mk (ho); clear HO_6; clear BK253; clear HO277; clear HB; clear HO_5; have HO_6 := n0_; have BK253 := n1_; have HO277 := n2_; have HB := n3_; have HO280 := n4_; clear n0_ n1_ n2_ n3_ n4_; clear ho hb hg hat; have hcz45_0 : w43.cell? ⟨gb253, 0, none⟩ = some (.string a0_0) := (blk_cell BK253.out 0).trans rfl; have hcz45_1 : w43.cell? ⟨gb253, 1, none⟩ = some (.string a0_1) := (blk_cell BK253.out 1).trans rfl; have hcz45_2 : w43.cell? ⟨gb253, 2, none⟩ = some (.string a0_2) := (blk_cell BK253.out 2).trans rfl; have hcz45_3 : w43.cell? ⟨gb253, 3, none⟩ = some (.slice A0_3 l0_3.length c0_3) := (blk_cell BK253.out 3).trans rfl; have hcz45_4 : w43.cell? ⟨gb253, 4, none⟩ = some (.slice A0_4 l0_4.length c0_4) := (blk_cell BK253.out 4).trans rfl; have hcz45_5 : w43.cell? ⟨gb253, 5, none⟩ = some (.slice A0_5 l0_5.length c0_5) := (blk_cell BK253.out 5).trans rfl; have hcz45_6 : w43.cell? ⟨gb253, 6, none⟩ = some (.slice A0_6 l0_6.length c0_6) := (blk_cell BK253.out 6).trans rfl; have hcz45_7 : w43.cell? ⟨gb253, 7, none⟩ = some (.slice A0_7 l0_7.length c0_7) := (blk_cell BK253.out 7).trans rfl; have hcz45_8 : w43.cell? ⟨gb253, 8, none⟩ = some (.slice A0_8 l0_8.length c0_8) := (blk_cell BK253.out 8).trans rfl; have hfz45_0 := blk_frozen BK253.out 0; have hfz45_1 := blk_frozen BK253.out 1; have hfz45_2 := blk_frozen BK253.out 2; have hfz45_3 := blk_frozen BK253.out 3; have hfz45_4 := blk_frozen BK253.out 4; have hfz45_5 := blk_frozen BK253.out 5; have hfz45_6 := blk_frozen BK253.out 6; have hfz45_7 := blk_frozen BK253.out 7; have hfz45_8 := blk_frozen BK253.out 8))
         go_loopg [6, 70] k3 (fun kq v6 v70 w' => ∃ (x6_4 : List (S57)) (x70_4 : Int), v70 = .int .i64 x70_4 ∧ Aside0 (spec_Text.l1 kq a1 y278 x6_4 l0_4 (l0_4.length : Int) x70_4 a0_0 a0_1 a0_2 l0_3 l0_4 l0_5 l0_6 l0_7 l0_8 = some r) ∧ Aside0 (kq ≤ k3) ∧ Aside0 (Kd.R Kd.string 9 w' w.heap.size (fun _ => True) v279 y278) ∧ Aside0 (Kd.R k57 57 w' w.heap.size (fun _ => True) v6 x6_4) ∧ Aside0 (w'.heap[gb253]? = some (.cells #[.string a0_0, .string a0_1, .string a0_2, (.slice A0_3 l0_3.length c0_3), (.slice A0_4 l0_4.length c0_4), (.slice A0_5 l0_5.length c0_5), (.slice A0_6 l0_6.length c0_6), (.slice A0_7 l0_7.length c0_7), (.slice A0_8 l0_8.length c0_8)] 32 (0, 0))) ∧ Aside0 (Below w.heap.size w w'))
         case atStart => exact ⟨(([] : List (S57))), (0), (by first | rfl | (simp; done) | (simp [*]; done)), H', ⟨Nat.le_refl _⟩, ⟨by (with_reducible repeat (first | apply Kd.R_alloc | apply Kd.R_drewN | apply Kd.R_drew)); exact Kd.R_mono HO280.out (fun _ hk => trivial)⟩, ⟨by first | exact Kd.R_nil _ _ _ _ _ | exact Kd.N_nil _ _ _ _ _ | exact Kd.V_nil _ _ _ _ _ | exact Kd.Q_nil _ _ _ _ _ | exact Kd.S_nil _ _ _ _ _⟩, ⟨by (with_reducible repeat (first | refine blk_drewN ?_ _ | refine blk_drew ?_ | refine blk_alloc ?_ _)); exact BK253.out⟩, ⟨by repeat (first | (with_reducible first | exact HB.out | apply below_alloc | apply pw_below_drewN | apply below_drew1 | refine below_set ?_ GE253.out) | exact HB.out)⟩⟩
         case round =>
          clear H'
          clear c29b0
          clear hcz45_0
          clear hcz45_1
          clear hcz45_2
          clear hcz45_3
          clear hcz45_4
          clear hcz45_5
          clear hcz45_6
          clear hcz45_7
          clear hcz45_8
          clear hfz45_0
          clear hfz45_1
          clear hfz45_2
          clear hfz45_3
          clear hfz45_4
          clear hfz45_5
          clear hfz45_6
          clear hfz45_7
          clear hfz45_8
          obtain ⟨x6_4, x70_4, rfl, HA, HK4, HO_5, HO_6, BK253, HB⟩ := hrel
          cases gk with
          | zero => exact absurd HA.out (by simp [spec_Text.l1])
          | succ k4 =>
           have H := HA.out
           clear HA
           simp only [spec_Text.l1] at H
           by_cases c46 : x70_4 < (l0_4.length : Int)
           ·
            rw [if_pos c46] at H
            have c46b0 : decide (x70_4 < (l0_4.length : Int)) = true := decide_eq_true c46
            clear c46
            by_cases c47 : 0 ≤ x70_4
            ·
             rw [if_pos c47] at H
             have c47b0 : decide (0 ≤ x70_4) = true := decide_eq_true c47
             clear c47
             by_cases c48 : x70_4 < (l0_4.length : Int)
             ·
              rw [if_pos c48] at H
              have c48b0 : decide (x70_4 < (l0_4.length : Int)) = true := decide_eq_true c48
              clear c48
              replace H := Option.bind_eq_some_iff.mp H
              obtain ⟨t283, A490, H⟩ := H
              replace H : (if x6_4.length < 4398046511104 then (spec_Text.l1 k4 a1 y278 (x6_4 ++ [(⟨(⟨#[]⟩ : ByteArray), t283⟩ : S57)]) l0_4 (l0_4.length : Int) (wrap64 (x70_4 + 1)) a0_0 a0_1 a0_2 l0_3 l0_4 l0_5 l0_6 l0_7 l0_8) else (none)) = some r := H
              have A49 := Aside0.mk A490
              clear A490
              by_cases c50 : x6_4.length < 4398046511104
              ·
               rw [if_pos c50] at H
               have LMc50 := Aside0.mk c50
               clear c50
               obtain ⟨y284, hy284⟩ : ∃ y_ : List (S57), y_ = (x6_4 ++ [(⟨(⟨#[]⟩ : ByteArray), t283⟩ : S57)]) := ⟨_, rfl⟩
               replace H : (spec_Text.l1 k4 a1 y278 y284 l0_4 (l0_4.length : Int) (wrap64 (x70_4 + 1)) a0_0 a0_1 a0_2 l0_3 l0_4 l0_5 l0_6 l0_7 l0_8) = some r := by first | (rw [hy284]; with_reducible exact H) | (have H2_ := (Option.bind_some _ _).symm.trans H; rw [hy284]; with_reducible exact H2_) | (have H2_ := (Option.bind_some _ _).symm.trans H; with_reducible exact H2_) | with_reducible exact H | (rw [hy284]; exact H) | exact H
               have Ny284 := Aside0.mk hy284
               clear hy284
               have H' := Aside0.mk H
               clear H
               have p281 : 0 ≤ (x70_4 : Int) := of_decide_eq_true (by first | (with_reducible assumption) | assumption)
               have q281 : x70_4 < (l0_4.length : Int) := of_decide_eq_true (by first | (with_reducible assumption) | assumption)
               obtain ⟨ad281, e281, hx281_0, hx281_1⟩ := at_T48 HR0_4.out x70_4 p281 q281
               cases e281
               replace hx281_0 := (HB.out.cell (World.block_lt_of_cell? w _ hx281_0)).trans hx281_0
               replace hx281_1 := (HB.out.cell (World.block_lt_of_cell? w _ hx281_1)).trans hx281_1
               replace p281 := eq_true p281
               replace q281 := eq_true q281
               go_wp2_with (first | ((with_reducible refine gate_dst (N := 10) rfl ?_); refine box_event ?hg (N := 10) ?hd (cs := #[.string (⟨#[]⟩ : ByteArray), .string (⟨#[]⟩ : ByteArray)]) (t := 48) ?hr ?_; (case hd => rfl); (case hg => rfl); (case hr => first | (go_simp; done) | (go_simp; rfl)); intro gb282 hg w51 hbox hb; have n0_ := Aside0.mk (Kd.R_below (by (with_reducible repeat (first | apply Kd.R_alloc | apply Kd.R_drewN | apply Kd.R_drew)); exact HO_5.out) hb); have n1_ := Aside0.mk (Kd.R_below (by (with_reducible repeat (first | apply Kd.R_alloc | apply Kd.R_drewN | apply Kd.R_drew)); exact HO_6.out) hb); have n2_ := Aside0.mk (blk_below (g := gb253) (o := .cells #[.string a0_0, .string a0_1, .string a0_2, .slice A0_3 l0_3.length c0_3, .slice (some ad281) l0_4.length c0_4, .slice A0_5 l0_5.length c0_5, .slice A0_6 l0_6.length c0_6, .slice A0_7 l0_7.length c0_7, .slice A0_8 l0_8.length c0_8] 32 (0, 0)) (by (with_reducible repeat (first | refine blk_drewN ?_ _ | refine blk_drew ?_ | refine blk_alloc ?_ _)); exact BK253.out) hb); have n3_ := Aside0.mk (below_step (by repeat (first | (with_reducible first | exact HB.out | apply below_alloc | apply pw_below_drewN | apply below_drew1 | refine below_set ?_ GE253.out) | exact HB.out)) hb); have n4_ := Aside0.mk (hbox); have n5_ := Aside0.mk ((by rw [hg]; exact (below_size (by repeat (first | (with_reducible first | exact HB.out | apply below_alloc | apply pw_below_drewN | apply below_drew1 | refine below_set ?_ GE253.out) | exact HB.out))) : w.heap.size ≤ gb282)); have n6_ := Aside0.mk ((by rw [hg]; exact (below_size (by repeat (first | (with_reducible first | exact HB.out | apply below_alloc | apply pw_below_drewN | apply below_drew1 | refine below_set ?_ GE253.out) | exact HB.out))) : w.heap.size ≤ gb282)); have n7_ := Aside0.mk ((by rw [hg]; exact Nat.ne_of_lt (blk_lt (g := gb253) (o := .cells #[.string a0_0, .string a0_1, .string a0_2, .slice A0_3 l0_3.length c0_3, .slice (some ad281) l0_4.length c0_4, .slice A0_5 l0_5.length c0_5, .slice A0_6 l0_6.length c0_6, .slice A0_7 l0_7.length c0_7, .slice A0_8 l0_8.length c0_8] 32 (0, 0)) (by (with_reducible repeat (first | refine blk_drewN ?_ _ | refine blk_drew ?_ | refine blk_alloc ?_ _)); exact BK253.out)) : gb253 ≠ gb282)); have n8_ := Aside0.mk ((by rw [hg]; exact Nat.ne_of_gt (blk_lt (g := gb253) (o := .cells #[.string a0_0, .string a0_1, .string a0_2, .slice A0_3 l0_3.length c0_3, .slice (some ad281) l0_4.length c0_4, .slice A0_5 l0_5.length c0_5, .slice A0_6 l0_6.length c0_6, .slice A0_7 l0_7.length c0_7, .slice A0_8 l0_8.length c0_8] 32 (0, 0)) (by (with_reducible repeat (first | refine blk_drewN ?_ _ | refine blk_drew ?_ | refine blk_alloc ?_ _)); exact BK253.out)) : gb282 ≠ gb253)); clear HO_5; clear HO_6; clear BK253; clear HB; have HO_5 := n0_; have HO_6 := n1_; have BK253 := n2_; have HB := n3_; have BK282 := n4_; have GW282 := n5_; have GE282 := n6_; have NB253_282 := n7_; have NB282_253 := n8_; clear n0_ n1_ n2_ n3_ n4_ n5_ n6_ n7_ n8_; clear hb hbox hg; have hnb52 := NB282_253.out; have hnc52 := NB253_282.out; have hcz53_0 : w51.cell? ⟨gb282, 0, none⟩ = some (.string (⟨#[]⟩ : ByteArray)) := (blk_cell BK282.out 0).trans rfl; have hcz53_1 : w51.cell? ⟨gb282, 1, none⟩ = some (.string (⟨#[]⟩ : ByteArray)) := (blk_cell BK282.out 1).trans rfl; have hfz53_0 := blk_frozen BK282.out 0; have hfz53_1 := blk_frozen BK282.out 1) | ((with_reducible refine gate_callee (f := 32) rfl ?_); refine goesL_ (some 76) rfl rfl Tryd.func32 (by kernel_rfl) rfl #[.agg #[.string ((rd_T48 l0_4 x70_4).f0), .string ((rd_T48 l0_4 x70_4).f1)]] rfl (by (try simp only [List.map_toArray, List.map_cons, List.map_nil]); first | done | rfl | (simp only [List.length_drop, List.length_take]; rfl)) ?_; (with_reducible refine (spec_VersionText.calls ((rd_T48 l0_4 x70_4).f0) ((rd_T48 l0_4 x70_4).f1) t283 _ A49.out).mono ?_); rintro e w54 ⟨rfl, hb⟩; refine ⟨_, rfl, ?_⟩; have n0_ := Aside0.mk (Kd.R_below (by (with_reducible repeat (first | apply Kd.R_alloc | apply Kd.R_drewN | apply Kd.R_drew)); exact (Kd.R_mono (Kd.R_far (p := ⟨gb282, 1, none⟩) (Kd.R_far (p := ⟨gb282, 0, none⟩) (Kd.R_types HO_5.out BK282.out (by decide)) (fun _ hk => hk.2) (.string ((rd_T48 l0_4 x70_4).f0))) (fun _ hk => hk.2) (.string ((rd_T48 l0_4 x70_4).f1))) (fun _ h_ => h_.1))) hb); have n1_ := Aside0.mk (Kd.R_below (by (with_reducible repeat (first | apply Kd.R_alloc | apply Kd.R_drewN | apply Kd.R_drew)); exact (Kd.R_mono (Kd.R_far (p := ⟨gb282, 1, none⟩) (Kd.R_far (p := ⟨gb282, 0, none⟩) (Kd.R_types HO_6.out BK282.out (by decide)) (fun _ hk => hk.2) (.string ((rd_T48 l0_4 x70_4).f0))) (fun _ hk => hk.2) (.string ((rd_T48 l0_4 x70_4).f1))) (fun _ h_ => h_.1))) hb); have n2_ := Aside0.mk (blk_below (g := gb253) (o := .cells #[.string a0_0, .string a0_1, .string a0_2, .slice A0_3 l0_3.length c0_3, .slice (some ad281) l0_4.length c0_4, .slice A0_5 l0_5.length c0_5, .slice A0_6 l0_6.length c0_6, .slice A0_7 l0_7.length c0_7, .slice A0_8 l0_8.length c0_8] 32 (0, 0)) (by (with_reducible repeat (first | refine blk_drewN ?_ _ | refine blk_drew ?_ | refine blk_alloc ?_ _)); refine blk_far ?_ NB253_282.out _; (with_reducible repeat (first | refine blk_drewN ?_ _ | refine blk_drew ?_ | refine blk_alloc ?_ _)); refine blk_far ?_ NB253_282.out _; (with_reducible repeat (first | refine blk_drewN ?_ _ | refine blk_drew ?_ | refine blk_alloc ?_ _)); exact BK253.out) hb); have n3_ := Aside0.mk (blk_below (g := gb282) (o := .cells #[.string ((rd_T48 l0_4 x70_4).f0), .string ((rd_T48 l0_4 x70_4).f1)] 48 (0, 0)) (by (with_reducible repeat (first | refine blk_drewN ?_ _ | refine blk_drew ?_ | refine blk_alloc ?_ _)); refine blk_put (cs := #[.string ((rd_T48 l0_4 x70_4).f0), .string (⟨#[]⟩ : ByteArray)]) ?_ 1 _ rfl; (with_reducible repeat (first | refine blk_drewN ?_ _ | refine blk_drew ?_ | refine blk_alloc ?_ _)); refine blk_put (cs := #[.string (⟨#[]⟩ : ByteArray), .string (⟨#[]⟩ : ByteArray)]) ?_ 0 _ rfl; (with_reducible repeat (first | refine blk_drewN ?_ _ | refine blk_drew ?_ | refine blk_alloc ?_ _)); exact BK282.out) hb); have n4_ := Aside0.mk (below_step (by repeat (first | (with_reducible first | exact HB.out | apply below_alloc | apply pw_below_drewN | apply below_drew1 | refine below_set ?_ GE253.out | refine below_set ?_ GE282.out) | exact HB.out)) hb); clear HO_5; clear HO_6; clear BK253; clear BK282; clear HB; have HO_5 := n0_; have HO_6 := n1_; have BK253 := n2_; have BK282 := n3_; have HB := n4_; clear n0_ n1_ n2_ n3_ n4_; (try clear hb); (try clear hb2); (try clear hk); (try clear hi)) | ((with_reducible refine gate_builtin (b := .append) (xs := #[.tmp 74, .tmp 78]) rfl ?_); at_builtin; refine Kd.R_append k57 (w0 := w) w.heap.size rfl (.tmp 74) (.tmp 78) 58 57 (.agg #[(.string ⟨#[]⟩), (.string ⟨#[]⟩)]) 32 rfl Tryd.underlying58 info57 rfl (by decide) (by omega) u6 x6_4 (⟨(⟨#[]⟩ : ByteArray), t283⟩ : S57) [.string (⟨#[]⟩ : ByteArray), .string t283] (fun _ => True) (fun _ => False) rfl rfl ?aP (fun _ hk => hk.elim) ?aF ?aO ?aB ?aS ?aL ?_; (case aP => exact k57_mkM _ _ _ (⟨(⟨#[]⟩ : ByteArray), t283⟩ : S57)); (case aB => exact (by repeat (first | (with_reducible first | exact HB.out | apply below_alloc | apply pw_below_drewN | apply below_drew1 | refine below_set ?_ GE253.out | refine below_set ?_ GE282.out) | exact HB.out))); (case aF => exact (fun _ _ => trivial)); (case aO => exact (by (with_reducible repeat (first | apply Kd.R_alloc | apply Kd.R_drewN | apply Kd.R_drew)); exact HO_6.out)); (case aS => exact (below_size (by repeat (first | (with_reducible first | exact HB.out | apply below_alloc | apply pw_below_drewN | apply below_drew1 | refine below_set ?_ GE253.out | refine below_set ?_ GE282.out) | exact HB.out)))); (case aL => have := LMc50.out; omega); intro v285 w55 ho hb hg hat; rw [← Ny284.out] at ho; have n0_ := Aside0.mk (Kd.R_over' (by (with_reducible repeat (first | apply Kd.R_alloc | apply Kd.R_drewN | apply Kd.R_drew)); exact HO_5.out) (Kd.R_typed (by (with_reducible repeat (first | apply Kd.R_alloc | apply Kd.R_drewN | apply Kd.R_drew)); exact HO_6.out)) (by decide) hg); have n1_ := Aside0.mk (blk_grown (g := gb253) (o := .cells #[.string a0_0, .string a0_1, .string a0_2, .slice A0_3 l0_3.length c0_3, .slice (some ad281) l0_4.length c0_4, .slice A0_5 l0_5.length c0_5, .slice A0_6 l0_6.length c0_6, .slice A0_7 l0_7.length c0_7, .slice A0_8 l0_8.length c0_8] 32 (0, 0)) (by (with_reducible repeat (first | refine blk_drewN ?_ _ | refine blk_drew ?_ | refine blk_alloc ?_ _)); exact BK253.out) hg (Kd.R_ne HO_6.out BK253.out (by decide))); have n2_ := Aside0.mk (blk_grown (g := gb282) (o := .cells #[.string ((rd_T48 l0_4 x70_4).f0), .string ((rd_T48 l0_4 x70_4).f1)] 48 (0, 0)) (by (with_reducible repeat (first | refine blk_drewN ?_ _ | refine blk_drew ?_ | refine blk_alloc ?_ _)); exact BK282.out) hg (Kd.R_ne HO_6.out BK282.out (by decide))); have n3_ := Aside0.mk (hb); have n4_ := Aside0.mk (ho); clear HO_5; clear BK253; clear BK282; clear HB; clear HO_6; have HO_5 := n0_; have BK253 := n1_; have BK282 := n2_; have HB := n3_; have HO286 := n4_; clear n0_ n1_ n2_ n3_ n4_; clear ho hb hg hat))
               go_roundg k4
               case measure => have := HJ3.out; have := HJ17.out; have := HK3.out; have := HK4.out; omega
               case rel => exact ⟨(y284), (wrap64 (x70_4 + 1)), (by first | rfl | (simp; done) | (simp [*]; done)), H', ⟨by have := HJ3.out; have := HJ17.out; have := HK3.out; have := HK4.out; omega⟩, ⟨by (with_reducible repeat (first | apply Kd.R_alloc | apply Kd.R_drewN | apply Kd.R_drew)); exact HO_5.out⟩, ⟨by (with_reducible repeat (first | apply Kd.R_alloc | apply Kd.R_drewN | apply Kd.R_drew)); exact HO286.out⟩, ⟨by (with_reducible repeat (first | refine blk_drewN ?_ _ | refine blk_drew ?_ | refine blk_alloc ?_ _)); exact BK253.out⟩, ⟨by repeat (first | (with_reducible first | exact HB.out | apply below_alloc | apply pw_below_drewN | apply below_drew1 | refine below_set ?_ GE253.out | refine below_set ?_ GE282.out) | exact HB.out)⟩⟩
              ·
               rw [if_neg c50] at H
               exact absurd H (by simp)
             ·
              rw [if_neg c48] at H
              exact absurd H (by simp)
            ·
             rw [if_neg c47] at H
             exact absurd H (by simp)
           ·
            rw [if_neg c46] at H
            have c46b0 : decide (x70_4 < (l0_4.length : Int)) = false := decide_eq_false c46
            clear c46
            replace H := Option.bind_eq_some_iff.mp H
            obtain ⟨t287, A560, H⟩ := H
            replace H : (if y278.length + t287.length < 8796093022208 then (spec_Text.l2 k4 a1 (y278 ++ t287) ([] : List (S57)) l0_5 (l0_5.length : Int) 0 a0_0 a0_1 a0_2 l0_3 l0_4 l0_5 l0_6 l0_7 l0_8) else (none)) = some r := H
            have A56 := Aside0.mk A560
            clear A560
            by_cases c57 : y278.length + t287.length < 8796093022208
            ·
             rw [if_pos c57] at H
             have LMc57 := Aside0.mk c57
             clear c57
             obtain ⟨y290, hy290⟩ : ∃ y_ : List ByteArray, y_ = (y278 ++ t287) := ⟨_, rfl⟩
             replace H : (spec_Text.l2 k4 a1 y290 ([] : List (S57)) l0_5 (l0_5.length : Int) 0 a0_0 a0_1 a0_2 l0_3 l0_4 l0_5 l0_6 l0_7 l0_8) = some r := by first | (rw [hy290]; with_reducible exact H) | (have H2_ := (Option.bind_some _ _).symm.trans H; rw [hy290]; with_reducible exact H2_) | (have H2_ := (Option.bind_some _ _).symm.trans H; with_reducible exact H2_) | with_reducible exact H | (rw [hy290]; exact H) | exact H
             have Ny290 := Aside0.mk hy290
             clear hy290
             have H' := Aside0.mk H
             clear H
             obtain ⟨Ao58, co58, eo58⟩ := Kd.R_slice HO_6.out
             subst eo58
             go_wp2_with (first | ((with_reducible refine gate_callee (f := 30) rfl ?_); refine goesL_ (some 84) rfl rfl Tryd.func30 (by kernel_rfl) rfl #[.string (⟨#[101, 120, 99, 108, 117, 100, 101]⟩ : ByteArray), .slice Ao58 x6_4.length co58, .bool a1] rfl (by (try simp only [List.map_toArray, List.map_cons, List.map_nil]); first | done | rfl | (simp only [List.length_drop, List.length_take]; rfl)) ?_; (with_reducible refine (spec_section.calls k4 (⟨#[101, 120, 99, 108, 117, 100, 101]⟩ : ByteArray) _ _ x6_4 a1 t287 _ ?side1 ?side2 A56.out).mono ?_); (case side1 => repeat (first | exact (Kd.R_reads' HO_6.out).2.2 | (with_reducible refine Kd.C_alloc ?_ _) | (with_reducible refine Kd.C_drewN ?_ _) | (with_reducible refine Kd.C_drew ?_))); (case side2 => exact (Kd.R_reads' HO_6.out).2.1); rintro e w59 ⟨v288, rfl, ho0, hb⟩; refine ⟨_, rfl, ?_⟩; have n0_ := Aside0.mk (Kd.R_elder' (by (with_reducible repeat (first | apply Kd.R_alloc | apply Kd.R_drewN | apply Kd.R_drew)); exact HO_5.out) (Kd.R_base ho0) hb); have n1_ := Aside0.mk (Kd.R_below (by (with_reducible repeat (first | apply Kd.R_alloc | apply Kd.R_drewN | apply Kd.R_drew)); exact HO_6.out) hb); have n2_ := Aside0.mk (Kd.R_lower (Kd.R_new' ho0 (Kd.R_lt (by (with_reducible repeat (first | apply Kd.R_alloc | apply Kd.R_drewN | apply Kd.R_drew)); exact HO_5.out))) (below_size (by repeat (first | (with_reducible first | exact HB.out | apply below_alloc | apply pw_below_drewN | apply below_drew1 | refine below_set ?_ GE253.out) | exact HB.out)))); have n3_ := Aside0.mk (blk_below (g := gb253) (o := .cells #[.string a0_0, .string a0_1, .string a0_2, .slice A0_3 l0_3.length c0_3, .slice A0_4 l0_4.length c0_4, .slice A0_5 l0_5.length c0_5, .slice A0_6 l0_6.length c0_6, .slice A0_7 l0_7.length c0_7, .slice A0_8 l0_8.length c0_8] 32 (0, 0)) (by (with_reducible repeat (first | refine blk_drewN ?_ _ | refine blk_drew ?_ | refine blk_alloc ?_ _)); exact BK253.out) hb); have n4_ := Aside0.mk (below_step (by repeat (first | (with_reducible first | exact HB.out | apply below_alloc | apply pw_below_drewN | apply below_drew1 | refine below_set ?_ GE253.out) | exact HB.out)) hb); clear HO_5; clear HO_6; clear BK253; clear HB; have HO_5 := n0_; have HO_6 := n1_; have HO289 := n2_; have BK253 := n3_; have HB := n4_; clear n0_ n1_ n2_ n3_ n4_; (try clear hb); (try clear hb2); (try clear hk); (try clear hi); (try clear ho0); obtain ⟨Ao61, co61, eo61⟩ := Kd.R_slice HO289.out; subst eo61) | ((with_reducible refine gate_builtin (b := .append) (xs := #[.tmp 81, .tmp 84]) rfl ?_); at_builtin; refine Kd.R_append_rows Kd.string (w0 := w) w.heap.size rfl (.tmp 81) (.tmp 84) 30 9 (.string ⟨#[]⟩) 16 rfl Tryd.underlying30 info9 rfl (by decide) (by omega) v279 y278 t287 _ _ _ (fun k_ => some k_ ≠ (.slice Ao61 t287.length co61 : Value).ownBlock) (fun _ => False) rfl rfl ?aO ?aR (fun _ _ h => h) (fun _ h => h.elim) ?aF ?aB ?aS ?aL ?_; (case aR => repeat (first | exact (Kd.R_reads' HO289.out).2.2 | (with_reducible refine Kd.C_alloc ?_ _) | (with_reducible refine Kd.C_drewN ?_ _) | (with_reducible refine Kd.C_drew ?_))); (case aB => exact (by repeat (first | (with_reducible first | exact HB.out | apply below_alloc | apply pw_below_drewN | apply below_drew1 | refine below_set ?_ GE253.out) | exact HB.out))); (case aF => exact (fun k_ hk => Kd.fresh' (Kd.R_lt (by (with_reducible repeat (first | apply Kd.R_alloc | apply Kd.R_drewN | apply Kd.R_drew)); exact HO289.out)) k_ hk)); (case aO => exact (by (with_reducible repeat (first | apply Kd.R_alloc | apply Kd.R_drewN | apply Kd.R_drew)); exact Kd.R_mono HO_5.out (fun _ hk => hk.2))); (case aS => exact (below_size (by repeat (first | (with_reducible first | exact HB.out | apply below_alloc | apply pw_below_drewN | apply below_drew1 | refine below_set ?_ GE253.out) | exact HB.out)))); (case aL => have := LMc57.out; omega); intro v291 w60 ho hb hg hat; rw [← Ny290.out] at ho; have n0_ := Aside0.mk (Kd.R_over' (by (with_reducible repeat (first | apply Kd.R_alloc | apply Kd.R_drewN | apply Kd.R_drew)); exact HO_6.out) (Kd.R_typed (by (with_reducible repeat (first | apply Kd.R_alloc | apply Kd.R_drewN | apply Kd.R_drew)); exact HO_5.out)) (by decide) hg); have n1_ := Aside0.mk (blk_grown (g := gb253) (o := .cells #[.string a0_0, .string a0_1, .string a0_2, .slice A0_3 l0_3.length c0_3, .slice A0_4 l0_4.length c0_4, .slice A0_5 l0_5.length c0_5, .slice A0_6 l0_6.length c0_6, .slice A0_7 l0_7.length c0_7, .slice A0_8 l0_8.length c0_8] 32 (0, 0)) (by (with_reducible repeat (first | refine blk_drewN ?_ _ | refine blk_drew ?_ | refine blk_alloc ?_ _)); exact BK253.out) hg (Kd.R_ne HO_5.out BK253.out (by decide))); have n2_ := Aside0.mk (Kd.R_after (ok := (fun _ => True)) (by (with_reducible repeat (first | apply Kd.R_alloc | apply Kd.R_drewN | apply Kd.R_drew)); exact HO289.out) hg hat); have n3_ := Aside0.mk (hb); have n4_ := Aside0.mk (ho); clear HO_6; clear BK253; clear HO289; clear HB; clear HO_5; have HO_6 := n0_; have BK253 := n1_; have HO289 := n2_; have HB := n3_; have HO292 := n4_; clear n0_ n1_ n2_ n3_ n4_; clear ho hb hg hat; have hcz62_0 : w60.cell? ⟨gb253, 0, none⟩ = some (.string a0_0) := (blk_cell BK253.out 0).trans rfl; have hcz62_1 : w60.cell? ⟨gb253, 1, none⟩ = some (.string a0_1) := (blk_cell BK253.out 1).trans rfl; have hcz62_2 : w60.cell? ⟨gb253, 2, none⟩ = some (.string a0_2) := (blk_cell BK253.out 2).trans rfl; have hcz62_3 : w60.cell? ⟨gb253, 3, none⟩ = some (.slice A0_3 l0_3.length c0_3) := (blk_cell BK253.out 3).trans rfl; have hcz62_4 : w60.cell? ⟨gb253, 4, none⟩ = some (.slice A0_4 l0_4.length c0_4) := (blk_cell BK253.out 4).trans rfl; have hcz62_5 : w60.cell? ⟨gb253, 5, none⟩ = some (.slice A0_5 l0_5.length c0_5) := (blk_cell BK253.out 5).trans rfl; have hcz62_6 : w60.cell? ⟨gb253, 6, none⟩ = some (.slice A0_6 l0_6.length c0_6) := (blk_cell BK253.out 6).trans rfl; have hcz62_7 : w60.cell? ⟨gb253, 7, none⟩ = some (.slice A0_7 l0_7.length c0_7) := (blk_cell BK253.out 7).trans rfl; have hcz62_8 : w60.cell? ⟨gb253, 8, none⟩ = some (.slice A0_8 l0_8.length c0_8) := (blk_cell BK253.out 8).trans rfl; have hfz62_0 := blk_frozen BK253.out 0; have hfz62_1 := blk_frozen BK253.out 1; have hfz62_2 := blk_frozen BK253.out 2; have hfz62_3 := blk_frozen BK253.out 3; have hfz62_4 := blk_frozen BK253.out 4; have hfz62_5 := blk_frozen BK253.out 5; have hfz62_6 := blk_frozen BK253.out 6; have hfz62_7 := blk_frozen BK253.out 7; have hfz62_8 := blk_frozen BK253.out 8))
             go_loopg [6, 89] k4 (fun kq v6 v89 w' => ∃ (x6_5 : List (S57)) (x89_5 : Int), v89 = .int .i64 x89_5 ∧ Aside0 (spec_Text.l2 kq a1 y290 x6_5 l0_5 (l0_5.length : Int) x89_5 a0_0 a0_1 a0_2 l0_3 l0_4 l0_5 l0_6 l0_7 l0_8 = some r) ∧ Aside0 (kq ≤ k4) ∧ Aside0 (Kd.R Kd.string 9 w' w.heap.size (fun _ => True) v291 y290) ∧ Aside0 (Kd.R k57 57 w' w.heap.size (fun _ => True) v6 x6_5) ∧ Aside0 (w'.heap[gb253]? = some (.cells #[.string a0_0, .string a0_1, .string a0_2, (.slice A0_3 l0_3.length c0_3), (.slice A0_4 l0_4.length c0_4), (.slice A0_5 l0_5.length c0_5), (.slice A0_6 l0_6.length c0_6), (.slice A0_7 l0_7.length c0_7), (.slice A0_8 l0_8.length c0_8)] 32 (0, 0))) ∧ Aside0 (Below w.heap.size w w'))
             case atStart => exact ⟨(([] : List (S57))), (0), (by first | rfl | (simp; done) | (simp [*]; done)), H', ⟨Nat.le_refl _⟩, ⟨by (with_reducible repeat (first | apply Kd.R_alloc | apply Kd.R_drewN | apply Kd.R_drew)); exact Kd.R_mono HO292.out (fun _ hk => trivial)⟩, ⟨by first | exact Kd.R_nil _ _ _ _ _ | exact Kd.N_nil _ _ _ _ _ | exact Kd.V_nil _ _ _ _ _ | exact Kd.Q_nil _ _ _ _ _ | exact Kd.S_nil _ _ _ _ _⟩, ⟨by (with_reducible repeat (first | refine blk_drewN ?_ _ | refine blk_drew ?_ | refine blk_alloc ?_ _)); exact BK253.out⟩, ⟨by repeat (first | (with_reducible first | exact HB.out | apply below_alloc | apply pw_below_drewN | apply below_drew1 | refine below_set ?_ GE253.out) | exact HB.out)⟩⟩
             case round =>
              clear H'
              clear c46b0
              clear hcz62_0
              clear hcz62_1
              clear hcz62_2
              clear hcz62_3
              clear hcz62_4
              clear hcz62_5
              clear hcz62_6
              clear hcz62_7
              clear hcz62_8
              clear hfz62_0
              clear hfz62_1
              clear hfz62_2
              clear hfz62_3
              clear hfz62_4
              clear hfz62_5
              clear hfz62_6
              clear hfz62_7
              clear hfz62_8
              obtain ⟨x6_5, x89_5, rfl, HA, HK5, HO_5, HO_6, BK253, HB⟩ := hrel
              cases gk with
              | zero => exact absurd HA.out (by simp [spec_Text.l2])
              | succ k5 =>
               have H := HA.out
               clear HA
               simp only [spec_Text.l2] at H
               by_cases c63 : x89_5 < (l0_5.length : Int)
               ·
                rw [if_pos c63] at H
                have c63b0 : decide (x89_5 < (l0_5.length : Int)) = true := decide_eq_true c63
                clear c63
                by_cases c64 : 0 ≤ x89_5
                ·
                 rw [if_pos c64] at H
                 have c64b0 : decide (0 ≤ x89_5) = true := decide_eq_true c64
                 clear c64
                 by_cases c65 : x89_5 < (l0_5.length : Int)
                 ·
                  rw [if_pos c65] at H
                  have c65b0 : decide (x89_5 < (l0_5.length : Int)) = true := decide_eq_true c65
                  clear c65
                  replace H := Option.bind_eq_some_iff.mp H
                  obtain ⟨t295, A660, H⟩ := H
                  replace H : (if t295.size + 4 ≤ 9223372036854775807 then ((spec_VersionText.f ((rd_T50 l0_5 x89_5).f1.f0) ((rd_T50 l0_5 x89_5).f1.f1)).bind fun t296 => (if (t295 ++ (⟨#[32, 61, 62, 32]⟩ : ByteArray)).size + t296.size ≤ 9223372036854775807 then (if x6_5.length < 4398046511104 then (spec_Text.l2 k5 a1 y290 (x6_5 ++ [(⟨(⟨#[]⟩ : ByteArray), (t295 ++ (⟨#[32, 61, 62, 32]⟩ : ByteArray)) ++ t296⟩ : S57)]) l0_5 (l0_5.length : Int) (wrap64 (x89_5 + 1)) a0_0 a0_1 a0_2 l0_3 l0_4 l0_5 l0_6 l0_7 l0_8) else (none)) else (none))) else (none)) = some r := H
                  have A66 := Aside0.mk A660
                  clear A660
                  by_cases c67 : t295.size + 4 ≤ 9223372036854775807
                  ·
                   rw [if_pos c67] at H
                   have c67b0 := eq_true c67
                   have c67b1 : decide (t295.size + 4 ≤ 9223372036854775807) = true := decide_eq_true c67
                   try have c67b2 : (9223372036854775807 < t295.size + 4) = False := eq_false (Nat.not_lt.2 c67)
                   replace H := Option.bind_eq_some_iff.mp H
                   obtain ⟨t296, A680, H⟩ := H
                   replace H : (if (t295 ++ (⟨#[32, 61, 62, 32]⟩ : ByteArray)).size + t296.size ≤ 9223372036854775807 then (if x6_5.length < 4398046511104 then (spec_Text.l2 k5 a1 y290 (x6_5 ++ [(⟨(⟨#[]⟩ : ByteArray), (t295 ++ (⟨#[32, 61, 62, 32]⟩ : ByteArray)) ++ t296⟩ : S57)]) l0_5 (l0_5.length : Int) (wrap64 (x89_5 + 1)) a0_0 a0_1 a0_2 l0_3 l0_4 l0_5 l0_6 l0_7 l0_8) else (none)) else (none)) = some r := H
                   have A68 := Aside0.mk A680
                   clear A680
                   by_cases c69 : (t295 ++ (⟨#[32, 61, 62, 32]⟩ : ByteArray)).size + t296.size ≤ 9223372036854775807
                   ·
                    rw [if_pos c69] at H
                    have c69b0 := eq_true c69
                    have c69b1 : decide ((t295 ++ (⟨#[32, 61, 62, 32]⟩ : ByteArray)).size + t296.size ≤ 9223372036854775807) = true := decide_eq_true c69
                    try have c69b2 : (9223372036854775807 < (t295 ++ (⟨#[32, 61, 62, 32]⟩ : ByteArray)).size + t296.size) = False := eq_false (Nat.not_lt.2 c69)
                    try have c69b3 : (9223372036854775807 < t295.size + 4 + t296.size) = False := eq_false (Nat.not_lt.2 (by have h_ := c69; simp only [ByteArray.size_append] at h_; exact h_))
                    by_cases c70 : x6_5.length < 4398046511104
                    ·
                     rw [if_pos c70] at H
                     have LMc70 := Aside0.mk c70
                     clear c70
                     obtain ⟨y297, hy297⟩ : ∃ y_ : List (S57), y_ = (x6_5 ++ [(⟨(⟨#[]⟩ : ByteArray), (t295 ++ (⟨#[32, 61, 62, 32]⟩ : ByteArray)) ++ t296⟩ : S57)]) := ⟨_, rfl⟩
                     replace H : (spec_Text.l2 k5 a1 y290 y297 l0_5 (l0_5.length : Int) (wrap64 (x89_5 + 1)) a0_0 a0_1 a0_2 l0_3 l0_4 l0_5 l0_6 l0_7 l0_8) = some r := by first | (rw [hy297]; with_reducible exact H) | (have H2_ := (Option.bind_some _ _).symm.trans H; rw [hy297]; with_reducible exact H2_) | (have H2_ := (Option.bind_some _ _).symm.trans H; with_reducible exact H2_) | with_reducible exact H | (rw [hy297]; exact H) | exact H
                     have Ny297 := Aside0.mk hy297
                     clear hy297
                     have H' := Aside0.mk H
                     clear H
                     have p293 : 0 ≤ (x89_5 : Int) := of_decide_eq_true (by first | (with_reducible assumption) | assumption)
                     have q293 : x89_5 < (l0_5.length : Int) := of_decide_eq_true (by first | (with_reducible assumption) | assumption)
                     obtain ⟨ad293, e293, hx293_0, hx293_1, hx293_2, hx293_3⟩ := at_T50 HR0_5.out x89_5 p293 q293
                     cases e293
                     replace hx293_0 := (HB.out.cell (World.block_lt_of_cell? w _ hx293_0)).trans hx293_0
                     replace hx293_1 := (HB.out.cell (World.block_lt_of_cell? w _ hx293_1)).trans hx293_1
                     replace hx293_2 := (HB.out.cell (World.block_lt_of_cell? w _ hx293_2)).trans hx293_2
                     replace hx293_3 := (HB.out.cell (World.block_lt_of_cell? w _ hx293_3)).trans hx293_3
                     replace p293 := eq_true p293
                     replace q293 := eq_true q293
                     try go_wp2_with (first | ((with_reducible refine gate_dst (N := 12) rfl ?_); refine box_event ?hg (N := 12) ?hd (cs := #[.string (⟨#[]⟩ : ByteArray), .string (⟨#[]⟩ : ByteArray), .string (⟨#[]⟩ : ByteArray), .string (⟨#[]⟩ : ByteArray)]) (t := 50) ?hr ?_; (case hd => rfl); (case hg => rfl); (case hr => first | (go_simp; done) | (go_simp; rfl)); intro gb294 hg w71 hbox hb; have n0_ := Aside0.mk (Kd.R_below (by (with_reducible repeat (first | apply Kd.R_alloc | apply Kd.R_drewN | apply Kd.R_drew)); exact HO_5.out) hb); have n1_ := Aside0.mk (Kd.R_below (by (with_reducible repeat (first | apply Kd.R_alloc | apply Kd.R_drewN | apply Kd.R_drew)); exact HO_6.out) hb); have n2_ := Aside0.mk (blk_below (g := gb253) (o := .cells #[.string a0_0, .string a0_1, .string a0_2, .slice A0_3 l0_3.length c0_3, .slice A0_4 l0_4.length c0_4, .slice (some ad293) l0_5.length c0_5, .slice A0_6 l0_6.length c0_6, .slice A0_7 l0_7.length c0_7, .slice A0_8 l0_8.length c0_8] 32 (0, 0)) (by (with_reducible repeat (first | refine blk_drewN ?_ _ | refine blk_drew ?_ | refine blk_alloc ?_ _)); exact BK253.out) hb); have n3_ := Aside0.mk (below_step (by repeat (first | (with_reducible first | exact HB.out | apply below_alloc | apply pw_below_drewN | apply below_drew1 | refine below_set ?_ GE253.out) | exact HB.out)) hb); have n4_ := Aside0.mk (hbox); have n5_ := Aside0.mk ((by rw [hg]; exact (below_size (by repeat (first | (with_reducible first | exact HB.out | apply below_alloc | apply pw_below_drewN | apply below_drew1 | refine below_set ?_ GE253.out) | exact HB.out))) : w.heap.size ≤ gb294)); have n6_ := Aside0.mk ((by rw [hg]; exact (below_size (by repeat (first | (with_reducible first | exact HB.out | apply below_alloc | apply pw_below_drewN | apply below_drew1 | refine below_set ?_ GE253.out) | exact HB.out))) : w.heap.size ≤ gb294)); have n7_ := Aside0.mk ((by rw [hg]; exact Nat.ne_of_lt (blk_lt (g := gb253) (o := .cells #[.string a0_0, .string a0_1, .string a0_2, .slice A0_3 l0_3.length c0_3, .slice A0_4 l0_4.length c0_4, .slice (some ad293) l0_5.length c0_5, .slice A0_6 l0_6.length c0_6, .slice A0_7 l0_7.length c0_7, .slice A0_8 l0_8.length c0_8] 32 (0, 0)) (by (with_reducible repeat (first | refine blk_drewN ?_ _ | refine blk_drew ?_ | refine blk_alloc ?_ _)); exact BK253.out)) : gb253 ≠ gb294)); have n8_ := Aside0.mk ((by rw [hg]; exact Nat.ne_of_gt (blk_lt (g := gb253) (o := .cells #[.string a0_0, .string a0_1, .string a0_2, .slice A0_3 l0_3.length c0_3, .slice A0_4 l0_4.length c0_4, .slice (some ad293) l0_5.length c0_5, .slice A0_6 l0_6.length c0_6, .slice A0_7 l0_7.length c0_7, .slice A0_8 l0_8.length c0_8] 32 (0, 0)) (by (with_reducible repeat (first | refine blk_drewN ?_ _ | refine blk_drew ?_ | refine blk_alloc ?_ _)); exact BK253.out)) : gb294 ≠ gb253)); clear HO_5; clear HO_6; clear BK253; clear HB; have HO_5 := n0_; have HO_6 := n1_; have BK253 := n2_; have HB := n3_; have BK294 := n4_; have GW294 := n5_; have GE294 := n6_; have NB253_294 := n7_; have NB294_253 := n8_; clear n0_ n1_ n2_ n3_ n4_ n5_ n6_ n7_ n8_; clear hb hbox hg; have hnb72 := NB294_253.out; have hnc72 := NB253_294.out; have hcz73_0 : w71.cell? ⟨gb294, 0, none⟩ = some (.string (⟨#[]⟩ : ByteArray)) := (blk_cell BK294.out 0).trans rfl; have hcz73_1 : w71.cell? ⟨gb294, 1, none⟩ = some (.string (⟨#[]⟩ : ByteArray)) := (blk_cell BK294.out 1).trans rfl; have hcz73_2 : w71.cell? ⟨gb294, 2, none⟩ = some (.string (⟨#[]⟩ : ByteArray)) := (blk_cell BK294.out 2).trans rfl; have hcz73_3 : w71.cell? ⟨gb294, 3, none⟩ = some (.string (⟨#[]⟩ : ByteArray)) := (blk_cell BK294.out 3).trans rfl; have hfz73_0 := blk_frozen BK294.out 0; have hfz73_1 := blk_frozen BK294.out 1; have hfz73_2 := blk_frozen BK294.out 2; have hfz73_3 := blk_frozen BK294.out 3))
                     have n0_ : Aside0 (Kd.R Kd.string 9 ((((w71.setCell ⟨gb294, 0, none⟩ (.string ((rd_T50 l0_5 x89_5).f0.f0))).setCell ⟨gb294, 1, none⟩ (.string ((rd_T50 l0_5 x89_5).f0.f1))).setCell ⟨gb294, 2, none⟩ (.string ((rd_T50 l0_5 x89_5).f1.f0))).setCell ⟨gb294, 3, none⟩ (.string ((rd_T50 l0_5 x89_5).f1.f1))) w.heap.size (fun _ => True) v291 y290) := ⟨by (with_reducible repeat (first | apply Kd.R_alloc | apply Kd.R_drewN | apply Kd.R_drew)); exact Kd.R_mono (Kd.R_far (p := ⟨gb294, 3, none⟩) (Kd.R_far (p := ⟨gb294, 2, none⟩) (Kd.R_far (p := ⟨gb294, 1, none⟩) (Kd.R_far (p := ⟨gb294, 0, none⟩) (Kd.R_types HO_5.out BK294.out (by decide)) (fun _ hk => hk.2) (.string ((rd_T50 l0_5 x89_5).f0.f0))) (fun _ hk => hk.2) (.string ((rd_T50 l0_5 x89_5).f0.f1))) (fun _ hk => hk.2) (.string ((rd_T50 l0_5 x89_5).f1.f0))) (fun _ hk => hk.2) (.string ((rd_T50 l0_5 x89_5).f1.f1))) (fun _ hk => trivial)⟩
                     have n1_ : Aside0 (Kd.R k57 57 ((((w71.setCell ⟨gb294, 0, none⟩ (.string ((rd_T50 l0_5 x89_5).f0.f0))).setCell ⟨gb294, 1, none⟩ (.string ((rd_T50 l0_5 x89_5).f0.f1))).setCell ⟨gb294, 2, none⟩ (.string ((rd_T50 l0_5 x89_5).f1.f0))).setCell ⟨gb294, 3, none⟩ (.string ((rd_T50 l0_5 x89_5).f1.f1))) w.heap.size (fun _ => True) u6 x6_5) := ⟨by (with_reducible repeat (first | apply Kd.R_alloc | apply Kd.R_drewN | apply Kd.R_drew)); exact Kd.R_mono (Kd.R_far (p := ⟨gb294, 3, none⟩) (Kd.R_far (p := ⟨gb294, 2, none⟩) (Kd.R_far (p := ⟨gb294, 1, none⟩) (Kd.R_far (p := ⟨gb294, 0, none⟩) (Kd.R_types HO_6.out BK294.out (by decide)) (fun _ hk => hk.2) (.string ((rd_T50 l0_5 x89_5).f0.f0))) (fun _ hk => hk.2) (.string ((rd_T50 l0_5 x89_5).f0.f1))) (fun _ hk => hk.2) (.string ((rd_T50 l0_5 x89_5).f1.f0))) (fun _ hk => hk.2) (.string ((rd_T50 l0_5 x89_5).f1.f1))) (fun _ hk => trivial)⟩
                     have n2_ : Aside0 (((((w71.setCell ⟨gb294, 0, none⟩ (.string ((rd_T50 l0_5 x89_5).f0.f0))).setCell ⟨gb294, 1, none⟩ (.string ((rd_T50 l0_5 x89_5).f0.f1))).setCell ⟨gb294, 2, none⟩ (.string ((rd_T50 l0_5 x89_5).f1.f0))).setCell ⟨gb294, 3, none⟩ (.string ((rd_T50 l0_5 x89_5).f1.f1))).heap[gb253]? = some (.cells #[.string a0_0, .string a0_1, .string a0_2, .slice A0_3 l0_3.length c0_3, .slice A0_4 l0_4.length c0_4, .slice (some ad293) l0_5.length c0_5, .slice A0_6 l0_6.length c0_6, .slice A0_7 l0_7.length c0_7, .slice A0_8 l0_8.length c0_8] 32 (0, 0))) := ⟨by (with_reducible repeat (first | refine blk_drewN ?_ _ | refine blk_drew ?_ | refine blk_alloc ?_ _)); refine blk_far ?_ NB253_294.out _; (with_reducible repeat (first | refine blk_drewN ?_ _ | refine blk_drew ?_ | refine blk_alloc ?_ _)); refine blk_far ?_ NB253_294.out _; (with_reducible repeat (first | refine blk_drewN ?_ _ | refine blk_drew ?_ | refine blk_alloc ?_ _)); refine blk_far ?_ NB253_294.out _; (with_reducible repeat (first | refine blk_drewN ?_ _ | refine blk_drew ?_ | refine blk_alloc ?_ _)); refine blk_far ?_ NB253_294.out _; (with_reducible repeat (first | refine blk_drewN ?_ _ | refine blk_drew ?_ | refine blk_alloc ?_ _)); exact BK253.out⟩
                     have n3_ : Aside0 (((((w71.setCell ⟨gb294, 0, none⟩ (.string ((rd_T50 l0_5 x89_5).f0.f0))).setCell ⟨gb294, 1, none⟩ (.string ((rd_T50 l0_5 x89_5).f0.f1))).setCell ⟨gb294, 2, none⟩ (.string ((rd_T50 l0_5 x89_5).f1.f0))).setCell ⟨gb294, 3, none⟩ (.string ((rd_T50 l0_5 x89_5).f1.f1))).heap[gb294]? = some (.cells #[.string ((rd_T50 l0_5 x89_5).f0.f0), .string ((rd_T50 l0_5 x89_5).f0.f1), .string ((rd_T50 l0_5 x89_5).f1.f0), .string ((rd_T50 l0_5 x89_5).f1.f1)] 50 (0, 0))) := ⟨by (with_reducible repeat (first | refine blk_drewN ?_ _ | refine blk_drew ?_ | refine blk_alloc ?_ _)); refine blk_put (cs := #[.string ((rd_T50 l0_5 x89_5).f0.f0), .string ((rd_T50 l0_5 x89_5).f0.f1), .string ((rd_T50 l0_5 x89_5).f1.f0), .string (⟨#[]⟩ : ByteArray)]) ?_ 3 _ rfl; (with_reducible repeat (first | refine blk_drewN ?_ _ | refine blk_drew ?_ | refine blk_alloc ?_ _)); refine blk_put (cs := #[.string ((rd_T50 l0_5 x89_5).f0.f0), .string ((rd_T50 l0_5 x89_5).f0.f1), .string (⟨#[]⟩ : ByteArray), .string (⟨#[]⟩ : ByteArray)]) ?_ 2 _ rfl; (with_reducible repeat (first | refine blk_drewN ?_ _ | refine blk_drew ?_ | refine blk_alloc ?_ _)); refine blk_put (cs := #[.string ((rd_T50 l0_5 x89_5).f0.f0), .string (⟨#[]⟩ : ByteArray), .string (⟨#[]⟩ : ByteArray), .string (⟨#[]⟩ : ByteArray)]) ?_ 1 _ rfl; (with_reducible repeat (first | refine blk_drewN ?_ _ | refine blk_drew ?_ | refine blk_alloc ?_ _)); refine blk_put (cs := #[.string (⟨#[]⟩ : ByteArray), .string (⟨#[]⟩ : ByteArray), .string (⟨#[]⟩ : ByteArray), .string (⟨#[]⟩ : ByteArray)]) ?_ 0 _ rfl; (with_reducible repeat (first | refine blk_drewN ?_ _ | refine blk_drew ?_ | refine blk_alloc ?_ _)); exact BK294.out⟩
                     have n4_ : Aside0 (Below w.heap.size w ((((w71.setCell ⟨gb294, 0, none⟩ (.string ((rd_T50 l0_5 x89_5).f0.f0))).setCell ⟨gb294, 1, none⟩ (.string ((rd_T50 l0_5 x89_5).f0.f1))).setCell ⟨gb294, 2, none⟩ (.string ((rd_T50 l0_5 x89_5).f1.f0))).setCell ⟨gb294, 3, none⟩ (.string ((rd_T50 l0_5 x89_5).f1.f1)))) := ⟨by repeat (first | (with_reducible first | exact HB.out | apply below_alloc | apply pw_below_drewN | apply below_drew1 | refine below_set ?_ GE253.out | refine below_set ?_ GE294.out) | exact HB.out)⟩
                     (try clear HO_5)
                     (try clear HO_6)
                     (try clear BK253)
                     (try clear BK294)
                     (try clear HB)
                     generalize ((((w71.setCell ⟨gb294, 0, none⟩ (.string ((rd_T50 l0_5 x89_5).f0.f0))).setCell ⟨gb294, 1, none⟩ (.string ((rd_T50 l0_5 x89_5).f0.f1))).setCell ⟨gb294, 2, none⟩ (.string ((rd_T50 l0_5 x89_5).f1.f0))).setCell ⟨gb294, 3, none⟩ (.string ((rd_T50 l0_5 x89_5).f1.f1))) = w74 at n0_ n1_ n2_ n3_ n4_ ⊢
                     have HO_5 := n0_
                     have HO_6 := n1_
                     have BK253 := n2_
                     have BK294 := n3_
                     have HB := n4_
                     clear n0_ n1_ n2_ n3_ n4_
                     have n0_ := Aside0.mk (Kd.R_drew HO_5.out)
                     have n1_ := Aside0.mk (Kd.R_drew HO_6.out)
                     have n2_ := Aside0.mk (blk_drew BK253.out)
                     have n3_ := Aside0.mk (blk_drew BK294.out)
                     have n4_ := Aside0.mk (below_drew1 HB.out)
                     clear HO_5
                     clear HO_6
                     clear BK253
                     clear BK294
                     clear HB
                     have HO_5 := n0_
                     have HO_6 := n1_
                     have BK253 := n2_
                     have BK294 := n3_
                     have HB := n4_
                     clear n0_ n1_ n2_ n3_ n4_
                     refine start_ (n := 13) (S := fun w' => w'.cell? ⟨gb294, 0, none⟩ = some (.string ((rd_T50 l0_5 x89_5).f0.f0)) ∧ w'.cell? ⟨gb294, 1, none⟩ = some (.string ((rd_T50 l0_5 x89_5).f0.f1)) ∧ w'.cell? ⟨gb294, 2, none⟩ = some (.string ((rd_T50 l0_5 x89_5).f1.f0)) ∧ w'.cell? ⟨gb294, 3, none⟩ = some (.string ((rd_T50 l0_5 x89_5).f1.f1))) (ds := []) #[false, false, false, false, false, false, false, false, false, false, false, false, false] (by kernel_rfl) rfl rfl ⟨(blk_cell BK294.out 0).trans rfl, (blk_cell BK294.out 1).trans rfl, (blk_cell BK294.out 2).trans rfl, (blk_cell BK294.out 3).trans rfl⟩ (fun hHeld => ?_); refine with_tabW spec_Text.tab24 spec_Text.bits24 (fun HT_ HW_ => ?_)
                     generalize w74.drew = w75 at HO_5 HO_6 BK253 BK294 HB hHeld ⊢
                     refine pure_ (i := 0) (N := some 93) (v := ?_) (a' := ?_) #[true, false, false, false, false, false, false, false, false, false, false, false, false] rfl rfl (any_of HT_.out (by kernel_rfl)) (fun _ _ _ h => h) (Or.inl ⟨by rfl, ?_⟩) ?_ ?_
                     rotate_left
                     ·
                      intro w'
                      go_simp
                      with_reducible rfl
                     rotate_left
                     ·
                      simp only [Act.put, List.setIfInBounds_toArray, List.set_cons_zero, List.set_cons_succ, i64_w, i32_w]
                      rfl
                     refine pure_ (i := 1) (N := some 94) (v := ?_) (a' := ?_) #[true, true, false, false, false, false, false, false, false, false, false, false, false] rfl rfl (any_of HT_.out (by kernel_rfl)) (fun _ _ _ h => h) (Or.inl ⟨by rfl, ?_⟩) ?_ ?_
                     rotate_left
                     ·
                      intro w'
                      go_simp
                      with_reducible rfl
                     rotate_left
                     ·
                      simp only [Act.put, List.setIfInBounds_toArray, List.set_cons_zero, List.set_cons_succ, i64_w, i32_w]
                      rfl
                     refine pure_ (i := 5) (N := some 98) (v := ?_) (a' := ?_) #[true, true, false, false, false, true, false, false, false, false, false, false, false] rfl rfl (any_of HT_.out (by kernel_rfl)) (fun _ _ _ h => h) (Or.inl ⟨by rfl, ?_⟩) ?_ ?_
                     rotate_left
                     ·
                      intro w'
                      go_simp
                      with_reducible rfl
                     rotate_left
                     ·
                      simp only [Act.put, List.setIfInBounds_toArray, List.set_cons_zero, List.set_cons_succ, i64_w, i32_w]
                      rfl
                     refine take_ (i := 2) (N := some 95) (v := ?_) (a' := ?_) #[true, true, true, false, false, true, false, false, false, false, false, false, false] rfl rfl (take_ofW HT_.out HW_.out (by kernel_rfl)) (fun _ _ _ h => h) (Or.inl ⟨by rfl, ?_⟩) hHeld ?_ ?_
                     rotate_left
                     ·
                      rintro w' ⟨s0, s1, s2, s3⟩
                      go_simp
                      with_reducible rfl
                     rotate_left
                     ·
                      simp only [Act.put, List.setIfInBounds_toArray, List.set_cons_zero, List.set_cons_succ, i64_w, i32_w]
                      rfl
                     refine take_ (i := 6) (N := some 99) (v := ?_) (a' := ?_) #[true, true, true, false, false, true, true, false, false, false, false, false, false] rfl rfl (take_ofW HT_.out HW_.out (by kernel_rfl)) (fun _ _ _ h => h) (Or.inl ⟨by rfl, ?_⟩) hHeld ?_ ?_
                     rotate_left
                     ·
                      rintro w' ⟨s0, s1, s2, s3⟩
                      go_simp
                      with_reducible rfl
                     rotate_left
                     ·
                      simp only [Act.put, List.setIfInBounds_toArray, List.set_cons_zero, List.set_cons_succ, i64_w, i32_w]
                      rfl
                     refine one_ (i := 3) (N := some 96) #[true, true, true, true, false, true, true, false, false, false, false, false, false] rfl rfl (one_of HT_.out (by kernel_rfl)) (by decide) (fun K hK => ?_)
                     refine goes_ Tryd.func32 (by kernel_rfl) rfl #[.agg #[.string ((rd_T50 l0_5 x89_5).f0.f0), .string ((rd_T50 l0_5 x89_5).f0.f1)]] (by rfl) rfl rfl (by (try simp only [List.map_toArray, List.map_cons, List.map_nil]); first | done | rfl | (simp only [List.length_drop, List.length_take]; rfl)) ?_
                     with_reducible refine (spec_VersionText.calls ((rd_T50 l0_5 x89_5).f0.f0) ((rd_T50 l0_5 x89_5).f0.f1) t295 _ A66.out).mono ?_
                     rintro e w76 ⟨rfl, hb⟩
                     refine ⟨_, rfl, ?_⟩
                     have n0_ := Aside0.mk (Kd.R_below (by (with_reducible repeat (first | apply Kd.R_alloc | apply Kd.R_drewN | apply Kd.R_drew)); exact HO_5.out) hb)
                     have n1_ := Aside0.mk (Kd.R_below (by (with_reducible repeat (first | apply Kd.R_alloc | apply Kd.R_drewN | apply Kd.R_drew)); exact HO_6.out) hb)
                     have n2_ := Aside0.mk (blk_below (g := gb253) (o := .cells #[.string a0_0, .string a0_1, .string a0_2, .slice A0_3 l0_3.length c0_3, .slice A0_4 l0_4.length c0_4, .slice (some ad293) l0_5.length c0_5, .slice A0_6 l0_6.length c0_6, .slice A0_7 l0_7.length c0_7, .slice A0_8 l0_8.length c0_8] 32 (0, 0)) (by (with_reducible repeat (first | refine blk_drewN ?_ _ | refine blk_drew ?_ | refine blk_alloc ?_ _)); exact BK253.out) hb)
                     have n3_ := Aside0.mk (blk_below (g := gb294) (o := .cells #[.string ((rd_T50 l0_5 x89_5).f0.f0), .string ((rd_T50 l0_5 x89_5).f0.f1), .string ((rd_T50 l0_5 x89_5).f1.f0), .string ((rd_T50 l0_5 x89_5).f1.f1)] 50 (0, 0)) (by (with_reducible repeat (first | refine blk_drewN ?_ _ | refine blk_drew ?_ | refine blk_alloc ?_ _)); exact BK294.out) hb)
                     have n4_ := Aside0.mk (below_step (by repeat (first | (with_reducible first | exact HB.out | apply below_alloc | apply pw_below_drewN | apply below_drew1 | refine below_set ?_ GE253.out | refine below_set ?_ GE294.out) | exact HB.out)) hb)
                     clear HO_5
                     clear HO_6
                     clear BK253
                     clear BK294
                     clear HB
                     have HO_5 := n0_
                     have HO_6 := n1_
                     have BK253 := n2_
                     have BK294 := n3_
                     have HB := n4_
                     clear n0_ n1_ n2_ n3_ n4_
                     (try clear hb)
                     (try clear hb2)
                     (try clear hk)
                     (try clear hi)
                     refine hK.out _ _ ⟨(blk_cell BK294.out 0).trans rfl, (blk_cell BK294.out 1).trans rfl, (blk_cell BK294.out 2).trans rfl, (blk_cell BK294.out 3).trans rfl⟩ (fun hHeld => ?_)
                     clear hK K
                     refine norm_ (a' := ?_) ?_ ?_
                     rotate_left
                     ·
                      show Act.put _ (some 96) _ = _
                      simp only [Act.put, List.setIfInBounds_toArray, List.set_cons_zero, List.set_cons_succ, i64_w, i32_w]
                      rfl
                     refine pure_ (i := 4) (N := some 97) (v := ?_) (a' := ?_) #[true, true, true, true, true, true, true, false, false, false, false, false, false] rfl rfl (any_of HT_.out (by kernel_rfl)) (fun _ _ _ h => h) (Or.inl ⟨by rfl, ?_⟩) ?_ ?_
                     rotate_left
                     ·
                      intro w'
                      go_simp
                      with_reducible rfl
                     rotate_left
                     ·
                      simp only [Act.put, List.setIfInBounds_toArray, List.set_cons_zero, List.set_cons_succ, i64_w, i32_w]
                      rfl
                     refine one_ (i := 7) (N := some 100) #[true, true, true, true, true, true, true, true, false, false, false, false, false] rfl rfl (one_of HT_.out (by kernel_rfl)) (by decide) (fun K hK => ?_)
                     refine goes_ Tryd.func32 (by kernel_rfl) rfl #[.agg #[.string ((rd_T50 l0_5 x89_5).f1.f0), .string ((rd_T50 l0_5 x89_5).f1.f1)]] (by rfl) rfl rfl (by (try simp only [List.map_toArray, List.map_cons, List.map_nil]); first | done | rfl | (simp only [List.length_drop, List.length_take]; rfl)) ?_
                     with_reducible refine (spec_VersionText.calls ((rd_T50 l0_5 x89_5).f1.f0) ((rd_T50 l0_5 x89_5).f1.f1) t296 _ A68.out).mono ?_
                     rintro e w77 ⟨rfl, hb⟩
                     refine ⟨_, rfl, ?_⟩
                     have n0_ := Aside0.mk (Kd.R_below (by (with_reducible repeat (first | apply Kd.R_alloc | apply Kd.R_drewN | apply Kd.R_drew)); exact HO_5.out) hb)
                     have n1_ := Aside0.mk (Kd.R_below (by (with_reducible repeat (first | apply Kd.R_alloc | apply Kd.R_drewN | apply Kd.R_drew)); exact HO_6.out) hb)
                     have n2_ := Aside0.mk (blk_below (g := gb253) (o := .cells #[.string a0_0, .string a0_1, .string a0_2, .slice A0_3 l0_3.length c0_3, .slice A0_4 l0_4.length c0_4, .slice (some ad293) l0_5.length c0_5, .slice A0_6 l0_6.length c0_6, .slice A0_7 l0_7.length c0_7, .slice A0_8 l0_8.length c0_8] 32 (0, 0)) (by (with_reducible repeat (first | refine blk_drewN ?_ _ | refine blk_drew ?_ | refine blk_alloc ?_ _)); exact BK253.out) hb)
                     have n3_ := Aside0.mk (blk_below (g := gb294) (o := .cells #[.string ((rd_T50 l0_5 x89_5).f0.f0), .string ((rd_T50 l0_5 x89_5).f0.f1), .string ((rd_T50 l0_5 x89_5).f1.f0), .string ((rd_T50 l0_5 x89_5).f1.f1)] 50 (0, 0)) (by (with_reducible repeat (first | refine blk_drewN ?_ _ | refine blk_drew ?_ | refine blk_alloc ?_ _)); exact BK294.out) hb)
                     have n4_ := Aside0.mk (below_step (by repeat (first | (with_reducible first | exact HB.out | apply below_alloc | apply pw_below_drewN | apply below_drew1 | refine below_set ?_ GE253.out | refine below_set ?_ GE294.out) | exact HB.out)) hb)
                     clear HO_5
                     clear HO_6
                     clear BK253
                     clear BK294
                     clear HB
                     have HO_5 := n0_
                     have HO_6 := n1_
                     have BK253 := n2_
                     have BK294 := n3_
                     have HB := n4_
                     clear n0_ n1_ n2_ n3_ n4_
                     (try clear hb)
                     (try clear hb2)
                     (try clear hk)
                     (try clear hi)
                     refine hK.out _ _ ⟨(blk_cell BK294.out 0).trans rfl, (blk_cell BK294.out 1).trans rfl, (blk_cell BK294.out 2).trans rfl, (blk_cell BK294.out 3).trans rfl⟩ (fun hHeld => ?_)
                     clear hK K
                     refine norm_ (a' := ?_) ?_ ?_
                     rotate_left
                     ·
                      show Act.put _ (some 100) _ = _
                      simp only [Act.put, List.setIfInBounds_toArray, List.set_cons_zero, List.set_cons_succ, i64_w, i32_w]
                      rfl
                     refine pure_ (i := 8) (N := some 101) (v := ?_) (a' := ?_) #[true, true, true, true, true, true, true, true, true, false, false, false, false] rfl rfl (any_of HT_.out (by kernel_rfl)) (fun _ _ _ h => h) (Or.inl ⟨by rfl, ?_⟩) ?_ ?_
                     rotate_left
                     ·
                      intro w'
                      go_simp
                      with_reducible rfl
                     rotate_left
                     ·
                      simp only [Act.put, List.setIfInBounds_toArray, List.set_cons_zero, List.set_cons_succ, i64_w, i32_w]
                      rfl
                     refine pure_ (i := 9) (N := some 102) (v := ?_) (a' := ?_) #[true, true, true, true, true, true, true, true, true, true, false, false, false] rfl rfl (any_of HT_.out (by kernel_rfl)) (fun _ _ _ h => h) (Or.inl ⟨by rfl, ?_⟩) ?_ ?_
                     rotate_left
                     ·
                      intro w'
                      go_simp
                      with_reducible rfl
                     rotate_left
                     ·
                      simp only [Act.put, List.setIfInBounds_toArray, List.set_cons_zero, List.set_cons_succ, i64_w, i32_w]
                      rfl
                     refine one_ (i := 10) (N := some 103) #[true, true, true, true, true, true, true, true, true, true, true, false, false] rfl rfl (one_of HT_.out (by kernel_rfl)) (by decide) (fun K hK => ?_)
                     refine value_ (w1 := ?_) (v := ?_) (by rfl) rfl ?_ ?_
                     rotate_left 2
                     ·
                      go_simp
                      constructor
                      ·
                       rfl
                      ·
                       rfl
                     refine hK.out _ _ ⟨(blk_cell (blk_alloc BK294.out _) 0).trans rfl, (blk_cell (blk_alloc BK294.out _) 1).trans rfl, (blk_cell (blk_alloc BK294.out _) 2).trans rfl, (blk_cell (blk_alloc BK294.out _) 3).trans rfl⟩ (fun hHeld => ?_)
                     clear hK K
                     refine norm_ (a' := ?_) ?_ ?_
                     rotate_left
                     ·
                      show Act.put _ (some 103) _ = _
                      simp only [Act.put, List.setIfInBounds_toArray, List.set_cons_zero, List.set_cons_succ, i64_w, i32_w]
                      rfl
                     refine one_ (i := 11) (N := some 104) #[true, true, true, true, true, true, true, true, true, true, true, true, false] rfl rfl (one_of HT_.out (by kernel_rfl)) (by decide) (fun K hK => ?_)
                     refine Kd.R_append_step k57 (w0 := w) w.heap.size (by rfl) (.tmp 93) (.tmp 103) 58 57 (.agg #[(.string ⟨#[]⟩), (.string ⟨#[]⟩)]) 32 rfl Tryd.underlying58 info57 rfl (by decide) (by omega) u6 x6_5 (⟨(⟨#[]⟩ : ByteArray), (t295 ++ (⟨#[32, 61, 62, 32]⟩ : ByteArray)) ++ t296⟩ : S57) [.string (⟨#[]⟩ : ByteArray), .string ((t295 ++ (⟨#[32, 61, 62, 32]⟩ : ByteArray)) ++ t296)] (fun _ => True) (fun _ => False) rfl rfl ?aP (fun _ hk => hk.elim) ?aF ?aO ?aB ?aS ?aL ?_
                     (case aP => exact k57_mkM _ _ _ (⟨(⟨#[]⟩ : ByteArray), (t295 ++ (⟨#[32, 61, 62, 32]⟩ : ByteArray)) ++ t296⟩ : S57))
                     (case aB => exact (by repeat (first | (with_reducible first | exact HB.out | apply below_alloc | apply pw_below_drewN | apply below_drew1 | refine below_set ?_ GE253.out | refine below_set ?_ GE294.out) | exact HB.out)))
                     (case aF => exact (fun _ _ => trivial))
                     (case aO => exact (by (with_reducible repeat (first | apply Kd.R_alloc | apply Kd.R_drewN | apply Kd.R_drew)); exact HO_6.out))
                     (case aS => exact (below_size (by repeat (first | (with_reducible first | exact HB.out | apply below_alloc | apply pw_below_drewN | apply below_drew1 | refine below_set ?_ GE253.out | refine below_set ?_ GE294.out) | exact HB.out))))
                     (case aL => have := LMc70.out; omega)
                     intro v298 w78 ho hb hg hat
                     rw [← Ny297.out] at ho
                     have n0_ := Aside0.mk (Kd.R_over' (by (with_reducible repeat (first | apply Kd.R_alloc | apply Kd.R_drewN | apply Kd.R_drew)); exact HO_5.out) (Kd.R_typed (by (with_reducible repeat (first | apply Kd.R_alloc | apply Kd.R_drewN | apply Kd.R_drew)); exact HO_6.out)) (by decide) hg)
                     have n1_ := Aside0.mk (blk_grown (g := gb253) (o := .cells #[.string a0_0, .string a0_1, .string a0_2, .slice A0_3 l0_3.length c0_3, .slice A0_4 l0_4.length c0_4, .slice (some ad293) l0_5.length c0_5, .slice A0_6 l0_6.length c0_6, .slice A0_7 l0_7.length c0_7, .slice A0_8 l0_8.length c0_8] 32 (0, 0)) (by (with_reducible repeat (first | refine blk_drewN ?_ _ | refine blk_drew ?_ | refine blk_alloc ?_ _)); exact BK253.out) hg (Kd.R_ne HO_6.out BK253.out (by decide)))
                     have n2_ := Aside0.mk (blk_grown (g := gb294) (o := .cells #[.string ((rd_T50 l0_5 x89_5).f0.f0), .string ((rd_T50 l0_5 x89_5).f0.f1), .string ((rd_T50 l0_5 x89_5).f1.f0), .string ((rd_T50 l0_5 x89_5).f1.f1)] 50 (0, 0)) (by (with_reducible repeat (first | refine blk_drewN ?_ _ | refine blk_drew ?_ | refine blk_alloc ?_ _)); exact BK294.out) hg (Kd.R_ne HO_6.out BK294.out (by decide)))
                     have n3_ := Aside0.mk (hb)
                     have n4_ := Aside0.mk (ho)
                     clear HO_5
                     clear BK253
                     clear BK294
                     clear HB
                     clear HO_6
                     have HO_5 := n0_
                     have BK253 := n1_
                     have BK294 := n2_
                     have HB := n3_
                     have HO299 := n4_
                     clear n0_ n1_ n2_ n3_ n4_
                     clear ho hb hg hat
                     refine hK.out _ _ ⟨(blk_cell BK294.out 0).trans rfl, (blk_cell BK294.out 1).trans rfl, (blk_cell BK294.out 2).trans rfl, (blk_cell BK294.out 3).trans rfl⟩ (fun hHeld => ?_)
                     clear hK K
                     refine norm_ (a' := ?_) ?_ ?_
                     rotate_left
                     ·
                      show Act.put _ (some 104) _ = _
                      simp only [Act.put, List.setIfInBounds_toArray, List.set_cons_zero, List.set_cons_succ, i64_w, i32_w]
                      rfl
                     refine pure_ (i := 12) (N := some 6) (v := ?_) (a' := ?_) #[true, true, true, true, true, true, true, true, true, true, true, true, true] rfl rfl (any_of HT_.out (by kernel_rfl)) (fun _ _ _ h => h) (Or.inl ⟨by rfl, ?_⟩) ?_ ?_
                     rotate_left
                     ·
                      intro w'
                      go_simp
                      with_reducible rfl
                     rotate_left
                     ·
                      simp only [Act.put, List.setIfInBounds_toArray, List.set_cons_zero, List.set_cons_succ, i64_w, i32_w]
                      rfl
                     refine done_ (done_of HT_.out (by kernel_rfl)) ?_
                     try go_wp2
                     go_roundg k5
                     case measure => have := HJ3.out; have := HJ17.out; have := HK3.out; have := HK4.out; have := HK5.out; omega
                     case rel => exact ⟨(y297), (wrap64 (x89_5 + 1)), (by first | rfl | (simp; done) | (simp [*]; done)), H', ⟨by have := HJ3.out; have := HJ17.out; have := HK3.out; have := HK4.out; have := HK5.out; omega⟩, ⟨by (with_reducible repeat (first | apply Kd.R_alloc | apply Kd.R_drewN | apply Kd.R_drew)); exact HO_5.out⟩, ⟨by (with_reducible repeat (first | apply Kd.R_alloc | apply Kd.R_drewN | apply Kd.R_drew)); exact HO299.out⟩, ⟨by (with_reducible repeat (first | refine blk_drewN ?_ _ | refine blk_drew ?_ | refine blk_alloc ?_ _)); exact BK253.out⟩, ⟨by repeat (first | (with_reducible first | exact HB.out | apply below_alloc | apply pw_below_drewN | apply below_drew1 | refine below_set ?_ GE253.out | refine below_set ?_ GE294.out) | exact HB.out)⟩⟩
                    ·
                     rw [if_neg c70] at H
                     exact absurd H (by simp)
                   ·
                    rw [if_neg c69] at H
                    exact absurd H (by simp)
                  ·
                   rw [if_neg c67] at H
                   exact absurd H (by simp)
                 ·
                  rw [if_neg c65] at H
                  exact absurd H (by simp)
                ·
                 rw [if_neg c64] at H
                 exact absurd H (by simp)
               ·
                rw [if_neg c63] at H
                have c63b0 : decide (x89_5 < (l0_5.length : Int)) = false := decide_eq_false c63
                clear c63
                replace H := Option.bind_eq_some_iff.mp H
                obtain ⟨t300, A790, H⟩ := H
                replace H : (if y290.length + t300.length < 8796093022208 then (spec_Text.l3 k5 a1 (y290 ++ t300) ([] : List (S57)) l0_6 (l0_6.length : Int) 0 a0_0 a0_1 a0_2 l0_3 l0_4 l0_5 l0_6 l0_7 l0_8) else (none)) = some r := H
                have A79 := Aside0.mk A790
                clear A790
                by_cases c80 : y290.length + t300.length < 8796093022208
                ·
                 rw [if_pos c80] at H
                 have LMc80 := Aside0.mk c80
                 clear c80
                 obtain ⟨y303, hy303⟩ : ∃ y_ : List ByteArray, y_ = (y290 ++ t300) := ⟨_, rfl⟩
                 replace H : (spec_Text.l3 k5 a1 y303 ([] : List (S57)) l0_6 (l0_6.length : Int) 0 a0_0 a0_1 a0_2 l0_3 l0_4 l0_5 l0_6 l0_7 l0_8) = some r := by first | (rw [hy303]; with_reducible exact H) | (have H2_ := (Option.bind_some _ _).symm.trans H; rw [hy303]; with_reducible exact H2_) | (have H2_ := (Option.bind_some _ _).symm.trans H; with_reducible exact H2_) | with_reducible exact H | (rw [hy303]; exact H) | exact H
                 have Ny303 := Aside0.mk hy303
                 clear hy303
                 have H' := Aside0.mk H
                 clear H
                 obtain ⟨Ao81, co81, eo81⟩ := Kd.R_slice HO_6.out
                 subst eo81
                 go_wp2_with (first | ((with_reducible refine gate_callee (f := 30) rfl ?_); refine goesL_ (some 109) rfl rfl Tryd.func30 (by kernel_rfl) rfl #[.string (⟨#[114, 101, 112, 108, 97, 99, 101]⟩ : ByteArray), .slice Ao81 x6_5.length co81, .bool a1] rfl (by (try simp only [List.map_toArray, List.map_cons, List.map_nil]); first | done | rfl | (simp only [List.length_drop, List.length_take]; rfl)) ?_; (with_reducible refine (spec_section.calls k5 (⟨#[114, 101, 112, 108, 97, 99, 101]⟩ : ByteArray) _ _ x6_5 a1 t300 _ ?side1 ?side2 A79.out).mono ?_); (case side1 => repeat (first | exact (Kd.R_reads' HO_6.out).2.2 | (with_reducible refine Kd.C_alloc ?_ _) | (with_reducible refine Kd.C_drewN ?_ _) | (with_reducible refine Kd.C_drew ?_))); (case side2 => exact (Kd.R_reads' HO_6.out).2.1); rintro e w82 ⟨v301, rfl, ho0, hb⟩; refine ⟨_, rfl, ?_⟩; have n0_ := Aside0.mk (Kd.R_elder' (by (with_reducible repeat (first | apply Kd.R_alloc | apply Kd.R_drewN | apply Kd.R_drew)); exact HO_5.out) (Kd.R_base ho0) hb); have n1_ := Aside0.mk (Kd.R_below (by (with_reducible repeat (first | apply Kd.R_alloc | apply Kd.R_drewN | apply Kd.R_drew)); exact HO_6.out) hb); have n2_ := Aside0.mk (Kd.R_lower (Kd.R_new' ho0 (Kd.R_lt (by (with_reducible repeat (first | apply Kd.R_alloc | apply Kd.R_drewN | apply Kd.R_drew)); exact HO_5.out))) (below_size (by repeat (first | (with_reducible first | exact HB.out | apply below_alloc | apply pw_below_drewN | apply below_drew1 | refine below_set ?_ GE253.out) | exact HB.out)))); have n3_ := Aside0.mk (blk_below (g := gb253) (o := .cells #[.string a0_0, .string a0_1, .string a0_2, .slice A0_3 l0_3.length c0_3, .slice A0_4 l0_4.length c0_4, .slice A0_5 l0_5.length c0_5, .slice A0_6 l0_6.length c0_6, .slice A0_7 l0_7.length c0_7, .slice A0_8 l0_8.length c0_8] 32 (0, 0)) (by (with_reducible repeat (first | refine blk_drewN ?_ _ | refine blk_drew ?_ | refine blk_alloc ?_ _)); exact BK253.out) hb); have n4_ := Aside0.mk (below_step (by repeat (first | (with_reducible first | exact HB.out | apply below_alloc | apply pw_below_drewN | apply below_drew1 | refine below_set ?_ GE253.out) | exact HB.out)) hb); clear HO_5; clear HO_6; clear BK253; clear HB; have HO_5 := n0_; have HO_6 := n1_; have HO302 := n2_; have BK253 := n3_; have HB := n4_; clear n0_ n1_ n2_ n3_ n4_; (try clear hb); (try clear hb2); (try clear hk); (try clear hi); (try clear ho0); obtain ⟨Ao84, co84, eo84⟩ := Kd.R_slice HO302.out; subst eo84) | ((with_reducible refine gate_builtin (b := .append) (xs := #[.tmp 106, .tmp 109]) rfl ?_); at_builtin; refine Kd.R_append_rows Kd.string (w0 := w) w.heap.size rfl (.tmp 106) (.tmp 109) 30 9 (.string ⟨#[]⟩) 16 rfl Tryd.underlying30 info9 rfl (by decide) (by omega) v291 y290 t300 _ _ _ (fun k_ => some k_ ≠ (.slice Ao84 t300.length co84 : Value).ownBlock) (fun _ => False) rfl rfl ?aO ?aR (fun _ _ h => h) (fun _ h => h.elim) ?aF ?aB ?aS ?aL ?_; (case aR => repeat (first | exact (Kd.R_reads' HO302.out).2.2 | (with_reducible refine Kd.C_alloc ?_ _) | (with_reducible refine Kd.C_drewN ?_ _) | (with_reducible refine Kd.C_drew ?_))); (case aB => exact (by repeat (first | (with_reducible first | exact HB.out | apply below_alloc | apply pw_below_drewN | apply below_drew1 | refine below_set ?_ GE253.out) | exact HB.out))); (case aF => exact (fun k_ hk => Kd.fresh' (Kd.R_lt (by (with_reducible repeat (first | apply Kd.R_alloc | apply Kd.R_drewN | apply Kd.R_drew)); exact HO302.out)) k_ hk)); (case aO => exact (by (with_reducible repeat (first | apply Kd.R_alloc | apply Kd.R_drewN | apply Kd.R_drew)); exact Kd.R_mono HO_5.out (fun _ hk => hk.2))); (case aS => exact (below_size (by repeat (first | (with_reducible first | exact HB.out | apply below_alloc | apply pw_below_drewN | apply below_drew1 | refine below_set ?_ GE253.out) | exact HB.out)))); (case aL => have := LMc80.out; omega); intro v304 w83 ho hb hg hat; rw [← Ny303.out] at ho; have n0_ := Aside0.mk (Kd.R_over' (by (with_reducible repeat (first | apply Kd.R_alloc | apply Kd.R_drewN | apply Kd.R_drew)); exact HO_6.out) (Kd.R_typed (by (with_reducible repeat (first | apply Kd.R_alloc | apply Kd.R_drewN | apply Kd.R_drew)); exact HO_5.out)) (by decide) hg); have n1_ := Aside0.mk (blk_grown (g := gb253) (o := .cells #[.string a0_0, .string a0_1, .string a0_2, .slice A0_3 l0_3.length c0_3, .slice A0_4 l0_4.length c0_4, .slice A0_5 l0_5.length c0_5, .slice A0_6 l0_6.length c0_6, .slice A0_7 l0_7.length c0_7, .slice A0_8 l0_8.length c0_8] 32 (0, 0)) (by (with_reducible repeat (first | refine blk_drewN ?_ _ | refine blk_drew ?_ | refine blk_alloc ?_ _)); exact BK253.out) hg (Kd.R_ne HO_5.out BK253.out (by decide))); have n2_ := Aside0.mk (Kd.R_after (ok := (fun _ => True)) (by (with_reducible repeat (first | apply Kd.R_alloc | apply Kd.R_drewN | apply Kd.R_drew)); exact HO302.out) hg hat); have n3_ := Aside0.mk (hb); have n4_ := Aside0.mk (ho); clear HO_6; clear BK253; clear HO302; clear HB; clear HO_5; have HO_6 := n0_; have BK253 := n1_; have HO302 := n2_; have HB := n3_; have HO305 := n4_; clear n0_ n1_ n2_ n3_ n4_; clear ho hb hg hat; have hcz85_0 : w83.cell? ⟨gb253, 0, none⟩ = some (.string a0_0) := (blk_cell BK253.out 0).trans rfl; have hcz85_1 : w83.cell? ⟨gb253, 1, none⟩ = some (.string a0_1) := (blk_cell BK253.out 1).trans rfl; have hcz85_2 : w83.cell? ⟨gb253, 2, none⟩ = some (.string a0_2) := (blk_cell BK253.out 2).trans rfl; have hcz85_3 : w83.cell? ⟨gb253, 3, none⟩ = some (.slice A0_3 l0_3.length c0_3) := (blk_cell BK253.out 3).trans rfl; have hcz85_4 : w83.cell? ⟨gb253, 4, none⟩ = some (.slice A0_4 l0_4.length c0_4) := (blk_cell BK253.out 4).trans rfl; have hcz85_5 : w83.cell? ⟨gb253, 5, none⟩ = some (.slice A0_5 l0_5.length c0_5) := (blk_cell BK253.out 5).trans rfl; have hcz85_6 : w83.cell? ⟨gb253, 6, none⟩ = some (.slice A0_6 l0_6.length c0_6) := (blk_cell BK253.out 6).trans rfl; have hcz85_7 : w83.cell? ⟨gb253, 7, none⟩ = some (.slice A0_7 l0_7.length c0_7) := (blk_cell BK253.out 7).trans rfl; have hcz85_8 : w83.cell? ⟨gb253, 8, none⟩ = some (.slice A0_8 l0_8.length c0_8) := (blk_cell BK253.out 8).trans rfl; have hfz85_0 := blk_frozen BK253.out 0; have hfz85_1 := blk_frozen BK253.out 1; have hfz85_2 := blk_frozen BK253.out 2; have hfz85_3 := blk_frozen BK253.out 3; have hfz85_4 := blk_frozen BK253.out 4; have hfz85_5 := blk_frozen BK253.out 5; have hfz85_6 := blk_frozen BK253.out 6; have hfz85_7 := blk_frozen BK253.out 7; have hfz85_8 := blk_frozen BK253.out 8))
                 go_loopg [6, 114] k5 (fun kq v6 v114 w' => ∃ (x6_6 : List (S57)) (x114_6 : Int), v114 = .int .i64 x114_6 ∧ Aside0 (spec_Text.l3 kq a1 y303 x6_6 l0_6 (l0_6.length : Int) x114_6 a0_0 a0_1 a0_2 l0_3 l0_4 l0_5 l0_6 l0_7 l0_8 = some r) ∧ Aside0 (kq ≤ k5) ∧ Aside0 (Kd.R Kd.string 9 w' w.heap.size (fun _ => True) v304 y303) ∧ Aside0 (Kd.R k57 57 w' w.heap.size (fun _ => True) v6 x6_6) ∧ Aside0 (w'.heap[gb253]? = some (.cells #[.string a0_0, .string a0_1, .string a0_2, (.slice A0_3 l0_3.length c0_3), (.slice A0_4 l0_4.length c0_4), (.slice A0_5 l0_5.length c0_5), (.slice A0_6 l0_6.length c0_6), (.slice A0_7 l0_7.length c0_7), (.slice A0_8 l0_8.length c0_8)] 32 (0, 0))) ∧ Aside0 (Below w.heap.size w w'))
                 case atStart => exact ⟨(([] : List (S57))), (0), (by first | rfl | (simp; done) | (simp [*]; done)), H', ⟨Nat.le_refl _⟩, ⟨by (with_reducible repeat (first | apply Kd.R_alloc | apply Kd.R_drewN | apply Kd.R_drew)); exact Kd.R_mono HO305.out (fun _ hk => trivial)⟩, ⟨by first | exact Kd.R_nil _ _ _ _ _ | exact Kd.N_nil _ _ _ _ _ | exact Kd.V_nil _ _ _ _ _ | exact Kd.Q_nil _ _ _ _ _ | exact Kd.S_nil _ _ _ _ _⟩, ⟨by (with_reducible repeat (first | refine blk_drewN ?_ _ | refine blk_drew ?_ | refine blk_alloc ?_ _)); exact BK253.out⟩, ⟨by repeat (first | (with_reducible first | exact HB.out | apply below_alloc | apply pw_below_drewN | apply below_drew1 | refine below_set ?_ GE253.out) | exact HB.out)⟩⟩
                 case round =>
                  clear H'
                  clear c63b0
                  clear hcz85_0
                  clear hcz85_1
                  clear hcz85_2
                  clear hcz85_3
                  clear hcz85_4
                  clear hcz85_5
                  clear hcz85_6
                  clear hcz85_7
                  clear hcz85_8
                  clear hfz85_0
                  clear hfz85_1
                  clear hfz85_2
                  clear hfz85_3
                  clear hfz85_4
                  clear hfz85_5
                  clear hfz85_6
                  clear hfz85_7
                  clear hfz85_8
                  obtain ⟨x6_6, x114_6, rfl, HA, HK6, HO_5, HO_6, BK253, HB⟩ := hrel
                  cases gk with
                  | zero => exact absurd HA.out (by simp [spec_Text.l3])
                  | succ k6 =>
                   have H := HA.out
                   clear HA
                   simp only [spec_Text.l3] at H
                   by_cases c86 : x114_6 < (l0_6.length : Int)
                   ·
                    rw [if_pos c86] at H
                    have c86b0 : decide (x114_6 < (l0_6.length : Int)) = true := decide_eq_true c86
                    clear c86
                    by_cases c87 : 0 ≤ x114_6
                    ·
                     rw [if_pos c87] at H
                     have c87b0 : decide (0 ≤ x114_6) = true := decide_eq_true c87
                     clear c87
                     by_cases c88 : x114_6 < (l0_6.length : Int)
                     ·
                      rw [if_pos c88] at H
                      have c88b0 : decide (x114_6 < (l0_6.length : Int)) = true := decide_eq_true c88
                      clear c88
                      replace H := Option.bind_eq_some_iff.mp H
                      obtain ⟨t308, A890, H⟩ := H
                      replace H : (if x6_6.length < 4398046511104 then (spec_Text.l3 k6 a1 y303 (x6_6 ++ [(⟨(rd_T53 l0_6 x114_6).f2, t308⟩ : S57)]) l0_6 (l0_6.length : Int) (wrap64 (x114_6 + 1)) a0_0 a0_1 a0_2 l0_3 l0_4 l0_5 l0_6 l0_7 l0_8) else (none)) = some r := H
                      have A89 := Aside0.mk A890
                      clear A890
                      by_cases c90 : x6_6.length < 4398046511104
                      ·
                       rw [if_pos c90] at H
                       have LMc90 := Aside0.mk c90
                       clear c90
                       obtain ⟨y309, hy309⟩ : ∃ y_ : List (S57), y_ = (x6_6 ++ [(⟨(rd_T53 l0_6 x114_6).f2, t308⟩ : S57)]) := ⟨_, rfl⟩
                       replace H : (spec_Text.l3 k6 a1 y303 y309 l0_6 (l0_6.length : Int) (wrap64 (x114_6 + 1)) a0_0 a0_1 a0_2 l0_3 l0_4 l0_5 l0_6 l0_7 l0_8) = some r := by first | (rw [hy309]; with_reducible exact H) | (have H2_ := (Option.bind_some _ _).symm.trans H; rw [hy309]; with_reducible exact H2_) | (have H2_ := (Option.bind_some _ _).symm.trans H; with_reducible exact H2_) | with_reducible exact H | (rw [hy309]; exact H) | exact H
                       have Ny309 := Aside0.mk hy309
                       clear hy309
                       have H' := Aside0.mk H
                       clear H
                       have p306 : 0 ≤ (x114_6 : Int) := of_decide_eq_true (by first | (with_reducible assumption) | assumption)
                       have q306 : x114_6 < (l0_6.length : Int) := of_decide_eq_true (by first | (with_reducible assumption) | assumption)
                       obtain ⟨ad306, e306, hx306_0, hx306_1, hx306_2⟩ := at_T53 HR0_6.out x114_6 p306 q306
                       cases e306
                       replace hx306_0 := (HB.out.cell (World.block_lt_of_cell? w _ hx306_0)).trans hx306_0
                       replace hx306_1 := (HB.out.cell (World.block_lt_of_cell? w _ hx306_1)).trans hx306_1
                       replace hx306_2 := (HB.out.cell (World.block_lt_of_cell? w _ hx306_2)).trans hx306_2
                       replace p306 := eq_true p306
                       replace q306 := eq_true q306
                       try go_wp2_with (first | ((with_reducible refine gate_dst (N := 14) rfl ?_); refine box_event ?hg (N := 14) ?hd (cs := #[.string (⟨#[]⟩ : ByteArray), .string (⟨#[]⟩ : ByteArray), .string (⟨#[]⟩ : ByteArray)]) (t := 53) ?hr ?_; (case hd => rfl); (case hg => rfl); (case hr => first | (go_simp; done) | (go_simp; rfl)); intro gb307 hg w91 hbox hb; have n0_ := Aside0.mk (Kd.R_below (by (with_reducible repeat (first | apply Kd.R_alloc | apply Kd.R_drewN | apply Kd.R_drew)); exact HO_5.out) hb); have n1_ := Aside0.mk (Kd.R_below (by (with_reducible repeat (first | apply Kd.R_alloc | apply Kd.R_drewN | apply Kd.R_drew)); exact HO_6.out) hb); have n2_ := Aside0.mk (blk_below (g := gb253) (o := .cells #[.string a0_0, .string a0_1, .string a0_2, .slice A0_3 l0_3.length c0_3, .slice A0_4 l0_4.length c0_4, .slice A0_5 l0_5.length c0_5, .slice (some ad306) l0_6.length c0_6, .slice A0_7 l0_7.length c0_7, .slice A0_8 l0_8.length c0_8] 32 (0, 0)) (by (with_reducible repeat (first | refine blk_drewN ?_ _ | refine blk_drew ?_ | refine blk_alloc ?_ _)); exact BK253.out) hb); have n3_ := Aside0.mk (below_step (by repeat (first | (with_reducible first | exact HB.out | apply below_alloc | apply pw_below_drewN | apply below_drew1 | refine below_set ?_ GE253.out) | exact HB.out)) hb); have n4_ := Aside0.mk (hbox); have n5_ := Aside0.mk ((by rw [hg]; exact (below_size (by repeat (first | (with_reducible first | exact HB.out | apply below_alloc | apply pw_below_drewN | apply below_drew1 | refine below_set ?_ GE253.out) | exact HB.out))) : w.heap.size ≤ gb307)); have n6_ := Aside0.mk ((by rw [hg]; exact (below_size (by repeat (first | (with_reducible first | exact HB.out | apply below_alloc | apply pw_below_drewN | apply below_drew1 | refine below_set ?_ GE253.out) | exact HB.out))) : w.heap.size ≤ gb307)); have n7_ := Aside0.mk ((by rw [hg]; exact Nat.ne_of_lt (blk_lt (g := gb253) (o := .cells #[.string a0_0, .string a0_1, .string a0_2, .slice A0_3 l0_3.length c0_3, .slice A0_4 l0_4.length c0_4, .slice A0_5 l0_5.length c0_5, .slice (some ad306) l0_6.length c0_6, .slice A0_7 l0_7.length c0_7, .slice A0_8 l0_8.length c0_8] 32 (0, 0)) (by (with_reducible repeat (first | refine blk_drewN ?_ _ | refine blk_drew ?_ | refine blk_alloc ?_ _)); exact BK253.out)) : gb253 ≠ gb307)); have n8_ := Aside0.mk ((by rw [hg]; exact Nat.ne_of_gt (blk_lt (g := gb253) (o := .cells #[.string a0_0, .string a0_1, .string a0_2, .slice A0_3 l0_3.length c0_3, .slice A0_4 l0_4.length c0_4, .slice A0_5 l0_5.length c0_5, .slice (some ad306) l0_6.length c0_6, .slice A0_7 l0_7.length c0_7, .slice A0_8 l0_8.length c0_8] 32 (0, 0)) (by (with_reducible repeat (first | refine blk_drewN ?_ _ | refine blk_drew ?_ | refine blk_alloc ?_ _)); exact BK253.out)) : gb307 ≠ gb253)); clear HO_5; clear HO_6; clear BK253; clear HB; have HO_5 := n0_; have HO_6 := n1_; have BK253 := n2_; have HB := n3_; have BK307 := n4_; have GW307 := n5_; have GE307 := n6_; have NB253_307 := n7_; have NB307_253 := n8_; clear n0_ n1_ n2_ n3_ n4_ n5_ n6_ n7_ n8_; clear hb hbox hg; have hnb92 := NB307_253.out; have hnc92 := NB253_307.out; have hcz93_0 : w91.cell? ⟨gb307, 0, none⟩ = some (.string (⟨#[]⟩ : ByteArray)) := (blk_cell BK307.out 0).trans rfl; have hcz93_1 : w91.cell? ⟨gb307, 1, none⟩ = some (.string (⟨#[]⟩ : ByteArray)) := (blk_cell BK307.out 1).trans rfl; have hcz93_2 : w91.cell? ⟨gb307, 2, none⟩ = some (.string (⟨#[]⟩ : ByteArray)) := (blk_cell BK307.out 2).trans rfl; have hfz93_0 := blk_frozen BK307.out 0; have hfz93_1 := blk_frozen BK307.out 1; have hfz93_2 := blk_frozen BK307.out 2))
                       have n0_ : Aside0 (Kd.R Kd.string 9 (((w91.setCell ⟨gb307, 0, none⟩ (.string ((rd_T53 l0_6 x114_6).f0))).setCell ⟨gb307, 1, none⟩ (.string ((rd_T53 l0_6 x114_6).f1))).setCell ⟨gb307, 2, none⟩ (.string ((rd_T53 l0_6 x114_6).f2))) w.heap.size (fun _ => True) v304 y303) := ⟨by (with_reducible repeat (first | apply Kd.R_alloc | apply Kd.R_drewN | apply Kd.R_drew)); exact Kd.R_mono (Kd.R_far (p := ⟨gb307, 2, none⟩) (Kd.R_far (p := ⟨gb307, 1, none⟩) (Kd.R_far (p := ⟨gb307, 0, none⟩) (Kd.R_types HO_5.out BK307.out (by decide)) (fun _ hk => hk.2) (.string ((rd_T53 l0_6 x114_6).f0))) (fun _ hk => hk.2) (.string ((rd_T53 l0_6 x114_6).f1))) (fun _ hk => hk.2) (.string ((rd_T53 l0_6 x114_6).f2))) (fun _ hk => trivial)⟩
                       have n1_ : Aside0 (Kd.R k57 57 (((w91.setCell ⟨gb307, 0, none⟩ (.string ((rd_T53 l0_6 x114_6).f0))).setCell ⟨gb307, 1, none⟩ (.string ((rd_T53 l0_6 x114_6).f1))).setCell ⟨gb307, 2, none⟩ (.string ((rd_T53 l0_6 x114_6).f2))) w.heap.size (fun _ => True) u6 x6_6) := ⟨by (with_reducible repeat (first | apply Kd.R_alloc | apply Kd.R_drewN | apply Kd.R_drew)); exact Kd.R_mono (Kd.R_far (p := ⟨gb307, 2, none⟩) (Kd.R_far (p := ⟨gb307, 1, none⟩) (Kd.R_far (p := ⟨gb307, 0, none⟩) (Kd.R_types HO_6.out BK307.out (by decide)) (fun _ hk => hk.2) (.string ((rd_T53 l0_6 x114_6).f0))) (fun _ hk => hk.2) (.string ((rd_T53 l0_6 x114_6).f1))) (fun _ hk => hk.2) (.string ((rd_T53 l0_6 x114_6).f2))) (fun _ hk => trivial)⟩
                       have n2_ : Aside0 ((((w91.setCell ⟨gb307, 0, none⟩ (.string ((rd_T53 l0_6 x114_6).f0))).setCell ⟨gb307, 1, none⟩ (.string ((rd_T53 l0_6 x114_6).f1))).setCell ⟨gb307, 2, none⟩ (.string ((rd_T53 l0_6 x114_6).f2))).heap[gb253]? = some (.cells #[.string a0_0, .string a0_1, .string a0_2, .slice A0_3 l0_3.length c0_3, .slice A0_4 l0_4.length c0_4, .slice A0_5 l0_5.length c0_5, .slice (some ad306) l0_6.length c0_6, .slice A0_7 l0_7.length c0_7, .slice A0_8 l0_8.length c0_8] 32 (0, 0))) := ⟨by (with_reducible repeat (first | refine blk_drewN ?_ _ | refine blk_drew ?_ | refine blk_alloc ?_ _)); refine blk_far ?_ NB253_307.out _; (with_reducible repeat (first | refine blk_drewN ?_ _ | refine blk_drew ?_ | refine blk_alloc ?_ _)); refine blk_far ?_ NB253_307.out _; (with_reducible repeat (first | refine blk_drewN ?_ _ | refine blk_drew ?_ | refine blk_alloc ?_ _)); refine blk_far ?_ NB253_307.out _; (with_reducible repeat (first | refine blk_drewN ?_ _ | refine blk_drew ?_ | refine blk_alloc ?_ _)); exact BK253.out⟩
                       have n3_ : Aside0 ((((w91.setCell ⟨gb307, 0, none⟩ (.string ((rd_T53 l0_6 x114_6).f0))).setCell ⟨gb307, 1, none⟩ (.string ((rd_T53 l0_6 x114_6).f1))).setCell ⟨gb307, 2, none⟩ (.string ((rd_T53 l0_6 x114_6).f2))).heap[gb307]? = some (.cells #[.string ((rd_T53 l0_6 x114_6).f0), .string ((rd_T53 l0_6 x114_6).f1), .string ((rd_T53 l0_6 x114_6).f2)] 53 (0, 0))) := ⟨by (with_reducible repeat (first | refine blk_drewN ?_ _ | refine blk_drew ?_ | refine blk_alloc ?_ _)); refine blk_put (cs := #[.string ((rd_T53 l0_6 x114_6).f0), .string ((rd_T53 l0_6 x114_6).f1), .string (⟨#[]⟩ : ByteArray)]) ?_ 2 _ rfl; (with_reducible repeat (first | refine blk_drewN ?_ _ | refine blk_drew ?_ | refine blk_alloc ?_ _)); refine blk_put (cs := #[.string ((rd_T53 l0_6 x114_6).f0), .string (⟨#[]⟩ : ByteArray), .string (⟨#[]⟩ : ByteArray)]) ?_ 1 _ rfl; (with_reducible repeat (first | refine blk_drewN ?_ _ | refine blk_drew ?_ | refine blk_alloc ?_ _)); refine blk_put (cs := #[.string (⟨#[]⟩ : ByteArray), .string (⟨#[]⟩ : ByteArray), .string (⟨#[]⟩ : ByteArray)]) ?_ 0 _ rfl; (with_reducible repeat (first | refine blk_drewN ?_ _ | refine blk_drew ?_ | refine blk_alloc ?_ _)); exact BK307.out⟩
                       have n4_ : Aside0 (Below w.heap.size w (((w91.setCell ⟨gb307, 0, none⟩ (.string ((rd_T53 l0_6 x114_6).f0))).setCell ⟨gb307, 1, none⟩ (.string ((rd_T53 l0_6 x114_6).f1))).setCell ⟨gb307, 2, none⟩ (.string ((rd_T53 l0_6 x114_6).f2)))) := ⟨by repeat (first | (with_reducible first | exact HB.out | apply below_alloc | apply pw_below_drewN | apply below_drew1 | refine below_set ?_ GE253.out | refine below_set ?_ GE307.out) | exact HB.out)⟩
                       (try clear HO_5)
                       (try clear HO_6)
                       (try clear BK253)
                       (try clear BK307)
                       (try clear HB)
                       generalize (((w91.setCell ⟨gb307, 0, none⟩ (.string ((rd_T53 l0_6 x114_6).f0))).setCell ⟨gb307, 1, none⟩ (.string ((rd_T53 l0_6 x114_6).f1))).setCell ⟨gb307, 2, none⟩ (.string ((rd_T53 l0_6 x114_6).f2))) = w94 at n0_ n1_ n2_ n3_ n4_ ⊢
                       have HO_5 := n0_
                       have HO_6 := n1_
                       have BK253 := n2_
                       have BK307 := n3_
                       have HB := n4_
                       clear n0_ n1_ n2_ n3_ n4_
                       have n0_ := Aside0.mk (Kd.R_drew HO_5.out)
                       have n1_ := Aside0.mk (Kd.R_drew HO_6.out)
                       have n2_ := Aside0.mk (blk_drew BK253.out)
                       have n3_ := Aside0.mk (blk_drew BK307.out)
                       have n4_ := Aside0.mk (below_drew1 HB.out)
                       clear HO_5
                       clear HO_6
                       clear BK253
                       clear BK307
                       clear HB
                       have HO_5 := n0_
                       have HO_6 := n1_
                       have BK253 := n2_
                       have BK307 := n3_
                       have HB := n4_
                       clear n0_ n1_ n2_ n3_ n4_
                       refine start_ (n := 9) (S := fun w' => w'.cell? ⟨gb307, 0, none⟩ = some (.string ((rd_T53 l0_6 x114_6).f0)) ∧ w'.cell? ⟨gb307, 1, none⟩ = some (.string ((rd_T53 l0_6 x114_6).f1)) ∧ w'.cell? ⟨gb307, 2, none⟩ = some (.string ((rd_T53 l0_6 x114_6).f2))) (ds := []) #[false, false, false, false, false, false, false, false, false] (by kernel_rfl) rfl rfl ⟨(blk_cell BK307.out 0).trans rfl, (blk_cell BK307.out 1).trans rfl, (blk_cell BK307.out 2).trans rfl⟩ (fun hHeld => ?_); refine with_tabW spec_Text.tab31 spec_Text.bits31 (fun HT_ HW_ => ?_)
                       generalize w94.drew = w95 at HO_5 HO_6 BK253 BK307 HB hHeld ⊢
                       refine pure_ (i := 0) (N := some 118) (v := ?_) (a' := ?_) #[true, false, false, false, false, false, false, false, false] rfl rfl (any_of HT_.out (by kernel_rfl)) (fun _ _ _ h => h) (Or.inl ⟨by rfl, ?_⟩) ?_ ?_
                       rotate_left
                       ·
                        intro w'
                        go_simp
                        with_reducible rfl
                       rotate_left
                       ·
                        simp only [Act.put, List.setIfInBounds_toArray, List.set_cons_zero, List.set_cons_succ, i64_w, i32_w]
                        rfl
                       refine pure_ (i := 1) (N := some 119) (v := ?_) (a' := ?_) #[true, true, false, false, false, false, false, false, false] rfl rfl (any_of HT_.out (by kernel_rfl)) (fun _ _ _ h => h) (Or.inl ⟨by rfl, ?_⟩) ?_ ?_
                       rotate_left
                       ·
                        intro w'
                        go_simp
                        with_reducible rfl
                       rotate_left
                       ·
                        simp only [Act.put, List.setIfInBounds_toArray, List.set_cons_zero, List.set_cons_succ, i64_w, i32_w]
                        rfl
                       refine take_ (i := 2) (N := some 120) (v := ?_) (a' := ?_) #[true, true, true, false, false, false, false, false, false] rfl rfl (take_ofW HT_.out HW_.out (by kernel_rfl)) (fun _ _ _ h => h) (Or.inl ⟨by rfl, ?_⟩) hHeld ?_ ?_
                       rotate_left
                       ·
                        rintro w' ⟨s0, s1, s2⟩
                        go_simp
                        with_reducible rfl
                       rotate_left
                       ·
                        simp only [Act.put, List.setIfInBounds_toArray, List.set_cons_zero, List.set_cons_succ, i64_w, i32_w]
                        rfl
                       refine take_ (i := 3) (N := some 121) (v := ?_) (a' := ?_) #[true, true, true, true, false, false, false, false, false] rfl rfl (take_ofW HT_.out HW_.out (by kernel_rfl)) (fun _ _ _ h => h) (Or.inl ⟨by rfl, ?_⟩) hHeld ?_ ?_
                       rotate_left
                       ·
                        rintro w' ⟨s0, s1, s2⟩
                        go_simp
                        with_reducible rfl
                       rotate_left
                       ·
                        simp only [Act.put, List.setIfInBounds_toArray, List.set_cons_zero, List.set_cons_succ, i64_w, i32_w]
                        rfl
                       refine one_ (i := 4) (N := some 122) #[true, true, true, true, true, false, false, false, false] rfl rfl (one_of HT_.out (by kernel_rfl)) (by decide) (fun K hK => ?_)
                       refine goes_ Tryd.func33 (by kernel_rfl) rfl #[.agg #[.string ((rd_T53 l0_6 x114_6).f0), .string ((rd_T53 l0_6 x114_6).f1), .string ((rd_T53 l0_6 x114_6).f2)]] (by rfl) rfl rfl (by (try simp only [List.map_toArray, List.map_cons, List.map_nil]); first | done | rfl | (simp only [List.length_drop, List.length_take]; rfl)) ?_
                       with_reducible refine (spec_RetractText.calls ((rd_T53 l0_6 x114_6).f0) ((rd_T53 l0_6 x114_6).f1) ((rd_T53 l0_6 x114_6).f2) t308 _ A89.out).mono ?_
                       rintro e w96 ⟨rfl, hb⟩
                       refine ⟨_, rfl, ?_⟩
                       have n0_ := Aside0.mk (Kd.R_below (by (with_reducible repeat (first | apply Kd.R_alloc | apply Kd.R_drewN | apply Kd.R_drew)); exact HO_5.out) hb)
                       have n1_ := Aside0.mk (Kd.R_below (by (with_reducible repeat (first | apply Kd.R_alloc | apply Kd.R_drewN | apply Kd.R_drew)); exact HO_6.out) hb)
                       have n2_ := Aside0.mk (blk_below (g := gb253) (o := .cells #[.string a0_0, .string a0_1, .string a0_2, .slice A0_3 l0_3.length c0_3, .slice A0_4 l0_4.length c0_4, .slice A0_5 l0_5.length c0_5, .slice (some ad306) l0_6.length c0_6, .slice A0_7 l0_7.length c0_7, .slice A0_8 l0_8.length c0_8] 32 (0, 0)) (by (with_reducible repeat (first | refine blk_drewN ?_ _ | refine blk_drew ?_ | refine blk_alloc ?_ _)); exact BK253.out) hb)
                       have n3_ := Aside0.mk (blk_below (g := gb307) (o := .cells #[.string ((rd_T53 l0_6 x114_6).f0), .string ((rd_T53 l0_6 x114_6).f1), .string ((rd_T53 l0_6 x114_6).f2)] 53 (0, 0)) (by (with_reducible repeat (first | refine blk_drewN ?_ _ | refine blk_drew ?_ | refine blk_alloc ?_ _)); exact BK307.out) hb)
                       have n4_ := Aside0.mk (below_step (by repeat (first | (with_reducible first | exact HB.out | apply below_alloc | apply pw_below_drewN | apply below_drew1 | refine below_set ?_ GE253.out | refine below_set ?_ GE307.out) | exact HB.out)) hb)
                       clear HO_5
                       clear HO_6
                       clear BK253
                       clear BK307
                       clear HB
                       have HO_5 := n0_
                       have HO_6 := n1_
                       have BK253 := n2_
                       have BK307 := n3_
                       have HB := n4_
                       clear n0_ n1_ n2_ n3_ n4_
                       (try clear hb)
                       (try clear hb2)
                       (try clear hk)
                       (try clear hi)
                       refine hK.out _ _ ⟨(blk_cell BK307.out 0).trans rfl, (blk_cell BK307.out 1).trans rfl, (blk_cell BK307.out 2).trans rfl⟩ (fun hHeld => ?_)
                       clear hK K
                       refine norm_ (a' := ?_) ?_ ?_
                       rotate_left
                       ·
                        show Act.put _ (some 122) _ = _
                        simp only [Act.put, List.setIfInBounds_toArray, List.set_cons_zero, List.set_cons_succ, i64_w, i32_w]
                        rfl
                       refine pure_ (i := 5) (N := some 123) (v := ?_) (a' := ?_) #[true, true, true, true, true, true, false, false, false] rfl rfl (any_of HT_.out (by kernel_rfl)) (fun _ _ _ h => h) (Or.inl ⟨by rfl, ?_⟩) ?_ ?_
                       rotate_left
                       ·
                        intro w'
                        go_simp
                        with_reducible rfl
                       rotate_left
                       ·
                        simp only [Act.put, List.setIfInBounds_toArray, List.set_cons_zero, List.set_cons_succ, i64_w, i32_w]
                        rfl
                       refine one_ (i := 6) (N := some 124) #[true, true, true, true, true, true, true, false, false] rfl rfl (one_of HT_.out (by kernel_rfl)) (by decide) (fun K hK => ?_)
                       refine value_ (w1 := ?_) (v := ?_) (by rfl) rfl ?_ ?_
                       rotate_left 2
                       ·
                        go_simp
                        constructor
                        ·
                         rfl
                        ·
                         rfl
                       refine hK.out _ _ ⟨(blk_cell (blk_alloc BK307.out _) 0).trans rfl, (blk_cell (blk_alloc BK307.out _) 1).trans rfl, (blk_cell (blk_alloc BK307.out _) 2).trans rfl⟩ (fun hHeld => ?_)
                       clear hK K
                       refine norm_ (a' := ?_) ?_ ?_
                       rotate_left
                       ·
                        show Act.put _ (some 124) _ = _
                        simp only [Act.put, List.setIfInBounds_toArray, List.set_cons_zero, List.set_cons_succ, i64_w, i32_w]
                        rfl
                       refine one_ (i := 7) (N := some 125) #[true, true, true, true, true, true, true, true, false] rfl rfl (one_of HT_.out (by kernel_rfl)) (by decide) (fun K hK => ?_)
                       refine Kd.R_append_step k57 (w0 := w) w.heap.size (by rfl) (.tmp 118) (.tmp 124) 58 57 (.agg #[(.string ⟨#[]⟩), (.string ⟨#[]⟩)]) 32 rfl Tryd.underlying58 info57 rfl (by decide) (by omega) u6 x6_6 (⟨(rd_T53 l0_6 x114_6).f2, t308⟩ : S57) [.string ((rd_T53 l0_6 x114_6).f2), .string t308] (fun _ => True) (fun _ => False) rfl rfl ?aP (fun _ hk => hk.elim) ?aF ?aO ?aB ?aS ?aL ?_
                       (case aP => exact k57_mkM _ _ _ (⟨(rd_T53 l0_6 x114_6).f2, t308⟩ : S57))
                       (case aB => exact (by repeat (first | (with_reducible first | exact HB.out | apply below_alloc | apply pw_below_drewN | apply below_drew1 | refine below_set ?_ GE253.out | refine below_set ?_ GE307.out) | exact HB.out)))
                       (case aF => exact (fun _ _ => trivial))
                       (case aO => exact (by (with_reducible repeat (first | apply Kd.R_alloc | apply Kd.R_drewN | apply Kd.R_drew)); exact HO_6.out))
                       (case aS => exact (below_size (by repeat (first | (with_reducible first | exact HB.out | apply below_alloc | apply pw_below_drewN | apply below_drew1 | refine below_set ?_ GE253.out | refine below_set ?_ GE307.out) | exact HB.out))))
                       (case aL => have := LMc90.out; omega)
                       intro v310 w97 ho hb hg hat
                       rw [← Ny309.out] at ho
                       have n0_ := Aside0.mk (Kd.R_over' (by (with_reducible repeat (first | apply Kd.R_alloc | apply Kd.R_drewN | apply Kd.R_drew)); exact HO_5.out) (Kd.R_typed (by (with_reducible repeat (first | apply Kd.R_alloc | apply Kd.R_drewN | apply Kd.R_drew)); exact HO_6.out)) (by decide) hg)
                       have n1_ := Aside0.mk (blk_grown (g := gb253) (o := .cells #[.string a0_0, .string a0_1, .string a0_2, .slice A0_3 l0_3.length c0_3, .slice A0_4 l0_4.length c0_4, .slice A0_5 l0_5.length c0_5, .slice (some ad306) l0_6.length c0_6, .slice A0_7 l0_7.length c0_7, .slice A0_8 l0_8.length c0_8] 32 (0, 0)) (by (with_reducible repeat (first | refine blk_drewN ?_ _ | refine blk_drew ?_ | refine blk_alloc ?_ _)); exact BK253.out) hg (Kd.R_ne HO_6.out BK253.out (by decide)))
                       have n2_ := Aside0.mk (blk_grown (g := gb307) (o := .cells #[.string ((rd_T53 l0_6 x114_6).f0), .string ((rd_T53 l0_6 x114_6).f1), .string ((rd_T53 l0_6 x114_6).f2)] 53 (0, 0)) (by (with_reducible repeat (first | refine blk_drewN ?_ _ | refine blk_drew ?_ | refine blk_alloc ?_ _)); exact BK307.out) hg (Kd.R_ne HO_6.out BK307.out (by decide)))
                       have n3_ := Aside0.mk (hb)
                       have n4_ := Aside0.mk (ho)
                       clear HO_5
                       clear BK253
                       clear BK307
                       clear HB
                       clear HO_6
                       have HO_5 := n0_
                       have BK253 := n1_
                       have BK307 := n2_
                       have HB := n3_
                       have HO311 := n4_
                       clear n0_ n1_ n2_ n3_ n4_
                       clear ho hb hg hat
                       refine hK.out _ _ ⟨(blk_cell BK307.out 0).trans rfl, (blk_cell BK307.out 1).trans rfl, (blk_cell BK307.out 2).trans rfl⟩ (fun hHeld => ?_)
                       clear hK K
                       refine norm_ (a' := ?_) ?_ ?_
                       rotate_left
                       ·
                        show Act.put _ (some 125) _ = _
                        simp only [Act.put, List.setIfInBounds_toArray, List.set_cons_zero, List.set_cons_succ, i64_w, i32_w]
                        rfl
                       refine pure_ (i := 8) (N := some 6) (v := ?_) (a' := ?_) #[true, true, true, true, true, true, true, true, true] rfl rfl (any_of HT_.out (by kernel_rfl)) (fun _ _ _ h => h) (Or.inl ⟨by rfl, ?_⟩) ?_ ?_
                       rotate_left
                       ·
                        intro w'
                        go_simp
                        with_reducible rfl
                       rotate_left
                       ·
                        simp only [Act.put, List.setIfInBounds_toArray, List.set_cons_zero, List.set_cons_succ, i64_w, i32_w]
                        rfl
                       refine done_ (done_of HT_.out (by kernel_rfl)) ?_
                       try go_wp2
                       go_roundg k6
                       case measure => have := HJ3.out; have := HJ17.out; have := HK3.out; have := HK4.out; have := HK5.out; have := HK6.out; omega
                       case rel => exact ⟨(y309), (wrap64 (x114_6 + 1)), (by first | rfl | (simp; done) | (simp [*]; done)), H', ⟨by have := HJ3.out; have := HJ17.out; have := HK3.out; have := HK4.out; have := HK5.out; have := HK6.out; omega⟩, ⟨by (with_reducible repeat (first | apply Kd.R_alloc | apply Kd.R_drewN | apply Kd.R_drew)); exact HO_5.out⟩, ⟨by (with_reducible repeat (first | apply Kd.R_alloc | apply Kd.R_drewN | apply Kd.R_drew)); exact HO311.out⟩, ⟨by (with_reducible repeat (first | refine blk_drewN ?_ _ | refine blk_drew ?_ | refine blk_alloc ?_ _)); exact BK253.out⟩, ⟨by repeat (first | (with_reducible first | exact HB.out | apply below_alloc | apply pw_below_drewN | apply below_drew1 | refine below_set ?_ GE253.out | refine below_set ?_ GE307.out) | exact HB.out)⟩⟩
                      ·
                       rw [if_neg c90] at H
                       exact absurd H (by simp)
                     ·
                      rw [if_neg c88] at H
                      exact absurd H (by simp)
                    ·
                     rw [if_neg c87] at H
                     exact absurd H (by simp)
                   ·
                    rw [if_neg c86] at H
                    have c86b0 : decide (x114_6 < (l0_6.length : Int)) = false := decide_eq_false c86
                    clear c86
                    replace H := Option.bind_eq_some_iff.mp H
                    obtain ⟨t312, A980, H⟩ := H
                    replace H : (if y303.length + t312.length < 8796093022208 then (spec_Text.l4 k6 a1 (y303 ++ t312) ([] : List (S57)) l0_7 (l0_7.length : Int) 0 a0_0 a0_1 a0_2 l0_3 l0_4 l0_5 l0_6 l0_7 l0_8) else (none)) = some r := H
                    have A98 := Aside0.mk A980
                    clear A980
                    by_cases c99 : y303.length + t312.length < 8796093022208
                    ·
                     rw [if_pos c99] at H
                     have LMc99 := Aside0.mk c99
                     clear c99
                     obtain ⟨y315, hy315⟩ : ∃ y_ : List ByteArray, y_ = (y303 ++ t312) := ⟨_, rfl⟩
                     replace H : (spec_Text.l4 k6 a1 y315 ([] : List (S57)) l0_7 (l0_7.length : Int) 0 a0_0 a0_1 a0_2 l0_3 l0_4 l0_5 l0_6 l0_7 l0_8) = some r := by first | (rw [hy315]; with_reducible exact H) | (have H2_ := (Option.bind_some _ _).symm.trans H; rw [hy315]; with_reducible exact H2_) | (have H2_ := (Option.bind_some _ _).symm.trans H; with_reducible exact H2_) | with_reducible exact H | (rw [hy315]; exact H) | exact H
                     have Ny315 := Aside0.mk hy315
                     clear hy315
                     have H' := Aside0.mk H
                     clear H
                     obtain ⟨Ao100, co100, eo100⟩ := Kd.R_slice HO_6.out
                     subst eo100
                     go_wp2_with (first | ((with_reducible refine gate_callee (f := 30) rfl ?_); refine goesL_ (some 130) rfl rfl Tryd.func30 (by kernel_rfl) rfl #[.string (⟨#[114, 101, 116, 114, 97, 99, 116]⟩ : ByteArray), .slice Ao100 x6_6.length co100, .bool a1] rfl (by (try simp only [List.map_toArray, List.map_cons, List.map_nil]); first | done | rfl | (simp only [List.length_drop, List.length_take]; rfl)) ?_; (with_reducible refine (spec_section.calls k6 (⟨#[114, 101, 116, 114, 97, 99, 116]⟩ : ByteArray) _ _ x6_6 a1 t312 _ ?side1 ?side2 A98.out).mono ?_); (case side1 => repeat (first | exact (Kd.R_reads' HO_6.out).2.2 | (with_reducible refine Kd.C_alloc ?_ _) | (with_reducible refine Kd.C_drewN ?_ _) | (with_reducible refine Kd.C_drew ?_))); (case side2 => exact (Kd.R_reads' HO_6.out).2.1); rintro e w101 ⟨v313, rfl, ho0, hb⟩; refine ⟨_, rfl, ?_⟩; have n0_ := Aside0.mk (Kd.R_elder' (by (with_reducible repeat (first | apply Kd.R_alloc | apply Kd.R_drewN | apply Kd.R_drew)); exact HO_5.out) (Kd.R_base ho0) hb); have n1_ := Aside0.mk (Kd.R_below (by (with_reducible repeat (first | apply Kd.R_alloc | apply Kd.R_drewN | apply Kd.R_drew)); exact HO_6.out) hb); have n2_ := Aside0.mk (Kd.R_lower (Kd.R_new' ho0 (Kd.R_lt (by (with_reducible repeat (first | apply Kd.R_alloc | apply Kd.R_drewN | apply Kd.R_drew)); exact HO_5.out))) (below_size (by repeat (first | (with_reducible first | exact HB.out | apply below_alloc | apply pw_below_drewN | apply below_drew1 | refine below_set ?_ GE253.out) | exact HB.out)))); have n3_ := Aside0.mk (blk_below (g := gb253) (o := .cells #[.string a0_0, .string a0_1, .string a0_2, .slice A0_3 l0_3.length c0_3, .slice A0_4 l0_4.length c0_4, .slice A0_5 l0_5.length c0_5, .slice A0_6 l0_6.length c0_6, .slice A0_7 l0_7.length c0_7, .slice A0_8 l0_8.length c0_8] 32 (0, 0)) (by (with_reducible repeat (first | refine blk_drewN ?_ _ | refine blk_drew ?_ | refine blk_alloc ?_ _)); exact BK253.out) hb); have n4_ := Aside0.mk (below_step (by repeat (first | (with_reducible first | exact HB.out | apply below_alloc | apply pw_below_drewN | apply below_drew1 | refine below_set ?_ GE253.out) | exact HB.out)) hb); clear HO_5; clear HO_6; clear BK253; clear HB; have HO_5 := n0_; have HO_6 := n1_; have HO314 := n2_; have BK253 := n3_; have HB := n4_; clear n0_ n1_ n2_ n3_ n4_; (try clear hb); (try clear hb2); (try clear hk); (try clear hi); (try clear ho0); obtain ⟨Ao103, co103, eo103⟩ := Kd.R_slice HO314.out; subst eo103) | ((with_reducible refine gate_builtin (b := .append) (xs := #[.tmp 127, .tmp 130]) rfl ?_); at_builtin; refine Kd.R_append_rows Kd.string (w0 := w) w.heap.size rfl (.tmp 127) (.tmp 130) 30 9 (.string ⟨#[]⟩) 16 rfl Tryd.underlying30 info9 rfl (by decide) (by omega) v304 y303 t312 _ _ _ (fun k_ => some k_ ≠ (.slice Ao103 t312.length co103 : Value).ownBlock) (fun _ => False) rfl rfl ?aO ?aR (fun _ _ h => h) (fun _ h => h.elim) ?aF ?aB ?aS ?aL ?_; (case aR => repeat (first | exact (Kd.R_reads' HO314.out).2.2 | (with_reducible refine Kd.C_alloc ?_ _) | (with_reducible refine Kd.C_drewN ?_ _) | (with_reducible refine Kd.C_drew ?_))); (case aB => exact (by repeat (first | (with_reducible first | exact HB.out | apply below_alloc | apply pw_below_drewN | apply below_drew1 | refine below_set ?_ GE253.out) | exact HB.out))); (case aF => exact (fun k_ hk => Kd.fresh' (Kd.R_lt (by (with_reducible repeat (first | apply Kd.R_alloc | apply Kd.R_drewN | apply Kd.R_drew)); exact HO314.out)) k_ hk)); (case aO => exact (by (with_reducible repeat (first | apply Kd.R_alloc | apply Kd.R_drewN | apply Kd.R_drew)); exact Kd.R_mono HO_5.out (fun _ hk => hk.2))); (case aS => exact (below_size (by repeat (first | (with_reducible first | exact HB.out | apply below_alloc | apply pw_below_drewN | apply below_drew1 | refine below_set ?_ GE253.out) | exact HB.out)))); (case aL => have := LMc99.out; omega); intro v316 w102 ho hb hg hat; rw [← Ny315.out] at ho; have n0_ := Aside0.mk (Kd.R_over' (by (with_reducible repeat (first | apply Kd.R_alloc | apply Kd.R_drewN | apply Kd.R_drew)); exact HO_6.out) (Kd.R_typed (by (with_reducible repeat (first | apply Kd.R_alloc | apply Kd.R_drewN | apply Kd.R_drew)); exact HO_5.out)) (by decide) hg); have n1_ := Aside0.mk (blk_grown (g := gb253) (o := .cells #[.string a0_0, .string a0_1, .string a0_2, .slice A0_3 l0_3.length c0_3, .slice A0_4 l0_4.length c0_4, .slice A0_5 l0_5.length c0_5, .slice A0_6 l0_6.length c0_6, .slice A0_7 l0_7.length c0_7, .slice A0_8 l0_8.length c0_8] 32 (0, 0)) (by (with_reducible repeat (first | refine blk_drewN ?_ _ | refine blk_drew ?_ | refine blk_alloc ?_ _)); exact BK253.out) hg (Kd.R_ne HO_5.out BK253.out (by decide))); have n2_ := Aside0.mk (Kd.R_after (ok := (fun _ => True)) (by (with_reducible repeat (first | apply Kd.R_alloc | apply Kd.R_drewN | apply Kd.R_drew)); exact HO314.out) hg hat); have n3_ := Aside0.mk (hb); have n4_ := Aside0.mk (ho); clear HO_6; clear BK253; clear HO314; clear HB; clear HO_5; have HO_6 := n0_; have BK253 := n1_; have HO314 := n2_; have HB := n3_; have HO317 := n4_; clear n0_ n1_ n2_ n3_ n4_; clear ho hb hg hat; have hcz104_0 : w102.cell? ⟨gb253, 0, none⟩ = some (.string a0_0) := (blk_cell BK253.out 0).trans rfl; have hcz104_1 : w102.cell? ⟨gb253, 1, none⟩ = some (.string a0_1) := (blk_cell BK253.out 1).trans rfl; have hcz104_2 : w102.cell? ⟨gb253, 2, none⟩ = some (.string a0_2) := (blk_cell BK253.out 2).trans rfl; have hcz104_3 : w102.cell? ⟨gb253, 3, none⟩ = some (.slice A0_3 l0_3.length c0_3) := (blk_cell BK253.out 3).trans rfl; have hcz104_4 : w102.cell? ⟨gb253, 4, none⟩ = some (.slice A0_4 l0_4.length c0_4) := (blk_cell BK253.out 4).trans rfl; have hcz104_5 : w102.cell? ⟨gb253, 5, none⟩ = some (.slice A0_5 l0_5.length c0_5) := (blk_cell BK253.out 5).trans rfl; have hcz104_6 : w102.cell? ⟨gb253, 6, none⟩ = some (.slice A0_6 l0_6.length c0_6) := (blk_cell BK253.out 6).trans rfl; have hcz104_7 : w102.cell? ⟨gb253, 7, none⟩ = some (.slice A0_7 l0_7.length c0_7) := (blk_cell BK253.out 7).trans rfl; have hcz104_8 : w102.cell? ⟨gb253, 8, none⟩ = some (.slice A0_8 l0_8.length c0_8) := (blk_cell BK253.out 8).trans rfl; have hfz104_0 := blk_frozen BK253.out 0; have hfz104_1 := blk_frozen BK253.out 1; have hfz104_2 := blk_frozen BK253.out 2; have hfz104_3 := blk_frozen BK253.out 3; have hfz104_4 := blk_frozen BK253.out 4; have hfz104_5 := blk_frozen BK253.out 5; have hfz104_6 := blk_frozen BK253.out 6; have hfz104_7 := blk_frozen BK253.out 7; have hfz104_8 := blk_frozen BK253.out 8))
                     go_loopg [6, 135] k6 (fun kq v6 v135 w' => ∃ (x6_7 : List (S57)) (x135_7 : Int), v135 = .int .i64 x135_7 ∧ Aside0 (spec_Text.l4 kq a1 y315 x6_7 l0_7 (l0_7.length : Int) x135_7 a0_0 a0_1 a0_2 l0_3 l0_4 l0_5 l0_6 l0_7 l0_8 = some r) ∧ Aside0 (kq ≤ k6) ∧ Aside0 (Kd.R Kd.string 9 w' w.heap.size (fun _ => True) v316 y315) ∧ Aside0 (Kd.R k57 57 w' w.heap.size (fun _ => True) v6 x6_7) ∧ Aside0 (w'.heap[gb253]? = some (.cells #[.string a0_0, .string a0_1, .string a0_2, (.slice A0_3 l0_3.length c0_3), (.slice A0_4 l0_4.length c0_4), (.slice A0_5 l0_5.length c0_5), (.slice A0_6 l0_6.length c0_6), (.slice A0_7 l0_7.length c0_7), (.slice A0_8 l0_8.length c0_8)] 32 (0, 0))) ∧ Aside0 (Below w.heap.size w w'))
                     case atStart => exact ⟨(([] : List (S57))), (0), (by first | rfl | (simp; done) | (simp [*]; done)), H', ⟨Nat.le_refl _⟩, ⟨by (with_reducible repeat (first | apply Kd.R_alloc | apply Kd.R_drewN | apply Kd.R_drew)); exact Kd.R_mono HO317.out (fun _ hk => trivial)⟩, ⟨by first | exact Kd.R_nil _ _ _ _ _ | exact Kd.N_nil _ _ _ _ _ | exact Kd.V_nil _ _ _ _ _ | exact Kd.Q_nil _ _ _ _ _ | exact Kd.S_nil _ _ _ _ _⟩, ⟨by (with_reducible repeat (first | refine blk_drewN ?_ _ | refine blk_drew ?_ | refine blk_alloc ?_ _)); exact BK253.out⟩, ⟨by repeat (first | (with_reducible first | exact HB.out | apply below_alloc | apply pw_below_drewN | apply below_drew1 | refine below_set ?_ GE253.out) | exact HB.out)⟩⟩
                     case round =>
                      clear H'
                      clear c86b0
                      clear hcz104_0
                      clear hcz104_1
                      clear hcz104_2
                      clear hcz104_3
                      clear hcz104_4
                      clear hcz104_5
                      clear hcz104_6
                      clear hcz104_7
                      clear hcz104_8
                      clear hfz104_0
                      clear hfz104_1
                      clear hfz104_2
                      clear hfz104_3
                      clear hfz104_4
                      clear hfz104_5
                      clear hfz104_6
                      clear hfz104_7
                      clear hfz104_8
                      obtain ⟨x6_7, x135_7, rfl, HA, HK7, HO_5, HO_6, BK253, HB⟩ := hrel
                      cases gk with
                      | zero => exact absurd HA.out (by simp [spec_Text.l4])
                      | succ k7 =>
                       have H := HA.out
                       clear HA
                       simp only [spec_Text.l4] at H
                       by_cases c105 : x135_7 < (l0_7.length : Int)
                       ·
                        rw [if_pos c105] at H
                        have c105b0 : decide (x135_7 < (l0_7.length : Int)) = true := decide_eq_true c105
                        clear c105
                        by_cases c106 : 0 ≤ x135_7
                        ·
                         rw [if_pos c106] at H
                         have c106b0 : decide (0 ≤ x135_7) = true := decide_eq_true c106
                         clear c106
                         by_cases c107 : x135_7 < (l0_7.length : Int)
                         ·
                          rw [if_pos c107] at H
                          have c107b0 : decide (x135_7 < (l0_7.length : Int)) = true := decide_eq_true c107
                          clear c107
                          by_cases c108 : x6_7.length < 4398046511104
                          ·
                           rw [if_pos c108] at H
                           have LMc108 := Aside0.mk c108
                           clear c108
                           obtain ⟨y319, hy319⟩ : ∃ y_ : List (S57), y_ = (x6_7 ++ [(⟨(⟨#[]⟩ : ByteArray), rdOf ByteArray.empty l0_7 x135_7⟩ : S57)]) := ⟨_, rfl⟩
                           replace H : (spec_Text.l4 k7 a1 y315 y319 l0_7 (l0_7.length : Int) (wrap64 (x135_7 + 1)) a0_0 a0_1 a0_2 l0_3 l0_4 l0_5 l0_6 l0_7 l0_8) = some r := by first | (rw [hy319]; with_reducible exact H) | (have H2_ := (Option.bind_some _ _).symm.trans H; rw [hy319]; with_reducible exact H2_) | (have H2_ := (Option.bind_some _ _).symm.trans H; with_reducible exact H2_) | with_reducible exact H | (rw [hy319]; exact H) | exact H
                           have Ny319 := Aside0.mk hy319
                           clear hy319
                           have H' := Aside0.mk H
                           clear H
                           have p318 : 0 ≤ (x135_7 : Int) := of_decide_eq_true (by first | (with_reducible assumption) | assumption)
                           have q318 : x135_7 < (l0_7.length : Int) := of_decide_eq_true (by first | (with_reducible assumption) | assumption)
                           obtain ⟨ad318, e318, hx318_0⟩ := Kd.at_string HR0_7.out x135_7 p318 q318
                           cases e318
                           replace hx318_0 := (HB.out.cell (World.block_lt_of_cell? w _ hx318_0)).trans hx318_0
                           replace p318 := eq_true p318
                           replace q318 := eq_true q318
                           go_wp2_with (first | ((with_reducible refine gate_builtin (b := .append) (xs := #[.tmp 139, .tmp 142]) rfl ?_); at_builtin; refine Kd.R_append k57 (w0 := w) w.heap.size rfl (.tmp 139) (.tmp 142) 58 57 (.agg #[(.string ⟨#[]⟩), (.string ⟨#[]⟩)]) 32 rfl Tryd.underlying58 info57 rfl (by decide) (by omega) u6 x6_7 (⟨(⟨#[]⟩ : ByteArray), rdOf ByteArray.empty l0_7 x135_7⟩ : S57) [.string (⟨#[]⟩ : ByteArray), .string (rdOf ByteArray.empty l0_7 x135_7)] (fun _ => True) (fun _ => False) rfl rfl ?aP (fun _ hk => hk.elim) ?aF ?aO ?aB ?aS ?aL ?_; (case aP => exact k57_mkM _ _ _ (⟨(⟨#[]⟩ : ByteArray), rdOf ByteArray.empty l0_7 x135_7⟩ : S57)); (case aB => exact (by repeat (first | (with_reducible first | exact HB.out | apply below_alloc | apply pw_below_drewN | apply below_drew1 | refine below_set ?_ GE253.out) | exact HB.out))); (case aF => exact (fun _ _ => trivial)); (case aO => exact (by (with_reducible repeat (first | apply Kd.R_alloc | apply Kd.R_drewN | apply Kd.R_drew)); exact HO_6.out)); (case aS => exact (below_size (by repeat (first | (with_reducible first | exact HB.out | apply below_alloc | apply pw_below_drewN | apply below_drew1 | refine below_set ?_ GE253.out) | exact HB.out)))); (case aL => have := LMc108.out; omega); intro v320 w109 ho hb hg hat; rw [← Ny319.out] at ho; have n0_ := Aside0.mk (Kd.R_over' (by (with_reducible repeat (first | apply Kd.R_alloc | apply Kd.R_drewN | apply Kd.R_drew)); exact HO_5.out) (Kd.R_typed (by (with_reducible repeat (first | apply Kd.R_alloc | apply Kd.R_drewN | apply Kd.R_drew)); exact HO_6.out)) (by decide) hg); have n1_ := Aside0.mk (blk_grown (g := gb253) (o := .cells #[.string a0_0, .string a0_1, .string a0_2, .slice A0_3 l0_3.length c0_3, .slice A0_4 l0_4.length c0_4, .slice A0_5 l0_5.length c0_5, .slice A0_6 l0_6.length c0_6, .slice (some ad318) l0_7.length c0_7, .slice A0_8 l0_8.length c0_8] 32 (0, 0)) (by (with_reducible repeat (first | refine blk_drewN ?_ _ | refine blk_drew ?_ | refine blk_alloc ?_ _)); exact BK253.out) hg (Kd.R_ne HO_6.out BK253.out (by decide))); have n2_ := Aside0.mk (hb); have n3_ := Aside0.mk (ho); clear HO_5; clear BK253; clear HB; clear HO_6; have HO_5 := n0_; have BK253 := n1_; have HB := n2_; have HO321 := n3_; clear n0_ n1_ n2_ n3_; clear ho hb hg hat))
                           go_roundg k7
                           case measure => have := HJ3.out; have := HJ17.out; have := HK3.out; have := HK4.out; have := HK5.out; have := HK6.out; have := HK7.out; omega
                           case rel => exact ⟨(y319), (wrap64 (x135_7 + 1)), (by first | rfl | (simp; done) | (simp [*]; done)), H', ⟨by have := HJ3.out; have := HJ17.out; have := HK3.out; have := HK4.out; have := HK5.out; have := HK6.out; have := HK7.out; omega⟩, ⟨by (with_reducible repeat (first | apply Kd.R_alloc | apply Kd.R_drewN | apply Kd.R_drew)); exact HO_5.out⟩, ⟨by (with_reducible repeat (first | apply Kd.R_alloc | apply Kd.R_drewN | apply Kd.R_drew)); exact HO321.out⟩, ⟨by (with_reducible repeat (first | refine blk_drewN ?_ _ | refine blk_drew ?_ | refine blk_alloc ?_ _)); exact BK253.out⟩, ⟨by repeat (first | (with_reducible first | exact HB.out | apply below_alloc | apply pw_below_drewN | apply below_drew1 | refine below_set ?_ GE253.out) | exact HB.out)⟩⟩
                          ·
                           rw [if_neg c108] at H
                           exact absurd H (by simp)
                         ·
                          rw [if_neg c107] at H
                          exact absurd H (by simp)
                        ·
                         rw [if_neg c106] at H
                         exact absurd H (by simp)
                       ·
                        rw [if_neg c105] at H
                        have c105b0 : decide (x135_7 < (l0_7.length : Int)) = false := decide_eq_false c105
                        clear c105
                        replace H := Option.bind_eq_some_iff.mp H
                        obtain ⟨t322, A1100, H⟩ := H
                        replace H : (if y315.length + t322.length < 8796093022208 then (spec_Text.l5 k7 a1 (y315 ++ t322) ([] : List (S57)) l0_8 (l0_8.length : Int) 0) else (none)) = some r := H
                        have A110 := Aside0.mk A1100
                        clear A1100
                        by_cases c111 : y315.length + t322.length < 8796093022208
                        ·
                         rw [if_pos c111] at H
                         have LMc111 := Aside0.mk c111
                         clear c111
                         obtain ⟨y325, hy325⟩ : ∃ y_ : List ByteArray, y_ = (y315 ++ t322) := ⟨_, rfl⟩
                         replace H : (spec_Text.l5 k7 a1 y325 ([] : List (S57)) l0_8 (l0_8.length : Int) 0) = some r := by first | (rw [hy325]; with_reducible exact H) | (have H2_ := (Option.bind_some _ _).symm.trans H; rw [hy325]; with_reducible exact H2_) | (have H2_ := (Option.bind_some _ _).symm.trans H; with_reducible exact H2_) | with_reducible exact H | (rw [hy325]; exact H) | exact H
                         have Ny325 := Aside0.mk hy325
                         clear hy325
                         have H' := Aside0.mk H
                         clear H
                         obtain ⟨Ao112, co112, eo112⟩ := Kd.R_slice HO_6.out
                         subst eo112
                         go_wp2_with (first | ((with_reducible refine gate_callee (f := 30) rfl ?_); refine goesL_ (some 148) rfl rfl Tryd.func30 (by kernel_rfl) rfl #[.string (⟨#[116, 111, 111, 108]⟩ : ByteArray), .slice Ao112 x6_7.length co112, .bool a1] rfl (by (try simp only [List.map_toArray, List.map_cons, List.map_nil]); first | done | rfl | (simp only [List.length_drop, List.length_take]; rfl)) ?_; (with_reducible refine (spec_section.calls k7 (⟨#[116, 111, 111, 108]⟩ : ByteArray) _ _ x6_7 a1 t322 _ ?side1 ?side2 A110.out).mono ?_); (case side1 => repeat (first | exact (Kd.R_reads' HO_6.out).2.2 | (with_reducible refine Kd.C_alloc ?_ _) | (with_reducible refine Kd.C_drewN ?_ _) | (with_reducible refine Kd.C_drew ?_))); (case side2 => exact (Kd.R_reads' HO_6.out).2.1); rintro e w113 ⟨v323, rfl, ho0, hb⟩; refine ⟨_, rfl, ?_⟩; have n0_ := Aside0.mk (Kd.R_elder' (by (with_reducible repeat (first | apply Kd.R_alloc | apply Kd.R_drewN | apply Kd.R_drew)); exact HO_5.out) (Kd.R_base ho0) hb); have n1_ := Aside0.mk (Kd.R_below (by (with_reducible repeat (first | apply Kd.R_alloc | apply Kd.R_drewN | apply Kd.R_drew)); exact HO_6.out) hb); have n2_ := Aside0.mk (Kd.R_lower (Kd.R_new' ho0 (Kd.R_lt (by (with_reducible repeat (first | apply Kd.R_alloc | apply Kd.R_drewN | apply Kd.R_drew)); exact HO_5.out))) (below_size (by repeat (first | (with_reducible first | exact HB.out | apply below_alloc | apply pw_below_drewN | apply below_drew1 | refine below_set ?_ GE253.out) | exact HB.out)))); have n3_ := Aside0.mk (blk_below (g := gb253) (o := .cells #[.string a0_0, .string a0_1, .string a0_2, .slice A0_3 l0_3.length c0_3, .slice A0_4 l0_4.length c0_4, .slice A0_5 l0_5.length c0_5, .slice A0_6 l0_6.length c0_6, .slice A0_7 l0_7.length c0_7, .slice A0_8 l0_8.length c0_8] 32 (0, 0)) (by (with_reducible repeat (first | refine blk_drewN ?_ _ | refine blk_drew ?_ | refine blk_alloc ?_ _)); exact BK253.out) hb); have n4_ := Aside0.mk (below_step (by repeat (first | (with_reducible first | exact HB.out | apply below_alloc | apply pw_below_drewN | apply below_drew1 | refine below_set ?_ GE253.out) | exact HB.out)) hb); clear HO_5; clear HO_6; clear BK253; clear HB; have HO_5 := n0_; have HO_6 := n1_; have HO324 := n2_; have BK253 := n3_; have HB := n4_; clear n0_ n1_ n2_ n3_ n4_; (try clear hb); (try clear hb2); (try clear hk); (try clear hi); (try clear ho0); obtain ⟨Ao115, co115, eo115⟩ := Kd.R_slice HO324.out; subst eo115) | ((with_reducible refine gate_builtin (b := .append) (xs := #[.tmp 145, .tmp 148]) rfl ?_); at_builtin; refine Kd.R_append_rows Kd.string (w0 := w) w.heap.size rfl (.tmp 145) (.tmp 148) 30 9 (.string ⟨#[]⟩) 16 rfl Tryd.underlying30 info9 rfl (by decide) (by omega) v316 y315 t322 _ _ _ (fun k_ => some k_ ≠ (.slice Ao115 t322.length co115 : Value).ownBlock) (fun _ => False) rfl rfl ?aO ?aR (fun _ _ h => h) (fun _ h => h.elim) ?aF ?aB ?aS ?aL ?_; (case aR => repeat (first | exact (Kd.R_reads' HO324.out).2.2 | (with_reducible refine Kd.C_alloc ?_ _) | (with_reducible refine Kd.C_drewN ?_ _) | (with_reducible refine Kd.C_drew ?_))); (case aB => exact (by repeat (first | (with_reducible first | exact HB.out | apply below_alloc | apply pw_below_drewN | apply below_drew1 | refine below_set ?_ GE253.out) | exact HB.out))); (case aF => exact (fun k_ hk => Kd.fresh' (Kd.R_lt (by (with_reducible repeat (first | apply Kd.R_alloc | apply Kd.R_drewN | apply Kd.R_drew)); exact HO324.out)) k_ hk)); (case aO => exact (by (with_reducible repeat (first | apply Kd.R_alloc | apply Kd.R_drewN | apply Kd.R_drew)); exact Kd.R_mono HO_5.out (fun _ hk => hk.2))); (case aS => exact (below_size (by repeat (first | (with_reducible first | exact HB.out | apply below_alloc | apply pw_below_drewN | apply below_drew1 | refine below_set ?_ GE253.out) | exact HB.out)))); (case aL => have := LMc111.out; omega); intro v326 w114 ho hb hg hat; rw [← Ny325.out] at ho; have n0_ := Aside0.mk (Kd.R_over' (by (with_reducible repeat (first | apply Kd.R_alloc | apply Kd.R_drewN | apply Kd.R_drew)); exact HO_6.out) (Kd.R_typed (by (with_reducible repeat (first | apply Kd.R_alloc | apply Kd.R_drewN | apply Kd.R_drew)); exact HO_5.out)) (by decide) hg); have n1_ := Aside0.mk (blk_grown (g := gb253) (o := .cells #[.string a0_0, .string a0_1, .string a0_2, .slice A0_3 l0_3.length c0_3, .slice A0_4 l0_4.length c0_4, .slice A0_5 l0_5.length c0_5, .slice A0_6 l0_6.length c0_6, .slice A0_7 l0_7.length c0_7, .slice A0_8 l0_8.length c0_8] 32 (0, 0)) (by (with_reducible repeat (first | refine blk_drewN ?_ _ | refine blk_drew ?_ | refine blk_alloc ?_ _)); exact BK253.out) hg (Kd.R_ne HO_5.out BK253.out (by decide))); have n2_ := Aside0.mk (Kd.R_after (ok := (fun _ => True)) (by (with_reducible repeat (first | apply Kd.R_alloc | apply Kd.R_drewN | apply Kd.R_drew)); exact HO324.out) hg hat); have n3_ := Aside0.mk (hb); have n4_ := Aside0.mk (ho); clear HO_6; clear BK253; clear HO324; clear HB; clear HO_5; have HO_6 := n0_; have BK253 := n1_; have HO324 := n2_; have HB := n3_; have HO327 := n4_; clear n0_ n1_ n2_ n3_ n4_; clear ho hb hg hat; have hcz116_0 : w114.cell? ⟨gb253, 0, none⟩ = some (.string a0_0) := (blk_cell BK253.out 0).trans rfl; have hcz116_1 : w114.cell? ⟨gb253, 1, none⟩ = some (.string a0_1) := (blk_cell BK253.out 1).trans rfl; have hcz116_2 : w114.cell? ⟨gb253, 2, none⟩ = some (.string a0_2) := (blk_cell BK253.out 2).trans rfl; have hcz116_3 : w114.cell? ⟨gb253, 3, none⟩ = some (.slice A0_3 l0_3.length c0_3) := (blk_cell BK253.out 3).trans rfl; have hcz116_4 : w114.cell? ⟨gb253, 4, none⟩ = some (.slice A0_4 l0_4.length c0_4) := (blk_cell BK253.out 4).trans rfl; have hcz116_5 : w114.cell? ⟨gb253, 5, none⟩ = some (.slice A0_5 l0_5.length c0_5) := (blk_cell BK253.out 5).trans rfl; have hcz116_6 : w114.cell? ⟨gb253, 6, none⟩ = some (.slice A0_6 l0_6.length c0_6) := (blk_cell BK253.out 6).trans rfl; have hcz116_7 : w114.cell? ⟨gb253, 7, none⟩ = some (.slice A0_7 l0_7.length c0_7) := (blk_cell BK253.out 7).trans rfl; have hcz116_8 : w114.cell? ⟨gb253, 8, none⟩ = some (.slice A0_8 l0_8.length c0_8) := (blk_cell BK253.out 8).trans rfl; have hfz116_0 := blk_frozen BK253.out 0; have hfz116_1 := blk_frozen BK253.out 1; have hfz116_2 := blk_frozen BK253.out 2; have hfz116_3 := blk_frozen BK253.out 3; have hfz116_4 := blk_frozen BK253.out 4; have hfz116_5 := blk_frozen BK253.out 5; have hfz116_6 := blk_frozen BK253.out 6; have hfz116_7 := blk_frozen BK253.out 7; have hfz116_8 := blk_frozen BK253.out 8))
                         go_loopg [6, 153] k7 (fun kq v6 v153 w' => ∃ (x6_8 : List (S57)) (x153_8 : Int), v153 = .int .i64 x153_8 ∧ Aside0 (spec_Text.l5 kq a1 y325 x6_8 l0_8 (l0_8.length : Int) x153_8 = some r) ∧ Aside0 (kq ≤ k7) ∧ Aside0 (Kd.R Kd.string 9 w' w.heap.size (fun _ => True) v326 y325) ∧ Aside0 (Kd.R k57 57 w' w.heap.size (fun _ => True) v6 x6_8) ∧ Aside0 (w'.heap[gb253]? = some (.cells #[.string a0_0, .string a0_1, .string a0_2, (.slice A0_3 l0_3.length c0_3), (.slice A0_4 l0_4.length c0_4), (.slice A0_5 l0_5.length c0_5), (.slice A0_6 l0_6.length c0_6), (.slice A0_7 l0_7.length c0_7), (.slice A0_8 l0_8.length c0_8)] 32 (0, 0))) ∧ Aside0 (Below w.heap.size w w'))
                         case atStart => exact ⟨(([] : List (S57))), (0), (by first | rfl | (simp; done) | (simp [*]; done)), H', ⟨Nat.le_refl _⟩, ⟨by (with_reducible repeat (first | apply Kd.R_alloc | apply Kd.R_drewN | apply Kd.R_drew)); exact Kd.R_mono HO327.out (fun _ hk => trivial)⟩, ⟨by first | exact Kd.R_nil _ _ _ _ _ | exact Kd.N_nil _ _ _ _ _ | exact Kd.V_nil _ _ _ _ _ | exact Kd.Q_nil _ _ _ _ _ | exact Kd.S_nil _ _ _ _ _⟩, ⟨by (with_reducible repeat (first | refine blk_drewN ?_ _ | refine blk_drew ?_ | refine blk_alloc ?_ _)); exact BK253.out⟩, ⟨by repeat (first | (with_reducible first | exact HB.out | apply below_alloc | apply pw_below_drewN | apply below_drew1 | refine below_set ?_ GE253.out) | exact HB.out)⟩⟩
                         case round =>
                          clear H'
                          clear c105b0
                          clear hcz116_0
                          clear hcz116_1
                          clear hcz116_2
                          clear hcz116_3
                          clear hcz116_4
                          clear hcz116_5
                          clear hcz116_6
                          clear hcz116_7
                          clear hcz116_8
                          clear hfz116_0
                          clear hfz116_1
                          clear hfz116_2
                          clear hfz116_3
                          clear hfz116_4
                          clear hfz116_5
                          clear hfz116_6
                          clear hfz116_7
                          clear hfz116_8
                          obtain ⟨x6_8, x153_8, rfl, HA, HK8, HO_5, HO_6, BK253, HB⟩ := hrel
                          cases gk with
                          | zero => exact absurd HA.out (by simp [spec_Text.l5])
                          | succ k8 =>
                           have H := HA.out
                           clear HA
                           simp only [spec_Text.l5] at H
                           by_cases c117 : x153_8 < (l0_8.length : Int)
                           ·
                            rw [if_pos c117] at H
                            have c117b0 : decide (x153_8 < (l0_8.length : Int)) = true := decide_eq_true c117
                            clear c117
                            by_cases c118 : 0 ≤ x153_8
                            ·
                             rw [if_pos c118] at H
                             have c118b0 : decide (0 ≤ x153_8) = true := decide_eq_true c118
                             clear c118
                             by_cases c119 : x153_8 < (l0_8.length : Int)
                             ·
                              rw [if_pos c119] at H
                              have c119b0 : decide (x153_8 < (l0_8.length : Int)) = true := decide_eq_true c119
                              clear c119
                              by_cases c120 : x6_8.length < 4398046511104
                              ·
                               rw [if_pos c120] at H
                               have LMc120 := Aside0.mk c120
                               clear c120
                               obtain ⟨y329, hy329⟩ : ∃ y_ : List (S57), y_ = (x6_8 ++ [(⟨(⟨#[]⟩ : ByteArray), rdOf ByteArray.empty l0_8 x153_8⟩ : S57)]) := ⟨_, rfl⟩
                               replace H : (spec_Text.l5 k8 a1 y325 y329 l0_8 (l0_8.length : Int) (wrap64 (x153_8 + 1))) = some r := by first | (rw [hy329]; with_reducible exact H) | (have H2_ := (Option.bind_some _ _).symm.trans H; rw [hy329]; with_reducible exact H2_) | (have H2_ := (Option.bind_some _ _).symm.trans H; with_reducible exact H2_) | with_reducible exact H | (rw [hy329]; exact H) | exact H
                               have Ny329 := Aside0.mk hy329
                               clear hy329
                               have H' := Aside0.mk H
                               clear H
                               have p328 : 0 ≤ (x153_8 : Int) := of_decide_eq_true (by first | (with_reducible assumption) | assumption)
                               have q328 : x153_8 < (l0_8.length : Int) := of_decide_eq_true (by first | (with_reducible assumption) | assumption)
                               obtain ⟨ad328, e328, hx328_0⟩ := Kd.at_string HR0_8.out x153_8 p328 q328
                               cases e328
                               replace hx328_0 := (HB.out.cell (World.block_lt_of_cell? w _ hx328_0)).trans hx328_0
                               replace p328 := eq_true p328
                               replace q328 := eq_true q328
                               go_wp2_with (first | ((with_reducible refine gate_builtin (b := .append) (xs := #[.tmp 157, .tmp 160]) rfl ?_); at_builtin; refine Kd.R_append k57 (w0 := w) w.heap.size rfl (.tmp 157) (.tmp 160) 58 57 (.agg #[(.string ⟨#[]⟩), (.string ⟨#[]⟩)]) 32 rfl Tryd.underlying58 info57 rfl (by decide) (by omega) u6 x6_8 (⟨(⟨#[]⟩ : ByteArray), rdOf ByteArray.empty l0_8 x153_8⟩ : S57) [.string (⟨#[]⟩ : ByteArray), .string (rdOf ByteArray.empty l0_8 x153_8)] (fun _ => True) (fun _ => False) rfl rfl ?aP (fun _ hk => hk.elim) ?aF ?aO ?aB ?aS ?aL ?_; (case aP => exact k57_mkM _ _ _ (⟨(⟨#[]⟩ : ByteArray), rdOf ByteArray.empty l0_8 x153_8⟩ : S57)); (case aB => exact (by repeat (first | (with_reducible first | exact HB.out | apply below_alloc | apply pw_below_drewN | apply below_drew1 | refine below_set ?_ GE253.out) | exact HB.out))); (case aF => exact (fun _ _ => trivial)); (case aO => exact (by (with_reducible repeat (first | apply Kd.R_alloc | apply Kd.R_drewN | apply Kd.R_drew)); exact HO_6.out)); (case aS => exact (below_size (by repeat (first | (with_reducible first | exact HB.out | apply below_alloc | apply pw_below_drewN | apply below_drew1 | refine below_set ?_ GE253.out) | exact HB.out)))); (case aL => have := LMc120.out; omega); intro v330 w121 ho hb hg hat; rw [← Ny329.out] at ho; have n0_ := Aside0.mk (Kd.R_over' (by (with_reducible repeat (first | apply Kd.R_alloc | apply Kd.R_drewN | apply Kd.R_drew)); exact HO_5.out) (Kd.R_typed (by (with_reducible repeat (first | apply Kd.R_alloc | apply Kd.R_drewN | apply Kd.R_drew)); exact HO_6.out)) (by decide) hg); have n1_ := Aside0.mk (blk_grown (g := gb253) (o := .cells #[.string a0_0, .string a0_1, .string a0_2, .slice A0_3 l0_3.length c0_3, .slice A0_4 l0_4.length c0_4, .slice A0_5 l0_5.length c0_5, .slice A0_6 l0_6.length c0_6, .slice A0_7 l0_7.length c0_7, .slice (some ad328) l0_8.length c0_8] 32 (0, 0)) (by (with_reducible repeat (first | refine blk_drewN ?_ _ | refine blk_drew ?_ | refine blk_alloc ?_ _)); exact BK253.out) hg (Kd.R_ne HO_6.out BK253.out (by decide))); have n2_ := Aside0.mk (hb); have n3_ := Aside0.mk (ho); clear HO_5; clear BK253; clear HB; clear HO_6; have HO_5 := n0_; have BK253 := n1_; have HB := n2_; have HO331 := n3_; clear n0_ n1_ n2_ n3_; clear ho hb hg hat))
                               go_roundg k8
                               case measure => have := HJ3.out; have := HJ17.out; have := HK3.out; have := HK4.out; have := HK5.out; have := HK6.out; have := HK7.out; have := HK8.out; omega
                               case rel => exact ⟨(y329), (wrap64 (x153_8 + 1)), (by first | rfl | (simp; done) | (simp [*]; done)), H', ⟨by have := HJ3.out; have := HJ17.out; have := HK3.out; have := HK4.out; have := HK5.out; have := HK6.out; have := HK7.out; have := HK8.out; omega⟩, ⟨by (with_reducible repeat (first | apply Kd.R_alloc | apply Kd.R_drewN | apply Kd.R_drew)); exact HO_5.out⟩, ⟨by (with_reducible repeat (first | apply Kd.R_alloc | apply Kd.R_drewN | apply Kd.R_drew)); exact HO331.out⟩, ⟨by (with_reducible repeat (first | refine blk_drewN ?_ _ | refine blk_drew ?_ | refine blk_alloc ?_ _)); exact BK253.out⟩, ⟨by repeat (first | (with_reducible first | exact HB.out | apply below_alloc | apply pw_below_drewN | apply below_drew1 | refine below_set ?_ GE253.out) | exact HB.out)⟩⟩
                              ·
                               rw [if_neg c120] at H
                               exact absurd H (by simp)
                             ·
                              rw [if_neg c119] at H
                              exact absurd H (by simp)
                            ·
                             rw [if_neg c118] at H
                             exact absurd H (by simp)
                           ·
                            rw [if_neg c117] at H
                            have c117b0 : decide (x153_8 < (l0_8.length : Int)) = false := decide_eq_false c117
                            clear c117
                            replace H := Option.bind_eq_some_iff.mp H
                            obtain ⟨t332, A1220, H⟩ := H
                            replace H : (if y325.length + t332.length < 8796093022208 then ((some (y325 ++ t332 : List ByteArray)).bind fun y335 => (spec_Text.l6 k8 (⟨#[]⟩ : ByteArray) y335 (y335.length : Int) 0)) else (none)) = some r := H
                            have A122 := Aside0.mk A1220
                            clear A1220
                            by_cases c123 : y325.length + t332.length < 8796093022208
                            ·
                             rw [if_pos c123] at H
                             have LMc123 := Aside0.mk c123
                             clear c123
                             obtain ⟨y335, hy335⟩ : ∃ y_ : List ByteArray, y_ = (y325 ++ t332) := ⟨_, rfl⟩
                             replace H : (spec_Text.l6 k8 (⟨#[]⟩ : ByteArray) y335 (y335.length : Int) 0) = some r := by first | (rw [hy335]; with_reducible exact H) | (have H2_ := (Option.bind_some _ _).symm.trans H; rw [hy335]; with_reducible exact H2_) | (have H2_ := (Option.bind_some _ _).symm.trans H; with_reducible exact H2_) | with_reducible exact H | (rw [hy335]; exact H) | exact H
                             have Ny335 := Aside0.mk hy335
                             clear hy335
                             have H' := Aside0.mk H
                             clear H
                             obtain ⟨Ao124, co124, eo124⟩ := Kd.R_slice HO_6.out
                             subst eo124
                             go_wp2_with (first | ((with_reducible refine gate_callee (f := 30) rfl ?_); refine goesL_ (some 166) rfl rfl Tryd.func30 (by kernel_rfl) rfl #[.string (⟨#[105, 103, 110, 111, 114, 101]⟩ : ByteArray), .slice Ao124 x6_8.length co124, .bool a1] rfl (by (try simp only [List.map_toArray, List.map_cons, List.map_nil]); first | done | rfl | (simp only [List.length_drop, List.length_take]; rfl)) ?_; (with_reducible refine (spec_section.calls k8 (⟨#[105, 103, 110, 111, 114, 101]⟩ : ByteArray) _ _ x6_8 a1 t332 _ ?side1 ?side2 A122.out).mono ?_); (case side1 => repeat (first | exact (Kd.R_reads' HO_6.out).2.2 | (with_reducible refine Kd.C_alloc ?_ _) | (with_reducible refine Kd.C_drewN ?_ _) | (with_reducible refine Kd.C_drew ?_))); (case side2 => exact (Kd.R_reads' HO_6.out).2.1); rintro e w125 ⟨v333, rfl, ho0, hb⟩; refine ⟨_, rfl, ?_⟩; have n0_ := Aside0.mk (Kd.R_elder' (by (with_reducible repeat (first | apply Kd.R_alloc | apply Kd.R_drewN | apply Kd.R_drew)); exact HO_5.out) (Kd.R_base ho0) hb); have n1_ := Aside0.mk (Kd.R_below (by (with_reducible repeat (first | apply Kd.R_alloc | apply Kd.R_drewN | apply Kd.R_drew)); exact HO_6.out) hb); have n2_ := Aside0.mk (Kd.R_lower (Kd.R_new' ho0 (Kd.R_lt (by (with_reducible repeat (first | apply Kd.R_alloc | apply Kd.R_drewN | apply Kd.R_drew)); exact HO_5.out))) (below_size (by repeat (first | (with_reducible first | exact HB.out | apply below_alloc | apply pw_below_drewN | apply below_drew1 | refine below_set ?_ GE253.out) | exact HB.out)))); have n3_ := Aside0.mk (blk_below (g := gb253) (o := .cells #[.string a0_0, .string a0_1, .string a0_2, .slice A0_3 l0_3.length c0_3, .slice A0_4 l0_4.length c0_4, .slice A0_5 l0_5.length c0_5, .slice A0_6 l0_6.length c0_6, .slice A0_7 l0_7.length c0_7, .slice A0_8 l0_8.length c0_8] 32 (0, 0)) (by (with_reducible repeat (first | refine blk_drewN ?_ _ | refine blk_drew ?_ | refine blk_alloc ?_ _)); exact BK253.out) hb); have n4_ := Aside0.mk (below_step (by repeat (first | (with_reducible first | exact HB.out | apply below_alloc | apply pw_below_drewN | apply below_drew1 | refine below_set ?_ GE253.out) | exact HB.out)) hb); clear HO_5; clear HO_6; clear BK253; clear HB; have HO_5 := n0_; have HO_6 := n1_; have HO334 := n2_; have BK253 := n3_; have HB := n4_; clear n0_ n1_ n2_ n3_ n4_; (try clear hb); (try clear hb2); (try clear hk); (try clear hi); (try clear ho0); obtain ⟨Ao127, co127, eo127⟩ := Kd.R_slice HO334.out; subst eo127) | ((with_reducible refine gate_builtin (b := .append) (xs := #[.tmp 163, .tmp 166]) rfl ?_); at_builtin; refine Kd.R_append_rows Kd.string (w0 := w) w.heap.size rfl (.tmp 163) (.tmp 166) 30 9 (.string ⟨#[]⟩) 16 rfl Tryd.underlying30 info9 rfl (by decide) (by omega) v326 y325 t332 _ _ _ (fun k_ => some k_ ≠ (.slice Ao127 t332.length co127 : Value).ownBlock) (fun _ => False) rfl rfl ?aO ?aR (fun _ _ h => h) (fun _ h => h.elim) ?aF ?aB ?aS ?aL ?_; (case aR => repeat (first | exact (Kd.R_reads' HO334.out).2.2 | (with_reducible refine Kd.C_alloc ?_ _) | (with_reducible refine Kd.C_drewN ?_ _) | (with_reducible refine Kd.C_drew ?_))); (case aB => exact (by repeat (first | (with_reducible first | exact HB.out | apply below_alloc | apply pw_below_drewN | apply below_drew1 | refine below_set ?_ GE253.out) | exact HB.out))); (case aF => exact (fun k_ hk => Kd.fresh' (Kd.R_lt (by (with_reducible repeat (first | apply Kd.R_alloc | apply Kd.R_drewN | apply Kd.R_drew)); exact HO334.out)) k_ hk)); (case aO => exact (by (with_reducible repeat (first | apply Kd.R_alloc | apply Kd.R_drewN | apply Kd.R_drew)); exact Kd.R_mono HO_5.out (fun _ hk => hk.2))); (case aS => exact (below_size (by repeat (first | (with_reducible first | exact HB.out | apply below_alloc | apply pw_below_drewN | apply below_drew1 | refine below_set ?_ GE253.out) | exact HB.out)))); (case aL => have := LMc123.out; omega); intro v336 w126 ho hb hg hat; rw [← Ny335.out] at ho; have n0_ := Aside0.mk (Kd.R_over' (by (with_reducible repeat (first | apply Kd.R_alloc | apply Kd.R_drewN | apply Kd.R_drew)); exact HO_6.out) (Kd.R_typed (by (with_reducible repeat (first | apply Kd.R_alloc | apply Kd.R_drewN | apply Kd.R_drew)); exact HO_5.out)) (by decide) hg); have n1_ := Aside0.mk (blk_grown (g := gb253) (o := .cells #[.string a0_0, .string a0_1, .string a0_2, .slice A0_3 l0_3.length c0_3, .slice A0_4 l0_4.length c0_4, .slice A0_5 l0_5.length c0_5, .slice A0_6 l0_6.length c0_6, .slice A0_7 l0_7.length c0_7, .slice A0_8 l0_8.length c0_8] 32 (0, 0)) (by (with_reducible repeat (first | refine blk_drewN ?_ _ | refine blk_drew ?_ | refine blk_alloc ?_ _)); exact BK253.out) hg (Kd.R_ne HO_5.out BK253.out (by decide))); have n2_ := Aside0.mk (Kd.R_after (ok := (fun _ => True)) (by (with_reducible repeat (first | apply Kd.R_alloc | apply Kd.R_drewN | apply Kd.R_drew)); exact HO334.out) hg hat); have n3_ := Aside0.mk (hb); have n4_ := Aside0.mk (ho); clear HO_6; clear BK253; clear HO334; clear HB; clear HO_5; have HO_6 := n0_; have BK253 := n1_; have HO334 := n2_; have HB := n3_; have HO337 := n4_; clear n0_ n1_ n2_ n3_ n4_; clear ho hb hg hat; obtain ⟨Ao128, co128, eo128⟩ := Kd.R_slice HO337.out; subst eo128))
                             go_loopg [19, 170] k8 (fun kq v19 v170 w' => ∃ (x19_9 : ByteArray) (x170_9 : Int), v19 = .string x19_9 ∧ v170 = .int .i64 x170_9 ∧ Aside0 (spec_Text.l6 kq x19_9 y335 (y335.length : Int) x170_9 = some r) ∧ Aside0 (kq ≤ k8) ∧ Aside0 (Kd.R Kd.string 9 w' w.heap.size (fun _ => True) (.slice Ao128 y335.length co128) y335) ∧ Aside0 (w'.heap[gb253]? = some (.cells #[.string a0_0, .string a0_1, .string a0_2, (.slice A0_3 l0_3.length c0_3), (.slice A0_4 l0_4.length c0_4), (.slice A0_5 l0_5.length c0_5), (.slice A0_6 l0_6.length c0_6), (.slice A0_7 l0_7.length c0_7), (.slice A0_8 l0_8.length c0_8)] 32 (0, 0))) ∧ Aside0 (Below w.heap.size w w'))
                             case atStart => exact ⟨((⟨#[]⟩ : ByteArray)), (0), (by first | rfl | (simp; done) | (simp [*]; done)), (by first | rfl | (simp; done) | (simp [*]; done)), H', ⟨Nat.le_refl _⟩, ⟨by (with_reducible repeat (first | apply Kd.R_alloc | apply Kd.R_drewN | apply Kd.R_drew)); exact Kd.R_mono HO337.out (fun _ hk => trivial)⟩, ⟨by (with_reducible repeat (first | refine blk_drewN ?_ _ | refine blk_drew ?_ | refine blk_alloc ?_ _)); exact BK253.out⟩, ⟨by repeat (first | (with_reducible first | exact HB.out | apply below_alloc | apply pw_below_drewN | apply below_drew1 | refine below_set ?_ GE253.out) | exact HB.out)⟩⟩
                             case round =>
                              clear H'
                              clear c117b0
                              obtain ⟨x19_9, x170_9, rfl, rfl, HA, HK9, HO_168, BK253, HB⟩ := hrel
                              cases gk with
                              | zero => exact absurd HA.out (by simp [spec_Text.l6])
                              | succ k9 =>
                               have H := HA.out
                               clear HA
                               simp only [spec_Text.l6] at H
                               by_cases c129 : x170_9 < (y335.length : Int)
                               ·
                                rw [if_pos c129] at H
                                have c129b0 : decide (x170_9 < (y335.length : Int)) = true := decide_eq_true c129
                                clear c129
                                by_cases c130 : 0 ≤ x170_9
                                ·
                                 rw [if_pos c130] at H
                                 have c130b0 : decide (0 ≤ x170_9) = true := decide_eq_true c130
                                 clear c130
                                 by_cases c131 : x170_9 < (y335.length : Int)
                                 ·
                                  rw [if_pos c131] at H
                                  have c131b0 : decide (x170_9 < (y335.length : Int)) = true := decide_eq_true c131
                                  clear c131
                                  by_cases c132 : x170_9 > 0
                                  ·
                                   rw [if_pos c132] at H
                                   have c132b0 : decide (0 < x170_9) = true := decide_eq_true c132
                                   clear c132
                                   by_cases c133 : x19_9.size + 1 ≤ 9223372036854775807
                                   ·
                                    rw [if_pos c133] at H
                                    have c133b0 := eq_true c133
                                    have c133b1 : decide (x19_9.size + 1 ≤ 9223372036854775807) = true := decide_eq_true c133
                                    try have c133b2 : (9223372036854775807 < x19_9.size + 1) = False := eq_false (Nat.not_lt.2 c133)
                                    by_cases c134 : (x19_9 ++ (⟨#[10]⟩ : ByteArray)).size + (rdOf ByteArray.empty y335 x170_9).size ≤ 9223372036854775807
                                    ·
                                     rw [if_pos c134] at H
                                     have c134b0 := eq_true c134
                                     have c134b1 : decide ((x19_9 ++ (⟨#[10]⟩ : ByteArray)).size + (rdOf ByteArray.empty y335 x170_9).size ≤ 9223372036854775807) = true := decide_eq_true c134
                                     try have c134b2 : (9223372036854775807 < (x19_9 ++ (⟨#[10]⟩ : ByteArray)).size + (rdOf ByteArray.empty y335 x170_9).size) = False := eq_false (Nat.not_lt.2 c134)
                                     try have c134b3 : (9223372036854775807 < x19_9.size + 1 + (rdOf ByteArray.empty y335 x170_9).size) = False := eq_false (Nat.not_lt.2 (by have h_ := c134; simp only [ByteArray.size_append] at h_; exact h_))
                                     have H' := Aside0.mk H
                                     clear H
                                     have p338 : 0 ≤ (x170_9 : Int) := of_decide_eq_true (by first | (with_reducible assumption) | assumption)
                                     have q338 : x170_9 < (y335.length : Int) := of_decide_eq_true (by first | (with_reducible assumption) | assumption)
                                     obtain ⟨ad338, e338, hx338_0⟩ := Kd.at_string (Kd.R_reads' HO_168.out).2.2 x170_9 p338 q338
                                     cases e338
                                     replace p338 := eq_true p338
                                     replace q338 := eq_true q338
                                     go_wp2
                                     go_roundg k9
                                     case measure => have := HJ3.out; have := HJ17.out; have := HK3.out; have := HK4.out; have := HK5.out; have := HK6.out; have := HK7.out; have := HK8.out; have := HK9.out; omega
                                     case rel => exact ⟨((x19_9 ++ (⟨#[10]⟩ : ByteArray)) ++ (rdOf ByteArray.empty y335 x170_9)), (wrap64 (x170_9 + 1)), (by first | rfl | (simp; done) | (simp [*]; done)), (by first | rfl | (simp; done) | (simp [*]; done)), H', ⟨by have := HJ3.out; have := HJ17.out; have := HK3.out; have := HK4.out; have := HK5.out; have := HK6.out; have := HK7.out; have := HK8.out; have := HK9.out; omega⟩, ⟨by (with_reducible repeat (first | apply Kd.R_alloc | apply Kd.R_drewN | apply Kd.R_drew)); exact HO_168.out⟩, ⟨by (with_reducible repeat (first | refine blk_drewN ?_ _ | refine blk_drew ?_ | refine blk_alloc ?_ _)); exact BK253.out⟩, ⟨by repeat (first | (with_reducible first | exact HB.out | apply below_alloc | apply pw_below_drewN | apply below_drew1 | refine below_set ?_ GE253.out) | exact HB.out)⟩⟩
                                    ·
                                     rw [if_neg c134] at H
                                     exact absurd H (by simp)
                                   ·
                                    rw [if_neg c133] at H
                                    exact absurd H (by simp)
                                  ·
                                   rw [if_neg c132] at H
                                   have c132b0 : decide (0 < x170_9) = false := decide_eq_false c132
                                   clear c132
                                   by_cases c135 : x19_9.size + (rdOf ByteArray.empty y335 x170_9).size ≤ 9223372036854775807
                                   ·
                                    rw [if_pos c135] at H
                                    have c135b0 := eq_true c135
                                    have c135b1 : decide (x19_9.size + (rdOf ByteArray.empty y335 x170_9).size ≤ 9223372036854775807) = true := decide_eq_true c135
                                    try have c135b2 : (9223372036854775807 < x19_9.size + (rdOf ByteArray.empty y335 x170_9).size) = False := eq_false (Nat.not_lt.2 c135)
                                    have H' := Aside0.mk H
                                    clear H
                                    have p338 : 0 ≤ (x170_9 : Int) := of_decide_eq_true (by first | (with_reducible assumption) | assumption)
                                    have q338 : x170_9 < (y335.length : Int) := of_decide_eq_true (by first | (with_reducible assumption) | assumption)
                                    obtain ⟨ad338, e338, hx338_0⟩ := Kd.at_string (Kd.R_reads' HO_168.out).2.2 x170_9 p338 q338
                                    cases e338
                                    replace p338 := eq_true p338
                                    replace q338 := eq_true q338
                                    go_wp2
                                    go_roundg k9
                                    case measure => have := HJ3.out; have := HJ17.out; have := HK3.out; have := HK4.out; have := HK5.out; have := HK6.out; have := HK7.out; have := HK8.out; have := HK9.out; omega
                                    case rel => exact ⟨(x19_9 ++ (rdOf ByteArray.empty y335 x170_9)), (wrap64 (x170_9 + 1)), (by first | rfl | (simp; done) | (simp [*]; done)), (by first | rfl | (simp; done) | (simp [*]; done)), H', ⟨by have := HJ3.out; have := HJ17.out; have := HK3.out; have := HK4.out; have := HK5.out; have := HK6.out; have := HK7.out; have := HK8.out; have := HK9.out; omega⟩, ⟨by (with_reducible repeat (first | apply Kd.R_alloc | apply Kd.R_drewN | apply Kd.R_drew)); exact HO_168.out⟩, ⟨by (with_reducible repeat (first | refine blk_drewN ?_ _ | refine blk_drew ?_ | refine blk_alloc ?_ _)); exact BK253.out⟩, ⟨by repeat (first | (with_reducible first | exact HB.out | apply below_alloc | apply pw_below_drewN | apply below_drew1 | refine below_set ?_ GE253.out) | exact HB.out)⟩⟩
                                   ·
                                    rw [if_neg c135] at H
                                    exact absurd H (by simp)
                                 ·
                                  rw [if_neg c131] at H
                                  exact absurd H (by simp)
                                ·
                                 rw [if_neg c130] at H
                                 exact absurd H (by simp)
                               ·
                                rw [if_neg c129] at H
                                have c129b0 : decide (x170_9 < (y335.length : Int)) = false := decide_eq_false c129
                                clear c129
                                obtain rfl := Option.some.inj H
                                go_wp2
                                go_ret
                                exact ⟨by first | rfl | (simp [errW_none, errW_some] <;> rfl) | (simp [*, errW_none, errW_some] <;> rfl), by repeat (first | (with_reducible first | exact HB.out | apply below_alloc | apply pw_below_drewN | apply below_drew1 | refine below_set ?_ GE253.out) | exact HB.out)⟩
                            ·
                             rw [if_neg c123] at H
                             exact absurd H (by simp)
                        ·
                         rw [if_neg c111] at H
                         exact absurd H (by simp)
                    ·
                     rw [if_neg c99] at H
                     exact absurd H (by simp)
                ·
                 rw [if_neg c80] at H
                 exact absurd H (by simp)
            ·
             rw [if_neg c57] at H
             exact absurd H (by simp)
        ·
         rw [if_neg c40] at H
         exact absurd H (by simp)
end Go.Proofs.YtlnmchehnhgfnaaDoor.PCont
