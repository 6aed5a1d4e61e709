/- Functions of the program and their contracts, as the print writes them, cut to what this claim uses. -/
import Derived.Test.YtlnmchehnhgfnaaDoorZPPathOkx0
namespace Go.Proofs.YtlnmchehnhgfnaaDoor.PPathOk
open Go.RowKit Go.Proofs.YtlnmchehnhgfnaaDoorW.PrintWords Go.Proofs.YtlnmchehnhgfnaaDoorW.PrintLast Go.Proofs.YtlnmchehnhgfnaaDoorW.PrintMore
attribute [local go_sem] max2_int min2_int max_two min_two max_three min_three max_four min_four   -- for this text's walks alone
set_option linter.unusedVariables false
set_option linter.unusedSimpArgs false
def spec_Cut.l0 : Nat → ByteArray → Int → List ByteArray → Int → Int → Option (List ByteArray)
 | 0, _, _, _, _, _ => none
 | k + 1, x0, x1, x5, x6, x7 => if x7 < (x0.size : Int) then (if 0 ≤ x7 then (if (bt x0 x7) = x1 then (if 0 ≤ x6 then (if x6 ≤ x7 then (if x7 ≤ (x0.size : Int) then (if x5.length < 8796093022208 then (spec_Cut.l0 k x0 x1 (x5 ++ [x0.extract (x6 : Int).toNat (x7 : Int).toNat]) (wrap64 (x7 + 1)) (wrap64 (x7 + 1))) else (none)) else (none)) else (none)) else (none)) else (spec_Cut.l0 k x0 x1 x5 x6 (wrap64 (x7 + 1)))) else (none)) else (if 0 ≤ x6 then (if x6 ≤ (x0.size : Int) then (if x5.length < 8796093022208 then (some (x5 ++ [x0.extract (x6 : Int).toNat x0.size])) else (none)) else (none)) else (none))
def spec_Cut.f (k : Nat) (a0 : ByteArray) (a1 : Int) : Option (List ByteArray) := spec_Cut.l0 k a0 a1 (([] : List ByteArray)) 0 0
def spec_Begins.f (a0 : ByteArray) (a1 : ByteArray) : Option (Bool) := if (a0.size : Int) ≥ (a1.size : Int) then (if 0 ≤ (a1.size : Int) then (if (a1.size : Int) ≤ (a0.size : Int) then (some ((a0.extract 0 ((a1.size : Int) : Int).toNat).toList == a1.toList)) else (none)) else (none)) else (some false)
def spec_letter.f (a0 : Int) : Option (Bool) := if a0 ≥ 97 then (some (decide (a0 ≤ 122))) else (some false)
mutual
def spec_PathOk.l0 : Nat → ByteArray → Int → Option (Bool)
 | 0, _, _ => none
 | k + 1, x0, x3 => if x3 < (x0.size : Int) then (if 0 ≤ x3 then ((spec_letter.f (bt x0 x3)).bind fun t110 => (if t110 = true then (spec_PathOk.l0 k x0 (wrap64 (x3 + 1))) else (if (bt x0 x3) = 46 then (spec_PathOk.l0 k x0 (wrap64 (x3 + 1))) else (if (bt x0 x3) = 47 then (spec_PathOk.l0 k x0 (wrap64 (x3 + 1))) else (some false))))) else (none)) else ((spec_Cut.f k x0 47).bind fun t111 => (spec_PathOk.l1 k x0 t111 (t111.length : Int) 0))
def spec_PathOk.l1 : Nat → ByteArray → List ByteArray → Int → Int → Option (Bool)
 | 0, _, _, _, _ => none
 | k + 1, x0, x30, x31, x32 => if x32 < x31 then (if 0 ≤ x32 then (if x32 < (x30.length : Int) then (if (rdOf ByteArray.empty x30 x32).toList = ([] : List UInt8) then (some false) else (if 0 < ((rdOf ByteArray.empty x30 x32).size : Int) then ((spec_letter.f (bt (rdOf ByteArray.empty x30 x32) 0)).bind fun t116 => (if t116 = true then (if 0 ≤ (wrap64 (((rdOf ByteArray.empty x30 x32).size : Int) - 1)) then (if (wrap64 (((rdOf ByteArray.empty x30 x32).size : Int) - 1)) < ((rdOf ByteArray.empty x30 x32).size : Int) then ((spec_letter.f (bt (rdOf ByteArray.empty x30 x32) (wrap64 (((rdOf ByteArray.empty x30 x32).size : Int) - 1)))).bind fun t117 => (if t117 = true then (spec_PathOk.l1 k x0 x30 x31 (wrap64 (x32 + 1))) else (some false))) else (none)) else (none)) else (some false))) else (none))) else (none)) else (none)) else (if (x0.size : Int) ≤ 100 then ((spec_Begins.f x0 (⟨#[103, 111, 112, 107, 103, 46, 105, 110, 47]⟩ : ByteArray)).bind fun t114 => (some (!t114))) else (some false))
end
def spec_PathOk.f (k : Nat) (a0 : ByteArray) : Option (Bool) := spec_PathOk.l0 k a0 0
end Go.Proofs.YtlnmchehnhgfnaaDoor.PPathOk
