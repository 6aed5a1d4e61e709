import Derived.Test.YtbifcpokkfiagaaDoorProg
import Derived.Below
import Derived.Deep.Draws
import Derived.Deep.AppendLies
import Derived.Maps.AppendAt
import Derived.OwnWalk
import Derived.Laws.BytesArg
import Derived.Laws.MakeOwn
import Derived.Laws.OwnMore
import Derived.Deep.OwnRows
import Derived.Tactics
import Derived.Lib.ConvBytes
import Derived.Laws.Slices
import Derived.WalkKit
import Derived.KernelRfl
import Derived.RowKit3
import Derived.Deep.LoopGhost
import Derived.Deep.QuietTactic
import Derived.BigQuiet
import Derived.WideLaws
import Derived.Deep.DeepCutAuto
import Derived.Deep.CutBlock
import Derived.Deep.RegionHeld3
import Derived.Laws.Rows
import Derived.Lib.AppendStr
import Derived.ArgAppend
import Derived.Laws.IdiomCopy
import Derived.OrdersHeld
import Derived.Laws.BitsLemmas
import Derived.RowKit
import Derived.Test.YtbifcpokkfiagaaDoorWWords
import Derived.Test.YtbifcpokkfiagaaDoorWLast
import Derived.Test.YtbifcpokkfiagaaDoorWTab
import Derived.Test.YtbifcpokkfiagaaDoorWFour
import Derived.Test.YtbifcpokkfiagaaDoorWQPut
import Derived.Test.YtbifcpokkfiagaaDoorWApart
import Derived.Test.YtbifcpokkfiagaaDoorWArr
import Derived.Test.YtbifcpokkfiagaaDoorWZeros
import Derived.Test.YtbifcpokkfiagaaDoorWFoot
import Derived.Test.YtbifcpokkfiagaaDoorWKept
import Derived.Test.YtbifcpokkfiagaaDoorWShare
import Derived.Test.YtbifcpokkfiagaaDoorWN
import Derived.Test.YtbifcpokkfiagaaDoorWFootNe
import Derived.Test.YtbifcpokkfiagaaDoorWAt
import Derived.Test.YtbifcpokkfiagaaDoorWEqStruct
import Derived.Test.YtbifcpokkfiagaaDoorWRepsOne
import Derived.Test.YtbifcpokkfiagaaDoorWInv
import Derived.Test.YtbifcpokkfiagaaDoorWInvWords
import Derived.Test.YtbifcpokkfiagaaDoorWGuard
import Derived.Test.YtbifcpokkfiagaaDoorWNEv
import Derived.Test.YtbifcpokkfiagaaDoorWMore
namespace Go.Proofs.YtbifcpokkfiagaaDoor.PFm
open Go.RowKit Go.Proofs.YtbifcpokkfiagaaDoorW.PrintWords Go.Proofs.YtbifcpokkfiagaaDoorW.PrintLast Go.Proofs.YtbifcpokkfiagaaDoorW.PrintMore
attribute [local go_sem] max2_int min2_int max_two min_two max_three min_three max_four min_four   -- for this text's walks alone
set_option linter.unusedVariables false
set_option linter.unusedSimpArgs false



def errW : Option Int → Value
  | none => .nilIface
  | some c => .iface 0 (.int .i64 c)
theorem errW_none : errW none = .nilIface := rfl
theorem errW_some (c : Int) : errW (some c) = .iface 0 (.int .i64 c) := rfl

theorem info9 : (Tryd.prog.info? 9).map (fun i => (i.zero, i.size, i.bytes)) = some (some (.string ⟨#[]⟩), 1, 16) := by kernel_rfl
theorem info79 : (Tryd.prog.info? 79).map (fun i => (i.zero, i.size, i.bytes)) = some (some (.agg #[(.int .i64 0), (.int .i64 0), (.int .i64 0), (.string ⟨#[]⟩), (.bool false)]), 5, 48) := by kernel_rfl
-- the values' own types
def rd_L1 (xs : List (List ByteArray)) (i : Int) : (List ByteArray) := xs.getD i.toNat ([] : List ByteArray)
theorem at_L1 {w : World} {A : Option Addr} {n : Nat} {xs : List (List ByteArray)} (h : Kd.C (Kd.slice 9 Kd.string) w A n xs) (i : Int) (h0 : 0 ≤ i) (h1 : i < n) : ∃ ad A0 c0, A = some ad ∧ w.cell? (ad.add i.toNat) = some (.slice A0 (rd_L1 xs i).length c0) ∧ (rd_L1 xs i).length ≤ c0 ∧ Kd.string.C w A0 (rd_L1 xs i).length (rd_L1 xs i) := by
  obtain ⟨ad, c, e, _, hK, hc0⟩ := Kd.C_get h ([] : List ByteArray) i h0 h1
  have hc : ∀ j u, c[j]? = some u → w.cell? (ad.add (i.toNat * 1 + j)) = some u := hc0
  obtain ⟨A0, c0, rfl, l0, g0⟩ := hK
  exact ⟨ad, A0, c0, e, by have hq := hc 0 _ rfl; rwa [Nat.mul_one, Nat.add_zero] at hq, l0, g0⟩

/-! #### struct type 35 -/
structure S35 where
  f0 : (List ByteArray)
  f1 : (List ByteArray)
  f2 : ByteArray
def z35 : S35 := ⟨([] : List ByteArray), ([] : List ByteArray), (⟨#[]⟩ : ByteArray)⟩
def k35 : Kd S35 := Kd.iso (Kd.pair (Kd.slice 9 Kd.string) (Kd.pair (Kd.slice 9 Kd.string) Kd.string)) (fun x : S35 => (x.f0, x.f1, x.f2))
theorem k35_open {w : World} {x : S35} {cs : List Value} (h : k35.K w x cs) : ∃ A0 c0 A1 c1, cs = [.slice A0 x.f0.length c0, .slice A1 x.f1.length c1, .string x.f2] ∧ x.f0.length ≤ c0 ∧ Kd.string.C w A0 x.f0.length x.f0 ∧ x.f1.length ≤ c1 ∧ Kd.string.C w A1 x.f1.length x.f1 := by
  obtain ⟨_, _, rfl, ⟨A0, c0, rfl, l0, g0⟩, ⟨_, _, rfl, ⟨A1, c1, rfl, l1, g1⟩, rfl⟩⟩ := h
  exact ⟨A0, c0, A1, c1, rfl, l0, g0, l1, g1⟩
theorem k35_openM {w : World} {base : Nat} {ok : Nat → Prop} {x : S35} {cs : List Value} (h : k35.M w base ok x cs) : ∃ v0 v1, cs = [v0, v1, .string x.f2] ∧ Kd.string.R 9 w base ok v0 x.f0 ∧ Kd.string.R 9 w base ok v1 x.f1 := by
  obtain ⟨_, _, rfl, ⟨v0, rfl, g0⟩, ⟨_, _, rfl, ⟨v1, rfl, g1⟩, rfl⟩⟩ := h
  exact ⟨v0, v1, rfl, g0, g1⟩
theorem k35_mk (w : World) (x : S35) {A0 : Option Addr} {c0 : Nat} (l0 : x.f0.length ≤ c0) (g0 : Kd.string.C w A0 x.f0.length x.f0) {A1 : Option Addr} {c1 : Nat} (l1 : x.f1.length ≤ c1) (g1 : Kd.string.C w A1 x.f1.length x.f1) : k35.K w x [.slice A0 x.f0.length c0, .slice A1 x.f1.length c1, .string x.f2] := ⟨[.slice A0 x.f0.length c0], [.slice A1 x.f1.length c1, .string x.f2], rfl, ⟨A0, c0, rfl, l0, g0⟩, ⟨[.slice A1 x.f1.length c1], [.string x.f2], rfl, ⟨A1, c1, rfl, l1, g1⟩, rfl⟩⟩
theorem k35_mkM (w : World) (base : Nat) (ok : Nat → Prop) (x : S35) {v0 : Value} (g0 : Kd.string.R 9 w base ok v0 x.f0) {v1 : Value} (g1 : Kd.string.R 9 w base ok v1 x.f1) : k35.M w base ok x [v0, v1, .string x.f2] := ⟨[v0], [v1, .string x.f2], rfl, ⟨v0, rfl, g0⟩, ⟨[v1], [.string x.f2], rfl, ⟨v1, rfl, g1⟩, rfl⟩⟩
def rd_T35 (xs : List S35) (i : Int) : S35 := xs.getD i.toNat z35
theorem at_T35 {w : World} {A : Option Addr} {n : Nat} {xs : List S35} (h : Kd.C k35 w A n xs) (i : Int) (h0 : 0 ≤ i) (h1 : i < n) : ∃ ad A0 c0 A1 c1, A = some ad ∧ w.cell? (ad.add (i.toNat * 3)) = some (.slice A0 (rd_T35 xs i).f0.length c0) ∧ w.cell? ⟨(ad.add (i.toNat * 3)).block, (ad.add (i.toNat * 3)).off + 1, none⟩ = some (.slice A1 (rd_T35 xs i).f1.length c1) ∧ w.cell? ⟨(ad.add (i.toNat * 3)).block, (ad.add (i.toNat * 3)).off + 2, none⟩ = some (.string (rd_T35 xs i).f2) ∧ (rd_T35 xs i).f0.length ≤ c0 ∧ Kd.string.C w A0 (rd_T35 xs i).f0.length (rd_T35 xs i).f0 ∧ (rd_T35 xs i).f1.length ≤ c1 ∧ Kd.string.C w A1 (rd_T35 xs i).f1.length (rd_T35 xs i).f1 := by
  obtain ⟨ad, c, e, _, hK, hc0⟩ := Kd.C_get h z35 i h0 h1
  have hc : ∀ j u, c[j]? = some u → w.cell? (ad.add (i.toNat * 3 + j)) = some u := hc0
  obtain ⟨A0, c0, A1, c1, rfl, l0, g0, l1, g1⟩ := k35_open hK
  exact ⟨ad, A0, c0, A1, c1, e, hc 0 _ rfl, by rw [← add_field _ _ 1 (by omega)]; exact hc 1 _ rfl, by rw [← add_field _ _ 2 (by omega)]; exact hc 2 _ rfl, l0, g0, l1, g1⟩

def rd_L4 (xs : List (List S35)) (i : Int) : (List S35) := xs.getD i.toNat ([] : List S35)
theorem at_L4 {w : World} {A : Option Addr} {n : Nat} {xs : List (List S35)} (h : Kd.C (Kd.slice 35 k35) w A n xs) (i : Int) (h0 : 0 ≤ i) (h1 : i < n) : ∃ ad A0 c0, A = some ad ∧ w.cell? (ad.add i.toNat) = some (.slice A0 (rd_L4 xs i).length c0) ∧ (rd_L4 xs i).length ≤ c0 ∧ k35.C w A0 (rd_L4 xs i).length (rd_L4 xs i) := by
  obtain ⟨ad, c, e, _, hK, hc0⟩ := Kd.C_get h ([] : List S35) i h0 h1
  have hc : ∀ j u, c[j]? = some u → w.cell? (ad.add (i.toNat * 1 + j)) = some u := hc0
  obtain ⟨A0, c0, rfl, l0, g0⟩ := hK
  exact ⟨ad, A0, c0, e, by have hq := hc 0 _ rfl; rwa [Nat.mul_one, Nat.add_zero] at hq, l0, g0⟩

/-! #### struct type 30 -/
structure S30 where
  f0 : Int
  f1 : (List ByteArray)
  f2 : (List S35)
  f3 : (List ByteArray)
  f4 : ByteArray
def z30 : S30 := ⟨(0 : Int), ([] : List ByteArray), ([] : List S35), ([] : List ByteArray), (⟨#[]⟩ : ByteArray)⟩
def k30 : Kd S30 := Kd.iso (Kd.pair (Kd.int .i64) (Kd.pair (Kd.slice 9 Kd.string) (Kd.pair (Kd.slice 35 k35) (Kd.pair (Kd.slice 9 Kd.string) Kd.string)))) (fun x : S30 => (x.f0, x.f1, x.f2, x.f3, x.f4))
theorem k30_open {w : World} {x : S30} {cs : List Value} (h : k30.K w x cs) : ∃ A1 c1 A2 c2 A3 c3, cs = [.int .i64 x.f0, .slice A1 x.f1.length c1, .slice A2 x.f2.length c2, .slice A3 x.f3.length c3, .string x.f4] ∧ x.f1.length ≤ c1 ∧ Kd.string.C w A1 x.f1.length x.f1 ∧ x.f2.length ≤ c2 ∧ k35.C w A2 x.f2.length x.f2 ∧ x.f3.length ≤ c3 ∧ Kd.string.C w A3 x.f3.length x.f3 := by
  obtain ⟨_, _, rfl, rfl, ⟨_, _, rfl, ⟨A1, c1, rfl, l1, g1⟩, ⟨_, _, rfl, ⟨A2, c2, rfl, l2, g2⟩, ⟨_, _, rfl, ⟨A3, c3, rfl, l3, g3⟩, rfl⟩⟩⟩⟩ := h
  exact ⟨A1, c1, A2, c2, A3, c3, rfl, l1, g1, l2, g2, l3, g3⟩
theorem k30_openM {w : World} {base : Nat} {ok : Nat → Prop} {x : S30} {cs : List Value} (h : k30.M w base ok x cs) : ∃ v1 v2 v3, cs = [.int .i64 x.f0, v1, v2, v3, .string x.f4] ∧ Kd.string.R 9 w base ok v1 x.f1 ∧ k35.R 35 w base ok v2 x.f2 ∧ Kd.string.R 9 w base ok v3 x.f3 := by
  obtain ⟨_, _, rfl, rfl, ⟨_, _, rfl, ⟨v1, rfl, g1⟩, ⟨_, _, rfl, ⟨v2, rfl, g2⟩, ⟨_, _, rfl, ⟨v3, rfl, g3⟩, rfl⟩⟩⟩⟩ := h
  exact ⟨v1, v2, v3, rfl, g1, g2, g3⟩
theorem k30_mk (w : World) (x : S30) {A1 : Option Addr} {c1 : Nat} (l1 : x.f1.length ≤ c1) (g1 : Kd.string.C w A1 x.f1.length x.f1) {A2 : Option Addr} {c2 : Nat} (l2 : x.f2.length ≤ c2) (g2 : k35.C w A2 x.f2.length x.f2) {A3 : Option Addr} {c3 : Nat} (l3 : x.f3.length ≤ c3) (g3 : Kd.string.C w A3 x.f3.length x.f3) : k30.K w x [.int .i64 x.f0, .slice A1 x.f1.length c1, .slice A2 x.f2.length c2, .slice A3 x.f3.length c3, .string x.f4] := ⟨[.int .i64 x.f0], [.slice A1 x.f1.length c1, .slice A2 x.f2.length c2, .slice A3 x.f3.length c3, .string x.f4], rfl, rfl, ⟨[.slice A1 x.f1.length c1], [.slice A2 x.f2.length c2, .slice A3 x.f3.length c3, .string x.f4], rfl, ⟨A1, c1, rfl, l1, g1⟩, ⟨[.slice A2 x.f2.length c2], [.slice A3 x.f3.length c3, .string x.f4], rfl, ⟨A2, c2, rfl, l2, g2⟩, ⟨[.slice A3 x.f3.length c3], [.string x.f4], rfl, ⟨A3, c3, rfl, l3, g3⟩, rfl⟩⟩⟩⟩
theorem k30_mkM (w : World) (base : Nat) (ok : Nat → Prop) (x : S30) {v1 : Value} (g1 : Kd.string.R 9 w base ok v1 x.f1) {v2 : Value} (g2 : k35.R 35 w base ok v2 x.f2) {v3 : Value} (g3 : Kd.string.R 9 w base ok v3 x.f3) : k30.M w base ok x [.int .i64 x.f0, v1, v2, v3, .string x.f4] := ⟨[.int .i64 x.f0], [v1, v2, v3, .string x.f4], rfl, rfl, ⟨[v1], [v2, v3, .string x.f4], rfl, ⟨v1, rfl, g1⟩, ⟨[v2], [v3, .string x.f4], rfl, ⟨v2, rfl, g2⟩, ⟨[v3], [.string x.f4], rfl, ⟨v3, rfl, g3⟩, rfl⟩⟩⟩⟩
def rd_T30 (xs : List S30) (i : Int) : S30 := xs.getD i.toNat z30
theorem at_T30 {w : World} {A : Option Addr} {n : Nat} {xs : List S30} (h : Kd.C k30 w A n xs) (i : Int) (h0 : 0 ≤ i) (h1 : i < n) : ∃ ad A1 c1 A2 c2 A3 c3, A = some ad ∧ w.cell? (ad.add (i.toNat * 5)) = some (.int .i64 (rd_T30 xs i).f0) ∧ w.cell? ⟨(ad.add (i.toNat * 5)).block, (ad.add (i.toNat * 5)).off + 1, none⟩ = some (.slice A1 (rd_T30 xs i).f1.length c1) ∧ w.cell? ⟨(ad.add (i.toNat * 5)).block, (ad.add (i.toNat * 5)).off + 2, none⟩ = some (.slice A2 (rd_T30 xs i).f2.length c2) ∧ w.cell? ⟨(ad.add (i.toNat * 5)).block, (ad.add (i.toNat * 5)).off + 3, none⟩ = some (.slice A3 (rd_T30 xs i).f3.length c3) ∧ w.cell? ⟨(ad.add (i.toNat * 5)).block, (ad.add (i.toNat * 5)).off + 4, none⟩ = some (.string (rd_T30 xs i).f4) ∧ (rd_T30 xs i).f1.length ≤ c1 ∧ Kd.string.C w A1 (rd_T30 xs i).f1.length (rd_T30 xs i).f1 ∧ (rd_T30 xs i).f2.length ≤ c2 ∧ k35.C w A2 (rd_T30 xs i).f2.length (rd_T30 xs i).f2 ∧ (rd_T30 xs i).f3.length ≤ c3 ∧ Kd.string.C w A3 (rd_T30 xs i).f3.length (rd_T30 xs i).f3 := by
  obtain ⟨ad, c, e, _, hK, hc0⟩ := Kd.C_get h z30 i h0 h1
  have hc : ∀ j u, c[j]? = some u → w.cell? (ad.add (i.toNat * 5 + j)) = some u := hc0
  obtain ⟨A1, c1, A2, c2, A3, c3, rfl, l1, g1, l2, g2, l3, g3⟩ := k30_open hK
  exact ⟨ad, A1, c1, A2, c2, A3, c3, e, hc 0 _ rfl, by rw [← add_field _ _ 1 (by omega)]; exact hc 1 _ rfl, by rw [← add_field _ _ 2 (by omega)]; exact hc 2 _ rfl, by rw [← add_field _ _ 3 (by omega)]; exact hc 3 _ rfl, by rw [← add_field _ _ 4 (by omega)]; exact hc 4 _ rfl, l1, g1, l2, g2, l3, g3⟩

/-! #### struct type 64 -/
structure S64 where
  f0 : Int
  f1 : Int
  f2 : Int
def z64 : S64 := ⟨(0 : Int), (0 : Int), (0 : Int)⟩
def k64 : Kd S64 := Kd.iso (Kd.pair (Kd.int .i64) (Kd.pair (Kd.int .i64) (Kd.int .i64))) (fun x : S64 => (x.f0, x.f1, x.f2))
theorem k64_open {w : World} {x : S64} {cs : List Value} (h : k64.K w x cs) : cs = [.int .i64 x.f0, .int .i64 x.f1, .int .i64 x.f2] := by
  obtain ⟨_, _, rfl, rfl, ⟨_, _, rfl, rfl, rfl⟩⟩ := h
  exact rfl
theorem k64_openM {w : World} {base : Nat} {ok : Nat → Prop} {x : S64} {cs : List Value} (h : k64.M w base ok x cs) : cs = [.int .i64 x.f0, .int .i64 x.f1, .int .i64 x.f2] := by
  obtain ⟨_, _, rfl, rfl, ⟨_, _, rfl, rfl, rfl⟩⟩ := h
  exact rfl
theorem k64_mk (w : World) (x : S64)  : k64.K w x [.int .i64 x.f0, .int .i64 x.f1, .int .i64 x.f2] := ⟨[.int .i64 x.f0], [.int .i64 x.f1, .int .i64 x.f2], rfl, rfl, ⟨[.int .i64 x.f1], [.int .i64 x.f2], rfl, rfl, rfl⟩⟩
theorem k64_mkM (w : World) (base : Nat) (ok : Nat → Prop) (x : S64)  : k64.M w base ok x [.int .i64 x.f0, .int .i64 x.f1, .int .i64 x.f2] := ⟨[.int .i64 x.f0], [.int .i64 x.f1, .int .i64 x.f2], rfl, rfl, ⟨[.int .i64 x.f1], [.int .i64 x.f2], rfl, rfl, rfl⟩⟩
def rd_T64 (xs : List S64) (i : Int) : S64 := xs.getD i.toNat z64
theorem at_T64 {w : World} {A : Option Addr} {n : Nat} {xs : List S64} (h : Kd.C k64 w A n xs) (i : Int) (h0 : 0 ≤ i) (h1 : i < n) : ∃ ad , A = some ad ∧ w.cell? (ad.add (i.toNat * 3)) = some (.int .i64 (rd_T64 xs i).f0) ∧ w.cell? ⟨(ad.add (i.toNat * 3)).block, (ad.add (i.toNat * 3)).off + 1, none⟩ = some (.int .i64 (rd_T64 xs i).f1) ∧ w.cell? ⟨(ad.add (i.toNat * 3)).block, (ad.add (i.toNat * 3)).off + 2, none⟩ = some (.int .i64 (rd_T64 xs i).f2) := by
  obtain ⟨ad, c, e, _, hK, hc0⟩ := Kd.C_get h z64 i h0 h1
  have hc : ∀ j u, c[j]? = some u → w.cell? (ad.add (i.toNat * 3 + j)) = some u := hc0
  obtain rfl := k64_open hK
  exact ⟨ad, e, hc 0 _ rfl, by rw [← add_field _ _ 1 (by omega)]; exact hc 1 _ rfl, by rw [← add_field _ _ 2 (by omega)]; exact hc 2 _ rfl⟩

/-! #### struct type 79 -/
structure S79 where
  f0 : S64
  f1 : ByteArray
  f2 : Bool
def z79 : S79 := ⟨z64, (⟨#[]⟩ : ByteArray), false⟩
def k79 : Kd S79 := Kd.iso (Kd.pair k64 (Kd.pair Kd.string Kd.bool)) (fun x : S79 => (x.f0, x.f1, x.f2))
theorem k79_open {w : World} {x : S79} {cs : List Value} (h : k79.K w x cs) : cs = [.int .i64 x.f0.f0, .int .i64 x.f0.f1, .int .i64 x.f0.f2, .string x.f1, .bool x.f2] := by
  obtain ⟨_, _, rfl, s0, ⟨_, _, rfl, rfl, rfl⟩⟩ := h
  obtain rfl := k64_open s0
  exact rfl
theorem k79_openM {w : World} {base : Nat} {ok : Nat → Prop} {x : S79} {cs : List Value} (h : k79.M w base ok x cs) : cs = [.int .i64 x.f0.f0, .int .i64 x.f0.f1, .int .i64 x.f0.f2, .string x.f1, .bool x.f2] := by
  obtain ⟨_, _, rfl, s0, ⟨_, _, rfl, rfl, rfl⟩⟩ := h
  obtain rfl := k64_openM s0
  exact rfl
theorem k79_mk (w : World) (x : S79)  : k79.K w x [.int .i64 x.f0.f0, .int .i64 x.f0.f1, .int .i64 x.f0.f2, .string x.f1, .bool x.f2] := ⟨[.int .i64 x.f0.f0, .int .i64 x.f0.f1, .int .i64 x.f0.f2], [.string x.f1, .bool x.f2], rfl, (k64_mk w x.f0 ), ⟨[.string x.f1], [.bool x.f2], rfl, rfl, rfl⟩⟩
theorem k79_mkM (w : World) (base : Nat) (ok : Nat → Prop) (x : S79)  : k79.M w base ok x [.int .i64 x.f0.f0, .int .i64 x.f0.f1, .int .i64 x.f0.f2, .string x.f1, .bool x.f2] := ⟨[.int .i64 x.f0.f0, .int .i64 x.f0.f1, .int .i64 x.f0.f2], [.string x.f1, .bool x.f2], rfl, (k64_mkM w base ok x.f0 ), ⟨[.string x.f1], [.bool x.f2], rfl, rfl, rfl⟩⟩
def rd_T79 (xs : List S79) (i : Int) : S79 := xs.getD i.toNat z79
theorem at_T79 {w : World} {A : Option Addr} {n : Nat} {xs : List S79} (h : Kd.C k79 w A n xs) (i : Int) (h0 : 0 ≤ i) (h1 : i < n) : ∃ ad , A = some ad ∧ w.cell? (ad.add (i.toNat * 5)) = some (.int .i64 (rd_T79 xs i).f0.f0) ∧ w.cell? ⟨(ad.add (i.toNat * 5)).block, (ad.add (i.toNat * 5)).off + 1, none⟩ = some (.int .i64 (rd_T79 xs i).f0.f1) ∧ w.cell? ⟨(ad.add (i.toNat * 5)).block, (ad.add (i.toNat * 5)).off + 2, none⟩ = some (.int .i64 (rd_T79 xs i).f0.f2) ∧ w.cell? ⟨(ad.add (i.toNat * 5)).block, (ad.add (i.toNat * 5)).off + 3, none⟩ = some (.string (rd_T79 xs i).f1) ∧ w.cell? ⟨(ad.add (i.toNat * 5)).block, (ad.add (i.toNat * 5)).off + 4, none⟩ = some (.bool (rd_T79 xs i).f2) := by
  obtain ⟨ad, c, e, _, hK, hc0⟩ := Kd.C_get h z79 i h0 h1
  have hc : ∀ j u, c[j]? = some u → w.cell? (ad.add (i.toNat * 5 + j)) = some u := hc0
  obtain rfl := k79_open hK
  exact ⟨ad, e, hc 0 _ rfl, by rw [← add_field _ _ 1 (by omega)]; exact hc 1 _ rfl, by rw [← add_field _ _ 2 (by omega)]; exact hc 2 _ rfl, by rw [← add_field _ _ 3 (by omega)]; exact hc 3 _ rfl, by rw [← add_field _ _ 4 (by omega)]; exact hc 4 _ rfl⟩

end Go.Proofs.YtbifcpokkfiagaaDoor.PFm
