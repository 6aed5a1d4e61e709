/- What a call of the reference's ContentOk answers: the walk of its text. The first part (the conditions and four loops) was printed by the kit's print of a variant of the function, with the nested loop as two; the nested loop's part is typed. Conditions: the content's lists lie in memory. -/
import Derived.Test.YtlnmchehnhgfnaaDoorZPContx0
import Derived.Test.YtlnmchehnhgfnaaDoorZPContx2
import Derived.Test.YtlnmchehnhgfnaaDoorZPContx3
import Derived.Test.YtlnmchehnhgfnaaDoorZPContx4
import Derived.Test.YtlnmchehnhgfnaaDoorZPContx5
import Derived.Test.YtlnmchehnhgfnaaDoorZPContx6
namespace Go.Proofs.YtlnmchehnhgfnaaDoor.PCont
open Go.RowKit Go.Proofs.YtlnmchehnhgfnaaDoorW.PrintWords Go.Proofs.YtlnmchehnhgfnaaDoorW.PrintLast Go.Proofs.YtlnmchehnhgfnaaDoorW.PrintMore
attribute [local go_sem] max2_int min2_int max_two min_two max_three min_three max_four min_four   -- for this text's walks alone
set_option linter.unusedVariables false
set_option linter.unusedSimpArgs false
theorem max2_run (a b : Int) (w : World) : (Builtin.max2 (.int .i64 a) (.int .i64 b)).run Tryd.prog w = .ok (.int .i64 (mx a b)) w := by
 rw [max2_int]
 rfl
theorem max_six_run (ts : Array TypeId) (t : TypeId) (a b c d e f : Int) (w : World) : (Builtin.max_ ts t #[.int .i64 a, .int .i64 b, .int .i64 c, .int .i64 d, .int .i64 e, .int .i64 f]).run Tryd.prog w = .ok (.int .i64 (mx (mx (mx (mx (mx a b) c) d) e) f)) w := by
 rw [max_six, Sem.run_bind, max2_run, Result.andThen_ok, Sem.run_bind, max2_run, Result.andThen_ok, Sem.run_bind, max2_run, Result.andThen_ok, Sem.run_bind, max2_run, Result.andThen_ok, Sem.run_bind, max2_run, Result.andThen_ok]
 rfl
mutual
def spec_ContentOk.j0 : Nat → Bool → ByteArray → ByteArray → ByteArray → List (S46) → List (S48) → List (S50) → List (S53) → List ByteArray → List ByteArray → Option (Bool)
 | 0, _, _, _, _, _, _, _, _, _, _ => none
 | k + 1, x52, x188000, x188001, x188002, x188003, x188004, x188005, x188006, x188007, x188008 => if x52 = true then (some false) else (spec_ContentOk.l0 k x188003 (x188003.length : Int) 0 x188000 x188001 x188002 x188003 x188004 x188005 x188006 x188007 x188008)
def spec_ContentOk.l0 : Nat → List (S46) → Int → Int → ByteArray → ByteArray → ByteArray → List (S46) → List (S48) → List (S50) → List (S53) → List ByteArray → List ByteArray → Option (Bool)
 | 0, _, _, _, _, _, _, _, _, _, _, _, _ => none
 | k + 1, x54, x55, x56, x188000, x188001, x188002, x188003, x188004, x188005, x188006, x188007, x188008 => if x56 < x55 then (if 0 ≤ x56 then (if x56 < (x54.length : Int) then ((spec_PathOk.f k ((rd_T46 x54 x56).f0)).bind fun t196 => (if t196 = true then ((spec_VersionOk.f k ((rd_T46 x54 x56).f1)).bind fun t197 => (if t197 = true then (spec_ContentOk.l0 k x54 x55 (wrap64 (x56 + 1)) x188000 x188001 x188002 x188003 x188004 x188005 x188006 x188007 x188008) else (some false))) else (some false))) else (none)) else (none)) else (spec_ContentOk.l1 k x188004 (x188004.length : Int) 0 x188000 x188001 x188002 x188003 x188004 x188005 x188006 x188007 x188008)
def spec_ContentOk.l1 : Nat → List (S48) → Int → Int → ByteArray → ByteArray → ByteArray → List (S46) → List (S48) → List (S50) → List (S53) → List ByteArray → List ByteArray → Option (Bool)
 | 0, _, _, _, _, _, _, _, _, _, _, _, _ => none
 | k + 1, x72, x73, x74, x188000, x188001, x188002, x188003, x188004, x188005, x188006, x188007, x188008 => if x74 < x73 then (if 0 ≤ x74 then (if x74 < (x72.length : Int) then ((spec_PathOk.f k ((rd_T48 x72 x74).f0)).bind fun t200 => (if t200 = true then ((spec_VersionOk.f k ((rd_T48 x72 x74).f1)).bind fun t201 => (if t201 = true then (spec_ContentOk.l1 k x72 x73 (wrap64 (x74 + 1)) x188000 x188001 x188002 x188003 x188004 x188005 x188006 x188007 x188008) else (some false))) else (some false))) else (none)) else (none)) else (spec_ContentOk.l2 k x188005 (x188005.length : Int) 0 x188000 x188001 x188002 x188003 x188004 x188005 x188006 x188007 x188008)
def spec_ContentOk.l2 : Nat → List (S50) → Int → Int → ByteArray → ByteArray → ByteArray → List (S46) → List (S48) → List (S50) → List (S53) → List ByteArray → List ByteArray → Option (Bool)
 | 0, _, _, _, _, _, _, _, _, _, _, _, _ => none
 | k + 1, x90, x91, x92, x188000, x188001, x188002, x188003, x188004, x188005, x188006, x188007, x188008 => if x92 < x91 then (if 0 ≤ x92 then (if x92 < (x90.length : Int) then ((spec_ReplaceOk.f k ((rd_T50 x90 x92).f0.f0) ((rd_T50 x90 x92).f0.f1) ((rd_T50 x90 x92).f1.f0) ((rd_T50 x90 x92).f1.f1)).bind fun t204 => (if t204 = true then (spec_ContentOk.l2 k x90 x91 (wrap64 (x92 + 1)) x188000 x188001 x188002 x188003 x188004 x188005 x188006 x188007 x188008) else (some false))) else (none)) else (none)) else (spec_ContentOk.l3 k x188006 (x188006.length : Int) 0 x188000 x188001 x188002 x188003 x188004 x188005 x188006 x188007 x188008)
def spec_ContentOk.l3 : Nat → List (S53) → Int → Int → ByteArray → ByteArray → ByteArray → List (S46) → List (S48) → List (S50) → List (S53) → List ByteArray → List ByteArray → Option (Bool)
 | 0, _, _, _, _, _, _, _, _, _, _, _, _ => none
 | k + 1, x101, x102, x103, x188000, x188001, x188002, x188003, x188004, x188005, x188006, x188007, x188008 => if x103 < x102 then (if 0 ≤ x103 then (if x103 < (x101.length : Int) then ((spec_VersionOk.f k ((rd_T53 x101 x103).f0)).bind fun t207 => (if t207 = true then ((spec_VersionOk.f k ((rd_T53 x101 x103).f1)).bind fun t208 => (if t208 = true then ((spec_WhyOk.f k ((rd_T53 x101 x103).f2)).bind fun t209 => (if t209 = true then (spec_ContentOk.l3 k x101 x102 (wrap64 (x103 + 1)) x188000 x188001 x188002 x188003 x188004 x188005 x188006 x188007 x188008) else (some false))) else (some false))) else (some false))) else (none)) else (none)) else (spec_ContentOk.l4 k x188007 (x188007.length : Int) 0 x188000 x188001 x188002 x188003 x188004 x188005 x188006 x188007 x188008)
def spec_ContentOk.l4 : Nat → List ByteArray → Int → Int → ByteArray → ByteArray → ByteArray → List (S46) → List (S48) → List (S50) → List (S53) → List ByteArray → List ByteArray → Option (Bool)
 | 0, _, _, _, _, _, _, _, _, _, _, _, _ => none
 | k + 1, x125, x126, x127, x188000, x188001, x188002, x188003, x188004, x188005, x188006, x188007, x188008 => if x127 < x126 then (if 0 ≤ x127 then (if x127 < (x125.length : Int) then ((spec_PathOk.f k (rdOf ByteArray.empty x125 x127)).bind fun t211 => (if t211 = true then (spec_ContentOk.l4 k x125 x126 (wrap64 (x127 + 1)) x188000 x188001 x188002 x188003 x188004 x188005 x188006 x188007 x188008) else (some false))) else (none)) else (none)) else (spec_ContentOk.l5 k x188008 (x188008.length : Int) 0 x188000 x188001 x188002 x188003 x188004 x188005 x188006 x188007 x188008)
def spec_ContentOk.l5 : Nat → List ByteArray → Int → Int → ByteArray → ByteArray → ByteArray → List (S46) → List (S48) → List (S50) → List (S53) → List ByteArray → List ByteArray → Option (Bool)
 | 0, _, _, _, _, _, _, _, _, _, _, _, _ => none
 | k + 1, x136, x137, x138, x188000, x188001, x188002, x188003, x188004, x188005, x188006, x188007, x188008 => if x138 < x137 then (if 0 ≤ x138 then (if x138 < (x136.length : Int) then ((spec_PathOk.f k (rdOf ByteArray.empty x136 x138)).bind fun t213 => (if t213 = true then (spec_ContentOk.l5 k x136 x137 (wrap64 (x138 + 1)) x188000 x188001 x188002 x188003 x188004 x188005 x188006 x188007 x188008) else (some false))) else (none)) else (none)) else (some (decide ((mx (mx (mx (mx (mx (x188003.length : Int) (x188004.length : Int)) (x188005.length : Int)) (x188006.length : Int)) (x188007.length : Int)) (x188008.length : Int)) ≤ 100)))
end
def spec_ContentOk.f (k : Nat) (a0_0 : ByteArray) (a0_1 : ByteArray) (a0_2 : ByteArray) (l0_3 : List (S46)) (l0_4 : List (S48)) (l0_5 : List (S50)) (l0_6 : List (S53)) (l0_7 : List ByteArray) (l0_8 : List ByteArray) : Option (Bool) := (spec_PathOk.f k a0_0).bind fun t188 => (if t188 = true then (if a0_1.toList = ([] : List UInt8) then (if a0_2.toList = ([] : List UInt8) then (spec_ContentOk.j0 k false a0_0 a0_1 a0_2 l0_3 l0_4 l0_5 l0_6 l0_7 l0_8) else ((spec_Toolchain.f a0_2).bind fun t189 => (if t189 = true then ((spec_WordOk.f k a0_2).bind fun t190 => (spec_ContentOk.j0 k (!t190) a0_0 a0_1 a0_2 l0_3 l0_4 l0_5 l0_6 l0_7 l0_8)) else (spec_ContentOk.j0 k true a0_0 a0_1 a0_2 l0_3 l0_4 l0_5 l0_6 l0_7 l0_8)))) else ((spec_GoVersion.f k a0_1).bind fun t191 => (if t191 = true then (if (a0_1.size : Int) > 50 then (spec_ContentOk.j0 k true a0_0 a0_1 a0_2 l0_3 l0_4 l0_5 l0_6 l0_7 l0_8) else (if a0_2.toList = ([] : List UInt8) then (spec_ContentOk.j0 k false a0_0 a0_1 a0_2 l0_3 l0_4 l0_5 l0_6 l0_7 l0_8) else ((spec_Toolchain.f a0_2).bind fun t192 => (if t192 = true then ((spec_WordOk.f k a0_2).bind fun t193 => (spec_ContentOk.j0 k (!t193) a0_0 a0_1 a0_2 l0_3 l0_4 l0_5 l0_6 l0_7 l0_8)) else (spec_ContentOk.j0 k true a0_0 a0_1 a0_2 l0_3 l0_4 l0_5 l0_6 l0_7 l0_8))))) else (spec_ContentOk.j0 k true a0_0 a0_1 a0_2 l0_3 l0_4 l0_5 l0_6 l0_7 l0_8)))) else (spec_ContentOk.j0 k true a0_0 a0_1 a0_2 l0_3 l0_4 l0_5 l0_6 l0_7 l0_8))
set_option maxHeartbeats 8000000 in
set_option maxRecDepth 100000 in
theorem spec_ContentOk.calls (k : Nat) (a0_0 : ByteArray) (a0_1 : ByteArray) (a0_2 : ByteArray) (A0_3 : Option Addr) (c0_3 : Nat) (l0_3 : List (S46)) (A0_4 : Option Addr) (c0_4 : Nat) (l0_4 : List (S48)) (A0_5 : Option Addr) (c0_5 : Nat) (l0_5 : List (S50)) (A0_6 : Option Addr) (c0_6 : Nat) (l0_6 : List (S53)) (A0_7 : Option Addr) (c0_7 : Nat) (l0_7 : List ByteArray) (A0_8 : Option Addr) (c0_8 : Nat) (l0_8 : List ByteArray) (r : Bool) (w : World) (hr0_3 : Kd.C k46 w A0_3 l0_3.length l0_3) (hc0_3 : l0_3.length ≤ c0_3) (hr0_4 : Kd.C k48 w A0_4 l0_4.length l0_4) (hc0_4 : l0_4.length ≤ c0_4) (hr0_5 : Kd.C k50 w A0_5 l0_5.length l0_5) (hc0_5 : l0_5.length ≤ c0_5) (hr0_6 : Kd.C k53 w A0_6 l0_6.length l0_6) (hc0_6 : l0_6.length ≤ c0_6) (hr0_7 : Kd.C Kd.string w A0_7 l0_7.length l0_7) (hc0_7 : l0_7.length ≤ c0_7) (hr0_8 : Kd.C Kd.string w A0_8 l0_8.length l0_8) (hc0_8 : l0_8.length ≤ c0_8) (h : spec_ContentOk.f k a0_0 a0_1 a0_2 l0_3 l0_4 l0_5 l0_6 l0_7 l0_8 = some r) :
  Calls Tryd.prog 11 #[.agg #[.string a0_0, .string a0_1, .string a0_2, .slice A0_3 l0_3.length c0_3, .slice A0_4 l0_4.length c0_4, .slice A0_5 l0_5.length c0_5, .slice A0_6 l0_6.length c0_6, .slice A0_7 l0_7.length c0_7, .slice A0_8 l0_8.length c0_8]] w fun e w' => e = .returned (.bool r) ∧ Below w.heap.size w w' := by
 have hu28 := Tryd.underlying32
 have hu39 := Tryd.underlying46
 have hu41 := Tryd.underlying48
 have hu43 := Tryd.underlying50
 have hu46 := Tryd.underlying53
 have HR0_3 := Aside0.mk hr0_3
 have HC0_3 := Aside0.mk hc0_3
 clear hr0_3 hc0_3
 have HR0_4 := Aside0.mk hr0_4
 have HC0_4 := Aside0.mk hc0_4
 clear hr0_4 hc0_4
 have HR0_5 := Aside0.mk hr0_5
 have HC0_5 := Aside0.mk hc0_5
 clear hr0_5 hc0_5
 have HR0_6 := Aside0.mk hr0_6
 have HC0_6 := Aside0.mk hc0_6
 clear hr0_6 hc0_6
 have HR0_7 := Aside0.mk hr0_7
 have HC0_7 := Aside0.mk hc0_7
 clear hr0_7 hc0_7
 have HR0_8 := Aside0.mk hr0_8
 have HC0_8 := Aside0.mk hc0_8
 clear hr0_8 hc0_8
 have HB := Aside0.mk (Below.refl w.heap.size w)
 have H : ((spec_PathOk.f k a0_0).bind fun t188 => (if t188 = true then (if a0_1.toList = ([] : List UInt8) then (if a0_2.toList = ([] : List UInt8) then (spec_ContentOk.j0 k false a0_0 a0_1 a0_2 l0_3 l0_4 l0_5 l0_6 l0_7 l0_8) else ((spec_Toolchain.f a0_2).bind fun t189 => (if t189 = true then ((spec_WordOk.f k a0_2).bind fun t190 => (spec_ContentOk.j0 k (!t190) a0_0 a0_1 a0_2 l0_3 l0_4 l0_5 l0_6 l0_7 l0_8)) else (spec_ContentOk.j0 k true a0_0 a0_1 a0_2 l0_3 l0_4 l0_5 l0_6 l0_7 l0_8)))) else ((spec_GoVersion.f k a0_1).bind fun t191 => (if t191 = true then (if (a0_1.size : Int) > 50 then (spec_ContentOk.j0 k true a0_0 a0_1 a0_2 l0_3 l0_4 l0_5 l0_6 l0_7 l0_8) else (if a0_2.toList = ([] : List UInt8) then (spec_ContentOk.j0 k false a0_0 a0_1 a0_2 l0_3 l0_4 l0_5 l0_6 l0_7 l0_8) else ((spec_Toolchain.f a0_2).bind fun t192 => (if t192 = true then ((spec_WordOk.f k a0_2).bind fun t193 => (spec_ContentOk.j0 k (!t193) a0_0 a0_1 a0_2 l0_3 l0_4 l0_5 l0_6 l0_7 l0_8)) else (spec_ContentOk.j0 k true a0_0 a0_1 a0_2 l0_3 l0_4 l0_5 l0_6 l0_7 l0_8))))) else (spec_ContentOk.j0 k true a0_0 a0_1 a0_2 l0_3 l0_4 l0_5 l0_6 l0_7 l0_8)))) else (spec_ContentOk.j0 k true a0_0 a0_1 a0_2 l0_3 l0_4 l0_5 l0_6 l0_7 l0_8))) = some r := h
 clear h
 have HC2 := Aside0.mk H
 clear H
 go_enter Tryd.func11, Tryd.ntmps11
 go_upto_region 1 with (first | ((with_reducible refine gate_dst (N := 1) rfl ?_); (try (refine gate_guard (by rfl) ?_; dsimp only)); refine box_event ?hg (N := 1) ?hd (cs := #[.string a0_0, .string a0_1, .string a0_2, .slice A0_3 l0_3.length c0_3, .slice A0_4 l0_4.length c0_4, .slice A0_5 l0_5.length c0_5, .slice A0_6 l0_6.length c0_6, .slice A0_7 l0_7.length c0_7, .slice A0_8 l0_8.length c0_8]) (t := 32) ?hr ?_; (case hd => rfl); (case hg => rfl); (case hr => first | (go_simp; done) | (go_simp; rfl)); intro gb187 hg w3 hbox hb; have n0_ := Aside0.mk (below_step (by repeat (first | (with_reducible first | exact HB.out | apply below_alloc | apply pw_below_drewN | apply below_drew1) | exact HB.out)) hb); have n1_ := Aside0.mk (hbox); have n2_ := Aside0.mk ((by rw [hg]; exact (below_size (by repeat (first | (with_reducible first | exact HB.out | apply below_alloc | apply pw_below_drewN | apply below_drew1) | exact HB.out))) : w.heap.size ≤ gb187)); have n3_ := Aside0.mk ((by rw [hg]; exact (below_size (by repeat (first | (with_reducible first | exact HB.out | apply below_alloc | apply pw_below_drewN | apply below_drew1) | exact HB.out))) : w.heap.size ≤ gb187)); clear HB; have HB := n0_; have BK187 := n1_; have GW187 := n2_; have GE187 := n3_; clear n0_ n1_ n2_ n3_; clear hb hbox hg))
 (try simp only [Act.put, List.setIfInBounds_toArray, List.set_cons_zero, List.set_cons_succ])
 go_cut [52] (fun v52 wc => ∃ (kq : Nat) (x52_1 : Bool), v52 = .bool x52_1 ∧ Aside0 (spec_ContentOk.j0 kq x52_1 a0_0 a0_1 a0_2 l0_3 l0_4 l0_5 l0_6 l0_7 l0_8 = some r) ∧ Aside0 (kq ≤ k) ∧ Aside0 (wc.heap[gb187]? = some (.cells #[.string a0_0, .string a0_1, .string a0_2, (.slice A0_3 l0_3.length c0_3), (.slice A0_4 l0_4.length c0_4), (.slice A0_5 l0_5.length c0_5), (.slice A0_6 l0_6.length c0_6), (.slice A0_7 l0_7.length c0_7), (.slice A0_8 l0_8.length c0_8)] 32 (0, 0))) ∧ Aside0 (Below w.heap.size w wc))
 case first =>
  have H := HC2.out
  clear HC2
  replace H := Option.bind_eq_some_iff.mp H
  obtain ⟨t188, A40, H⟩ := H
  replace H : (if t188 = true then (if a0_1.toList = ([] : List UInt8) then (if a0_2.toList = ([] : List UInt8) then (spec_ContentOk.j0 k false a0_0 a0_1 a0_2 l0_3 l0_4 l0_5 l0_6 l0_7 l0_8) else ((spec_Toolchain.f a0_2).bind fun t189 => (if t189 = true then ((spec_WordOk.f k a0_2).bind fun t190 => (spec_ContentOk.j0 k (!t190) a0_0 a0_1 a0_2 l0_3 l0_4 l0_5 l0_6 l0_7 l0_8)) else (spec_ContentOk.j0 k true a0_0 a0_1 a0_2 l0_3 l0_4 l0_5 l0_6 l0_7 l0_8)))) else ((spec_GoVersion.f k a0_1).bind fun t191 => (if t191 = true then (if (a0_1.size : Int) > 50 then (spec_ContentOk.j0 k true a0_0 a0_1 a0_2 l0_3 l0_4 l0_5 l0_6 l0_7 l0_8) else (if a0_2.toList = ([] : List UInt8) then (spec_ContentOk.j0 k false a0_0 a0_1 a0_2 l0_3 l0_4 l0_5 l0_6 l0_7 l0_8) else ((spec_Toolchain.f a0_2).bind fun t192 => (if t192 = true then ((spec_WordOk.f k a0_2).bind fun t193 => (spec_ContentOk.j0 k (!t193) a0_0 a0_1 a0_2 l0_3 l0_4 l0_5 l0_6 l0_7 l0_8)) else (spec_ContentOk.j0 k true a0_0 a0_1 a0_2 l0_3 l0_4 l0_5 l0_6 l0_7 l0_8))))) else (spec_ContentOk.j0 k true a0_0 a0_1 a0_2 l0_3 l0_4 l0_5 l0_6 l0_7 l0_8)))) else (spec_ContentOk.j0 k true a0_0 a0_1 a0_2 l0_3 l0_4 l0_5 l0_6 l0_7 l0_8)) = some r := H
  have A4 := Aside0.mk A40
  clear A40
  by_cases c5 : t188 = true
  ·
   subst c5
   have H1 : (if a0_1.toList = ([] : List UInt8) then (if a0_2.toList = ([] : List UInt8) then (spec_ContentOk.j0 k false a0_0 a0_1 a0_2 l0_3 l0_4 l0_5 l0_6 l0_7 l0_8) else ((spec_Toolchain.f a0_2).bind fun t189 => (if t189 = true then ((spec_WordOk.f k a0_2).bind fun t190 => (spec_ContentOk.j0 k (!t190) a0_0 a0_1 a0_2 l0_3 l0_4 l0_5 l0_6 l0_7 l0_8)) else (spec_ContentOk.j0 k true a0_0 a0_1 a0_2 l0_3 l0_4 l0_5 l0_6 l0_7 l0_8)))) else ((spec_GoVersion.f k a0_1).bind fun t191 => (if t191 = true then (if (a0_1.size : Int) > 50 then (spec_ContentOk.j0 k true a0_0 a0_1 a0_2 l0_3 l0_4 l0_5 l0_6 l0_7 l0_8) else (if a0_2.toList = ([] : List UInt8) then (spec_ContentOk.j0 k false a0_0 a0_1 a0_2 l0_3 l0_4 l0_5 l0_6 l0_7 l0_8) else ((spec_Toolchain.f a0_2).bind fun t192 => (if t192 = true then ((spec_WordOk.f k a0_2).bind fun t193 => (spec_ContentOk.j0 k (!t193) a0_0 a0_1 a0_2 l0_3 l0_4 l0_5 l0_6 l0_7 l0_8)) else (spec_ContentOk.j0 k true a0_0 a0_1 a0_2 l0_3 l0_4 l0_5 l0_6 l0_7 l0_8))))) else (spec_ContentOk.j0 k true a0_0 a0_1 a0_2 l0_3 l0_4 l0_5 l0_6 l0_7 l0_8)))) = some r := by rw [if_pos rfl] at H; exact H
   clear H
   have H := H1
   clear H1
   by_cases c6 : a0_1.toList = ([] : List UInt8)
   ·
    rw [if_pos c6] at H
    have c6b0 : (a0_1.toList == ([] : List UInt8)) = true := beq_iff_eq.mpr c6
    have c6b1 : (a0_1.toList != ([] : List UInt8)) = false := bne_eq_false_iff_eq.mpr c6
    clear c6
    (first | rw [c6b0] | (simp only [i64_w, i32_w]; rw [c6b0]) | skip)
    by_cases c7 : a0_2.toList = ([] : List UInt8)
    ·
     rw [if_pos c7] at H
     have c7b0 : (a0_2.toList == ([] : List UInt8)) = true := beq_iff_eq.mpr c7
     have c7b1 : (a0_2.toList != ([] : List UInt8)) = false := bne_eq_false_iff_eq.mpr c7
     clear c7
     have H' := Aside0.mk H
     clear H
     have hcz8_0 : w3.cell? ⟨gb187, 0, none⟩ = some (.string a0_0) := (blk_cell BK187.out 0).trans rfl
     have hcz8_1 : w3.cell? ⟨gb187, 1, none⟩ = some (.string a0_1) := (blk_cell BK187.out 1).trans rfl
     have hcz8_2 : w3.cell? ⟨gb187, 2, none⟩ = some (.string a0_2) := (blk_cell BK187.out 2).trans rfl
     have hcz8_3 : w3.cell? ⟨gb187, 3, none⟩ = some (.slice A0_3 l0_3.length c0_3) := (blk_cell BK187.out 3).trans rfl
     have hcz8_4 : w3.cell? ⟨gb187, 4, none⟩ = some (.slice A0_4 l0_4.length c0_4) := (blk_cell BK187.out 4).trans rfl
     have hcz8_5 : w3.cell? ⟨gb187, 5, none⟩ = some (.slice A0_5 l0_5.length c0_5) := (blk_cell BK187.out 5).trans rfl
     have hcz8_6 : w3.cell? ⟨gb187, 6, none⟩ = some (.slice A0_6 l0_6.length c0_6) := (blk_cell BK187.out 6).trans rfl
     have hcz8_7 : w3.cell? ⟨gb187, 7, none⟩ = some (.slice A0_7 l0_7.length c0_7) := (blk_cell BK187.out 7).trans rfl
     have hcz8_8 : w3.cell? ⟨gb187, 8, none⟩ = some (.slice A0_8 l0_8.length c0_8) := (blk_cell BK187.out 8).trans rfl
     have hfz8_0 := blk_frozen BK187.out 0
     have hfz8_1 := blk_frozen BK187.out 1
     have hfz8_2 := blk_frozen BK187.out 2
     have hfz8_3 := blk_frozen BK187.out 3
     have hfz8_4 := blk_frozen BK187.out 4
     have hfz8_5 := blk_frozen BK187.out 5
     have hfz8_6 := blk_frozen BK187.out 6
     have hfz8_7 := blk_frozen BK187.out 7
     have hfz8_8 := blk_frozen BK187.out 8
     go_wp2_with (first | ((with_reducible refine gate_callee (f := 9) rfl ?_); refine goesL_ (some 17) rfl rfl Tryd.func9 (by kernel_rfl) rfl #[.string a0_0] rfl (by (try simp only [List.map_toArray, List.map_cons, List.map_nil]); first | done | rfl | (simp only [List.length_drop, List.length_take]; rfl)) ?_; (with_reducible refine (spec_PathOk.calls k a0_0 true _ A4.out).mono ?_); rintro e w9 ⟨rfl, hb⟩; refine ⟨_, rfl, ?_⟩; have n0_ := Aside0.mk (blk_below (g := gb187) (o := .cells #[.string a0_0, .string a0_1, .string a0_2, .slice A0_3 l0_3.length c0_3, .slice A0_4 l0_4.length c0_4, .slice A0_5 l0_5.length c0_5, .slice A0_6 l0_6.length c0_6, .slice A0_7 l0_7.length c0_7, .slice A0_8 l0_8.length c0_8] 32 (0, 0)) (by (with_reducible repeat (first | refine blk_drewN ?_ _ | refine blk_drew ?_ | refine blk_alloc ?_ _)); exact BK187.out) hb); have n1_ := Aside0.mk (below_step (by repeat (first | (with_reducible first | exact HB.out | apply below_alloc | apply pw_below_drewN | apply below_drew1 | refine below_set ?_ GE187.out) | exact HB.out)) hb); clear BK187; clear HB; have BK187 := n0_; have HB := n1_; clear n0_ n1_; (try clear hb); (try clear hb2); (try clear hk); (try clear hi); have hcz10_0 : w9.cell? ⟨gb187, 0, none⟩ = some (.string a0_0) := (blk_cell BK187.out 0).trans rfl; have hcz10_1 : w9.cell? ⟨gb187, 1, none⟩ = some (.string a0_1) := (blk_cell BK187.out 1).trans rfl; have hcz10_2 : w9.cell? ⟨gb187, 2, none⟩ = some (.string a0_2) := (blk_cell BK187.out 2).trans rfl; have hcz10_3 : w9.cell? ⟨gb187, 3, none⟩ = some (.slice A0_3 l0_3.length c0_3) := (blk_cell BK187.out 3).trans rfl; have hcz10_4 : w9.cell? ⟨gb187, 4, none⟩ = some (.slice A0_4 l0_4.length c0_4) := (blk_cell BK187.out 4).trans rfl; have hcz10_5 : w9.cell? ⟨gb187, 5, none⟩ = some (.slice A0_5 l0_5.length c0_5) := (blk_cell BK187.out 5).trans rfl; have hcz10_6 : w9.cell? ⟨gb187, 6, none⟩ = some (.slice A0_6 l0_6.length c0_6) := (blk_cell BK187.out 6).trans rfl; have hcz10_7 : w9.cell? ⟨gb187, 7, none⟩ = some (.slice A0_7 l0_7.length c0_7) := (blk_cell BK187.out 7).trans rfl; have hcz10_8 : w9.cell? ⟨gb187, 8, none⟩ = some (.slice A0_8 l0_8.length c0_8) := (blk_cell BK187.out 8).trans rfl; have hfz10_0 := blk_frozen BK187.out 0; have hfz10_1 := blk_frozen BK187.out 1; have hfz10_2 := blk_frozen BK187.out 2; have hfz10_3 := blk_frozen BK187.out 3; have hfz10_4 := blk_frozen BK187.out 4; have hfz10_5 := blk_frozen BK187.out 5; have hfz10_6 := blk_frozen BK187.out 6; have hfz10_7 := blk_frozen BK187.out 7; have hfz10_8 := blk_frozen BK187.out 8))
     go_meet
     case rel => exact ⟨_, (false), (by first | rfl | (simp; done) | (simp [*]; done)), H', ⟨by first | omega | exact Nat.le_refl _⟩, ⟨by (with_reducible repeat (first | refine blk_drewN ?_ _ | refine blk_drew ?_ | refine blk_alloc ?_ _)); exact BK187.out⟩, ⟨by repeat (first | (with_reducible first | exact HB.out | apply below_alloc | apply pw_below_drewN | apply below_drew1 | refine below_set ?_ GE187.out) | exact HB.out)⟩⟩
    ·
     rw [if_neg c7] at H
     have c7b0 : (a0_2.toList == ([] : List UInt8)) = false := beq_eq_false_iff_ne.mpr c7
     have c7b1 : (a0_2.toList != ([] : List UInt8)) = true := bne_iff_ne.mpr c7
     replace H := Option.bind_eq_some_iff.mp H
     obtain ⟨t189, A110, H⟩ := H
     replace H : (if t189 = true then ((spec_WordOk.f k a0_2).bind fun t190 => (spec_ContentOk.j0 k (!t190) a0_0 a0_1 a0_2 l0_3 l0_4 l0_5 l0_6 l0_7 l0_8)) else (spec_ContentOk.j0 k true a0_0 a0_1 a0_2 l0_3 l0_4 l0_5 l0_6 l0_7 l0_8)) = some r := H
     have A11 := Aside0.mk A110
     clear A110
     by_cases c12 : t189 = true
     ·
      subst c12
      have H1 : ((spec_WordOk.f k a0_2).bind fun t190 => (spec_ContentOk.j0 k (!t190) a0_0 a0_1 a0_2 l0_3 l0_4 l0_5 l0_6 l0_7 l0_8)) = some r := by rw [if_pos rfl] at H; exact H
      clear H
      have H := H1
      clear H1
      replace H := Option.bind_eq_some_iff.mp H
      obtain ⟨t190, A130, H⟩ := H
      replace H : (spec_ContentOk.j0 k (!t190) a0_0 a0_1 a0_2 l0_3 l0_4 l0_5 l0_6 l0_7 l0_8) = some r := H
      have A13 := Aside0.mk A130
      clear A130
      have H' := Aside0.mk H
      clear H
      have hcz14_0 : w3.cell? ⟨gb187, 0, none⟩ = some (.string a0_0) := (blk_cell BK187.out 0).trans rfl
      have hcz14_1 : w3.cell? ⟨gb187, 1, none⟩ = some (.string a0_1) := (blk_cell BK187.out 1).trans rfl
      have hcz14_2 : w3.cell? ⟨gb187, 2, none⟩ = some (.string a0_2) := (blk_cell BK187.out 2).trans rfl
      have hcz14_3 : w3.cell? ⟨gb187, 3, none⟩ = some (.slice A0_3 l0_3.length c0_3) := (blk_cell BK187.out 3).trans rfl
      have hcz14_4 : w3.cell? ⟨gb187, 4, none⟩ = some (.slice A0_4 l0_4.length c0_4) := (blk_cell BK187.out 4).trans rfl
      have hcz14_5 : w3.cell? ⟨gb187, 5, none⟩ = some (.slice A0_5 l0_5.length c0_5) := (blk_cell BK187.out 5).trans rfl
      have hcz14_6 : w3.cell? ⟨gb187, 6, none⟩ = some (.slice A0_6 l0_6.length c0_6) := (blk_cell BK187.out 6).trans rfl
      have hcz14_7 : w3.cell? ⟨gb187, 7, none⟩ = some (.slice A0_7 l0_7.length c0_7) := (blk_cell BK187.out 7).trans rfl
      have hcz14_8 : w3.cell? ⟨gb187, 8, none⟩ = some (.slice A0_8 l0_8.length c0_8) := (blk_cell BK187.out 8).trans rfl
      have hfz14_0 := blk_frozen BK187.out 0
      have hfz14_1 := blk_frozen BK187.out 1
      have hfz14_2 := blk_frozen BK187.out 2
      have hfz14_3 := blk_frozen BK187.out 3
      have hfz14_4 := blk_frozen BK187.out 4
      have hfz14_5 := blk_frozen BK187.out 5
      have hfz14_6 := blk_frozen BK187.out 6
      have hfz14_7 := blk_frozen BK187.out 7
      have hfz14_8 := blk_frozen BK187.out 8
      go_wp2_with (first | ((with_reducible refine gate_callee (f := 9) rfl ?_); refine goesL_ (some 17) rfl rfl Tryd.func9 (by kernel_rfl) rfl #[.string a0_0] rfl (by (try simp only [List.map_toArray, List.map_cons, List.map_nil]); first | done | rfl | (simp only [List.length_drop, List.length_take]; rfl)) ?_; (with_reducible refine (spec_PathOk.calls k a0_0 true _ A4.out).mono ?_); rintro e w15 ⟨rfl, hb⟩; refine ⟨_, rfl, ?_⟩; have n0_ := Aside0.mk (blk_below (g := gb187) (o := .cells #[.string a0_0, .string a0_1, .string a0_2, .slice A0_3 l0_3.length c0_3, .slice A0_4 l0_4.length c0_4, .slice A0_5 l0_5.length c0_5, .slice A0_6 l0_6.length c0_6, .slice A0_7 l0_7.length c0_7, .slice A0_8 l0_8.length c0_8] 32 (0, 0)) (by (with_reducible repeat (first | refine blk_drewN ?_ _ | refine blk_drew ?_ | refine blk_alloc ?_ _)); exact BK187.out) hb); have n1_ := Aside0.mk (below_step (by repeat (first | (with_reducible first | exact HB.out | apply below_alloc | apply pw_below_drewN | apply below_drew1 | refine below_set ?_ GE187.out) | exact HB.out)) hb); clear BK187; clear HB; have BK187 := n0_; have HB := n1_; clear n0_ n1_; (try clear hb); (try clear hb2); (try clear hk); (try clear hi); have hcz16_0 : w15.cell? ⟨gb187, 0, none⟩ = some (.string a0_0) := (blk_cell BK187.out 0).trans rfl; have hcz16_1 : w15.cell? ⟨gb187, 1, none⟩ = some (.string a0_1) := (blk_cell BK187.out 1).trans rfl; have hcz16_2 : w15.cell? ⟨gb187, 2, none⟩ = some (.string a0_2) := (blk_cell BK187.out 2).trans rfl; have hcz16_3 : w15.cell? ⟨gb187, 3, none⟩ = some (.slice A0_3 l0_3.length c0_3) := (blk_cell BK187.out 3).trans rfl; have hcz16_4 : w15.cell? ⟨gb187, 4, none⟩ = some (.slice A0_4 l0_4.length c0_4) := (blk_cell BK187.out 4).trans rfl; have hcz16_5 : w15.cell? ⟨gb187, 5, none⟩ = some (.slice A0_5 l0_5.length c0_5) := (blk_cell BK187.out 5).trans rfl; have hcz16_6 : w15.cell? ⟨gb187, 6, none⟩ = some (.slice A0_6 l0_6.length c0_6) := (blk_cell BK187.out 6).trans rfl; have hcz16_7 : w15.cell? ⟨gb187, 7, none⟩ = some (.slice A0_7 l0_7.length c0_7) := (blk_cell BK187.out 7).trans rfl; have hcz16_8 : w15.cell? ⟨gb187, 8, none⟩ = some (.slice A0_8 l0_8.length c0_8) := (blk_cell BK187.out 8).trans rfl; have hfz16_0 := blk_frozen BK187.out 0; have hfz16_1 := blk_frozen BK187.out 1; have hfz16_2 := blk_frozen BK187.out 2; have hfz16_3 := blk_frozen BK187.out 3; have hfz16_4 := blk_frozen BK187.out 4; have hfz16_5 := blk_frozen BK187.out 5; have hfz16_6 := blk_frozen BK187.out 6; have hfz16_7 := blk_frozen BK187.out 7; have hfz16_8 := blk_frozen BK187.out 8) | (go_at_call 25; (with_reducible refine (spec_Toolchain.calls a0_2 true _ A11.out).mono ?_); rintro e w' ⟨rfl, ⟨nd, rfl⟩⟩) | (go_at_call 26; (with_reducible refine (spec_WordOk.calls k a0_2 t190 _ A13.out).mono ?_); rintro e w' ⟨rfl, ⟨nd, rfl⟩⟩))
      go_meet
      case rel => exact ⟨_, (!t190), (by first | rfl | (simp; done) | (simp [*]; done)), H', ⟨by first | omega | exact Nat.le_refl _⟩, ⟨by (with_reducible repeat (first | refine blk_drewN ?_ _ | refine blk_drew ?_ | refine blk_alloc ?_ _)); exact BK187.out⟩, ⟨by repeat (first | (with_reducible first | exact HB.out | apply below_alloc | apply pw_below_drewN | apply below_drew1 | refine below_set ?_ GE187.out) | exact HB.out)⟩⟩
     ·
      replace c12 := Bool.eq_false_iff.mpr c12
      subst c12
      have H1 : (spec_ContentOk.j0 k true a0_0 a0_1 a0_2 l0_3 l0_4 l0_5 l0_6 l0_7 l0_8) = some r := by rw [if_neg (show ¬ (false = true) by decide)] at H; exact H
      clear H
      have H := H1
      clear H1
      have H' := Aside0.mk H
      clear H
      have hcz17_0 : w3.cell? ⟨gb187, 0, none⟩ = some (.string a0_0) := (blk_cell BK187.out 0).trans rfl
      have hcz17_1 : w3.cell? ⟨gb187, 1, none⟩ = some (.string a0_1) := (blk_cell BK187.out 1).trans rfl
      have hcz17_2 : w3.cell? ⟨gb187, 2, none⟩ = some (.string a0_2) := (blk_cell BK187.out 2).trans rfl
      have hcz17_3 : w3.cell? ⟨gb187, 3, none⟩ = some (.slice A0_3 l0_3.length c0_3) := (blk_cell BK187.out 3).trans rfl
      have hcz17_4 : w3.cell? ⟨gb187, 4, none⟩ = some (.slice A0_4 l0_4.length c0_4) := (blk_cell BK187.out 4).trans rfl
      have hcz17_5 : w3.cell? ⟨gb187, 5, none⟩ = some (.slice A0_5 l0_5.length c0_5) := (blk_cell BK187.out 5).trans rfl
      have hcz17_6 : w3.cell? ⟨gb187, 6, none⟩ = some (.slice A0_6 l0_6.length c0_6) := (blk_cell BK187.out 6).trans rfl
      have hcz17_7 : w3.cell? ⟨gb187, 7, none⟩ = some (.slice A0_7 l0_7.length c0_7) := (blk_cell BK187.out 7).trans rfl
      have hcz17_8 : w3.cell? ⟨gb187, 8, none⟩ = some (.slice A0_8 l0_8.length c0_8) := (blk_cell BK187.out 8).trans rfl
      have hfz17_0 := blk_frozen BK187.out 0
      have hfz17_1 := blk_frozen BK187.out 1
      have hfz17_2 := blk_frozen BK187.out 2
      have hfz17_3 := blk_frozen BK187.out 3
      have hfz17_4 := blk_frozen BK187.out 4
      have hfz17_5 := blk_frozen BK187.out 5
      have hfz17_6 := blk_frozen BK187.out 6
      have hfz17_7 := blk_frozen BK187.out 7
      have hfz17_8 := blk_frozen BK187.out 8
      go_wp2_with (first | ((with_reducible refine gate_callee (f := 9) rfl ?_); refine goesL_ (some 17) rfl rfl Tryd.func9 (by kernel_rfl) rfl #[.string a0_0] rfl (by (try simp only [List.map_toArray, List.map_cons, List.map_nil]); first | done | rfl | (simp only [List.length_drop, List.length_take]; rfl)) ?_; (with_reducible refine (spec_PathOk.calls k a0_0 true _ A4.out).mono ?_); rintro e w18 ⟨rfl, hb⟩; refine ⟨_, rfl, ?_⟩; have n0_ := Aside0.mk (blk_below (g := gb187) (o := .cells #[.string a0_0, .string a0_1, .string a0_2, .slice A0_3 l0_3.length c0_3, .slice A0_4 l0_4.length c0_4, .slice A0_5 l0_5.length c0_5, .slice A0_6 l0_6.length c0_6, .slice A0_7 l0_7.length c0_7, .slice A0_8 l0_8.length c0_8] 32 (0, 0)) (by (with_reducible repeat (first | refine blk_drewN ?_ _ | refine blk_drew ?_ | refine blk_alloc ?_ _)); exact BK187.out) hb); have n1_ := Aside0.mk (below_step (by repeat (first | (with_reducible first | exact HB.out | apply below_alloc | apply pw_below_drewN | apply below_drew1 | refine below_set ?_ GE187.out) | exact HB.out)) hb); clear BK187; clear HB; have BK187 := n0_; have HB := n1_; clear n0_ n1_; (try clear hb); (try clear hb2); (try clear hk); (try clear hi); have hcz19_0 : w18.cell? ⟨gb187, 0, none⟩ = some (.string a0_0) := (blk_cell BK187.out 0).trans rfl; have hcz19_1 : w18.cell? ⟨gb187, 1, none⟩ = some (.string a0_1) := (blk_cell BK187.out 1).trans rfl; have hcz19_2 : w18.cell? ⟨gb187, 2, none⟩ = some (.string a0_2) := (blk_cell BK187.out 2).trans rfl; have hcz19_3 : w18.cell? ⟨gb187, 3, none⟩ = some (.slice A0_3 l0_3.length c0_3) := (blk_cell BK187.out 3).trans rfl; have hcz19_4 : w18.cell? ⟨gb187, 4, none⟩ = some (.slice A0_4 l0_4.length c0_4) := (blk_cell BK187.out 4).trans rfl; have hcz19_5 : w18.cell? ⟨gb187, 5, none⟩ = some (.slice A0_5 l0_5.length c0_5) := (blk_cell BK187.out 5).trans rfl; have hcz19_6 : w18.cell? ⟨gb187, 6, none⟩ = some (.slice A0_6 l0_6.length c0_6) := (blk_cell BK187.out 6).trans rfl; have hcz19_7 : w18.cell? ⟨gb187, 7, none⟩ = some (.slice A0_7 l0_7.length c0_7) := (blk_cell BK187.out 7).trans rfl; have hcz19_8 : w18.cell? ⟨gb187, 8, none⟩ = some (.slice A0_8 l0_8.length c0_8) := (blk_cell BK187.out 8).trans rfl; have hfz19_0 := blk_frozen BK187.out 0; have hfz19_1 := blk_frozen BK187.out 1; have hfz19_2 := blk_frozen BK187.out 2; have hfz19_3 := blk_frozen BK187.out 3; have hfz19_4 := blk_frozen BK187.out 4; have hfz19_5 := blk_frozen BK187.out 5; have hfz19_6 := blk_frozen BK187.out 6; have hfz19_7 := blk_frozen BK187.out 7; have hfz19_8 := blk_frozen BK187.out 8) | (go_at_call 25; (with_reducible refine (spec_Toolchain.calls a0_2 false _ A11.out).mono ?_); rintro e w' ⟨rfl, ⟨nd, rfl⟩⟩))
      go_meet
      case rel => exact ⟨_, (true), (by first | rfl | (simp; done) | (simp [*]; done)), H', ⟨by first | omega | exact Nat.le_refl _⟩, ⟨by (with_reducible repeat (first | refine blk_drewN ?_ _ | refine blk_drew ?_ | refine blk_alloc ?_ _)); exact BK187.out⟩, ⟨by repeat (first | (with_reducible first | exact HB.out | apply below_alloc | apply pw_below_drewN | apply below_drew1 | refine below_set ?_ GE187.out) | exact HB.out)⟩⟩
   ·
    rw [if_neg c6] at H
    have c6b0 : (a0_1.toList == ([] : List UInt8)) = false := beq_eq_false_iff_ne.mpr c6
    have c6b1 : (a0_1.toList != ([] : List UInt8)) = true := bne_iff_ne.mpr c6
    (first | rw [c6b0] | (simp only [i64_w, i32_w]; rw [c6b0]) | skip)
    replace H := Option.bind_eq_some_iff.mp H
    obtain ⟨t191, A200, H⟩ := H
    replace H : (if t191 = true then (if (a0_1.size : Int) > 50 then (spec_ContentOk.j0 k true a0_0 a0_1 a0_2 l0_3 l0_4 l0_5 l0_6 l0_7 l0_8) else (if a0_2.toList = ([] : List UInt8) then (spec_ContentOk.j0 k false a0_0 a0_1 a0_2 l0_3 l0_4 l0_5 l0_6 l0_7 l0_8) else ((spec_Toolchain.f a0_2).bind fun t192 => (if t192 = true then ((spec_WordOk.f k a0_2).bind fun t193 => (spec_ContentOk.j0 k (!t193) a0_0 a0_1 a0_2 l0_3 l0_4 l0_5 l0_6 l0_7 l0_8)) else (spec_ContentOk.j0 k true a0_0 a0_1 a0_2 l0_3 l0_4 l0_5 l0_6 l0_7 l0_8))))) else (spec_ContentOk.j0 k true a0_0 a0_1 a0_2 l0_3 l0_4 l0_5 l0_6 l0_7 l0_8)) = some r := H
    have A20 := Aside0.mk A200
    clear A200
    by_cases c21 : t191 = true
    ·
     subst c21
     have H1 : (if (a0_1.size : Int) > 50 then (spec_ContentOk.j0 k true a0_0 a0_1 a0_2 l0_3 l0_4 l0_5 l0_6 l0_7 l0_8) else (if a0_2.toList = ([] : List UInt8) then (spec_ContentOk.j0 k false a0_0 a0_1 a0_2 l0_3 l0_4 l0_5 l0_6 l0_7 l0_8) else ((spec_Toolchain.f a0_2).bind fun t192 => (if t192 = true then ((spec_WordOk.f k a0_2).bind fun t193 => (spec_ContentOk.j0 k (!t193) a0_0 a0_1 a0_2 l0_3 l0_4 l0_5 l0_6 l0_7 l0_8)) else (spec_ContentOk.j0 k true a0_0 a0_1 a0_2 l0_3 l0_4 l0_5 l0_6 l0_7 l0_8))))) = some r := by rw [if_pos rfl] at H; exact H
     clear H
     have H := H1
     clear H1
     by_cases c22 : (a0_1.size : Int) > 50
     ·
      rw [if_pos c22] at H
      have c22b0 : decide (50 < (a0_1.size : Int)) = true := decide_eq_true c22
      have c22b1 : decide (50 < a0_1.size) = true := decide_eq_true (by omega)
      clear c22
      have H' := Aside0.mk H
      clear H
      have hcz23_0 : w3.cell? ⟨gb187, 0, none⟩ = some (.string a0_0) := (blk_cell BK187.out 0).trans rfl
      have hcz23_1 : w3.cell? ⟨gb187, 1, none⟩ = some (.string a0_1) := (blk_cell BK187.out 1).trans rfl
      have hcz23_2 : w3.cell? ⟨gb187, 2, none⟩ = some (.string a0_2) := (blk_cell BK187.out 2).trans rfl
      have hcz23_3 : w3.cell? ⟨gb187, 3, none⟩ = some (.slice A0_3 l0_3.length c0_3) := (blk_cell BK187.out 3).trans rfl
      have hcz23_4 : w3.cell? ⟨gb187, 4, none⟩ = some (.slice A0_4 l0_4.length c0_4) := (blk_cell BK187.out 4).trans rfl
      have hcz23_5 : w3.cell? ⟨gb187, 5, none⟩ = some (.slice A0_5 l0_5.length c0_5) := (blk_cell BK187.out 5).trans rfl
      have hcz23_6 : w3.cell? ⟨gb187, 6, none⟩ = some (.slice A0_6 l0_6.length c0_6) := (blk_cell BK187.out 6).trans rfl
      have hcz23_7 : w3.cell? ⟨gb187, 7, none⟩ = some (.slice A0_7 l0_7.length c0_7) := (blk_cell BK187.out 7).trans rfl
      have hcz23_8 : w3.cell? ⟨gb187, 8, none⟩ = some (.slice A0_8 l0_8.length c0_8) := (blk_cell BK187.out 8).trans rfl
      have hfz23_0 := blk_frozen BK187.out 0
      have hfz23_1 := blk_frozen BK187.out 1
      have hfz23_2 := blk_frozen BK187.out 2
      have hfz23_3 := blk_frozen BK187.out 3
      have hfz23_4 := blk_frozen BK187.out 4
      have hfz23_5 := blk_frozen BK187.out 5
      have hfz23_6 := blk_frozen BK187.out 6
      have hfz23_7 := blk_frozen BK187.out 7
      have hfz23_8 := blk_frozen BK187.out 8
      go_wp2_with (first | ((with_reducible refine gate_callee (f := 9) rfl ?_); refine goesL_ (some 17) rfl rfl Tryd.func9 (by kernel_rfl) rfl #[.string a0_0] rfl (by (try simp only [List.map_toArray, List.map_cons, List.map_nil]); first | done | rfl | (simp only [List.length_drop, List.length_take]; rfl)) ?_; (with_reducible refine (spec_PathOk.calls k a0_0 true _ A4.out).mono ?_); rintro e w24 ⟨rfl, hb⟩; refine ⟨_, rfl, ?_⟩; have n0_ := Aside0.mk (blk_below (g := gb187) (o := .cells #[.string a0_0, .string a0_1, .string a0_2, .slice A0_3 l0_3.length c0_3, .slice A0_4 l0_4.length c0_4, .slice A0_5 l0_5.length c0_5, .slice A0_6 l0_6.length c0_6, .slice A0_7 l0_7.length c0_7, .slice A0_8 l0_8.length c0_8] 32 (0, 0)) (by (with_reducible repeat (first | refine blk_drewN ?_ _ | refine blk_drew ?_ | refine blk_alloc ?_ _)); exact BK187.out) hb); have n1_ := Aside0.mk (below_step (by repeat (first | (with_reducible first | exact HB.out | apply below_alloc | apply pw_below_drewN | apply below_drew1 | refine below_set ?_ GE187.out) | exact HB.out)) hb); clear BK187; clear HB; have BK187 := n0_; have HB := n1_; clear n0_ n1_; (try clear hb); (try clear hb2); (try clear hk); (try clear hi); have hcz25_0 : w24.cell? ⟨gb187, 0, none⟩ = some (.string a0_0) := (blk_cell BK187.out 0).trans rfl; have hcz25_1 : w24.cell? ⟨gb187, 1, none⟩ = some (.string a0_1) := (blk_cell BK187.out 1).trans rfl; have hcz25_2 : w24.cell? ⟨gb187, 2, none⟩ = some (.string a0_2) := (blk_cell BK187.out 2).trans rfl; have hcz25_3 : w24.cell? ⟨gb187, 3, none⟩ = some (.slice A0_3 l0_3.length c0_3) := (blk_cell BK187.out 3).trans rfl; have hcz25_4 : w24.cell? ⟨gb187, 4, none⟩ = some (.slice A0_4 l0_4.length c0_4) := (blk_cell BK187.out 4).trans rfl; have hcz25_5 : w24.cell? ⟨gb187, 5, none⟩ = some (.slice A0_5 l0_5.length c0_5) := (blk_cell BK187.out 5).trans rfl; have hcz25_6 : w24.cell? ⟨gb187, 6, none⟩ = some (.slice A0_6 l0_6.length c0_6) := (blk_cell BK187.out 6).trans rfl; have hcz25_7 : w24.cell? ⟨gb187, 7, none⟩ = some (.slice A0_7 l0_7.length c0_7) := (blk_cell BK187.out 7).trans rfl; have hcz25_8 : w24.cell? ⟨gb187, 8, none⟩ = some (.slice A0_8 l0_8.length c0_8) := (blk_cell BK187.out 8).trans rfl; have hfz25_0 := blk_frozen BK187.out 0; have hfz25_1 := blk_frozen BK187.out 1; have hfz25_2 := blk_frozen BK187.out 2; have hfz25_3 := blk_frozen BK187.out 3; have hfz25_4 := blk_frozen BK187.out 4; have hfz25_5 := blk_frozen BK187.out 5; have hfz25_6 := blk_frozen BK187.out 6; have hfz25_7 := blk_frozen BK187.out 7; have hfz25_8 := blk_frozen BK187.out 8) | (go_at_call 24; (with_reducible refine (spec_GoVersion.calls k a0_1 true _ A20.out).mono ?_); rintro e w26 ⟨rfl, hb⟩; have n0_ := Aside0.mk (blk_below (g := gb187) (o := .cells #[.string a0_0, .string a0_1, .string a0_2, .slice A0_3 l0_3.length c0_3, .slice A0_4 l0_4.length c0_4, .slice A0_5 l0_5.length c0_5, .slice A0_6 l0_6.length c0_6, .slice A0_7 l0_7.length c0_7, .slice A0_8 l0_8.length c0_8] 32 (0, 0)) (by (with_reducible repeat (first | refine blk_drewN ?_ _ | refine blk_drew ?_ | refine blk_alloc ?_ _)); exact BK187.out) hb); have n1_ := Aside0.mk (below_step (by repeat (first | (with_reducible first | exact HB.out | apply below_alloc | apply pw_below_drewN | apply below_drew1 | refine below_set ?_ GE187.out) | exact HB.out)) hb); clear BK187; clear HB; have BK187 := n0_; have HB := n1_; clear n0_ n1_; (try clear hb); (try clear hb2); (try clear hk); (try clear hi); have hcz27_0 : w26.cell? ⟨gb187, 0, none⟩ = some (.string a0_0) := (blk_cell BK187.out 0).trans rfl; have hcz27_1 : w26.cell? ⟨gb187, 1, none⟩ = some (.string a0_1) := (blk_cell BK187.out 1).trans rfl; have hcz27_2 : w26.cell? ⟨gb187, 2, none⟩ = some (.string a0_2) := (blk_cell BK187.out 2).trans rfl; have hcz27_3 : w26.cell? ⟨gb187, 3, none⟩ = some (.slice A0_3 l0_3.length c0_3) := (blk_cell BK187.out 3).trans rfl; have hcz27_4 : w26.cell? ⟨gb187, 4, none⟩ = some (.slice A0_4 l0_4.length c0_4) := (blk_cell BK187.out 4).trans rfl; have hcz27_5 : w26.cell? ⟨gb187, 5, none⟩ = some (.slice A0_5 l0_5.length c0_5) := (blk_cell BK187.out 5).trans rfl; have hcz27_6 : w26.cell? ⟨gb187, 6, none⟩ = some (.slice A0_6 l0_6.length c0_6) := (blk_cell BK187.out 6).trans rfl; have hcz27_7 : w26.cell? ⟨gb187, 7, none⟩ = some (.slice A0_7 l0_7.length c0_7) := (blk_cell BK187.out 7).trans rfl; have hcz27_8 : w26.cell? ⟨gb187, 8, none⟩ = some (.slice A0_8 l0_8.length c0_8) := (blk_cell BK187.out 8).trans rfl; have hfz27_0 := blk_frozen BK187.out 0; have hfz27_1 := blk_frozen BK187.out 1; have hfz27_2 := blk_frozen BK187.out 2; have hfz27_3 := blk_frozen BK187.out 3; have hfz27_4 := blk_frozen BK187.out 4; have hfz27_5 := blk_frozen BK187.out 5; have hfz27_6 := blk_frozen BK187.out 6; have hfz27_7 := blk_frozen BK187.out 7; have hfz27_8 := blk_frozen BK187.out 8))
      go_meet
      case rel => exact ⟨_, (true), (by first | rfl | (simp; done) | (simp [*]; done)), H', ⟨by first | omega | exact Nat.le_refl _⟩, ⟨by (with_reducible repeat (first | refine blk_drewN ?_ _ | refine blk_drew ?_ | refine blk_alloc ?_ _)); exact BK187.out⟩, ⟨by repeat (first | (with_reducible first | exact HB.out | apply below_alloc | apply pw_below_drewN | apply below_drew1 | refine below_set ?_ GE187.out) | exact HB.out)⟩⟩
     ·
      rw [if_neg c22] at H
      have c22b0 : decide (50 < (a0_1.size : Int)) = false := decide_eq_false c22
      have c22b1 : decide (50 < a0_1.size) = false := decide_eq_false (by omega)
      clear c22
      by_cases c28 : a0_2.toList = ([] : List UInt8)
      ·
       rw [if_pos c28] at H
       have c28b0 : (a0_2.toList == ([] : List UInt8)) = true := beq_iff_eq.mpr c28
       have c28b1 : (a0_2.toList != ([] : List UInt8)) = false := bne_eq_false_iff_eq.mpr c28
       clear c28
       have H' := Aside0.mk H
       clear H
       have hcz29_0 : w3.cell? ⟨gb187, 0, none⟩ = some (.string a0_0) := (blk_cell BK187.out 0).trans rfl
       have hcz29_1 : w3.cell? ⟨gb187, 1, none⟩ = some (.string a0_1) := (blk_cell BK187.out 1).trans rfl
       have hcz29_2 : w3.cell? ⟨gb187, 2, none⟩ = some (.string a0_2) := (blk_cell BK187.out 2).trans rfl
       have hcz29_3 : w3.cell? ⟨gb187, 3, none⟩ = some (.slice A0_3 l0_3.length c0_3) := (blk_cell BK187.out 3).trans rfl
       have hcz29_4 : w3.cell? ⟨gb187, 4, none⟩ = some (.slice A0_4 l0_4.length c0_4) := (blk_cell BK187.out 4).trans rfl
       have hcz29_5 : w3.cell? ⟨gb187, 5, none⟩ = some (.slice A0_5 l0_5.length c0_5) := (blk_cell BK187.out 5).trans rfl
       have hcz29_6 : w3.cell? ⟨gb187, 6, none⟩ = some (.slice A0_6 l0_6.length c0_6) := (blk_cell BK187.out 6).trans rfl
       have hcz29_7 : w3.cell? ⟨gb187, 7, none⟩ = some (.slice A0_7 l0_7.length c0_7) := (blk_cell BK187.out 7).trans rfl
       have hcz29_8 : w3.cell? ⟨gb187, 8, none⟩ = some (.slice A0_8 l0_8.length c0_8) := (blk_cell BK187.out 8).trans rfl
       have hfz29_0 := blk_frozen BK187.out 0
       have hfz29_1 := blk_frozen BK187.out 1
       have hfz29_2 := blk_frozen BK187.out 2
       have hfz29_3 := blk_frozen BK187.out 3
       have hfz29_4 := blk_frozen BK187.out 4
       have hfz29_5 := blk_frozen BK187.out 5
       have hfz29_6 := blk_frozen BK187.out 6
       have hfz29_7 := blk_frozen BK187.out 7
       have hfz29_8 := blk_frozen BK187.out 8
       go_wp2_with (first | ((with_reducible refine gate_callee (f := 9) rfl ?_); refine goesL_ (some 17) rfl rfl Tryd.func9 (by kernel_rfl) rfl #[.string a0_0] rfl (by (try simp only [List.map_toArray, List.map_cons, List.map_nil]); first | done | rfl | (simp only [List.length_drop, List.length_take]; rfl)) ?_; (with_reducible refine (spec_PathOk.calls k a0_0 true _ A4.out).mono ?_); rintro e w30 ⟨rfl, hb⟩; refine ⟨_, rfl, ?_⟩; have n0_ := Aside0.mk (blk_below (g := gb187) (o := .cells #[.string a0_0, .string a0_1, .string a0_2, .slice A0_3 l0_3.length c0_3, .slice A0_4 l0_4.length c0_4, .slice A0_5 l0_5.length c0_5, .slice A0_6 l0_6.length c0_6, .slice A0_7 l0_7.length c0_7, .slice A0_8 l0_8.length c0_8] 32 (0, 0)) (by (with_reducible repeat (first | refine blk_drewN ?_ _ | refine blk_drew ?_ | refine blk_alloc ?_ _)); exact BK187.out) hb); have n1_ := Aside0.mk (below_step (by repeat (first | (with_reducible first | exact HB.out | apply below_alloc | apply pw_below_drewN | apply below_drew1 | refine below_set ?_ GE187.out) | exact HB.out)) hb); clear BK187; clear HB; have BK187 := n0_; have HB := n1_; clear n0_ n1_; (try clear hb); (try clear hb2); (try clear hk); (try clear hi); have hcz31_0 : w30.cell? ⟨gb187, 0, none⟩ = some (.string a0_0) := (blk_cell BK187.out 0).trans rfl; have hcz31_1 : w30.cell? ⟨gb187, 1, none⟩ = some (.string a0_1) := (blk_cell BK187.out 1).trans rfl; have hcz31_2 : w30.cell? ⟨gb187, 2, none⟩ = some (.string a0_2) := (blk_cell BK187.out 2).trans rfl; have hcz31_3 : w30.cell? ⟨gb187, 3, none⟩ = some (.slice A0_3 l0_3.length c0_3) := (blk_cell BK187.out 3).trans rfl; have hcz31_4 : w30.cell? ⟨gb187, 4, none⟩ = some (.slice A0_4 l0_4.length c0_4) := (blk_cell BK187.out 4).trans rfl; have hcz31_5 : w30.cell? ⟨gb187, 5, none⟩ = some (.slice A0_5 l0_5.length c0_5) := (blk_cell BK187.out 5).trans rfl; have hcz31_6 : w30.cell? ⟨gb187, 6, none⟩ = some (.slice A0_6 l0_6.length c0_6) := (blk_cell BK187.out 6).trans rfl; have hcz31_7 : w30.cell? ⟨gb187, 7, none⟩ = some (.slice A0_7 l0_7.length c0_7) := (blk_cell BK187.out 7).trans rfl; have hcz31_8 : w30.cell? ⟨gb187, 8, none⟩ = some (.slice A0_8 l0_8.length c0_8) := (blk_cell BK187.out 8).trans rfl; have hfz31_0 := blk_frozen BK187.out 0; have hfz31_1 := blk_frozen BK187.out 1; have hfz31_2 := blk_frozen BK187.out 2; have hfz31_3 := blk_frozen BK187.out 3; have hfz31_4 := blk_frozen BK187.out 4; have hfz31_5 := blk_frozen BK187.out 5; have hfz31_6 := blk_frozen BK187.out 6; have hfz31_7 := blk_frozen BK187.out 7; have hfz31_8 := blk_frozen BK187.out 8) | (go_at_call 24; (with_reducible refine (spec_GoVersion.calls k a0_1 true _ A20.out).mono ?_); rintro e w32 ⟨rfl, hb⟩; have n0_ := Aside0.mk (blk_below (g := gb187) (o := .cells #[.string a0_0, .string a0_1, .string a0_2, .slice A0_3 l0_3.length c0_3, .slice A0_4 l0_4.length c0_4, .slice A0_5 l0_5.length c0_5, .slice A0_6 l0_6.length c0_6, .slice A0_7 l0_7.length c0_7, .slice A0_8 l0_8.length c0_8] 32 (0, 0)) (by (with_reducible repeat (first | refine blk_drewN ?_ _ | refine blk_drew ?_ | refine blk_alloc ?_ _)); exact BK187.out) hb); have n1_ := Aside0.mk (below_step (by repeat (first | (with_reducible first | exact HB.out | apply below_alloc | apply pw_below_drewN | apply below_drew1 | refine below_set ?_ GE187.out) | exact HB.out)) hb); clear BK187; clear HB; have BK187 := n0_; have HB := n1_; clear n0_ n1_; (try clear hb); (try clear hb2); (try clear hk); (try clear hi); have hcz33_0 : w32.cell? ⟨gb187, 0, none⟩ = some (.string a0_0) := (blk_cell BK187.out 0).trans rfl; have hcz33_1 : w32.cell? ⟨gb187, 1, none⟩ = some (.string a0_1) := (blk_cell BK187.out 1).trans rfl; have hcz33_2 : w32.cell? ⟨gb187, 2, none⟩ = some (.string a0_2) := (blk_cell BK187.out 2).trans rfl; have hcz33_3 : w32.cell? ⟨gb187, 3, none⟩ = some (.slice A0_3 l0_3.length c0_3) := (blk_cell BK187.out 3).trans rfl; have hcz33_4 : w32.cell? ⟨gb187, 4, none⟩ = some (.slice A0_4 l0_4.length c0_4) := (blk_cell BK187.out 4).trans rfl; have hcz33_5 : w32.cell? ⟨gb187, 5, none⟩ = some (.slice A0_5 l0_5.length c0_5) := (blk_cell BK187.out 5).trans rfl; have hcz33_6 : w32.cell? ⟨gb187, 6, none⟩ = some (.slice A0_6 l0_6.length c0_6) := (blk_cell BK187.out 6).trans rfl; have hcz33_7 : w32.cell? ⟨gb187, 7, none⟩ = some (.slice A0_7 l0_7.length c0_7) := (blk_cell BK187.out 7).trans rfl; have hcz33_8 : w32.cell? ⟨gb187, 8, none⟩ = some (.slice A0_8 l0_8.length c0_8) := (blk_cell BK187.out 8).trans rfl; have hfz33_0 := blk_frozen BK187.out 0; have hfz33_1 := blk_frozen BK187.out 1; have hfz33_2 := blk_frozen BK187.out 2; have hfz33_3 := blk_frozen BK187.out 3; have hfz33_4 := blk_frozen BK187.out 4; have hfz33_5 := blk_frozen BK187.out 5; have hfz33_6 := blk_frozen BK187.out 6; have hfz33_7 := blk_frozen BK187.out 7; have hfz33_8 := blk_frozen BK187.out 8))
       go_meet
       case rel => exact ⟨_, (false), (by first | rfl | (simp; done) | (simp [*]; done)), H', ⟨by first | omega | exact Nat.le_refl _⟩, ⟨by (with_reducible repeat (first | refine blk_drewN ?_ _ | refine blk_drew ?_ | refine blk_alloc ?_ _)); exact BK187.out⟩, ⟨by repeat (first | (with_reducible first | exact HB.out | apply below_alloc | apply pw_below_drewN | apply below_drew1 | refine below_set ?_ GE187.out) | exact HB.out)⟩⟩
      ·
       rw [if_neg c28] at H
       have c28b0 : (a0_2.toList == ([] : List UInt8)) = false := beq_eq_false_iff_ne.mpr c28
       have c28b1 : (a0_2.toList != ([] : List UInt8)) = true := bne_iff_ne.mpr c28
       replace H := Option.bind_eq_some_iff.mp H
       obtain ⟨t192, A340, H⟩ := H
       replace H : (if t192 = true then ((spec_WordOk.f k a0_2).bind fun t193 => (spec_ContentOk.j0 k (!t193) a0_0 a0_1 a0_2 l0_3 l0_4 l0_5 l0_6 l0_7 l0_8)) else (spec_ContentOk.j0 k true a0_0 a0_1 a0_2 l0_3 l0_4 l0_5 l0_6 l0_7 l0_8)) = some r := H
       have A34 := Aside0.mk A340
       clear A340
       by_cases c35 : t192 = true
       ·
        subst c35
        have H1 : ((spec_WordOk.f k a0_2).bind fun t193 => (spec_ContentOk.j0 k (!t193) a0_0 a0_1 a0_2 l0_3 l0_4 l0_5 l0_6 l0_7 l0_8)) = some r := by rw [if_pos rfl] at H; exact H
        clear H
        have H := H1
        clear H1
        replace H := Option.bind_eq_some_iff.mp H
        obtain ⟨t193, A360, H⟩ := H
        replace H : (spec_ContentOk.j0 k (!t193) a0_0 a0_1 a0_2 l0_3 l0_4 l0_5 l0_6 l0_7 l0_8) = some r := H
        have A36 := Aside0.mk A360
        clear A360
        have H' := Aside0.mk H
        clear H
        have hcz37_0 : w3.cell? ⟨gb187, 0, none⟩ = some (.string a0_0) := (blk_cell BK187.out 0).trans rfl
        have hcz37_1 : w3.cell? ⟨gb187, 1, none⟩ = some (.string a0_1) := (blk_cell BK187.out 1).trans rfl
        have hcz37_2 : w3.cell? ⟨gb187, 2, none⟩ = some (.string a0_2) := (blk_cell BK187.out 2).trans rfl
        have hcz37_3 : w3.cell? ⟨gb187, 3, none⟩ = some (.slice A0_3 l0_3.length c0_3) := (blk_cell BK187.out 3).trans rfl
        have hcz37_4 : w3.cell? ⟨gb187, 4, none⟩ = some (.slice A0_4 l0_4.length c0_4) := (blk_cell BK187.out 4).trans rfl
        have hcz37_5 : w3.cell? ⟨gb187, 5, none⟩ = some (.slice A0_5 l0_5.length c0_5) := (blk_cell BK187.out 5).trans rfl
        have hcz37_6 : w3.cell? ⟨gb187, 6, none⟩ = some (.slice A0_6 l0_6.length c0_6) := (blk_cell BK187.out 6).trans rfl
        have hcz37_7 : w3.cell? ⟨gb187, 7, none⟩ = some (.slice A0_7 l0_7.length c0_7) := (blk_cell BK187.out 7).trans rfl
        have hcz37_8 : w3.cell? ⟨gb187, 8, none⟩ = some (.slice A0_8 l0_8.length c0_8) := (blk_cell BK187.out 8).trans rfl
        have hfz37_0 := blk_frozen BK187.out 0
        have hfz37_1 := blk_frozen BK187.out 1
        have hfz37_2 := blk_frozen BK187.out 2
        have hfz37_3 := blk_frozen BK187.out 3
        have hfz37_4 := blk_frozen BK187.out 4
        have hfz37_5 := blk_frozen BK187.out 5
        have hfz37_6 := blk_frozen BK187.out 6
        have hfz37_7 := blk_frozen BK187.out 7
        have hfz37_8 := blk_frozen BK187.out 8
        go_wp2_with (first | ((with_reducible refine gate_callee (f := 9) rfl ?_); refine goesL_ (some 17) rfl rfl Tryd.func9 (by kernel_rfl) rfl #[.string a0_0] rfl (by (try simp only [List.map_toArray, List.map_cons, List.map_nil]); first | done | rfl | (simp only [List.length_drop, List.length_take]; rfl)) ?_; (with_reducible refine (spec_PathOk.calls k a0_0 true _ A4.out).mono ?_); rintro e w38 ⟨rfl, hb⟩; refine ⟨_, rfl, ?_⟩; have n0_ := Aside0.mk (blk_below (g := gb187) (o := .cells #[.string a0_0, .string a0_1, .string a0_2, .slice A0_3 l0_3.length c0_3, .slice A0_4 l0_4.length c0_4, .slice A0_5 l0_5.length c0_5, .slice A0_6 l0_6.length c0_6, .slice A0_7 l0_7.length c0_7, .slice A0_8 l0_8.length c0_8] 32 (0, 0)) (by (with_reducible repeat (first | refine blk_drewN ?_ _ | refine blk_drew ?_ | refine blk_alloc ?_ _)); exact BK187.out) hb); have n1_ := Aside0.mk (below_step (by repeat (first | (with_reducible first | exact HB.out | apply below_alloc | apply pw_below_drewN | apply below_drew1 | refine below_set ?_ GE187.out) | exact HB.out)) hb); clear BK187; clear HB; have BK187 := n0_; have HB := n1_; clear n0_ n1_; (try clear hb); (try clear hb2); (try clear hk); (try clear hi); have hcz39_0 : w38.cell? ⟨gb187, 0, none⟩ = some (.string a0_0) := (blk_cell BK187.out 0).trans rfl; have hcz39_1 : w38.cell? ⟨gb187, 1, none⟩ = some (.string a0_1) := (blk_cell BK187.out 1).trans rfl; have hcz39_2 : w38.cell? ⟨gb187, 2, none⟩ = some (.string a0_2) := (blk_cell BK187.out 2).trans rfl; have hcz39_3 : w38.cell? ⟨gb187, 3, none⟩ = some (.slice A0_3 l0_3.length c0_3) := (blk_cell BK187.out 3).trans rfl; have hcz39_4 : w38.cell? ⟨gb187, 4, none⟩ = some (.slice A0_4 l0_4.length c0_4) := (blk_cell BK187.out 4).trans rfl; have hcz39_5 : w38.cell? ⟨gb187, 5, none⟩ = some (.slice A0_5 l0_5.length c0_5) := (blk_cell BK187.out 5).trans rfl; have hcz39_6 : w38.cell? ⟨gb187, 6, none⟩ = some (.slice A0_6 l0_6.length c0_6) := (blk_cell BK187.out 6).trans rfl; have hcz39_7 : w38.cell? ⟨gb187, 7, none⟩ = some (.slice A0_7 l0_7.length c0_7) := (blk_cell BK187.out 7).trans rfl; have hcz39_8 : w38.cell? ⟨gb187, 8, none⟩ = some (.slice A0_8 l0_8.length c0_8) := (blk_cell BK187.out 8).trans rfl; have hfz39_0 := blk_frozen BK187.out 0; have hfz39_1 := blk_frozen BK187.out 1; have hfz39_2 := blk_frozen BK187.out 2; have hfz39_3 := blk_frozen BK187.out 3; have hfz39_4 := blk_frozen BK187.out 4; have hfz39_5 := blk_frozen BK187.out 5; have hfz39_6 := blk_frozen BK187.out 6; have hfz39_7 := blk_frozen BK187.out 7; have hfz39_8 := blk_frozen BK187.out 8) | (go_at_call 24; (with_reducible refine (spec_GoVersion.calls k a0_1 true _ A20.out).mono ?_); rintro e w40 ⟨rfl, hb⟩; have n0_ := Aside0.mk (blk_below (g := gb187) (o := .cells #[.string a0_0, .string a0_1, .string a0_2, .slice A0_3 l0_3.length c0_3, .slice A0_4 l0_4.length c0_4, .slice A0_5 l0_5.length c0_5, .slice A0_6 l0_6.length c0_6, .slice A0_7 l0_7.length c0_7, .slice A0_8 l0_8.length c0_8] 32 (0, 0)) (by (with_reducible repeat (first | refine blk_drewN ?_ _ | refine blk_drew ?_ | refine blk_alloc ?_ _)); exact BK187.out) hb); have n1_ := Aside0.mk (below_step (by repeat (first | (with_reducible first | exact HB.out | apply below_alloc | apply pw_below_drewN | apply below_drew1 | refine below_set ?_ GE187.out) | exact HB.out)) hb); clear BK187; clear HB; have BK187 := n0_; have HB := n1_; clear n0_ n1_; (try clear hb); (try clear hb2); (try clear hk); (try clear hi); have hcz41_0 : w40.cell? ⟨gb187, 0, none⟩ = some (.string a0_0) := (blk_cell BK187.out 0).trans rfl; have hcz41_1 : w40.cell? ⟨gb187, 1, none⟩ = some (.string a0_1) := (blk_cell BK187.out 1).trans rfl; have hcz41_2 : w40.cell? ⟨gb187, 2, none⟩ = some (.string a0_2) := (blk_cell BK187.out 2).trans rfl; have hcz41_3 : w40.cell? ⟨gb187, 3, none⟩ = some (.slice A0_3 l0_3.length c0_3) := (blk_cell BK187.out 3).trans rfl; have hcz41_4 : w40.cell? ⟨gb187, 4, none⟩ = some (.slice A0_4 l0_4.length c0_4) := (blk_cell BK187.out 4).trans rfl; have hcz41_5 : w40.cell? ⟨gb187, 5, none⟩ = some (.slice A0_5 l0_5.length c0_5) := (blk_cell BK187.out 5).trans rfl; have hcz41_6 : w40.cell? ⟨gb187, 6, none⟩ = some (.slice A0_6 l0_6.length c0_6) := (blk_cell BK187.out 6).trans rfl; have hcz41_7 : w40.cell? ⟨gb187, 7, none⟩ = some (.slice A0_7 l0_7.length c0_7) := (blk_cell BK187.out 7).trans rfl; have hcz41_8 : w40.cell? ⟨gb187, 8, none⟩ = some (.slice A0_8 l0_8.length c0_8) := (blk_cell BK187.out 8).trans rfl; have hfz41_0 := blk_frozen BK187.out 0; have hfz41_1 := blk_frozen BK187.out 1; have hfz41_2 := blk_frozen BK187.out 2; have hfz41_3 := blk_frozen BK187.out 3; have hfz41_4 := blk_frozen BK187.out 4; have hfz41_5 := blk_frozen BK187.out 5; have hfz41_6 := blk_frozen BK187.out 6; have hfz41_7 := blk_frozen BK187.out 7; have hfz41_8 := blk_frozen BK187.out 8) | (go_at_call 25; (with_reducible refine (spec_Toolchain.calls a0_2 true _ A34.out).mono ?_); rintro e w' ⟨rfl, ⟨nd, rfl⟩⟩) | (go_at_call 26; (with_reducible refine (spec_WordOk.calls k a0_2 t193 _ A36.out).mono ?_); rintro e w' ⟨rfl, ⟨nd, rfl⟩⟩))
        go_meet
        case rel => exact ⟨_, (!t193), (by first | rfl | (simp; done) | (simp [*]; done)), H', ⟨by first | omega | exact Nat.le_refl _⟩, ⟨by (with_reducible repeat (first | refine blk_drewN ?_ _ | refine blk_drew ?_ | refine blk_alloc ?_ _)); exact BK187.out⟩, ⟨by repeat (first | (with_reducible first | exact HB.out | apply below_alloc | apply pw_below_drewN | apply below_drew1 | refine below_set ?_ GE187.out) | exact HB.out)⟩⟩
       ·
        replace c35 := Bool.eq_false_iff.mpr c35
        subst c35
        have H1 : (spec_ContentOk.j0 k true a0_0 a0_1 a0_2 l0_3 l0_4 l0_5 l0_6 l0_7 l0_8) = some r := by rw [if_neg (show ¬ (false = true) by decide)] at H; exact H
        clear H
        have H := H1
        clear H1
        have H' := Aside0.mk H
        clear H
        have hcz42_0 : w3.cell? ⟨gb187, 0, none⟩ = some (.string a0_0) := (blk_cell BK187.out 0).trans rfl
        have hcz42_1 : w3.cell? ⟨gb187, 1, none⟩ = some (.string a0_1) := (blk_cell BK187.out 1).trans rfl
        have hcz42_2 : w3.cell? ⟨gb187, 2, none⟩ = some (.string a0_2) := (blk_cell BK187.out 2).trans rfl
        have hcz42_3 : w3.cell? ⟨gb187, 3, none⟩ = some (.slice A0_3 l0_3.length c0_3) := (blk_cell BK187.out 3).trans rfl
        have hcz42_4 : w3.cell? ⟨gb187, 4, none⟩ = some (.slice A0_4 l0_4.length c0_4) := (blk_cell BK187.out 4).trans rfl
        have hcz42_5 : w3.cell? ⟨gb187, 5, none⟩ = some (.slice A0_5 l0_5.length c0_5) := (blk_cell BK187.out 5).trans rfl
        have hcz42_6 : w3.cell? ⟨gb187, 6, none⟩ = some (.slice A0_6 l0_6.length c0_6) := (blk_cell BK187.out 6).trans rfl
        have hcz42_7 : w3.cell? ⟨gb187, 7, none⟩ = some (.slice A0_7 l0_7.length c0_7) := (blk_cell BK187.out 7).trans rfl
        have hcz42_8 : w3.cell? ⟨gb187, 8, none⟩ = some (.slice A0_8 l0_8.length c0_8) := (blk_cell BK187.out 8).trans rfl
        have hfz42_0 := blk_frozen BK187.out 0
        have hfz42_1 := blk_frozen BK187.out 1
        have hfz42_2 := blk_frozen BK187.out 2
        have hfz42_3 := blk_frozen BK187.out 3
        have hfz42_4 := blk_frozen BK187.out 4
        have hfz42_5 := blk_frozen BK187.out 5
        have hfz42_6 := blk_frozen BK187.out 6
        have hfz42_7 := blk_frozen BK187.out 7
        have hfz42_8 := blk_frozen BK187.out 8
        go_wp2_with (first | ((with_reducible refine gate_callee (f := 9) rfl ?_); refine goesL_ (some 17) rfl rfl Tryd.func9 (by kernel_rfl) rfl #[.string a0_0] rfl (by (try simp only [List.map_toArray, List.map_cons, List.map_nil]); first | done | rfl | (simp only [List.length_drop, List.length_take]; rfl)) ?_; (with_reducible refine (spec_PathOk.calls k a0_0 true _ A4.out).mono ?_); rintro e w43 ⟨rfl, hb⟩; refine ⟨_, rfl, ?_⟩; have n0_ := Aside0.mk (blk_below (g := gb187) (o := .cells #[.string a0_0, .string a0_1, .string a0_2, .slice A0_3 l0_3.length c0_3, .slice A0_4 l0_4.length c0_4, .slice A0_5 l0_5.length c0_5, .slice A0_6 l0_6.length c0_6, .slice A0_7 l0_7.length c0_7, .slice A0_8 l0_8.length c0_8] 32 (0, 0)) (by (with_reducible repeat (first | refine blk_drewN ?_ _ | refine blk_drew ?_ | refine blk_alloc ?_ _)); exact BK187.out) hb); have n1_ := Aside0.mk (below_step (by repeat (first | (with_reducible first | exact HB.out | apply below_alloc | apply pw_below_drewN | apply below_drew1 | refine below_set ?_ GE187.out) | exact HB.out)) hb); clear BK187; clear HB; have BK187 := n0_; have HB := n1_; clear n0_ n1_; (try clear hb); (try clear hb2); (try clear hk); (try clear hi); have hcz44_0 : w43.cell? ⟨gb187, 0, none⟩ = some (.string a0_0) := (blk_cell BK187.out 0).trans rfl; have hcz44_1 : w43.cell? ⟨gb187, 1, none⟩ = some (.string a0_1) := (blk_cell BK187.out 1).trans rfl; have hcz44_2 : w43.cell? ⟨gb187, 2, none⟩ = some (.string a0_2) := (blk_cell BK187.out 2).trans rfl; have hcz44_3 : w43.cell? ⟨gb187, 3, none⟩ = some (.slice A0_3 l0_3.length c0_3) := (blk_cell BK187.out 3).trans rfl; have hcz44_4 : w43.cell? ⟨gb187, 4, none⟩ = some (.slice A0_4 l0_4.length c0_4) := (blk_cell BK187.out 4).trans rfl; have hcz44_5 : w43.cell? ⟨gb187, 5, none⟩ = some (.slice A0_5 l0_5.length c0_5) := (blk_cell BK187.out 5).trans rfl; have hcz44_6 : w43.cell? ⟨gb187, 6, none⟩ = some (.slice A0_6 l0_6.length c0_6) := (blk_cell BK187.out 6).trans rfl; have hcz44_7 : w43.cell? ⟨gb187, 7, none⟩ = some (.slice A0_7 l0_7.length c0_7) := (blk_cell BK187.out 7).trans rfl; have hcz44_8 : w43.cell? ⟨gb187, 8, none⟩ = some (.slice A0_8 l0_8.length c0_8) := (blk_cell BK187.out 8).trans rfl; have hfz44_0 := blk_frozen BK187.out 0; have hfz44_1 := blk_frozen BK187.out 1; have hfz44_2 := blk_frozen BK187.out 2; have hfz44_3 := blk_frozen BK187.out 3; have hfz44_4 := blk_frozen BK187.out 4; have hfz44_5 := blk_frozen BK187.out 5; have hfz44_6 := blk_frozen BK187.out 6; have hfz44_7 := blk_frozen BK187.out 7; have hfz44_8 := blk_frozen BK187.out 8) | (go_at_call 24; (with_reducible refine (spec_GoVersion.calls k a0_1 true _ A20.out).mono ?_); rintro e w45 ⟨rfl, hb⟩; have n0_ := Aside0.mk (blk_below (g := gb187) (o := .cells #[.string a0_0, .string a0_1, .string a0_2, .slice A0_3 l0_3.length c0_3, .slice A0_4 l0_4.length c0_4, .slice A0_5 l0_5.length c0_5, .slice A0_6 l0_6.length c0_6, .slice A0_7 l0_7.length c0_7, .slice A0_8 l0_8.length c0_8] 32 (0, 0)) (by (with_reducible repeat (first | refine blk_drewN ?_ _ | refine blk_drew ?_ | refine blk_alloc ?_ _)); exact BK187.out) hb); have n1_ := Aside0.mk (below_step (by repeat (first | (with_reducible first | exact HB.out | apply below_alloc | apply pw_below_drewN | apply below_drew1 | refine below_set ?_ GE187.out) | exact HB.out)) hb); clear BK187; clear HB; have BK187 := n0_; have HB := n1_; clear n0_ n1_; (try clear hb); (try clear hb2); (try clear hk); (try clear hi); have hcz46_0 : w45.cell? ⟨gb187, 0, none⟩ = some (.string a0_0) := (blk_cell BK187.out 0).trans rfl; have hcz46_1 : w45.cell? ⟨gb187, 1, none⟩ = some (.string a0_1) := (blk_cell BK187.out 1).trans rfl; have hcz46_2 : w45.cell? ⟨gb187, 2, none⟩ = some (.string a0_2) := (blk_cell BK187.out 2).trans rfl; have hcz46_3 : w45.cell? ⟨gb187, 3, none⟩ = some (.slice A0_3 l0_3.length c0_3) := (blk_cell BK187.out 3).trans rfl; have hcz46_4 : w45.cell? ⟨gb187, 4, none⟩ = some (.slice A0_4 l0_4.length c0_4) := (blk_cell BK187.out 4).trans rfl; have hcz46_5 : w45.cell? ⟨gb187, 5, none⟩ = some (.slice A0_5 l0_5.length c0_5) := (blk_cell BK187.out 5).trans rfl; have hcz46_6 : w45.cell? ⟨gb187, 6, none⟩ = some (.slice A0_6 l0_6.length c0_6) := (blk_cell BK187.out 6).trans rfl; have hcz46_7 : w45.cell? ⟨gb187, 7, none⟩ = some (.slice A0_7 l0_7.length c0_7) := (blk_cell BK187.out 7).trans rfl; have hcz46_8 : w45.cell? ⟨gb187, 8, none⟩ = some (.slice A0_8 l0_8.length c0_8) := (blk_cell BK187.out 8).trans rfl; have hfz46_0 := blk_frozen BK187.out 0; have hfz46_1 := blk_frozen BK187.out 1; have hfz46_2 := blk_frozen BK187.out 2; have hfz46_3 := blk_frozen BK187.out 3; have hfz46_4 := blk_frozen BK187.out 4; have hfz46_5 := blk_frozen BK187.out 5; have hfz46_6 := blk_frozen BK187.out 6; have hfz46_7 := blk_frozen BK187.out 7; have hfz46_8 := blk_frozen BK187.out 8) | (go_at_call 25; (with_reducible refine (spec_Toolchain.calls a0_2 false _ A34.out).mono ?_); rintro e w' ⟨rfl, ⟨nd, rfl⟩⟩))
        go_meet
        case rel => exact ⟨_, (true), (by first | rfl | (simp; done) | (simp [*]; done)), H', ⟨by first | omega | exact Nat.le_refl _⟩, ⟨by (with_reducible repeat (first | refine blk_drewN ?_ _ | refine blk_drew ?_ | refine blk_alloc ?_ _)); exact BK187.out⟩, ⟨by repeat (first | (with_reducible first | exact HB.out | apply below_alloc | apply pw_below_drewN | apply below_drew1 | refine below_set ?_ GE187.out) | exact HB.out)⟩⟩
    ·
     replace c21 := Bool.eq_false_iff.mpr c21
     subst c21
     have H1 : (spec_ContentOk.j0 k true a0_0 a0_1 a0_2 l0_3 l0_4 l0_5 l0_6 l0_7 l0_8) = some r := by rw [if_neg (show ¬ (false = true) by decide)] at H; exact H
     clear H
     have H := H1
     clear H1
     have H' := Aside0.mk H
     clear H
     have hcz47_0 : w3.cell? ⟨gb187, 0, none⟩ = some (.string a0_0) := (blk_cell BK187.out 0).trans rfl
     have hcz47_1 : w3.cell? ⟨gb187, 1, none⟩ = some (.string a0_1) := (blk_cell BK187.out 1).trans rfl
     have hcz47_2 : w3.cell? ⟨gb187, 2, none⟩ = some (.string a0_2) := (blk_cell BK187.out 2).trans rfl
     have hcz47_3 : w3.cell? ⟨gb187, 3, none⟩ = some (.slice A0_3 l0_3.length c0_3) := (blk_cell BK187.out 3).trans rfl
     have hcz47_4 : w3.cell? ⟨gb187, 4, none⟩ = some (.slice A0_4 l0_4.length c0_4) := (blk_cell BK187.out 4).trans rfl
     have hcz47_5 : w3.cell? ⟨gb187, 5, none⟩ = some (.slice A0_5 l0_5.length c0_5) := (blk_cell BK187.out 5).trans rfl
     have hcz47_6 : w3.cell? ⟨gb187, 6, none⟩ = some (.slice A0_6 l0_6.length c0_6) := (blk_cell BK187.out 6).trans rfl
     have hcz47_7 : w3.cell? ⟨gb187, 7, none⟩ = some (.slice A0_7 l0_7.length c0_7) := (blk_cell BK187.out 7).trans rfl
     have hcz47_8 : w3.cell? ⟨gb187, 8, none⟩ = some (.slice A0_8 l0_8.length c0_8) := (blk_cell BK187.out 8).trans rfl
     have hfz47_0 := blk_frozen BK187.out 0
     have hfz47_1 := blk_frozen BK187.out 1
     have hfz47_2 := blk_frozen BK187.out 2
     have hfz47_3 := blk_frozen BK187.out 3
     have hfz47_4 := blk_frozen BK187.out 4
     have hfz47_5 := blk_frozen BK187.out 5
     have hfz47_6 := blk_frozen BK187.out 6
     have hfz47_7 := blk_frozen BK187.out 7
     have hfz47_8 := blk_frozen BK187.out 8
     go_wp2_with (first | ((with_reducible refine gate_callee (f := 9) rfl ?_); refine goesL_ (some 17) rfl rfl Tryd.func9 (by kernel_rfl) rfl #[.string a0_0] rfl (by (try simp only [List.map_toArray, List.map_cons, List.map_nil]); first | done | rfl | (simp only [List.length_drop, List.length_take]; rfl)) ?_; (with_reducible refine (spec_PathOk.calls k a0_0 true _ A4.out).mono ?_); rintro e w48 ⟨rfl, hb⟩; refine ⟨_, rfl, ?_⟩; have n0_ := Aside0.mk (blk_below (g := gb187) (o := .cells #[.string a0_0, .string a0_1, .string a0_2, .slice A0_3 l0_3.length c0_3, .slice A0_4 l0_4.length c0_4, .slice A0_5 l0_5.length c0_5, .slice A0_6 l0_6.length c0_6, .slice A0_7 l0_7.length c0_7, .slice A0_8 l0_8.length c0_8] 32 (0, 0)) (by (with_reducible repeat (first | refine blk_drewN ?_ _ | refine blk_drew ?_ | refine blk_alloc ?_ _)); exact BK187.out) hb); have n1_ := Aside0.mk (below_step (by repeat (first | (with_reducible first | exact HB.out | apply below_alloc | apply pw_below_drewN | apply below_drew1 | refine below_set ?_ GE187.out) | exact HB.out)) hb); clear BK187; clear HB; have BK187 := n0_; have HB := n1_; clear n0_ n1_; (try clear hb); (try clear hb2); (try clear hk); (try clear hi); have hcz49_0 : w48.cell? ⟨gb187, 0, none⟩ = some (.string a0_0) := (blk_cell BK187.out 0).trans rfl; have hcz49_1 : w48.cell? ⟨gb187, 1, none⟩ = some (.string a0_1) := (blk_cell BK187.out 1).trans rfl; have hcz49_2 : w48.cell? ⟨gb187, 2, none⟩ = some (.string a0_2) := (blk_cell BK187.out 2).trans rfl; have hcz49_3 : w48.cell? ⟨gb187, 3, none⟩ = some (.slice A0_3 l0_3.length c0_3) := (blk_cell BK187.out 3).trans rfl; have hcz49_4 : w48.cell? ⟨gb187, 4, none⟩ = some (.slice A0_4 l0_4.length c0_4) := (blk_cell BK187.out 4).trans rfl; have hcz49_5 : w48.cell? ⟨gb187, 5, none⟩ = some (.slice A0_5 l0_5.length c0_5) := (blk_cell BK187.out 5).trans rfl; have hcz49_6 : w48.cell? ⟨gb187, 6, none⟩ = some (.slice A0_6 l0_6.length c0_6) := (blk_cell BK187.out 6).trans rfl; have hcz49_7 : w48.cell? ⟨gb187, 7, none⟩ = some (.slice A0_7 l0_7.length c0_7) := (blk_cell BK187.out 7).trans rfl; have hcz49_8 : w48.cell? ⟨gb187, 8, none⟩ = some (.slice A0_8 l0_8.length c0_8) := (blk_cell BK187.out 8).trans rfl; have hfz49_0 := blk_frozen BK187.out 0; have hfz49_1 := blk_frozen BK187.out 1; have hfz49_2 := blk_frozen BK187.out 2; have hfz49_3 := blk_frozen BK187.out 3; have hfz49_4 := blk_frozen BK187.out 4; have hfz49_5 := blk_frozen BK187.out 5; have hfz49_6 := blk_frozen BK187.out 6; have hfz49_7 := blk_frozen BK187.out 7; have hfz49_8 := blk_frozen BK187.out 8) | (go_at_call 24; (with_reducible refine (spec_GoVersion.calls k a0_1 false _ A20.out).mono ?_); rintro e w50 ⟨rfl, hb⟩; have n0_ := Aside0.mk (blk_below (g := gb187) (o := .cells #[.string a0_0, .string a0_1, .string a0_2, .slice A0_3 l0_3.length c0_3, .slice A0_4 l0_4.length c0_4, .slice A0_5 l0_5.length c0_5, .slice A0_6 l0_6.length c0_6, .slice A0_7 l0_7.length c0_7, .slice A0_8 l0_8.length c0_8] 32 (0, 0)) (by (with_reducible repeat (first | refine blk_drewN ?_ _ | refine blk_drew ?_ | refine blk_alloc ?_ _)); exact BK187.out) hb); have n1_ := Aside0.mk (below_step (by repeat (first | (with_reducible first | exact HB.out | apply below_alloc | apply pw_below_drewN | apply below_drew1 | refine below_set ?_ GE187.out) | exact HB.out)) hb); clear BK187; clear HB; have BK187 := n0_; have HB := n1_; clear n0_ n1_; (try clear hb); (try clear hb2); (try clear hk); (try clear hi)))
     go_meet
     case rel => exact ⟨_, (true), (by first | rfl | (simp; done) | (simp [*]; done)), H', ⟨by first | omega | exact Nat.le_refl _⟩, ⟨by (with_reducible repeat (first | refine blk_drewN ?_ _ | refine blk_drew ?_ | refine blk_alloc ?_ _)); exact BK187.out⟩, ⟨by repeat (first | (with_reducible first | exact HB.out | apply below_alloc | apply pw_below_drewN | apply below_drew1 | refine below_set ?_ GE187.out) | exact HB.out)⟩⟩
  ·
   replace c5 := Bool.eq_false_iff.mpr c5
   subst c5
   have H1 : (spec_ContentOk.j0 k true a0_0 a0_1 a0_2 l0_3 l0_4 l0_5 l0_6 l0_7 l0_8) = some r := by rw [if_neg (show ¬ (false = true) by decide)] at H; exact H
   clear H
   have H := H1
   clear H1
   have H' := Aside0.mk H
   clear H
   have hcz51_0 : w3.cell? ⟨gb187, 0, none⟩ = some (.string a0_0) := (blk_cell BK187.out 0).trans rfl
   have hcz51_1 : w3.cell? ⟨gb187, 1, none⟩ = some (.string a0_1) := (blk_cell BK187.out 1).trans rfl
   have hcz51_2 : w3.cell? ⟨gb187, 2, none⟩ = some (.string a0_2) := (blk_cell BK187.out 2).trans rfl
   have hcz51_3 : w3.cell? ⟨gb187, 3, none⟩ = some (.slice A0_3 l0_3.length c0_3) := (blk_cell BK187.out 3).trans rfl
   have hcz51_4 : w3.cell? ⟨gb187, 4, none⟩ = some (.slice A0_4 l0_4.length c0_4) := (blk_cell BK187.out 4).trans rfl
   have hcz51_5 : w3.cell? ⟨gb187, 5, none⟩ = some (.slice A0_5 l0_5.length c0_5) := (blk_cell BK187.out 5).trans rfl
   have hcz51_6 : w3.cell? ⟨gb187, 6, none⟩ = some (.slice A0_6 l0_6.length c0_6) := (blk_cell BK187.out 6).trans rfl
   have hcz51_7 : w3.cell? ⟨gb187, 7, none⟩ = some (.slice A0_7 l0_7.length c0_7) := (blk_cell BK187.out 7).trans rfl
   have hcz51_8 : w3.cell? ⟨gb187, 8, none⟩ = some (.slice A0_8 l0_8.length c0_8) := (blk_cell BK187.out 8).trans rfl
   have hfz51_0 := blk_frozen BK187.out 0
   have hfz51_1 := blk_frozen BK187.out 1
   have hfz51_2 := blk_frozen BK187.out 2
   have hfz51_3 := blk_frozen BK187.out 3
   have hfz51_4 := blk_frozen BK187.out 4
   have hfz51_5 := blk_frozen BK187.out 5
   have hfz51_6 := blk_frozen BK187.out 6
   have hfz51_7 := blk_frozen BK187.out 7
   have hfz51_8 := blk_frozen BK187.out 8
   go_wp2_with (first | ((with_reducible refine gate_callee (f := 9) rfl ?_); refine goesL_ (some 17) rfl rfl Tryd.func9 (by kernel_rfl) rfl #[.string a0_0] rfl (by (try simp only [List.map_toArray, List.map_cons, List.map_nil]); first | done | rfl | (simp only [List.length_drop, List.length_take]; rfl)) ?_; (with_reducible refine (spec_PathOk.calls k a0_0 false _ A4.out).mono ?_); rintro e w52 ⟨rfl, hb⟩; refine ⟨_, rfl, ?_⟩; have n0_ := Aside0.mk (blk_below (g := gb187) (o := .cells #[.string a0_0, .string a0_1, .string a0_2, .slice A0_3 l0_3.length c0_3, .slice A0_4 l0_4.length c0_4, .slice A0_5 l0_5.length c0_5, .slice A0_6 l0_6.length c0_6, .slice A0_7 l0_7.length c0_7, .slice A0_8 l0_8.length c0_8] 32 (0, 0)) (by (with_reducible repeat (first | refine blk_drewN ?_ _ | refine blk_drew ?_ | refine blk_alloc ?_ _)); exact BK187.out) hb); have n1_ := Aside0.mk (below_step (by repeat (first | (with_reducible first | exact HB.out | apply below_alloc | apply pw_below_drewN | apply below_drew1 | refine below_set ?_ GE187.out) | exact HB.out)) hb); clear BK187; clear HB; have BK187 := n0_; have HB := n1_; clear n0_ n1_; (try clear hb); (try clear hb2); (try clear hk); (try clear hi)))
   go_meet
   case rel => exact ⟨_, (true), (by first | rfl | (simp; done) | (simp [*]; done)), H', ⟨by first | omega | exact Nat.le_refl _⟩, ⟨by (with_reducible repeat (first | refine blk_drewN ?_ _ | refine blk_drew ?_ | refine blk_alloc ?_ _)); exact BK187.out⟩, ⟨by repeat (first | (with_reducible first | exact HB.out | apply below_alloc | apply pw_below_drewN | apply below_drew1 | refine below_set ?_ GE187.out) | exact HB.out)⟩⟩
 case rest =>
  clear HC2
  obtain ⟨kq, x52_1, rfl, HA, HJ1, BK187, HB⟩ := hcut
  cases kq with
  | zero => exact absurd HA.out (by simp [spec_ContentOk.j0])
  | succ kj1 =>
   have H := HA.out
   clear HA
   simp only [spec_ContentOk.j0] at H
   by_cases c53 : x52_1 = true
   ·
    subst c53
    have H1 : (some false) = some r := by rw [if_pos rfl] at H; exact H
    clear H
    have H := H1
    clear H1
    obtain rfl := Option.some.inj H
    go_wp2
    go_ret
    exact ⟨by first | rfl | (simp [errW_none, errW_some] <;> rfl) | (simp [*, errW_none, errW_some] <;> rfl), by repeat (first | (with_reducible first | exact HB.out | apply below_alloc | apply pw_below_drewN | apply below_drew1 | refine below_set ?_ GE187.out) | exact HB.out)⟩
   ·
    replace c53 := Bool.eq_false_iff.mpr c53
    subst c53
    have H1 : (spec_ContentOk.l0 kj1 l0_3 (l0_3.length : Int) 0 a0_0 a0_1 a0_2 l0_3 l0_4 l0_5 l0_6 l0_7 l0_8) = some r := by rw [if_neg (show ¬ (false = true) by decide)] at H; exact H
    clear H
    have H := H1
    clear H1
    have H' := Aside0.mk H
    clear H
    have hcz54_0 : wc.cell? ⟨gb187, 0, none⟩ = some (.string a0_0) := (blk_cell BK187.out 0).trans rfl
    have hcz54_1 : wc.cell? ⟨gb187, 1, none⟩ = some (.string a0_1) := (blk_cell BK187.out 1).trans rfl
    have hcz54_2 : wc.cell? ⟨gb187, 2, none⟩ = some (.string a0_2) := (blk_cell BK187.out 2).trans rfl
    have hcz54_3 : wc.cell? ⟨gb187, 3, none⟩ = some (.slice A0_3 l0_3.length c0_3) := (blk_cell BK187.out 3).trans rfl
    have hcz54_4 : wc.cell? ⟨gb187, 4, none⟩ = some (.slice A0_4 l0_4.length c0_4) := (blk_cell BK187.out 4).trans rfl
    have hcz54_5 : wc.cell? ⟨gb187, 5, none⟩ = some (.slice A0_5 l0_5.length c0_5) := (blk_cell BK187.out 5).trans rfl
    have hcz54_6 : wc.cell? ⟨gb187, 6, none⟩ = some (.slice A0_6 l0_6.length c0_6) := (blk_cell BK187.out 6).trans rfl
    have hcz54_7 : wc.cell? ⟨gb187, 7, none⟩ = some (.slice A0_7 l0_7.length c0_7) := (blk_cell BK187.out 7).trans rfl
    have hcz54_8 : wc.cell? ⟨gb187, 8, none⟩ = some (.slice A0_8 l0_8.length c0_8) := (blk_cell BK187.out 8).trans rfl
    have hfz54_0 := blk_frozen BK187.out 0
    have hfz54_1 := blk_frozen BK187.out 1
    have hfz54_2 := blk_frozen BK187.out 2
    have hfz54_3 := blk_frozen BK187.out 3
    have hfz54_4 := blk_frozen BK187.out 4
    have hfz54_5 := blk_frozen BK187.out 5
    have hfz54_6 := blk_frozen BK187.out 6
    have hfz54_7 := blk_frozen BK187.out 7
    have hfz54_8 := blk_frozen BK187.out 8
    go_wp2
    go_loopg [56] kj1 (fun kq v56 w' => ∃ (x56_2 : Int), v56 = .int .i64 x56_2 ∧ Aside0 (spec_ContentOk.l0 kq l0_3 (l0_3.length : Int) x56_2 a0_0 a0_1 a0_2 l0_3 l0_4 l0_5 l0_6 l0_7 l0_8 = some r) ∧ Aside0 (kq ≤ kj1) ∧ Aside0 (w'.heap[gb187]? = some (.cells #[.string a0_0, .string a0_1, .string a0_2, (.slice A0_3 l0_3.length c0_3), (.slice A0_4 l0_4.length c0_4), (.slice A0_5 l0_5.length c0_5), (.slice A0_6 l0_6.length c0_6), (.slice A0_7 l0_7.length c0_7), (.slice A0_8 l0_8.length c0_8)] 32 (0, 0))) ∧ Aside0 (Below w.heap.size w w'))
    case atStart => exact ⟨(0), (by first | rfl | (simp; done) | (simp [*]; done)), H', ⟨Nat.le_refl _⟩, ⟨by (with_reducible repeat (first | refine blk_drewN ?_ _ | refine blk_drew ?_ | refine blk_alloc ?_ _)); exact BK187.out⟩, ⟨by repeat (first | (with_reducible first | exact HB.out | apply below_alloc | apply pw_below_drewN | apply below_drew1 | refine below_set ?_ GE187.out) | exact HB.out)⟩⟩
    case round =>
     clear H'
     clear hcz54_0 hcz54_1 hcz54_2
     clear hcz54_3 hcz54_4 hcz54_5 hcz54_6 hcz54_7 hcz54_8
     clear hfz54_0 hfz54_1 hfz54_2 hfz54_3 hfz54_4 hfz54_5 hfz54_6 hfz54_7 hfz54_8
     obtain ⟨x56_2, rfl, HA, HK2, BK187, HB⟩ := hrel
     cases gk with
     | zero => exact absurd HA.out (by simp [spec_ContentOk.l0])
     | succ k2 =>
      have H := HA.out
      clear HA
      simp only [spec_ContentOk.l0] at H
      by_cases c55 : x56_2 < (l0_3.length : Int)
      ·
       rw [if_pos c55] at H
       have c55b0 : decide (x56_2 < (l0_3.length : Int)) = true := decide_eq_true c55
       clear c55
       by_cases c56 : 0 ≤ x56_2
       ·
        rw [if_pos c56] at H
        have c56b0 : decide (0 ≤ x56_2) = true := decide_eq_true c56
        clear c56
        by_cases c57 : x56_2 < (l0_3.length : Int)
        ·
         rw [if_pos c57] at H
         have c57b0 : decide (x56_2 < (l0_3.length : Int)) = true := decide_eq_true c57
         clear c57
         replace H := Option.bind_eq_some_iff.mp H
         obtain ⟨t196, A580, H⟩ := H
         replace H : (if t196 = true then ((spec_VersionOk.f k2 ((rd_T46 l0_3 x56_2).f1)).bind fun t197 => (if t197 = true then (spec_ContentOk.l0 k2 l0_3 (l0_3.length : Int) (wrap64 (x56_2 + 1)) a0_0 a0_1 a0_2 l0_3 l0_4 l0_5 l0_6 l0_7 l0_8) else (some false))) else (some false)) = some r := H
         have A58 := Aside0.mk A580
         clear A580
         by_cases c59 : t196 = true
         ·
          subst c59
          have H1 : ((spec_VersionOk.f k2 ((rd_T46 l0_3 x56_2).f1)).bind fun t197 => (if t197 = true then (spec_ContentOk.l0 k2 l0_3 (l0_3.length : Int) (wrap64 (x56_2 + 1)) a0_0 a0_1 a0_2 l0_3 l0_4 l0_5 l0_6 l0_7 l0_8) else (some false))) = some r := by rw [if_pos rfl] at H; exact H
          clear H
          have H := H1
          clear H1
          replace H := Option.bind_eq_some_iff.mp H
          obtain ⟨t197, A600, H⟩ := H
          replace H : (if t197 = true then (spec_ContentOk.l0 k2 l0_3 (l0_3.length : Int) (wrap64 (x56_2 + 1)) a0_0 a0_1 a0_2 l0_3 l0_4 l0_5 l0_6 l0_7 l0_8) else (some false)) = some r := H
          have A60 := Aside0.mk A600
          clear A600
          by_cases c61 : t197 = true
          ·
           subst c61
           have H1 : (spec_ContentOk.l0 k2 l0_3 (l0_3.length : Int) (wrap64 (x56_2 + 1)) a0_0 a0_1 a0_2 l0_3 l0_4 l0_5 l0_6 l0_7 l0_8) = some r := by rw [if_pos rfl] at H; exact H
           clear H
           have H := H1
           clear H1
           have H' := Aside0.mk H
           clear H
           have p194 : 0 ≤ (x56_2 : Int) := of_decide_eq_true (by first | (with_reducible assumption) | assumption)
           have q194 : x56_2 < (l0_3.length : Int) := of_decide_eq_true (by first | (with_reducible assumption) | assumption)
           obtain ⟨ad194, e194, hx194_0, hx194_1, hx194_2⟩ := at_T46 HR0_3.out x56_2 p194 q194
           cases e194
           replace hx194_0 := (HB.out.cell (World.block_lt_of_cell? w _ hx194_0)).trans hx194_0
           replace hx194_1 := (HB.out.cell (World.block_lt_of_cell? w _ hx194_1)).trans hx194_1
           replace hx194_2 := (HB.out.cell (World.block_lt_of_cell? w _ hx194_2)).trans hx194_2
           replace p194 := eq_true p194
           replace q194 := eq_true q194
           go_wp2_with (first | ((with_reducible refine gate_dst (N := 4) rfl ?_); (try (refine gate_guard (by rfl) ?_; dsimp only)); refine box_event ?hg (N := 4) ?hd (cs := #[.string (⟨#[]⟩ : ByteArray), .string (⟨#[]⟩ : ByteArray), .bool false]) (t := 46) ?hr ?_; (case hd => rfl); (case hg => rfl); (case hr => first | (go_simp; done) | (go_simp; rfl)); intro gb195 hg w62 hbox hb; have n0_ := Aside0.mk (blk_below (g := gb187) (o := .cells #[.string a0_0, .string a0_1, .string a0_2, .slice (some ad194) l0_3.length c0_3, .slice A0_4 l0_4.length c0_4, .slice A0_5 l0_5.length c0_5, .slice A0_6 l0_6.length c0_6, .slice A0_7 l0_7.length c0_7, .slice A0_8 l0_8.length c0_8] 32 (0, 0)) (by (with_reducible repeat (first | refine blk_drewN ?_ _ | refine blk_drew ?_ | refine blk_alloc ?_ _)); exact BK187.out) hb); have n1_ := Aside0.mk (below_step (by repeat (first | (with_reducible first | exact HB.out | apply below_alloc | apply pw_below_drewN | apply below_drew1 | refine below_set ?_ GE187.out) | exact HB.out)) hb); have n2_ := Aside0.mk (hbox); have n3_ := Aside0.mk ((by rw [hg]; exact (below_size (by repeat (first | (with_reducible first | exact HB.out | apply below_alloc | apply pw_below_drewN | apply below_drew1 | refine below_set ?_ GE187.out) | exact HB.out))) : w.heap.size ≤ gb195)); have n4_ := Aside0.mk ((by rw [hg]; exact (below_size (by repeat (first | (with_reducible first | exact HB.out | apply below_alloc | apply pw_below_drewN | apply below_drew1 | refine below_set ?_ GE187.out) | exact HB.out))) : w.heap.size ≤ gb195)); have n5_ := Aside0.mk ((by rw [hg]; exact Nat.ne_of_lt (blk_lt (g := gb187) (o := .cells #[.string a0_0, .string a0_1, .string a0_2, .slice (some ad194) l0_3.length c0_3, .slice A0_4 l0_4.length c0_4, .slice A0_5 l0_5.length c0_5, .slice A0_6 l0_6.length c0_6, .slice A0_7 l0_7.length c0_7, .slice A0_8 l0_8.length c0_8] 32 (0, 0)) (by (with_reducible repeat (first | refine blk_drewN ?_ _ | refine blk_drew ?_ | refine blk_alloc ?_ _)); exact BK187.out)) : gb187 ≠ gb195)); have n6_ := Aside0.mk ((by rw [hg]; exact Nat.ne_of_gt (blk_lt (g := gb187) (o := .cells #[.string a0_0, .string a0_1, .string a0_2, .slice (some ad194) l0_3.length c0_3, .slice A0_4 l0_4.length c0_4, .slice A0_5 l0_5.length c0_5, .slice A0_6 l0_6.length c0_6, .slice A0_7 l0_7.length c0_7, .slice A0_8 l0_8.length c0_8] 32 (0, 0)) (by (with_reducible repeat (first | refine blk_drewN ?_ _ | refine blk_drew ?_ | refine blk_alloc ?_ _)); exact BK187.out)) : gb195 ≠ gb187)); clear BK187; clear HB; have BK187 := n0_; have HB := n1_; have BK195 := n2_; have GW195 := n3_; have GE195 := n4_; have NB187_195 := n5_; have NB195_187 := n6_; clear n0_ n1_ n2_ n3_ n4_ n5_ n6_; clear hb hbox hg; have hnb63 := NB195_187.out; have hnc63 := NB187_195.out; have hcz64_0 : w62.cell? ⟨gb195, 0, none⟩ = some (.string (⟨#[]⟩ : ByteArray)) := (blk_cell BK195.out 0).trans rfl; have hcz64_1 : w62.cell? ⟨gb195, 1, none⟩ = some (.string (⟨#[]⟩ : ByteArray)) := (blk_cell BK195.out 1).trans rfl; have hcz64_2 : w62.cell? ⟨gb195, 2, none⟩ = some (.bool false) := (blk_cell BK195.out 2).trans rfl; have hfz64_0 := blk_frozen BK195.out 0; have hfz64_1 := blk_frozen BK195.out 1; have hfz64_2 := blk_frozen BK195.out 2) | ((with_reducible refine gate_callee (f := 9) rfl ?_); refine goesL_ (some 62) rfl rfl Tryd.func9 (by kernel_rfl) rfl #[.string ((rd_T46 l0_3 x56_2).f0)] rfl (by (try simp only [List.map_toArray, List.map_cons, List.map_nil]); first | done | rfl | (simp only [List.length_drop, List.length_take]; rfl)) ?_; (with_reducible refine (spec_PathOk.calls k2 ((rd_T46 l0_3 x56_2).f0) true _ A58.out).mono ?_); rintro e w65 ⟨rfl, hb⟩; refine ⟨_, rfl, ?_⟩; have n0_ := Aside0.mk (blk_below (g := gb187) (o := .cells #[.string a0_0, .string a0_1, .string a0_2, .slice (some ad194) l0_3.length c0_3, .slice A0_4 l0_4.length c0_4, .slice A0_5 l0_5.length c0_5, .slice A0_6 l0_6.length c0_6, .slice A0_7 l0_7.length c0_7, .slice A0_8 l0_8.length c0_8] 32 (0, 0)) (by (with_reducible repeat (first | refine blk_drewN ?_ _ | refine blk_drew ?_ | refine blk_alloc ?_ _)); refine blk_far ?_ NB187_195.out _; (with_reducible repeat (first | refine blk_drewN ?_ _ | refine blk_drew ?_ | refine blk_alloc ?_ _)); refine blk_far ?_ NB187_195.out _; (with_reducible repeat (first | refine blk_drewN ?_ _ | refine blk_drew ?_ | refine blk_alloc ?_ _)); refine blk_far ?_ NB187_195.out _; (with_reducible repeat (first | refine blk_drewN ?_ _ | refine blk_drew ?_ | refine blk_alloc ?_ _)); exact BK187.out) hb); have n1_ := Aside0.mk (blk_below (g := gb195) (o := .cells #[.string ((rd_T46 l0_3 x56_2).f0), .string ((rd_T46 l0_3 x56_2).f1), .bool ((rd_T46 l0_3 x56_2).f2)] 46 (0, 0)) (by (with_reducible repeat (first | refine blk_drewN ?_ _ | refine blk_drew ?_ | refine blk_alloc ?_ _)); refine blk_put (cs := #[.string ((rd_T46 l0_3 x56_2).f0), .string ((rd_T46 l0_3 x56_2).f1), .bool false]) ?_ 2 _ rfl; (with_reducible repeat (first | refine blk_drewN ?_ _ | refine blk_drew ?_ | refine blk_alloc ?_ _)); refine blk_put (cs := #[.string ((rd_T46 l0_3 x56_2).f0), .string (⟨#[]⟩ : ByteArray), .bool false]) ?_ 1 _ rfl; (with_reducible repeat (first | refine blk_drewN ?_ _ | refine blk_drew ?_ | refine blk_alloc ?_ _)); refine blk_put (cs := #[.string (⟨#[]⟩ : ByteArray), .string (⟨#[]⟩ : ByteArray), .bool false]) ?_ 0 _ rfl; (with_reducible repeat (first | refine blk_drewN ?_ _ | refine blk_drew ?_ | refine blk_alloc ?_ _)); exact BK195.out) hb); have n2_ := Aside0.mk (below_step (by repeat (first | (with_reducible first | exact HB.out | apply below_alloc | apply pw_below_drewN | apply below_drew1 | refine below_set ?_ GE187.out | refine below_set ?_ GE195.out) | exact HB.out)) hb); clear BK187; clear BK195; clear HB; have BK187 := n0_; have BK195 := n1_; have HB := n2_; clear n0_ n1_ n2_; (try clear hb); (try clear hb2); (try clear hk); (try clear hi); have hcz66_0 : w65.cell? ⟨gb195, 0, none⟩ = some (.string ((rd_T46 l0_3 x56_2).f0)) := (blk_cell BK195.out 0).trans rfl; have hcz66_1 : w65.cell? ⟨gb195, 1, none⟩ = some (.string ((rd_T46 l0_3 x56_2).f1)) := (blk_cell BK195.out 1).trans rfl; have hcz66_2 : w65.cell? ⟨gb195, 2, none⟩ = some (.bool ((rd_T46 l0_3 x56_2).f2)) := (blk_cell BK195.out 2).trans rfl; have hfz66_0 := blk_frozen BK195.out 0; have hfz66_1 := blk_frozen BK195.out 1; have hfz66_2 := blk_frozen BK195.out 2) | (go_at_call 27; (with_reducible refine (spec_VersionOk.calls k2 ((rd_T46 l0_3 x56_2).f1) true _ A60.out).mono ?_); rintro e w67 ⟨rfl, hb⟩; have n0_ := Aside0.mk (blk_below (g := gb187) (o := .cells #[.string a0_0, .string a0_1, .string a0_2, .slice (some ad194) l0_3.length c0_3, .slice A0_4 l0_4.length c0_4, .slice A0_5 l0_5.length c0_5, .slice A0_6 l0_6.length c0_6, .slice A0_7 l0_7.length c0_7, .slice A0_8 l0_8.length c0_8] 32 (0, 0)) (by (with_reducible repeat (first | refine blk_drewN ?_ _ | refine blk_drew ?_ | refine blk_alloc ?_ _)); exact BK187.out) hb); have n1_ := Aside0.mk (blk_below (g := gb195) (o := .cells #[.string ((rd_T46 l0_3 x56_2).f0), .string ((rd_T46 l0_3 x56_2).f1), .bool ((rd_T46 l0_3 x56_2).f2)] 46 (0, 0)) (by (with_reducible repeat (first | refine blk_drewN ?_ _ | refine blk_drew ?_ | refine blk_alloc ?_ _)); exact BK195.out) hb); have n2_ := Aside0.mk (below_step (by repeat (first | (with_reducible first | exact HB.out | apply below_alloc | apply pw_below_drewN | apply below_drew1 | refine below_set ?_ GE187.out | refine below_set ?_ GE195.out) | exact HB.out)) hb); clear BK187; clear BK195; clear HB; have BK187 := n0_; have BK195 := n1_; have HB := n2_; clear n0_ n1_ n2_; (try clear hb); (try clear hb2); (try clear hk); (try clear hi)))
           go_roundg k2
           case measure => have := HJ1.out; have := HK2.out; omega
           case rel => exact ⟨(wrap64 (x56_2 + 1)), (by first | rfl | (simp; done) | (simp [*]; done)), H', ⟨by have := HJ1.out; have := HK2.out; omega⟩, ⟨by (with_reducible repeat (first | refine blk_drewN ?_ _ | refine blk_drew ?_ | refine blk_alloc ?_ _)); exact BK187.out⟩, ⟨by repeat (first | (with_reducible first | exact HB.out | apply below_alloc | apply pw_below_drewN | apply below_drew1 | refine below_set ?_ GE187.out | refine below_set ?_ GE195.out) | exact HB.out)⟩⟩
          ·
           replace c61 := Bool.eq_false_iff.mpr c61
           subst c61
           have H1 : (some false) = some r := by rw [if_neg (show ¬ (false = true) by decide)] at H; exact H
           clear H
           have H := H1
           clear H1
           obtain rfl := Option.some.inj H
           have p194 : 0 ≤ (x56_2 : Int) := of_decide_eq_true (by first | (with_reducible assumption) | assumption)
           have q194 : x56_2 < (l0_3.length : Int) := of_decide_eq_true (by first | (with_reducible assumption) | assumption)
           obtain ⟨ad194, e194, hx194_0, hx194_1, hx194_2⟩ := at_T46 HR0_3.out x56_2 p194 q194
           cases e194
           replace hx194_0 := (HB.out.cell (World.block_lt_of_cell? w _ hx194_0)).trans hx194_0
           replace hx194_1 := (HB.out.cell (World.block_lt_of_cell? w _ hx194_1)).trans hx194_1
           replace hx194_2 := (HB.out.cell (World.block_lt_of_cell? w _ hx194_2)).trans hx194_2
           replace p194 := eq_true p194
           replace q194 := eq_true q194
           go_wp2_with (first | ((with_reducible refine gate_dst (N := 4) rfl ?_); (try (refine gate_guard (by rfl) ?_; dsimp only)); refine box_event ?hg (N := 4) ?hd (cs := #[.string (⟨#[]⟩ : ByteArray), .string (⟨#[]⟩ : ByteArray), .bool false]) (t := 46) ?hr ?_; (case hd => rfl); (case hg => rfl); (case hr => first | (go_simp; done) | (go_simp; rfl)); intro gb195 hg w68 hbox hb; have n0_ := Aside0.mk (blk_below (g := gb187) (o := .cells #[.string a0_0, .string a0_1, .string a0_2, .slice (some ad194) l0_3.length c0_3, .slice A0_4 l0_4.length c0_4, .slice A0_5 l0_5.length c0_5, .slice A0_6 l0_6.length c0_6, .slice A0_7 l0_7.length c0_7, .slice A0_8 l0_8.length c0_8] 32 (0, 0)) (by (with_reducible repeat (first | refine blk_drewN ?_ _ | refine blk_drew ?_ | refine blk_alloc ?_ _)); exact BK187.out) hb); have n1_ := Aside0.mk (below_step (by repeat (first | (with_reducible first | exact HB.out | apply below_alloc | apply pw_below_drewN | apply below_drew1 | refine below_set ?_ GE187.out) | exact HB.out)) hb); have n2_ := Aside0.mk (hbox); have n3_ := Aside0.mk ((by rw [hg]; exact (below_size (by repeat (first | (with_reducible first | exact HB.out | apply below_alloc | apply pw_below_drewN | apply below_drew1 | refine below_set ?_ GE187.out) | exact HB.out))) : w.heap.size ≤ gb195)); have n4_ := Aside0.mk ((by rw [hg]; exact (below_size (by repeat (first | (with_reducible first | exact HB.out | apply below_alloc | apply pw_below_drewN | apply below_drew1 | refine below_set ?_ GE187.out) | exact HB.out))) : w.heap.size ≤ gb195)); have n5_ := Aside0.mk ((by rw [hg]; exact Nat.ne_of_lt (blk_lt (g := gb187) (o := .cells #[.string a0_0, .string a0_1, .string a0_2, .slice (some ad194) l0_3.length c0_3, .slice A0_4 l0_4.length c0_4, .slice A0_5 l0_5.length c0_5, .slice A0_6 l0_6.length c0_6, .slice A0_7 l0_7.length c0_7, .slice A0_8 l0_8.length c0_8] 32 (0, 0)) (by (with_reducible repeat (first | refine blk_drewN ?_ _ | refine blk_drew ?_ | refine blk_alloc ?_ _)); exact BK187.out)) : gb187 ≠ gb195)); have n6_ := Aside0.mk ((by rw [hg]; exact Nat.ne_of_gt (blk_lt (g := gb187) (o := .cells #[.string a0_0, .string a0_1, .string a0_2, .slice (some ad194) l0_3.length c0_3, .slice A0_4 l0_4.length c0_4, .slice A0_5 l0_5.length c0_5, .slice A0_6 l0_6.length c0_6, .slice A0_7 l0_7.length c0_7, .slice A0_8 l0_8.length c0_8] 32 (0, 0)) (by (with_reducible repeat (first | refine blk_drewN ?_ _ | refine blk_drew ?_ | refine blk_alloc ?_ _)); exact BK187.out)) : gb195 ≠ gb187)); clear BK187; clear HB; have BK187 := n0_; have HB := n1_; have BK195 := n2_; have GW195 := n3_; have GE195 := n4_; have NB187_195 := n5_; have NB195_187 := n6_; clear n0_ n1_ n2_ n3_ n4_ n5_ n6_; clear hb hbox hg; have hnb69 := NB195_187.out; have hnc69 := NB187_195.out; have hcz70_0 : w68.cell? ⟨gb195, 0, none⟩ = some (.string (⟨#[]⟩ : ByteArray)) := (blk_cell BK195.out 0).trans rfl; have hcz70_1 : w68.cell? ⟨gb195, 1, none⟩ = some (.string (⟨#[]⟩ : ByteArray)) := (blk_cell BK195.out 1).trans rfl; have hcz70_2 : w68.cell? ⟨gb195, 2, none⟩ = some (.bool false) := (blk_cell BK195.out 2).trans rfl; have hfz70_0 := blk_frozen BK195.out 0; have hfz70_1 := blk_frozen BK195.out 1; have hfz70_2 := blk_frozen BK195.out 2) | ((with_reducible refine gate_callee (f := 9) rfl ?_); refine goesL_ (some 62) rfl rfl Tryd.func9 (by kernel_rfl) rfl #[.string ((rd_T46 l0_3 x56_2).f0)] rfl (by (try simp only [List.map_toArray, List.map_cons, List.map_nil]); first | done | rfl | (simp only [List.length_drop, List.length_take]; rfl)) ?_; (with_reducible refine (spec_PathOk.calls k2 ((rd_T46 l0_3 x56_2).f0) true _ A58.out).mono ?_); rintro e w71 ⟨rfl, hb⟩; refine ⟨_, rfl, ?_⟩; have n0_ := Aside0.mk (blk_below (g := gb187) (o := .cells #[.string a0_0, .string a0_1, .string a0_2, .slice (some ad194) l0_3.length c0_3, .slice A0_4 l0_4.length c0_4, .slice A0_5 l0_5.length c0_5, .slice A0_6 l0_6.length c0_6, .slice A0_7 l0_7.length c0_7, .slice A0_8 l0_8.length c0_8] 32 (0, 0)) (by (with_reducible repeat (first | refine blk_drewN ?_ _ | refine blk_drew ?_ | refine blk_alloc ?_ _)); refine blk_far ?_ NB187_195.out _; (with_reducible repeat (first | refine blk_drewN ?_ _ | refine blk_drew ?_ | refine blk_alloc ?_ _)); refine blk_far ?_ NB187_195.out _; (with_reducible repeat (first | refine blk_drewN ?_ _ | refine blk_drew ?_ | refine blk_alloc ?_ _)); refine blk_far ?_ NB187_195.out _; (with_reducible repeat (first | refine blk_drewN ?_ _ | refine blk_drew ?_ | refine blk_alloc ?_ _)); exact BK187.out) hb); have n1_ := Aside0.mk (blk_below (g := gb195) (o := .cells #[.string ((rd_T46 l0_3 x56_2).f0), .string ((rd_T46 l0_3 x56_2).f1), .bool ((rd_T46 l0_3 x56_2).f2)] 46 (0, 0)) (by (with_reducible repeat (first | refine blk_drewN ?_ _ | refine blk_drew ?_ | refine blk_alloc ?_ _)); refine blk_put (cs := #[.string ((rd_T46 l0_3 x56_2).f0), .string ((rd_T46 l0_3 x56_2).f1), .bool false]) ?_ 2 _ rfl; (with_reducible repeat (first | refine blk_drewN ?_ _ | refine blk_drew ?_ | refine blk_alloc ?_ _)); refine blk_put (cs := #[.string ((rd_T46 l0_3 x56_2).f0), .string (⟨#[]⟩ : ByteArray), .bool false]) ?_ 1 _ rfl; (with_reducible repeat (first | refine blk_drewN ?_ _ | refine blk_drew ?_ | refine blk_alloc ?_ _)); refine blk_put (cs := #[.string (⟨#[]⟩ : ByteArray), .string (⟨#[]⟩ : ByteArray), .bool false]) ?_ 0 _ rfl; (with_reducible repeat (first | refine blk_drewN ?_ _ | refine blk_drew ?_ | refine blk_alloc ?_ _)); exact BK195.out) hb); have n2_ := Aside0.mk (below_step (by repeat (first | (with_reducible first | exact HB.out | apply below_alloc | apply pw_below_drewN | apply below_drew1 | refine below_set ?_ GE187.out | refine below_set ?_ GE195.out) | exact HB.out)) hb); clear BK187; clear BK195; clear HB; have BK187 := n0_; have BK195 := n1_; have HB := n2_; clear n0_ n1_ n2_; (try clear hb); (try clear hb2); (try clear hk); (try clear hi); have hcz72_0 : w71.cell? ⟨gb195, 0, none⟩ = some (.string ((rd_T46 l0_3 x56_2).f0)) := (blk_cell BK195.out 0).trans rfl; have hcz72_1 : w71.cell? ⟨gb195, 1, none⟩ = some (.string ((rd_T46 l0_3 x56_2).f1)) := (blk_cell BK195.out 1).trans rfl; have hcz72_2 : w71.cell? ⟨gb195, 2, none⟩ = some (.bool ((rd_T46 l0_3 x56_2).f2)) := (blk_cell BK195.out 2).trans rfl; have hfz72_0 := blk_frozen BK195.out 0; have hfz72_1 := blk_frozen BK195.out 1; have hfz72_2 := blk_frozen BK195.out 2) | (go_at_call 27; (with_reducible refine (spec_VersionOk.calls k2 ((rd_T46 l0_3 x56_2).f1) false _ A60.out).mono ?_); rintro e w73 ⟨rfl, hb⟩; have n0_ := Aside0.mk (blk_below (g := gb187) (o := .cells #[.string a0_0, .string a0_1, .string a0_2, .slice (some ad194) l0_3.length c0_3, .slice A0_4 l0_4.length c0_4, .slice A0_5 l0_5.length c0_5, .slice A0_6 l0_6.length c0_6, .slice A0_7 l0_7.length c0_7, .slice A0_8 l0_8.length c0_8] 32 (0, 0)) (by (with_reducible repeat (first | refine blk_drewN ?_ _ | refine blk_drew ?_ | refine blk_alloc ?_ _)); exact BK187.out) hb); have n1_ := Aside0.mk (blk_below (g := gb195) (o := .cells #[.string ((rd_T46 l0_3 x56_2).f0), .string ((rd_T46 l0_3 x56_2).f1), .bool ((rd_T46 l0_3 x56_2).f2)] 46 (0, 0)) (by (with_reducible repeat (first | refine blk_drewN ?_ _ | refine blk_drew ?_ | refine blk_alloc ?_ _)); exact BK195.out) hb); have n2_ := Aside0.mk (below_step (by repeat (first | (with_reducible first | exact HB.out | apply below_alloc | apply pw_below_drewN | apply below_drew1 | refine below_set ?_ GE187.out | refine below_set ?_ GE195.out) | exact HB.out)) hb); clear BK187; clear BK195; clear HB; have BK187 := n0_; have BK195 := n1_; have HB := n2_; clear n0_ n1_ n2_; (try clear hb); (try clear hb2); (try clear hk); (try clear hi)))
           go_ret
           exact ⟨by first | rfl | (simp [errW_none, errW_some] <;> rfl) | (simp [*, errW_none, errW_some] <;> rfl), by repeat (first | (with_reducible first | exact HB.out | apply below_alloc | apply pw_below_drewN | apply below_drew1 | refine below_set ?_ GE187.out | refine below_set ?_ GE195.out) | exact HB.out)⟩
         ·
          replace c59 := Bool.eq_false_iff.mpr c59
          subst c59
          have H1 : (some false) = some r := by rw [if_neg (show ¬ (false = true) by decide)] at H; exact H
          clear H
          have H := H1
          clear H1
          obtain rfl := Option.some.inj H
          have p194 : 0 ≤ (x56_2 : Int) := of_decide_eq_true (by first | (with_reducible assumption) | assumption)
          have q194 : x56_2 < (l0_3.length : Int) := of_decide_eq_true (by first | (with_reducible assumption) | assumption)
          obtain ⟨ad194, e194, hx194_0, hx194_1, hx194_2⟩ := at_T46 HR0_3.out x56_2 p194 q194
          cases e194
          replace hx194_0 := (HB.out.cell (World.block_lt_of_cell? w _ hx194_0)).trans hx194_0
          replace hx194_1 := (HB.out.cell (World.block_lt_of_cell? w _ hx194_1)).trans hx194_1
          replace hx194_2 := (HB.out.cell (World.block_lt_of_cell? w _ hx194_2)).trans hx194_2
          replace p194 := eq_true p194
          replace q194 := eq_true q194
          go_wp2_with (first | ((with_reducible refine gate_dst (N := 4) rfl ?_); (try (refine gate_guard (by rfl) ?_; dsimp only)); refine box_event ?hg (N := 4) ?hd (cs := #[.string (⟨#[]⟩ : ByteArray), .string (⟨#[]⟩ : ByteArray), .bool false]) (t := 46) ?hr ?_; (case hd => rfl); (case hg => rfl); (case hr => first | (go_simp; done) | (go_simp; rfl)); intro gb195 hg w74 hbox hb; have n0_ := Aside0.mk (blk_below (g := gb187) (o := .cells #[.string a0_0, .string a0_1, .string a0_2, .slice (some ad194) l0_3.length c0_3, .slice A0_4 l0_4.length c0_4, .slice A0_5 l0_5.length c0_5, .slice A0_6 l0_6.length c0_6, .slice A0_7 l0_7.length c0_7, .slice A0_8 l0_8.length c0_8] 32 (0, 0)) (by (with_reducible repeat (first | refine blk_drewN ?_ _ | refine blk_drew ?_ | refine blk_alloc ?_ _)); exact BK187.out) hb); have n1_ := Aside0.mk (below_step (by repeat (first | (with_reducible first | exact HB.out | apply below_alloc | apply pw_below_drewN | apply below_drew1 | refine below_set ?_ GE187.out) | exact HB.out)) hb); have n2_ := Aside0.mk (hbox); have n3_ := Aside0.mk ((by rw [hg]; exact (below_size (by repeat (first | (with_reducible first | exact HB.out | apply below_alloc | apply pw_below_drewN | apply below_drew1 | refine below_set ?_ GE187.out) | exact HB.out))) : w.heap.size ≤ gb195)); have n4_ := Aside0.mk ((by rw [hg]; exact (below_size (by repeat (first | (with_reducible first | exact HB.out | apply below_alloc | apply pw_below_drewN | apply below_drew1 | refine below_set ?_ GE187.out) | exact HB.out))) : w.heap.size ≤ gb195)); have n5_ := Aside0.mk ((by rw [hg]; exact Nat.ne_of_lt (blk_lt (g := gb187) (o := .cells #[.string a0_0, .string a0_1, .string a0_2, .slice (some ad194) l0_3.length c0_3, .slice A0_4 l0_4.length c0_4, .slice A0_5 l0_5.length c0_5, .slice A0_6 l0_6.length c0_6, .slice A0_7 l0_7.length c0_7, .slice A0_8 l0_8.length c0_8] 32 (0, 0)) (by (with_reducible repeat (first | refine blk_drewN ?_ _ | refine blk_drew ?_ | refine blk_alloc ?_ _)); exact BK187.out)) : gb187 ≠ gb195)); have n6_ := Aside0.mk ((by rw [hg]; exact Nat.ne_of_gt (blk_lt (g := gb187) (o := .cells #[.string a0_0, .string a0_1, .string a0_2, .slice (some ad194) l0_3.length c0_3, .slice A0_4 l0_4.length c0_4, .slice A0_5 l0_5.length c0_5, .slice A0_6 l0_6.length c0_6, .slice A0_7 l0_7.length c0_7, .slice A0_8 l0_8.length c0_8] 32 (0, 0)) (by (with_reducible repeat (first | refine blk_drewN ?_ _ | refine blk_drew ?_ | refine blk_alloc ?_ _)); exact BK187.out)) : gb195 ≠ gb187)); clear BK187; clear HB; have BK187 := n0_; have HB := n1_; have BK195 := n2_; have GW195 := n3_; have GE195 := n4_; have NB187_195 := n5_; have NB195_187 := n6_; clear n0_ n1_ n2_ n3_ n4_ n5_ n6_; clear hb hbox hg; have hnb75 := NB195_187.out; have hnc75 := NB187_195.out; have hcz76_0 : w74.cell? ⟨gb195, 0, none⟩ = some (.string (⟨#[]⟩ : ByteArray)) := (blk_cell BK195.out 0).trans rfl; have hcz76_1 : w74.cell? ⟨gb195, 1, none⟩ = some (.string (⟨#[]⟩ : ByteArray)) := (blk_cell BK195.out 1).trans rfl; have hcz76_2 : w74.cell? ⟨gb195, 2, none⟩ = some (.bool false) := (blk_cell BK195.out 2).trans rfl; have hfz76_0 := blk_frozen BK195.out 0; have hfz76_1 := blk_frozen BK195.out 1; have hfz76_2 := blk_frozen BK195.out 2) | ((with_reducible refine gate_callee (f := 9) rfl ?_); refine goesL_ (some 62) rfl rfl Tryd.func9 (by kernel_rfl) rfl #[.string ((rd_T46 l0_3 x56_2).f0)] rfl (by (try simp only [List.map_toArray, List.map_cons, List.map_nil]); first | done | rfl | (simp only [List.length_drop, List.length_take]; rfl)) ?_; (with_reducible refine (spec_PathOk.calls k2 ((rd_T46 l0_3 x56_2).f0) false _ A58.out).mono ?_); rintro e w77 ⟨rfl, hb⟩; refine ⟨_, rfl, ?_⟩; have n0_ := Aside0.mk (blk_below (g := gb187) (o := .cells #[.string a0_0, .string a0_1, .string a0_2, .slice (some ad194) l0_3.length c0_3, .slice A0_4 l0_4.length c0_4, .slice A0_5 l0_5.length c0_5, .slice A0_6 l0_6.length c0_6, .slice A0_7 l0_7.length c0_7, .slice A0_8 l0_8.length c0_8] 32 (0, 0)) (by (with_reducible repeat (first | refine blk_drewN ?_ _ | refine blk_drew ?_ | refine blk_alloc ?_ _)); refine blk_far ?_ NB187_195.out _; (with_reducible repeat (first | refine blk_drewN ?_ _ | refine blk_drew ?_ | refine blk_alloc ?_ _)); refine blk_far ?_ NB187_195.out _; (with_reducible repeat (first | refine blk_drewN ?_ _ | refine blk_drew ?_ | refine blk_alloc ?_ _)); refine blk_far ?_ NB187_195.out _; (with_reducible repeat (first | refine blk_drewN ?_ _ | refine blk_drew ?_ | refine blk_alloc ?_ _)); exact BK187.out) hb); have n1_ := Aside0.mk (blk_below (g := gb195) (o := .cells #[.string ((rd_T46 l0_3 x56_2).f0), .string ((rd_T46 l0_3 x56_2).f1), .bool ((rd_T46 l0_3 x56_2).f2)] 46 (0, 0)) (by (with_reducible repeat (first | refine blk_drewN ?_ _ | refine blk_drew ?_ | refine blk_alloc ?_ _)); refine blk_put (cs := #[.string ((rd_T46 l0_3 x56_2).f0), .string ((rd_T46 l0_3 x56_2).f1), .bool false]) ?_ 2 _ rfl; (with_reducible repeat (first | refine blk_drewN ?_ _ | refine blk_drew ?_ | refine blk_alloc ?_ _)); refine blk_put (cs := #[.string ((rd_T46 l0_3 x56_2).f0), .string (⟨#[]⟩ : ByteArray), .bool false]) ?_ 1 _ rfl; (with_reducible repeat (first | refine blk_drewN ?_ _ | refine blk_drew ?_ | refine blk_alloc ?_ _)); refine blk_put (cs := #[.string (⟨#[]⟩ : ByteArray), .string (⟨#[]⟩ : ByteArray), .bool false]) ?_ 0 _ rfl; (with_reducible repeat (first | refine blk_drewN ?_ _ | refine blk_drew ?_ | refine blk_alloc ?_ _)); exact BK195.out) hb); have n2_ := Aside0.mk (below_step (by repeat (first | (with_reducible first | exact HB.out | apply below_alloc | apply pw_below_drewN | apply below_drew1 | refine below_set ?_ GE187.out | refine below_set ?_ GE195.out) | exact HB.out)) hb); clear BK187; clear BK195; clear HB; have BK187 := n0_; have BK195 := n1_; have HB := n2_; clear n0_ n1_ n2_; (try clear hb); (try clear hb2); (try clear hk); (try clear hi)))
          go_ret
          exact ⟨by first | rfl | (simp [errW_none, errW_some] <;> rfl) | (simp [*, errW_none, errW_some] <;> rfl), by repeat (first | (with_reducible first | exact HB.out | apply below_alloc | apply pw_below_drewN | apply below_drew1 | refine below_set ?_ GE187.out | refine below_set ?_ GE195.out) | exact HB.out)⟩
        ·
         rw [if_neg c57] at H
         exact absurd H (by simp)
       ·
        rw [if_neg c56] at H
        exact absurd H (by simp)
      ·
       rw [if_neg c55] at H
       have c55b0 : decide (x56_2 < (l0_3.length : Int)) = false := decide_eq_false c55
       clear c55
       have H' := Aside0.mk H
       clear H
       have hcz78_0 : wr.cell? ⟨gb187, 0, none⟩ = some (.string a0_0) := (blk_cell BK187.out 0).trans rfl
       have hcz78_1 : wr.cell? ⟨gb187, 1, none⟩ = some (.string a0_1) := (blk_cell BK187.out 1).trans rfl
       have hcz78_2 : wr.cell? ⟨gb187, 2, none⟩ = some (.string a0_2) := (blk_cell BK187.out 2).trans rfl
       have hcz78_3 : wr.cell? ⟨gb187, 3, none⟩ = some (.slice A0_3 l0_3.length c0_3) := (blk_cell BK187.out 3).trans rfl
       have hcz78_4 : wr.cell? ⟨gb187, 4, none⟩ = some (.slice A0_4 l0_4.length c0_4) := (blk_cell BK187.out 4).trans rfl
       have hcz78_5 : wr.cell? ⟨gb187, 5, none⟩ = some (.slice A0_5 l0_5.length c0_5) := (blk_cell BK187.out 5).trans rfl
       have hcz78_6 : wr.cell? ⟨gb187, 6, none⟩ = some (.slice A0_6 l0_6.length c0_6) := (blk_cell BK187.out 6).trans rfl
       have hcz78_7 : wr.cell? ⟨gb187, 7, none⟩ = some (.slice A0_7 l0_7.length c0_7) := (blk_cell BK187.out 7).trans rfl
       have hcz78_8 : wr.cell? ⟨gb187, 8, none⟩ = some (.slice A0_8 l0_8.length c0_8) := (blk_cell BK187.out 8).trans rfl
       have hfz78_0 := blk_frozen BK187.out 0
       have hfz78_1 := blk_frozen BK187.out 1
       have hfz78_2 := blk_frozen BK187.out 2
       have hfz78_3 := blk_frozen BK187.out 3
       have hfz78_4 := blk_frozen BK187.out 4
       have hfz78_5 := blk_frozen BK187.out 5
       have hfz78_6 := blk_frozen BK187.out 6
       have hfz78_7 := blk_frozen BK187.out 7
       have hfz78_8 := blk_frozen BK187.out 8
       go_wp2
       go_loopg [74] k2 (fun kq v74 w' => ∃ (x74_3 : Int), v74 = .int .i64 x74_3 ∧ Aside0 (spec_ContentOk.l1 kq l0_4 (l0_4.length : Int) x74_3 a0_0 a0_1 a0_2 l0_3 l0_4 l0_5 l0_6 l0_7 l0_8 = some r) ∧ Aside0 (kq ≤ k2) ∧ Aside0 (w'.heap[gb187]? = some (.cells #[.string a0_0, .string a0_1, .string a0_2, (.slice A0_3 l0_3.length c0_3), (.slice A0_4 l0_4.length c0_4), (.slice A0_5 l0_5.length c0_5), (.slice A0_6 l0_6.length c0_6), (.slice A0_7 l0_7.length c0_7), (.slice A0_8 l0_8.length c0_8)] 32 (0, 0))) ∧ Aside0 (Below w.heap.size w w'))
       case atStart => exact ⟨(0), (by first | rfl | (simp; done) | (simp [*]; done)), H', ⟨Nat.le_refl _⟩, ⟨by (with_reducible repeat (first | refine blk_drewN ?_ _ | refine blk_drew ?_ | refine blk_alloc ?_ _)); exact BK187.out⟩, ⟨by repeat (first | (with_reducible first | exact HB.out | apply below_alloc | apply pw_below_drewN | apply below_drew1 | refine below_set ?_ GE187.out) | exact HB.out)⟩⟩
       case round =>
        clear H'
        clear c55b0
        clear hcz78_0 hcz78_1 hcz78_2 hcz78_3 hcz78_4 hcz78_5 hcz78_6 hcz78_7
        clear hcz78_8
        clear hfz78_0 hfz78_1
        clear hfz78_2 hfz78_3 hfz78_4 hfz78_5 hfz78_6 hfz78_7 hfz78_8
        obtain ⟨x74_3, rfl, HA, HK3, BK187, HB⟩ := hrel
        cases gk with
        | zero => exact absurd HA.out (by simp [spec_ContentOk.l1])
        | succ k3 =>
         have H := HA.out
         clear HA
         simp only [spec_ContentOk.l1] at H
         by_cases c79 : x74_3 < (l0_4.length : Int)
         ·
          rw [if_pos c79] at H
          have c79b0 : decide (x74_3 < (l0_4.length : Int)) = true := decide_eq_true c79
          clear c79
          by_cases c80 : 0 ≤ x74_3
          ·
           rw [if_pos c80] at H
           have c80b0 : decide (0 ≤ x74_3) = true := decide_eq_true c80
           clear c80
           by_cases c81 : x74_3 < (l0_4.length : Int)
           ·
            rw [if_pos c81] at H
            have c81b0 : decide (x74_3 < (l0_4.length : Int)) = true := decide_eq_true c81
            clear c81
            replace H := Option.bind_eq_some_iff.mp H
            obtain ⟨t200, A820, H⟩ := H
            replace H : (if t200 = true then ((spec_VersionOk.f k3 ((rd_T48 l0_4 x74_3).f1)).bind fun t201 => (if t201 = true then (spec_ContentOk.l1 k3 l0_4 (l0_4.length : Int) (wrap64 (x74_3 + 1)) a0_0 a0_1 a0_2 l0_3 l0_4 l0_5 l0_6 l0_7 l0_8) else (some false))) else (some false)) = some r := H
            have A82 := Aside0.mk A820
            clear A820
            by_cases c83 : t200 = true
            ·
             subst c83
             have H1 : ((spec_VersionOk.f k3 ((rd_T48 l0_4 x74_3).f1)).bind fun t201 => (if t201 = true then (spec_ContentOk.l1 k3 l0_4 (l0_4.length : Int) (wrap64 (x74_3 + 1)) a0_0 a0_1 a0_2 l0_3 l0_4 l0_5 l0_6 l0_7 l0_8) else (some false))) = some r := by rw [if_pos rfl] at H; exact H
             clear H
             have H := H1
             clear H1
             replace H := Option.bind_eq_some_iff.mp H
             obtain ⟨t201, A840, H⟩ := H
             replace H : (if t201 = true then (spec_ContentOk.l1 k3 l0_4 (l0_4.length : Int) (wrap64 (x74_3 + 1)) a0_0 a0_1 a0_2 l0_3 l0_4 l0_5 l0_6 l0_7 l0_8) else (some false)) = some r := H
             have A84 := Aside0.mk A840
             clear A840
             by_cases c85 : t201 = true
             ·
              subst c85
              have H1 : (spec_ContentOk.l1 k3 l0_4 (l0_4.length : Int) (wrap64 (x74_3 + 1)) a0_0 a0_1 a0_2 l0_3 l0_4 l0_5 l0_6 l0_7 l0_8) = some r := by rw [if_pos rfl] at H; exact H
              clear H
              have H := H1
              clear H1
              have H' := Aside0.mk H
              clear H
              have p198 : 0 ≤ (x74_3 : Int) := of_decide_eq_true (by first | (with_reducible assumption) | assumption)
              have q198 : x74_3 < (l0_4.length : Int) := of_decide_eq_true (by first | (with_reducible assumption) | assumption)
              obtain ⟨ad198, e198, hx198_0, hx198_1⟩ := at_T48 HR0_4.out x74_3 p198 q198
              cases e198
              replace hx198_0 := (HB.out.cell (World.block_lt_of_cell? w _ hx198_0)).trans hx198_0
              replace hx198_1 := (HB.out.cell (World.block_lt_of_cell? w _ hx198_1)).trans hx198_1
              replace p198 := eq_true p198
              replace q198 := eq_true q198
              go_wp2_with (first | ((with_reducible refine gate_dst (N := 6) rfl ?_); (try (refine gate_guard (by rfl) ?_; dsimp only)); refine box_event ?hg (N := 6) ?hd (cs := #[.string (⟨#[]⟩ : ByteArray), .string (⟨#[]⟩ : ByteArray)]) (t := 48) ?hr ?_; (case hd => rfl); (case hg => rfl); (case hr => first | (go_simp; done) | (go_simp; rfl)); intro gb199 hg w86 hbox hb; have n0_ := Aside0.mk (blk_below (g := gb187) (o := .cells #[.string a0_0, .string a0_1, .string a0_2, .slice A0_3 l0_3.length c0_3, .slice (some ad198) l0_4.length c0_4, .slice A0_5 l0_5.length c0_5, .slice A0_6 l0_6.length c0_6, .slice A0_7 l0_7.length c0_7, .slice A0_8 l0_8.length c0_8] 32 (0, 0)) (by (with_reducible repeat (first | refine blk_drewN ?_ _ | refine blk_drew ?_ | refine blk_alloc ?_ _)); exact BK187.out) hb); have n1_ := Aside0.mk (below_step (by repeat (first | (with_reducible first | exact HB.out | apply below_alloc | apply pw_below_drewN | apply below_drew1 | refine below_set ?_ GE187.out) | exact HB.out)) hb); have n2_ := Aside0.mk (hbox); have n3_ := Aside0.mk ((by rw [hg]; exact (below_size (by repeat (first | (with_reducible first | exact HB.out | apply below_alloc | apply pw_below_drewN | apply below_drew1 | refine below_set ?_ GE187.out) | exact HB.out))) : w.heap.size ≤ gb199)); have n4_ := Aside0.mk ((by rw [hg]; exact (below_size (by repeat (first | (with_reducible first | exact HB.out | apply below_alloc | apply pw_below_drewN | apply below_drew1 | refine below_set ?_ GE187.out) | exact HB.out))) : w.heap.size ≤ gb199)); have n5_ := Aside0.mk ((by rw [hg]; exact Nat.ne_of_lt (blk_lt (g := gb187) (o := .cells #[.string a0_0, .string a0_1, .string a0_2, .slice A0_3 l0_3.length c0_3, .slice (some ad198) l0_4.length c0_4, .slice A0_5 l0_5.length c0_5, .slice A0_6 l0_6.length c0_6, .slice A0_7 l0_7.length c0_7, .slice A0_8 l0_8.length c0_8] 32 (0, 0)) (by (with_reducible repeat (first | refine blk_drewN ?_ _ | refine blk_drew ?_ | refine blk_alloc ?_ _)); exact BK187.out)) : gb187 ≠ gb199)); have n6_ := Aside0.mk ((by rw [hg]; exact Nat.ne_of_gt (blk_lt (g := gb187) (o := .cells #[.string a0_0, .string a0_1, .string a0_2, .slice A0_3 l0_3.length c0_3, .slice (some ad198) l0_4.length c0_4, .slice A0_5 l0_5.length c0_5, .slice A0_6 l0_6.length c0_6, .slice A0_7 l0_7.length c0_7, .slice A0_8 l0_8.length c0_8] 32 (0, 0)) (by (with_reducible repeat (first | refine blk_drewN ?_ _ | refine blk_drew ?_ | refine blk_alloc ?_ _)); exact BK187.out)) : gb199 ≠ gb187)); clear BK187; clear HB; have BK187 := n0_; have HB := n1_; have BK199 := n2_; have GW199 := n3_; have GE199 := n4_; have NB187_199 := n5_; have NB199_187 := n6_; clear n0_ n1_ n2_ n3_ n4_ n5_ n6_; clear hb hbox hg; have hnb87 := NB199_187.out; have hnc87 := NB187_199.out; have hcz88_0 : w86.cell? ⟨gb199, 0, none⟩ = some (.string (⟨#[]⟩ : ByteArray)) := (blk_cell BK199.out 0).trans rfl; have hcz88_1 : w86.cell? ⟨gb199, 1, none⟩ = some (.string (⟨#[]⟩ : ByteArray)) := (blk_cell BK199.out 1).trans rfl; have hfz88_0 := blk_frozen BK199.out 0; have hfz88_1 := blk_frozen BK199.out 1) | ((with_reducible refine gate_callee (f := 9) rfl ?_); refine goesL_ (some 80) rfl rfl Tryd.func9 (by kernel_rfl) rfl #[.string ((rd_T48 l0_4 x74_3).f0)] rfl (by (try simp only [List.map_toArray, List.map_cons, List.map_nil]); first | done | rfl | (simp only [List.length_drop, List.length_take]; rfl)) ?_; (with_reducible refine (spec_PathOk.calls k3 ((rd_T48 l0_4 x74_3).f0) true _ A82.out).mono ?_); rintro e w89 ⟨rfl, hb⟩; refine ⟨_, rfl, ?_⟩; have n0_ := Aside0.mk (blk_below (g := gb187) (o := .cells #[.string a0_0, .string a0_1, .string a0_2, .slice A0_3 l0_3.length c0_3, .slice (some ad198) l0_4.length c0_4, .slice A0_5 l0_5.length c0_5, .slice A0_6 l0_6.length c0_6, .slice A0_7 l0_7.length c0_7, .slice A0_8 l0_8.length c0_8] 32 (0, 0)) (by (with_reducible repeat (first | refine blk_drewN ?_ _ | refine blk_drew ?_ | refine blk_alloc ?_ _)); refine blk_far ?_ NB187_199.out _; (with_reducible repeat (first | refine blk_drewN ?_ _ | refine blk_drew ?_ | refine blk_alloc ?_ _)); refine blk_far ?_ NB187_199.out _; (with_reducible repeat (first | refine blk_drewN ?_ _ | refine blk_drew ?_ | refine blk_alloc ?_ _)); exact BK187.out) hb); have n1_ := Aside0.mk (blk_below (g := gb199) (o := .cells #[.string ((rd_T48 l0_4 x74_3).f0), .string ((rd_T48 l0_4 x74_3).f1)] 48 (0, 0)) (by (with_reducible repeat (first | refine blk_drewN ?_ _ | refine blk_drew ?_ | refine blk_alloc ?_ _)); refine blk_put (cs := #[.string ((rd_T48 l0_4 x74_3).f0), .string (⟨#[]⟩ : ByteArray)]) ?_ 1 _ rfl; (with_reducible repeat (first | refine blk_drewN ?_ _ | refine blk_drew ?_ | refine blk_alloc ?_ _)); refine blk_put (cs := #[.string (⟨#[]⟩ : ByteArray), .string (⟨#[]⟩ : ByteArray)]) ?_ 0 _ rfl; (with_reducible repeat (first | refine blk_drewN ?_ _ | refine blk_drew ?_ | refine blk_alloc ?_ _)); exact BK199.out) hb); have n2_ := Aside0.mk (below_step (by repeat (first | (with_reducible first | exact HB.out | apply below_alloc | apply pw_below_drewN | apply below_drew1 | refine below_set ?_ GE187.out | refine below_set ?_ GE199.out) | exact HB.out)) hb); clear BK187; clear BK199; clear HB; have BK187 := n0_; have BK199 := n1_; have HB := n2_; clear n0_ n1_ n2_; (try clear hb); (try clear hb2); (try clear hk); (try clear hi); have hcz90_0 : w89.cell? ⟨gb199, 0, none⟩ = some (.string ((rd_T48 l0_4 x74_3).f0)) := (blk_cell BK199.out 0).trans rfl; have hcz90_1 : w89.cell? ⟨gb199, 1, none⟩ = some (.string ((rd_T48 l0_4 x74_3).f1)) := (blk_cell BK199.out 1).trans rfl; have hfz90_0 := blk_frozen BK199.out 0; have hfz90_1 := blk_frozen BK199.out 1) | (go_at_call 27; (with_reducible refine (spec_VersionOk.calls k3 ((rd_T48 l0_4 x74_3).f1) true _ A84.out).mono ?_); rintro e w91 ⟨rfl, hb⟩; have n0_ := Aside0.mk (blk_below (g := gb187) (o := .cells #[.string a0_0, .string a0_1, .string a0_2, .slice A0_3 l0_3.length c0_3, .slice (some ad198) l0_4.length c0_4, .slice A0_5 l0_5.length c0_5, .slice A0_6 l0_6.length c0_6, .slice A0_7 l0_7.length c0_7, .slice A0_8 l0_8.length c0_8] 32 (0, 0)) (by (with_reducible repeat (first | refine blk_drewN ?_ _ | refine blk_drew ?_ | refine blk_alloc ?_ _)); exact BK187.out) hb); have n1_ := Aside0.mk (blk_below (g := gb199) (o := .cells #[.string ((rd_T48 l0_4 x74_3).f0), .string ((rd_T48 l0_4 x74_3).f1)] 48 (0, 0)) (by (with_reducible repeat (first | refine blk_drewN ?_ _ | refine blk_drew ?_ | refine blk_alloc ?_ _)); exact BK199.out) hb); have n2_ := Aside0.mk (below_step (by repeat (first | (with_reducible first | exact HB.out | apply below_alloc | apply pw_below_drewN | apply below_drew1 | refine below_set ?_ GE187.out | refine below_set ?_ GE199.out) | exact HB.out)) hb); clear BK187; clear BK199; clear HB; have BK187 := n0_; have BK199 := n1_; have HB := n2_; clear n0_ n1_ n2_; (try clear hb); (try clear hb2); (try clear hk); (try clear hi)))
              go_roundg k3
              case measure => have := HJ1.out; have := HK2.out; have := HK3.out; omega
              case rel => exact ⟨(wrap64 (x74_3 + 1)), (by first | rfl | (simp; done) | (simp [*]; done)), H', ⟨by have := HJ1.out; have := HK2.out; have := HK3.out; omega⟩, ⟨by (with_reducible repeat (first | refine blk_drewN ?_ _ | refine blk_drew ?_ | refine blk_alloc ?_ _)); exact BK187.out⟩, ⟨by repeat (first | (with_reducible first | exact HB.out | apply below_alloc | apply pw_below_drewN | apply below_drew1 | refine below_set ?_ GE187.out | refine below_set ?_ GE199.out) | exact HB.out)⟩⟩
             ·
              replace c85 := Bool.eq_false_iff.mpr c85
              subst c85
              have H1 : (some false) = some r := by rw [if_neg (show ¬ (false = true) by decide)] at H; exact H
              clear H
              have H := H1
              clear H1
              obtain rfl := Option.some.inj H
              have p198 : 0 ≤ (x74_3 : Int) := of_decide_eq_true (by first | (with_reducible assumption) | assumption)
              have q198 : x74_3 < (l0_4.length : Int) := of_decide_eq_true (by first | (with_reducible assumption) | assumption)
              obtain ⟨ad198, e198, hx198_0, hx198_1⟩ := at_T48 HR0_4.out x74_3 p198 q198
              cases e198
              replace hx198_0 := (HB.out.cell (World.block_lt_of_cell? w _ hx198_0)).trans hx198_0
              replace hx198_1 := (HB.out.cell (World.block_lt_of_cell? w _ hx198_1)).trans hx198_1
              replace p198 := eq_true p198
              replace q198 := eq_true q198
              go_wp2_with (first | ((with_reducible refine gate_dst (N := 6) rfl ?_); (try (refine gate_guard (by rfl) ?_; dsimp only)); refine box_event ?hg (N := 6) ?hd (cs := #[.string (⟨#[]⟩ : ByteArray), .string (⟨#[]⟩ : ByteArray)]) (t := 48) ?hr ?_; (case hd => rfl); (case hg => rfl); (case hr => first | (go_simp; done) | (go_simp; rfl)); intro gb199 hg w92 hbox hb; have n0_ := Aside0.mk (blk_below (g := gb187) (o := .cells #[.string a0_0, .string a0_1, .string a0_2, .slice A0_3 l0_3.length c0_3, .slice (some ad198) l0_4.length c0_4, .slice A0_5 l0_5.length c0_5, .slice A0_6 l0_6.length c0_6, .slice A0_7 l0_7.length c0_7, .slice A0_8 l0_8.length c0_8] 32 (0, 0)) (by (with_reducible repeat (first | refine blk_drewN ?_ _ | refine blk_drew ?_ | refine blk_alloc ?_ _)); exact BK187.out) hb); have n1_ := Aside0.mk (below_step (by repeat (first | (with_reducible first | exact HB.out | apply below_alloc | apply pw_below_drewN | apply below_drew1 | refine below_set ?_ GE187.out) | exact HB.out)) hb); have n2_ := Aside0.mk (hbox); have n3_ := Aside0.mk ((by rw [hg]; exact (below_size (by repeat (first | (with_reducible first | exact HB.out | apply below_alloc | apply pw_below_drewN | apply below_drew1 | refine below_set ?_ GE187.out) | exact HB.out))) : w.heap.size ≤ gb199)); have n4_ := Aside0.mk ((by rw [hg]; exact (below_size (by repeat (first | (with_reducible first | exact HB.out | apply below_alloc | apply pw_below_drewN | apply below_drew1 | refine below_set ?_ GE187.out) | exact HB.out))) : w.heap.size ≤ gb199)); have n5_ := Aside0.mk ((by rw [hg]; exact Nat.ne_of_lt (blk_lt (g := gb187) (o := .cells #[.string a0_0, .string a0_1, .string a0_2, .slice A0_3 l0_3.length c0_3, .slice (some ad198) l0_4.length c0_4, .slice A0_5 l0_5.length c0_5, .slice A0_6 l0_6.length c0_6, .slice A0_7 l0_7.length c0_7, .slice A0_8 l0_8.length c0_8] 32 (0, 0)) (by (with_reducible repeat (first | refine blk_drewN ?_ _ | refine blk_drew ?_ | refine blk_alloc ?_ _)); exact BK187.out)) : gb187 ≠ gb199)); have n6_ := Aside0.mk ((by rw [hg]; exact Nat.ne_of_gt (blk_lt (g := gb187) (o := .cells #[.string a0_0, .string a0_1, .string a0_2, .slice A0_3 l0_3.length c0_3, .slice (some ad198) l0_4.length c0_4, .slice A0_5 l0_5.length c0_5, .slice A0_6 l0_6.length c0_6, .slice A0_7 l0_7.length c0_7, .slice A0_8 l0_8.length c0_8] 32 (0, 0)) (by (with_reducible repeat (first | refine blk_drewN ?_ _ | refine blk_drew ?_ | refine blk_alloc ?_ _)); exact BK187.out)) : gb199 ≠ gb187)); clear BK187; clear HB; have BK187 := n0_; have HB := n1_; have BK199 := n2_; have GW199 := n3_; have GE199 := n4_; have NB187_199 := n5_; have NB199_187 := n6_; clear n0_ n1_ n2_ n3_ n4_ n5_ n6_; clear hb hbox hg; have hnb93 := NB199_187.out; have hnc93 := NB187_199.out; have hcz94_0 : w92.cell? ⟨gb199, 0, none⟩ = some (.string (⟨#[]⟩ : ByteArray)) := (blk_cell BK199.out 0).trans rfl; have hcz94_1 : w92.cell? ⟨gb199, 1, none⟩ = some (.string (⟨#[]⟩ : ByteArray)) := (blk_cell BK199.out 1).trans rfl; have hfz94_0 := blk_frozen BK199.out 0; have hfz94_1 := blk_frozen BK199.out 1) | ((with_reducible refine gate_callee (f := 9) rfl ?_); refine goesL_ (some 80) rfl rfl Tryd.func9 (by kernel_rfl) rfl #[.string ((rd_T48 l0_4 x74_3).f0)] rfl (by (try simp only [List.map_toArray, List.map_cons, List.map_nil]); first | done | rfl | (simp only [List.length_drop, List.length_take]; rfl)) ?_; (with_reducible refine (spec_PathOk.calls k3 ((rd_T48 l0_4 x74_3).f0) true _ A82.out).mono ?_); rintro e w95 ⟨rfl, hb⟩; refine ⟨_, rfl, ?_⟩; have n0_ := Aside0.mk (blk_below (g := gb187) (o := .cells #[.string a0_0, .string a0_1, .string a0_2, .slice A0_3 l0_3.length c0_3, .slice (some ad198) l0_4.length c0_4, .slice A0_5 l0_5.length c0_5, .slice A0_6 l0_6.length c0_6, .slice A0_7 l0_7.length c0_7, .slice A0_8 l0_8.length c0_8] 32 (0, 0)) (by (with_reducible repeat (first | refine blk_drewN ?_ _ | refine blk_drew ?_ | refine blk_alloc ?_ _)); refine blk_far ?_ NB187_199.out _; (with_reducible repeat (first | refine blk_drewN ?_ _ | refine blk_drew ?_ | refine blk_alloc ?_ _)); refine blk_far ?_ NB187_199.out _; (with_reducible repeat (first | refine blk_drewN ?_ _ | refine blk_drew ?_ | refine blk_alloc ?_ _)); exact BK187.out) hb); have n1_ := Aside0.mk (blk_below (g := gb199) (o := .cells #[.string ((rd_T48 l0_4 x74_3).f0), .string ((rd_T48 l0_4 x74_3).f1)] 48 (0, 0)) (by (with_reducible repeat (first | refine blk_drewN ?_ _ | refine blk_drew ?_ | refine blk_alloc ?_ _)); refine blk_put (cs := #[.string ((rd_T48 l0_4 x74_3).f0), .string (⟨#[]⟩ : ByteArray)]) ?_ 1 _ rfl; (with_reducible repeat (first | refine blk_drewN ?_ _ | refine blk_drew ?_ | refine blk_alloc ?_ _)); refine blk_put (cs := #[.string (⟨#[]⟩ : ByteArray), .string (⟨#[]⟩ : ByteArray)]) ?_ 0 _ rfl; (with_reducible repeat (first | refine blk_drewN ?_ _ | refine blk_drew ?_ | refine blk_alloc ?_ _)); exact BK199.out) hb); have n2_ := Aside0.mk (below_step (by repeat (first | (with_reducible first | exact HB.out | apply below_alloc | apply pw_below_drewN | apply below_drew1 | refine below_set ?_ GE187.out | refine below_set ?_ GE199.out) | exact HB.out)) hb); clear BK187; clear BK199; clear HB; have BK187 := n0_; have BK199 := n1_; have HB := n2_; clear n0_ n1_ n2_; (try clear hb); (try clear hb2); (try clear hk); (try clear hi); have hcz96_0 : w95.cell? ⟨gb199, 0, none⟩ = some (.string ((rd_T48 l0_4 x74_3).f0)) := (blk_cell BK199.out 0).trans rfl; have hcz96_1 : w95.cell? ⟨gb199, 1, none⟩ = some (.string ((rd_T48 l0_4 x74_3).f1)) := (blk_cell BK199.out 1).trans rfl; have hfz96_0 := blk_frozen BK199.out 0; have hfz96_1 := blk_frozen BK199.out 1) | (go_at_call 27; (with_reducible refine (spec_VersionOk.calls k3 ((rd_T48 l0_4 x74_3).f1) false _ A84.out).mono ?_); rintro e w97 ⟨rfl, hb⟩; have n0_ := Aside0.mk (blk_below (g := gb187) (o := .cells #[.string a0_0, .string a0_1, .string a0_2, .slice A0_3 l0_3.length c0_3, .slice (some ad198) l0_4.length c0_4, .slice A0_5 l0_5.length c0_5, .slice A0_6 l0_6.length c0_6, .slice A0_7 l0_7.length c0_7, .slice A0_8 l0_8.length c0_8] 32 (0, 0)) (by (with_reducible repeat (first | refine blk_drewN ?_ _ | refine blk_drew ?_ | refine blk_alloc ?_ _)); exact BK187.out) hb); have n1_ := Aside0.mk (blk_below (g := gb199) (o := .cells #[.string ((rd_T48 l0_4 x74_3).f0), .string ((rd_T48 l0_4 x74_3).f1)] 48 (0, 0)) (by (with_reducible repeat (first | refine blk_drewN ?_ _ | refine blk_drew ?_ | refine blk_alloc ?_ _)); exact BK199.out) hb); have n2_ := Aside0.mk (below_step (by repeat (first | (with_reducible first | exact HB.out | apply below_alloc | apply pw_below_drewN | apply below_drew1 | refine below_set ?_ GE187.out | refine below_set ?_ GE199.out) | exact HB.out)) hb); clear BK187; clear BK199; clear HB; have BK187 := n0_; have BK199 := n1_; have HB := n2_; clear n0_ n1_ n2_; (try clear hb); (try clear hb2); (try clear hk); (try clear hi)))
              go_ret
              exact ⟨by first | rfl | (simp [errW_none, errW_some] <;> rfl) | (simp [*, errW_none, errW_some] <;> rfl), by repeat (first | (with_reducible first | exact HB.out | apply below_alloc | apply pw_below_drewN | apply below_drew1 | refine below_set ?_ GE187.out | refine below_set ?_ GE199.out) | exact HB.out)⟩
            ·
             replace c83 := Bool.eq_false_iff.mpr c83
             subst c83
             have H1 : (some false) = some r := by rw [if_neg (show ¬ (false = true) by decide)] at H; exact H
             clear H
             have H := H1
             clear H1
             obtain rfl := Option.some.inj H
             have p198 : 0 ≤ (x74_3 : Int) := of_decide_eq_true (by first | (with_reducible assumption) | assumption)
             have q198 : x74_3 < (l0_4.length : Int) := of_decide_eq_true (by first | (with_reducible assumption) | assumption)
             obtain ⟨ad198, e198, hx198_0, hx198_1⟩ := at_T48 HR0_4.out x74_3 p198 q198
             cases e198
             replace hx198_0 := (HB.out.cell (World.block_lt_of_cell? w _ hx198_0)).trans hx198_0
             replace hx198_1 := (HB.out.cell (World.block_lt_of_cell? w _ hx198_1)).trans hx198_1
             replace p198 := eq_true p198
             replace q198 := eq_true q198
             go_wp2_with (first | ((with_reducible refine gate_dst (N := 6) rfl ?_); (try (refine gate_guard (by rfl) ?_; dsimp only)); refine box_event ?hg (N := 6) ?hd (cs := #[.string (⟨#[]⟩ : ByteArray), .string (⟨#[]⟩ : ByteArray)]) (t := 48) ?hr ?_; (case hd => rfl); (case hg => rfl); (case hr => first | (go_simp; done) | (go_simp; rfl)); intro gb199 hg w98 hbox hb; have n0_ := Aside0.mk (blk_below (g := gb187) (o := .cells #[.string a0_0, .string a0_1, .string a0_2, .slice A0_3 l0_3.length c0_3, .slice (some ad198) l0_4.length c0_4, .slice A0_5 l0_5.length c0_5, .slice A0_6 l0_6.length c0_6, .slice A0_7 l0_7.length c0_7, .slice A0_8 l0_8.length c0_8] 32 (0, 0)) (by (with_reducible repeat (first | refine blk_drewN ?_ _ | refine blk_drew ?_ | refine blk_alloc ?_ _)); exact BK187.out) hb); have n1_ := Aside0.mk (below_step (by repeat (first | (with_reducible first | exact HB.out | apply below_alloc | apply pw_below_drewN | apply below_drew1 | refine below_set ?_ GE187.out) | exact HB.out)) hb); have n2_ := Aside0.mk (hbox); have n3_ := Aside0.mk ((by rw [hg]; exact (below_size (by repeat (first | (with_reducible first | exact HB.out | apply below_alloc | apply pw_below_drewN | apply below_drew1 | refine below_set ?_ GE187.out) | exact HB.out))) : w.heap.size ≤ gb199)); have n4_ := Aside0.mk ((by rw [hg]; exact (below_size (by repeat (first | (with_reducible first | exact HB.out | apply below_alloc | apply pw_below_drewN | apply below_drew1 | refine below_set ?_ GE187.out) | exact HB.out))) : w.heap.size ≤ gb199)); have n5_ := Aside0.mk ((by rw [hg]; exact Nat.ne_of_lt (blk_lt (g := gb187) (o := .cells #[.string a0_0, .string a0_1, .string a0_2, .slice A0_3 l0_3.length c0_3, .slice (some ad198) l0_4.length c0_4, .slice A0_5 l0_5.length c0_5, .slice A0_6 l0_6.length c0_6, .slice A0_7 l0_7.length c0_7, .slice A0_8 l0_8.length c0_8] 32 (0, 0)) (by (with_reducible repeat (first | refine blk_drewN ?_ _ | refine blk_drew ?_ | refine blk_alloc ?_ _)); exact BK187.out)) : gb187 ≠ gb199)); have n6_ := Aside0.mk ((by rw [hg]; exact Nat.ne_of_gt (blk_lt (g := gb187) (o := .cells #[.string a0_0, .string a0_1, .string a0_2, .slice A0_3 l0_3.length c0_3, .slice (some ad198) l0_4.length c0_4, .slice A0_5 l0_5.length c0_5, .slice A0_6 l0_6.length c0_6, .slice A0_7 l0_7.length c0_7, .slice A0_8 l0_8.length c0_8] 32 (0, 0)) (by (with_reducible repeat (first | refine blk_drewN ?_ _ | refine blk_drew ?_ | refine blk_alloc ?_ _)); exact BK187.out)) : gb199 ≠ gb187)); clear BK187; clear HB; have BK187 := n0_; have HB := n1_; have BK199 := n2_; have GW199 := n3_; have GE199 := n4_; have NB187_199 := n5_; have NB199_187 := n6_; clear n0_ n1_ n2_ n3_ n4_ n5_ n6_; clear hb hbox hg; have hnb99 := NB199_187.out; have hnc99 := NB187_199.out; have hcz100_0 : w98.cell? ⟨gb199, 0, none⟩ = some (.string (⟨#[]⟩ : ByteArray)) := (blk_cell BK199.out 0).trans rfl; have hcz100_1 : w98.cell? ⟨gb199, 1, none⟩ = some (.string (⟨#[]⟩ : ByteArray)) := (blk_cell BK199.out 1).trans rfl; have hfz100_0 := blk_frozen BK199.out 0; have hfz100_1 := blk_frozen BK199.out 1) | ((with_reducible refine gate_callee (f := 9) rfl ?_); refine goesL_ (some 80) rfl rfl Tryd.func9 (by kernel_rfl) rfl #[.string ((rd_T48 l0_4 x74_3).f0)] rfl (by (try simp only [List.map_toArray, List.map_cons, List.map_nil]); first | done | rfl | (simp only [List.length_drop, List.length_take]; rfl)) ?_; (with_reducible refine (spec_PathOk.calls k3 ((rd_T48 l0_4 x74_3).f0) false _ A82.out).mono ?_); rintro e w101 ⟨rfl, hb⟩; refine ⟨_, rfl, ?_⟩; have n0_ := Aside0.mk (blk_below (g := gb187) (o := .cells #[.string a0_0, .string a0_1, .string a0_2, .slice A0_3 l0_3.length c0_3, .slice (some ad198) l0_4.length c0_4, .slice A0_5 l0_5.length c0_5, .slice A0_6 l0_6.length c0_6, .slice A0_7 l0_7.length c0_7, .slice A0_8 l0_8.length c0_8] 32 (0, 0)) (by (with_reducible repeat (first | refine blk_drewN ?_ _ | refine blk_drew ?_ | refine blk_alloc ?_ _)); refine blk_far ?_ NB187_199.out _; (with_reducible repeat (first | refine blk_drewN ?_ _ | refine blk_drew ?_ | refine blk_alloc ?_ _)); refine blk_far ?_ NB187_199.out _; (with_reducible repeat (first | refine blk_drewN ?_ _ | refine blk_drew ?_ | refine blk_alloc ?_ _)); exact BK187.out) hb); have n1_ := Aside0.mk (blk_below (g := gb199) (o := .cells #[.string ((rd_T48 l0_4 x74_3).f0), .string ((rd_T48 l0_4 x74_3).f1)] 48 (0, 0)) (by (with_reducible repeat (first | refine blk_drewN ?_ _ | refine blk_drew ?_ | refine blk_alloc ?_ _)); refine blk_put (cs := #[.string ((rd_T48 l0_4 x74_3).f0), .string (⟨#[]⟩ : ByteArray)]) ?_ 1 _ rfl; (with_reducible repeat (first | refine blk_drewN ?_ _ | refine blk_drew ?_ | refine blk_alloc ?_ _)); refine blk_put (cs := #[.string (⟨#[]⟩ : ByteArray), .string (⟨#[]⟩ : ByteArray)]) ?_ 0 _ rfl; (with_reducible repeat (first | refine blk_drewN ?_ _ | refine blk_drew ?_ | refine blk_alloc ?_ _)); exact BK199.out) hb); have n2_ := Aside0.mk (below_step (by repeat (first | (with_reducible first | exact HB.out | apply below_alloc | apply pw_below_drewN | apply below_drew1 | refine below_set ?_ GE187.out | refine below_set ?_ GE199.out) | exact HB.out)) hb); clear BK187; clear BK199; clear HB; have BK187 := n0_; have BK199 := n1_; have HB := n2_; clear n0_ n1_ n2_; (try clear hb); (try clear hb2); (try clear hk); (try clear hi)))
             go_ret
             exact ⟨by first | rfl | (simp [errW_none, errW_some] <;> rfl) | (simp [*, errW_none, errW_some] <;> rfl), by repeat (first | (with_reducible first | exact HB.out | apply below_alloc | apply pw_below_drewN | apply below_drew1 | refine below_set ?_ GE187.out | refine below_set ?_ GE199.out) | exact HB.out)⟩
           ·
            rw [if_neg c81] at H
            exact absurd H (by simp)
          ·
           rw [if_neg c80] at H
           exact absurd H (by simp)
         ·
          rw [if_neg c79] at H
          have c79b0 : decide (x74_3 < (l0_4.length : Int)) = false := decide_eq_false c79
          clear c79
          have H' := Aside0.mk H
          clear H
          have hcz102_0 : wr.cell? ⟨gb187, 0, none⟩ = some (.string a0_0) := (blk_cell BK187.out 0).trans rfl
          have hcz102_1 : wr.cell? ⟨gb187, 1, none⟩ = some (.string a0_1) := (blk_cell BK187.out 1).trans rfl
          have hcz102_2 : wr.cell? ⟨gb187, 2, none⟩ = some (.string a0_2) := (blk_cell BK187.out 2).trans rfl
          have hcz102_3 : wr.cell? ⟨gb187, 3, none⟩ = some (.slice A0_3 l0_3.length c0_3) := (blk_cell BK187.out 3).trans rfl
          have hcz102_4 : wr.cell? ⟨gb187, 4, none⟩ = some (.slice A0_4 l0_4.length c0_4) := (blk_cell BK187.out 4).trans rfl
          have hcz102_5 : wr.cell? ⟨gb187, 5, none⟩ = some (.slice A0_5 l0_5.length c0_5) := (blk_cell BK187.out 5).trans rfl
          have hcz102_6 : wr.cell? ⟨gb187, 6, none⟩ = some (.slice A0_6 l0_6.length c0_6) := (blk_cell BK187.out 6).trans rfl
          have hcz102_7 : wr.cell? ⟨gb187, 7, none⟩ = some (.slice A0_7 l0_7.length c0_7) := (blk_cell BK187.out 7).trans rfl
          have hcz102_8 : wr.cell? ⟨gb187, 8, none⟩ = some (.slice A0_8 l0_8.length c0_8) := (blk_cell BK187.out 8).trans rfl
          have hfz102_0 := blk_frozen BK187.out 0
          have hfz102_1 := blk_frozen BK187.out 1
          have hfz102_2 := blk_frozen BK187.out 2
          have hfz102_3 := blk_frozen BK187.out 3
          have hfz102_4 := blk_frozen BK187.out 4
          have hfz102_5 := blk_frozen BK187.out 5
          have hfz102_6 := blk_frozen BK187.out 6
          have hfz102_7 := blk_frozen BK187.out 7
          have hfz102_8 := blk_frozen BK187.out 8
          go_wp2
          go_loopg [92] k3 (fun kq v92 w' => ∃ (x92_4 : Int), v92 = .int .i64 x92_4 ∧ Aside0 (spec_ContentOk.l2 kq l0_5 (l0_5.length : Int) x92_4 a0_0 a0_1 a0_2 l0_3 l0_4 l0_5 l0_6 l0_7 l0_8 = some r) ∧ Aside0 (kq ≤ k3) ∧ Aside0 (w'.heap[gb187]? = some (.cells #[.string a0_0, .string a0_1, .string a0_2, (.slice A0_3 l0_3.length c0_3), (.slice A0_4 l0_4.length c0_4), (.slice A0_5 l0_5.length c0_5), (.slice A0_6 l0_6.length c0_6), (.slice A0_7 l0_7.length c0_7), (.slice A0_8 l0_8.length c0_8)] 32 (0, 0))) ∧ Aside0 (Below w.heap.size w w'))
          case atStart => exact ⟨(0), (by first | rfl | (simp; done) | (simp [*]; done)), H', ⟨Nat.le_refl _⟩, ⟨by (with_reducible repeat (first | refine blk_drewN ?_ _ | refine blk_drew ?_ | refine blk_alloc ?_ _)); exact BK187.out⟩, ⟨by repeat (first | (with_reducible first | exact HB.out | apply below_alloc | apply pw_below_drewN | apply below_drew1 | refine below_set ?_ GE187.out) | exact HB.out)⟩⟩
          case round =>
           clear H'
           clear c79b0
           clear hcz102_0 hcz102_1 hcz102_2 hcz102_3 hcz102_4 hcz102_5 hcz102_6
           clear hcz102_7 hcz102_8
           clear hfz102_0 hfz102_1 hfz102_2 hfz102_3 hfz102_4 hfz102_5
           clear hfz102_6 hfz102_7 hfz102_8
           obtain ⟨x92_4, rfl, HA, HK4, BK187, HB⟩ := hrel
           cases gk with
           | zero => exact absurd HA.out (by simp [spec_ContentOk.l2])
           | succ k4 =>
            have H := HA.out
            clear HA
            simp only [spec_ContentOk.l2] at H
            by_cases c103 : x92_4 < (l0_5.length : Int)
            ·
             rw [if_pos c103] at H
             have c103b0 : decide (x92_4 < (l0_5.length : Int)) = true := decide_eq_true c103
             clear c103
             by_cases c104 : 0 ≤ x92_4
             ·
              rw [if_pos c104] at H
              have c104b0 : decide (0 ≤ x92_4) = true := decide_eq_true c104
              clear c104
              by_cases c105 : x92_4 < (l0_5.length : Int)
              ·
               rw [if_pos c105] at H
               have c105b0 : decide (x92_4 < (l0_5.length : Int)) = true := decide_eq_true c105
               clear c105
               replace H := Option.bind_eq_some_iff.mp H
               obtain ⟨t204, A1060, H⟩ := H
               replace H : (if t204 = true then (spec_ContentOk.l2 k4 l0_5 (l0_5.length : Int) (wrap64 (x92_4 + 1)) a0_0 a0_1 a0_2 l0_3 l0_4 l0_5 l0_6 l0_7 l0_8) else (some false)) = some r := H
               have A106 := Aside0.mk A1060
               clear A1060
               by_cases c107 : t204 = true
               ·
                subst c107
                have H1 : (spec_ContentOk.l2 k4 l0_5 (l0_5.length : Int) (wrap64 (x92_4 + 1)) a0_0 a0_1 a0_2 l0_3 l0_4 l0_5 l0_6 l0_7 l0_8) = some r := by rw [if_pos rfl] at H; exact H
                clear H
                have H := H1
                clear H1
                have H' := Aside0.mk H
                clear H
                have p202 : 0 ≤ (x92_4 : Int) := of_decide_eq_true (by first | (with_reducible assumption) | assumption)
                have q202 : x92_4 < (l0_5.length : Int) := of_decide_eq_true (by first | (with_reducible assumption) | assumption)
                obtain ⟨ad202, e202, hx202_0, hx202_1, hx202_2, hx202_3⟩ := at_T50 HR0_5.out x92_4 p202 q202
                cases e202
                replace hx202_0 := (HB.out.cell (World.block_lt_of_cell? w _ hx202_0)).trans hx202_0
                replace hx202_1 := (HB.out.cell (World.block_lt_of_cell? w _ hx202_1)).trans hx202_1
                replace hx202_2 := (HB.out.cell (World.block_lt_of_cell? w _ hx202_2)).trans hx202_2
                replace hx202_3 := (HB.out.cell (World.block_lt_of_cell? w _ hx202_3)).trans hx202_3
                replace p202 := eq_true p202
                replace q202 := eq_true q202
                go_wp2_with (first | ((with_reducible refine gate_dst (N := 8) rfl ?_); (try (refine gate_guard (by rfl) ?_; dsimp only)); refine box_event ?hg (N := 8) ?hd (cs := #[.string (⟨#[]⟩ : ByteArray), .string (⟨#[]⟩ : ByteArray), .string (⟨#[]⟩ : ByteArray), .string (⟨#[]⟩ : ByteArray)]) (t := 50) ?hr ?_; (case hd => rfl); (case hg => rfl); (case hr => first | (go_simp; done) | (go_simp; rfl)); intro gb203 hg w108 hbox hb; have n0_ := Aside0.mk (blk_below (g := gb187) (o := .cells #[.string a0_0, .string a0_1, .string a0_2, .slice A0_3 l0_3.length c0_3, .slice A0_4 l0_4.length c0_4, .slice (some ad202) l0_5.length c0_5, .slice A0_6 l0_6.length c0_6, .slice A0_7 l0_7.length c0_7, .slice A0_8 l0_8.length c0_8] 32 (0, 0)) (by (with_reducible repeat (first | refine blk_drewN ?_ _ | refine blk_drew ?_ | refine blk_alloc ?_ _)); exact BK187.out) hb); have n1_ := Aside0.mk (below_step (by repeat (first | (with_reducible first | exact HB.out | apply below_alloc | apply pw_below_drewN | apply below_drew1 | refine below_set ?_ GE187.out) | exact HB.out)) hb); have n2_ := Aside0.mk (hbox); have n3_ := Aside0.mk ((by rw [hg]; exact (below_size (by repeat (first | (with_reducible first | exact HB.out | apply below_alloc | apply pw_below_drewN | apply below_drew1 | refine below_set ?_ GE187.out) | exact HB.out))) : w.heap.size ≤ gb203)); have n4_ := Aside0.mk ((by rw [hg]; exact (below_size (by repeat (first | (with_reducible first | exact HB.out | apply below_alloc | apply pw_below_drewN | apply below_drew1 | refine below_set ?_ GE187.out) | exact HB.out))) : w.heap.size ≤ gb203)); have n5_ := Aside0.mk ((by rw [hg]; exact Nat.ne_of_lt (blk_lt (g := gb187) (o := .cells #[.string a0_0, .string a0_1, .string a0_2, .slice A0_3 l0_3.length c0_3, .slice A0_4 l0_4.length c0_4, .slice (some ad202) l0_5.length c0_5, .slice A0_6 l0_6.length c0_6, .slice A0_7 l0_7.length c0_7, .slice A0_8 l0_8.length c0_8] 32 (0, 0)) (by (with_reducible repeat (first | refine blk_drewN ?_ _ | refine blk_drew ?_ | refine blk_alloc ?_ _)); exact BK187.out)) : gb187 ≠ gb203)); have n6_ := Aside0.mk ((by rw [hg]; exact Nat.ne_of_gt (blk_lt (g := gb187) (o := .cells #[.string a0_0, .string a0_1, .string a0_2, .slice A0_3 l0_3.length c0_3, .slice A0_4 l0_4.length c0_4, .slice (some ad202) l0_5.length c0_5, .slice A0_6 l0_6.length c0_6, .slice A0_7 l0_7.length c0_7, .slice A0_8 l0_8.length c0_8] 32 (0, 0)) (by (with_reducible repeat (first | refine blk_drewN ?_ _ | refine blk_drew ?_ | refine blk_alloc ?_ _)); exact BK187.out)) : gb203 ≠ gb187)); clear BK187; clear HB; have BK187 := n0_; have HB := n1_; have BK203 := n2_; have GW203 := n3_; have GE203 := n4_; have NB187_203 := n5_; have NB203_187 := n6_; clear n0_ n1_ n2_ n3_ n4_ n5_ n6_; clear hb hbox hg; have hnb109 := NB203_187.out; have hnc109 := NB187_203.out; have hcz110_0 : w108.cell? ⟨gb203, 0, none⟩ = some (.string (⟨#[]⟩ : ByteArray)) := (blk_cell BK203.out 0).trans rfl; have hcz110_1 : w108.cell? ⟨gb203, 1, none⟩ = some (.string (⟨#[]⟩ : ByteArray)) := (blk_cell BK203.out 1).trans rfl; have hcz110_2 : w108.cell? ⟨gb203, 2, none⟩ = some (.string (⟨#[]⟩ : ByteArray)) := (blk_cell BK203.out 2).trans rfl; have hcz110_3 : w108.cell? ⟨gb203, 3, none⟩ = some (.string (⟨#[]⟩ : ByteArray)) := (blk_cell BK203.out 3).trans rfl; have hfz110_0 := blk_frozen BK203.out 0; have hfz110_1 := blk_frozen BK203.out 1; have hfz110_2 := blk_frozen BK203.out 2; have hfz110_3 := blk_frozen BK203.out 3) | ((with_reducible refine gate_callee (f := 28) rfl ?_); refine goesL_ (some 97) rfl rfl Tryd.func28 (by kernel_rfl) rfl #[.agg #[.string ((rd_T50 l0_5 x92_4).f0.f0), .string ((rd_T50 l0_5 x92_4).f0.f1), .string ((rd_T50 l0_5 x92_4).f1.f0), .string ((rd_T50 l0_5 x92_4).f1.f1)]] rfl (by (try simp only [List.map_toArray, List.map_cons, List.map_nil]); first | done | rfl | (simp only [List.length_drop, List.length_take]; rfl)) ?_; (with_reducible refine (spec_ReplaceOk.calls k4 ((rd_T50 l0_5 x92_4).f0.f0) ((rd_T50 l0_5 x92_4).f0.f1) ((rd_T50 l0_5 x92_4).f1.f0) ((rd_T50 l0_5 x92_4).f1.f1) true _ A106.out).mono ?_); rintro e w111 ⟨rfl, hb⟩; refine ⟨_, rfl, ?_⟩; have n0_ := Aside0.mk (blk_below (g := gb187) (o := .cells #[.string a0_0, .string a0_1, .string a0_2, .slice A0_3 l0_3.length c0_3, .slice A0_4 l0_4.length c0_4, .slice (some ad202) l0_5.length c0_5, .slice A0_6 l0_6.length c0_6, .slice A0_7 l0_7.length c0_7, .slice A0_8 l0_8.length c0_8] 32 (0, 0)) (by (with_reducible repeat (first | refine blk_drewN ?_ _ | refine blk_drew ?_ | refine blk_alloc ?_ _)); refine blk_far ?_ NB187_203.out _; (with_reducible repeat (first | refine blk_drewN ?_ _ | refine blk_drew ?_ | refine blk_alloc ?_ _)); refine blk_far ?_ NB187_203.out _; (with_reducible repeat (first | refine blk_drewN ?_ _ | refine blk_drew ?_ | refine blk_alloc ?_ _)); refine blk_far ?_ NB187_203.out _; (with_reducible repeat (first | refine blk_drewN ?_ _ | refine blk_drew ?_ | refine blk_alloc ?_ _)); refine blk_far ?_ NB187_203.out _; (with_reducible repeat (first | refine blk_drewN ?_ _ | refine blk_drew ?_ | refine blk_alloc ?_ _)); exact BK187.out) hb); have n1_ := Aside0.mk (blk_below (g := gb203) (o := .cells #[.string ((rd_T50 l0_5 x92_4).f0.f0), .string ((rd_T50 l0_5 x92_4).f0.f1), .string ((rd_T50 l0_5 x92_4).f1.f0), .string ((rd_T50 l0_5 x92_4).f1.f1)] 50 (0, 0)) (by (with_reducible repeat (first | refine blk_drewN ?_ _ | refine blk_drew ?_ | refine blk_alloc ?_ _)); refine blk_put (cs := #[.string ((rd_T50 l0_5 x92_4).f0.f0), .string ((rd_T50 l0_5 x92_4).f0.f1), .string ((rd_T50 l0_5 x92_4).f1.f0), .string (⟨#[]⟩ : ByteArray)]) ?_ 3 _ rfl; (with_reducible repeat (first | refine blk_drewN ?_ _ | refine blk_drew ?_ | refine blk_alloc ?_ _)); refine blk_put (cs := #[.string ((rd_T50 l0_5 x92_4).f0.f0), .string ((rd_T50 l0_5 x92_4).f0.f1), .string (⟨#[]⟩ : ByteArray), .string (⟨#[]⟩ : ByteArray)]) ?_ 2 _ rfl; (with_reducible repeat (first | refine blk_drewN ?_ _ | refine blk_drew ?_ | refine blk_alloc ?_ _)); refine blk_put (cs := #[.string ((rd_T50 l0_5 x92_4).f0.f0), .string (⟨#[]⟩ : ByteArray), .string (⟨#[]⟩ : ByteArray), .string (⟨#[]⟩ : ByteArray)]) ?_ 1 _ rfl; (with_reducible repeat (first | refine blk_drewN ?_ _ | refine blk_drew ?_ | refine blk_alloc ?_ _)); refine blk_put (cs := #[.string (⟨#[]⟩ : ByteArray), .string (⟨#[]⟩ : ByteArray), .string (⟨#[]⟩ : ByteArray), .string (⟨#[]⟩ : ByteArray)]) ?_ 0 _ rfl; (with_reducible repeat (first | refine blk_drewN ?_ _ | refine blk_drew ?_ | refine blk_alloc ?_ _)); exact BK203.out) hb); have n2_ := Aside0.mk (below_step (by repeat (first | (with_reducible first | exact HB.out | apply below_alloc | apply pw_below_drewN | apply below_drew1 | refine below_set ?_ GE187.out | refine below_set ?_ GE203.out) | exact HB.out)) hb); clear BK187; clear BK203; clear HB; have BK187 := n0_; have BK203 := n1_; have HB := n2_; clear n0_ n1_ n2_; (try clear hb); (try clear hb2); (try clear hk); (try clear hi)))
                go_roundg k4
                case measure => have := HJ1.out; have := HK2.out; have := HK3.out; have := HK4.out; omega
                case rel => exact ⟨(wrap64 (x92_4 + 1)), (by first | rfl | (simp; done) | (simp [*]; done)), H', ⟨by have := HJ1.out; have := HK2.out; have := HK3.out; have := HK4.out; omega⟩, ⟨by (with_reducible repeat (first | refine blk_drewN ?_ _ | refine blk_drew ?_ | refine blk_alloc ?_ _)); exact BK187.out⟩, ⟨by repeat (first | (with_reducible first | exact HB.out | apply below_alloc | apply pw_below_drewN | apply below_drew1 | refine below_set ?_ GE187.out | refine below_set ?_ GE203.out) | exact HB.out)⟩⟩
               ·
                replace c107 := Bool.eq_false_iff.mpr c107
                subst c107
                have H1 : (some false) = some r := by rw [if_neg (show ¬ (false = true) by decide)] at H; exact H
                clear H
                have H := H1
                clear H1
                obtain rfl := Option.some.inj H
                have p202 : 0 ≤ (x92_4 : Int) := of_decide_eq_true (by first | (with_reducible assumption) | assumption)
                have q202 : x92_4 < (l0_5.length : Int) := of_decide_eq_true (by first | (with_reducible assumption) | assumption)
                obtain ⟨ad202, e202, hx202_0, hx202_1, hx202_2, hx202_3⟩ := at_T50 HR0_5.out x92_4 p202 q202
                cases e202
                replace hx202_0 := (HB.out.cell (World.block_lt_of_cell? w _ hx202_0)).trans hx202_0
                replace hx202_1 := (HB.out.cell (World.block_lt_of_cell? w _ hx202_1)).trans hx202_1
                replace hx202_2 := (HB.out.cell (World.block_lt_of_cell? w _ hx202_2)).trans hx202_2
                replace hx202_3 := (HB.out.cell (World.block_lt_of_cell? w _ hx202_3)).trans hx202_3
                replace p202 := eq_true p202
                replace q202 := eq_true q202
                go_wp2_with (first | ((with_reducible refine gate_dst (N := 8) rfl ?_); (try (refine gate_guard (by rfl) ?_; dsimp only)); refine box_event ?hg (N := 8) ?hd (cs := #[.string (⟨#[]⟩ : ByteArray), .string (⟨#[]⟩ : ByteArray), .string (⟨#[]⟩ : ByteArray), .string (⟨#[]⟩ : ByteArray)]) (t := 50) ?hr ?_; (case hd => rfl); (case hg => rfl); (case hr => first | (go_simp; done) | (go_simp; rfl)); intro gb203 hg w112 hbox hb; have n0_ := Aside0.mk (blk_below (g := gb187) (o := .cells #[.string a0_0, .string a0_1, .string a0_2, .slice A0_3 l0_3.length c0_3, .slice A0_4 l0_4.length c0_4, .slice (some ad202) l0_5.length c0_5, .slice A0_6 l0_6.length c0_6, .slice A0_7 l0_7.length c0_7, .slice A0_8 l0_8.length c0_8] 32 (0, 0)) (by (with_reducible repeat (first | refine blk_drewN ?_ _ | refine blk_drew ?_ | refine blk_alloc ?_ _)); exact BK187.out) hb); have n1_ := Aside0.mk (below_step (by repeat (first | (with_reducible first | exact HB.out | apply below_alloc | apply pw_below_drewN | apply below_drew1 | refine below_set ?_ GE187.out) | exact HB.out)) hb); have n2_ := Aside0.mk (hbox); have n3_ := Aside0.mk ((by rw [hg]; exact (below_size (by repeat (first | (with_reducible first | exact HB.out | apply below_alloc | apply pw_below_drewN | apply below_drew1 | refine below_set ?_ GE187.out) | exact HB.out))) : w.heap.size ≤ gb203)); have n4_ := Aside0.mk ((by rw [hg]; exact (below_size (by repeat (first | (with_reducible first | exact HB.out | apply below_alloc | apply pw_below_drewN | apply below_drew1 | refine below_set ?_ GE187.out) | exact HB.out))) : w.heap.size ≤ gb203)); have n5_ := Aside0.mk ((by rw [hg]; exact Nat.ne_of_lt (blk_lt (g := gb187) (o := .cells #[.string a0_0, .string a0_1, .string a0_2, .slice A0_3 l0_3.length c0_3, .slice A0_4 l0_4.length c0_4, .slice (some ad202) l0_5.length c0_5, .slice A0_6 l0_6.length c0_6, .slice A0_7 l0_7.length c0_7, .slice A0_8 l0_8.length c0_8] 32 (0, 0)) (by (with_reducible repeat (first | refine blk_drewN ?_ _ | refine blk_drew ?_ | refine blk_alloc ?_ _)); exact BK187.out)) : gb187 ≠ gb203)); have n6_ := Aside0.mk ((by rw [hg]; exact Nat.ne_of_gt (blk_lt (g := gb187) (o := .cells #[.string a0_0, .string a0_1, .string a0_2, .slice A0_3 l0_3.length c0_3, .slice A0_4 l0_4.length c0_4, .slice (some ad202) l0_5.length c0_5, .slice A0_6 l0_6.length c0_6, .slice A0_7 l0_7.length c0_7, .slice A0_8 l0_8.length c0_8] 32 (0, 0)) (by (with_reducible repeat (first | refine blk_drewN ?_ _ | refine blk_drew ?_ | refine blk_alloc ?_ _)); exact BK187.out)) : gb203 ≠ gb187)); clear BK187; clear HB; have BK187 := n0_; have HB := n1_; have BK203 := n2_; have GW203 := n3_; have GE203 := n4_; have NB187_203 := n5_; have NB203_187 := n6_; clear n0_ n1_ n2_ n3_ n4_ n5_ n6_; clear hb hbox hg; have hnb113 := NB203_187.out; have hnc113 := NB187_203.out; have hcz114_0 : w112.cell? ⟨gb203, 0, none⟩ = some (.string (⟨#[]⟩ : ByteArray)) := (blk_cell BK203.out 0).trans rfl; have hcz114_1 : w112.cell? ⟨gb203, 1, none⟩ = some (.string (⟨#[]⟩ : ByteArray)) := (blk_cell BK203.out 1).trans rfl; have hcz114_2 : w112.cell? ⟨gb203, 2, none⟩ = some (.string (⟨#[]⟩ : ByteArray)) := (blk_cell BK203.out 2).trans rfl; have hcz114_3 : w112.cell? ⟨gb203, 3, none⟩ = some (.string (⟨#[]⟩ : ByteArray)) := (blk_cell BK203.out 3).trans rfl; have hfz114_0 := blk_frozen BK203.out 0; have hfz114_1 := blk_frozen BK203.out 1; have hfz114_2 := blk_frozen BK203.out 2; have hfz114_3 := blk_frozen BK203.out 3) | ((with_reducible refine gate_callee (f := 28) rfl ?_); refine goesL_ (some 97) rfl rfl Tryd.func28 (by kernel_rfl) rfl #[.agg #[.string ((rd_T50 l0_5 x92_4).f0.f0), .string ((rd_T50 l0_5 x92_4).f0.f1), .string ((rd_T50 l0_5 x92_4).f1.f0), .string ((rd_T50 l0_5 x92_4).f1.f1)]] rfl (by (try simp only [List.map_toArray, List.map_cons, List.map_nil]); first | done | rfl | (simp only [List.length_drop, List.length_take]; rfl)) ?_; (with_reducible refine (spec_ReplaceOk.calls k4 ((rd_T50 l0_5 x92_4).f0.f0) ((rd_T50 l0_5 x92_4).f0.f1) ((rd_T50 l0_5 x92_4).f1.f0) ((rd_T50 l0_5 x92_4).f1.f1) false _ A106.out).mono ?_); rintro e w115 ⟨rfl, hb⟩; refine ⟨_, rfl, ?_⟩; have n0_ := Aside0.mk (blk_below (g := gb187) (o := .cells #[.string a0_0, .string a0_1, .string a0_2, .slice A0_3 l0_3.length c0_3, .slice A0_4 l0_4.length c0_4, .slice (some ad202) l0_5.length c0_5, .slice A0_6 l0_6.length c0_6, .slice A0_7 l0_7.length c0_7, .slice A0_8 l0_8.length c0_8] 32 (0, 0)) (by (with_reducible repeat (first | refine blk_drewN ?_ _ | refine blk_drew ?_ | refine blk_alloc ?_ _)); refine blk_far ?_ NB187_203.out _; (with_reducible repeat (first | refine blk_drewN ?_ _ | refine blk_drew ?_ | refine blk_alloc ?_ _)); refine blk_far ?_ NB187_203.out _; (with_reducible repeat (first | refine blk_drewN ?_ _ | refine blk_drew ?_ | refine blk_alloc ?_ _)); refine blk_far ?_ NB187_203.out _; (with_reducible repeat (first | refine blk_drewN ?_ _ | refine blk_drew ?_ | refine blk_alloc ?_ _)); refine blk_far ?_ NB187_203.out _; (with_reducible repeat (first | refine blk_drewN ?_ _ | refine blk_drew ?_ | refine blk_alloc ?_ _)); exact BK187.out) hb); have n1_ := Aside0.mk (blk_below (g := gb203) (o := .cells #[.string ((rd_T50 l0_5 x92_4).f0.f0), .string ((rd_T50 l0_5 x92_4).f0.f1), .string ((rd_T50 l0_5 x92_4).f1.f0), .string ((rd_T50 l0_5 x92_4).f1.f1)] 50 (0, 0)) (by (with_reducible repeat (first | refine blk_drewN ?_ _ | refine blk_drew ?_ | refine blk_alloc ?_ _)); refine blk_put (cs := #[.string ((rd_T50 l0_5 x92_4).f0.f0), .string ((rd_T50 l0_5 x92_4).f0.f1), .string ((rd_T50 l0_5 x92_4).f1.f0), .string (⟨#[]⟩ : ByteArray)]) ?_ 3 _ rfl; (with_reducible repeat (first | refine blk_drewN ?_ _ | refine blk_drew ?_ | refine blk_alloc ?_ _)); refine blk_put (cs := #[.string ((rd_T50 l0_5 x92_4).f0.f0), .string ((rd_T50 l0_5 x92_4).f0.f1), .string (⟨#[]⟩ : ByteArray), .string (⟨#[]⟩ : ByteArray)]) ?_ 2 _ rfl; (with_reducible repeat (first | refine blk_drewN ?_ _ | refine blk_drew ?_ | refine blk_alloc ?_ _)); refine blk_put (cs := #[.string ((rd_T50 l0_5 x92_4).f0.f0), .string (⟨#[]⟩ : ByteArray), .string (⟨#[]⟩ : ByteArray), .string (⟨#[]⟩ : ByteArray)]) ?_ 1 _ rfl; (with_reducible repeat (first | refine blk_drewN ?_ _ | refine blk_drew ?_ | refine blk_alloc ?_ _)); refine blk_put (cs := #[.string (⟨#[]⟩ : ByteArray), .string (⟨#[]⟩ : ByteArray), .string (⟨#[]⟩ : ByteArray), .string (⟨#[]⟩ : ByteArray)]) ?_ 0 _ rfl; (with_reducible repeat (first | refine blk_drewN ?_ _ | refine blk_drew ?_ | refine blk_alloc ?_ _)); exact BK203.out) hb); have n2_ := Aside0.mk (below_step (by repeat (first | (with_reducible first | exact HB.out | apply below_alloc | apply pw_below_drewN | apply below_drew1 | refine below_set ?_ GE187.out | refine below_set ?_ GE203.out) | exact HB.out)) hb); clear BK187; clear BK203; clear HB; have BK187 := n0_; have BK203 := n1_; have HB := n2_; clear n0_ n1_ n2_; (try clear hb); (try clear hb2); (try clear hk); (try clear hi)))
                go_ret
                exact ⟨by first | rfl | (simp [errW_none, errW_some] <;> rfl) | (simp [*, errW_none, errW_some] <;> rfl), by repeat (first | (with_reducible first | exact HB.out | apply below_alloc | apply pw_below_drewN | apply below_drew1 | refine below_set ?_ GE187.out | refine below_set ?_ GE203.out) | exact HB.out)⟩
              ·
               rw [if_neg c105] at H
               exact absurd H (by simp)
             ·
              rw [if_neg c104] at H
              exact absurd H (by simp)
            ·
             rw [if_neg c103] at H
             have c103b0 : decide (x92_4 < (l0_5.length : Int)) = false := decide_eq_false c103
             clear c103
             have H' := Aside0.mk H
             clear H
             have hcz116_0 : wr.cell? ⟨gb187, 0, none⟩ = some (.string a0_0) := (blk_cell BK187.out 0).trans rfl
             have hcz116_1 : wr.cell? ⟨gb187, 1, none⟩ = some (.string a0_1) := (blk_cell BK187.out 1).trans rfl
             have hcz116_2 : wr.cell? ⟨gb187, 2, none⟩ = some (.string a0_2) := (blk_cell BK187.out 2).trans rfl
             have hcz116_3 : wr.cell? ⟨gb187, 3, none⟩ = some (.slice A0_3 l0_3.length c0_3) := (blk_cell BK187.out 3).trans rfl
             have hcz116_4 : wr.cell? ⟨gb187, 4, none⟩ = some (.slice A0_4 l0_4.length c0_4) := (blk_cell BK187.out 4).trans rfl
             have hcz116_5 : wr.cell? ⟨gb187, 5, none⟩ = some (.slice A0_5 l0_5.length c0_5) := (blk_cell BK187.out 5).trans rfl
             have hcz116_6 : wr.cell? ⟨gb187, 6, none⟩ = some (.slice A0_6 l0_6.length c0_6) := (blk_cell BK187.out 6).trans rfl
             have hcz116_7 : wr.cell? ⟨gb187, 7, none⟩ = some (.slice A0_7 l0_7.length c0_7) := (blk_cell BK187.out 7).trans rfl
             have hcz116_8 : wr.cell? ⟨gb187, 8, none⟩ = some (.slice A0_8 l0_8.length c0_8) := (blk_cell BK187.out 8).trans rfl
             have hfz116_0 := blk_frozen BK187.out 0
             have hfz116_1 := blk_frozen BK187.out 1
             have hfz116_2 := blk_frozen BK187.out 2
             have hfz116_3 := blk_frozen BK187.out 3
             have hfz116_4 := blk_frozen BK187.out 4
             have hfz116_5 := blk_frozen BK187.out 5
             have hfz116_6 := blk_frozen BK187.out 6
             have hfz116_7 := blk_frozen BK187.out 7
             have hfz116_8 := blk_frozen BK187.out 8
             go_wp2
             go_loopg [103] k4 (fun kq v103 w' => ∃ (x103_5 : Int), v103 = .int .i64 x103_5 ∧ Aside0 (spec_ContentOk.l3 kq l0_6 (l0_6.length : Int) x103_5 a0_0 a0_1 a0_2 l0_3 l0_4 l0_5 l0_6 l0_7 l0_8 = some r) ∧ Aside0 (kq ≤ k4) ∧ Aside0 (w'.heap[gb187]? = some (.cells #[.string a0_0, .string a0_1, .string a0_2, (.slice A0_3 l0_3.length c0_3), (.slice A0_4 l0_4.length c0_4), (.slice A0_5 l0_5.length c0_5), (.slice A0_6 l0_6.length c0_6), (.slice A0_7 l0_7.length c0_7), (.slice A0_8 l0_8.length c0_8)] 32 (0, 0))) ∧ Aside0 (Below w.heap.size w w'))
             case atStart => exact ⟨(0), (by first | rfl | (simp; done) | (simp [*]; done)), H', ⟨Nat.le_refl _⟩, ⟨by (with_reducible repeat (first | refine blk_drewN ?_ _ | refine blk_drew ?_ | refine blk_alloc ?_ _)); exact BK187.out⟩, ⟨by repeat (first | (with_reducible first | exact HB.out | apply below_alloc | apply pw_below_drewN | apply below_drew1 | refine below_set ?_ GE187.out) | exact HB.out)⟩⟩
             case round =>
              clear H'
              clear c103b0
              clear hcz116_0 hcz116_1 hcz116_2 hcz116_3 hcz116_4 hcz116_5 hcz116_6 hcz116_7
              clear hcz116_8
              clear hfz116_0 hfz116_1
              clear hfz116_2 hfz116_3 hfz116_4 hfz116_5 hfz116_6 hfz116_7 hfz116_8
              obtain ⟨x103_5, rfl, HA, HK5, BK187, HB⟩ := hrel
              cases gk with
              | zero => exact absurd HA.out (by simp [spec_ContentOk.l3])
              | succ k5 =>
               have H := HA.out
               clear HA
               simp only [spec_ContentOk.l3] at H
               by_cases c117 : x103_5 < (l0_6.length : Int)
               ·
                rw [if_pos c117] at H
                have c117b0 : decide (x103_5 < (l0_6.length : Int)) = true := decide_eq_true c117
                clear c117
                by_cases c118 : 0 ≤ x103_5
                ·
                 rw [if_pos c118] at H
                 have c118b0 : decide (0 ≤ x103_5) = true := decide_eq_true c118
                 clear c118
                 by_cases c119 : x103_5 < (l0_6.length : Int)
                 ·
                  rw [if_pos c119] at H
                  have c119b0 : decide (x103_5 < (l0_6.length : Int)) = true := decide_eq_true c119
                  clear c119
                  replace H := Option.bind_eq_some_iff.mp H
                  obtain ⟨t207, A1200, H⟩ := H
                  replace H : (if t207 = true then ((spec_VersionOk.f k5 ((rd_T53 l0_6 x103_5).f1)).bind fun t208 => (if t208 = true then ((spec_WhyOk.f k5 ((rd_T53 l0_6 x103_5).f2)).bind fun t209 => (if t209 = true then (spec_ContentOk.l3 k5 l0_6 (l0_6.length : Int) (wrap64 (x103_5 + 1)) a0_0 a0_1 a0_2 l0_3 l0_4 l0_5 l0_6 l0_7 l0_8) else (some false))) else (some false))) else (some false)) = some r := H
                  have A120 := Aside0.mk A1200
                  clear A1200
                  by_cases c121 : t207 = true
                  ·
                   subst c121
                   have H1 : ((spec_VersionOk.f k5 ((rd_T53 l0_6 x103_5).f1)).bind fun t208 => (if t208 = true then ((spec_WhyOk.f k5 ((rd_T53 l0_6 x103_5).f2)).bind fun t209 => (if t209 = true then (spec_ContentOk.l3 k5 l0_6 (l0_6.length : Int) (wrap64 (x103_5 + 1)) a0_0 a0_1 a0_2 l0_3 l0_4 l0_5 l0_6 l0_7 l0_8) else (some false))) else (some false))) = some r := by rw [if_pos rfl] at H; exact H
                   clear H
                   have H := H1
                   clear H1
                   replace H := Option.bind_eq_some_iff.mp H
                   obtain ⟨t208, A1220, H⟩ := H
                   replace H : (if t208 = true then ((spec_WhyOk.f k5 ((rd_T53 l0_6 x103_5).f2)).bind fun t209 => (if t209 = true then (spec_ContentOk.l3 k5 l0_6 (l0_6.length : Int) (wrap64 (x103_5 + 1)) a0_0 a0_1 a0_2 l0_3 l0_4 l0_5 l0_6 l0_7 l0_8) else (some false))) else (some false)) = some r := H
                   have A122 := Aside0.mk A1220
                   clear A1220
                   by_cases c123 : t208 = true
                   ·
                    subst c123
                    have H1 : ((spec_WhyOk.f k5 ((rd_T53 l0_6 x103_5).f2)).bind fun t209 => (if t209 = true then (spec_ContentOk.l3 k5 l0_6 (l0_6.length : Int) (wrap64 (x103_5 + 1)) a0_0 a0_1 a0_2 l0_3 l0_4 l0_5 l0_6 l0_7 l0_8) else (some false))) = some r := by rw [if_pos rfl] at H; exact H
                    clear H
                    have H := H1
                    clear H1
                    replace H := Option.bind_eq_some_iff.mp H
                    obtain ⟨t209, A1240, H⟩ := H
                    replace H : (if t209 = true then (spec_ContentOk.l3 k5 l0_6 (l0_6.length : Int) (wrap64 (x103_5 + 1)) a0_0 a0_1 a0_2 l0_3 l0_4 l0_5 l0_6 l0_7 l0_8) else (some false)) = some r := H
                    have A124 := Aside0.mk A1240
                    clear A1240
                    by_cases c125 : t209 = true
                    ·
                     subst c125
                     have H1 : (spec_ContentOk.l3 k5 l0_6 (l0_6.length : Int) (wrap64 (x103_5 + 1)) a0_0 a0_1 a0_2 l0_3 l0_4 l0_5 l0_6 l0_7 l0_8) = some r := by rw [if_pos rfl] at H; exact H
                     clear H
                     have H := H1
                     clear H1
                     have H' := Aside0.mk H
                     clear H
                     have p205 : 0 ≤ (x103_5 : Int) := of_decide_eq_true (by first | (with_reducible assumption) | assumption)
                     have q205 : x103_5 < (l0_6.length : Int) := of_decide_eq_true (by first | (with_reducible assumption) | assumption)
                     obtain ⟨ad205, e205, hx205_0, hx205_1, hx205_2⟩ := at_T53 HR0_6.out x103_5 p205 q205
                     cases e205
                     replace hx205_0 := (HB.out.cell (World.block_lt_of_cell? w _ hx205_0)).trans hx205_0
                     replace hx205_1 := (HB.out.cell (World.block_lt_of_cell? w _ hx205_1)).trans hx205_1
                     replace hx205_2 := (HB.out.cell (World.block_lt_of_cell? w _ hx205_2)).trans hx205_2
                     replace p205 := eq_true p205
                     replace q205 := eq_true q205
                     go_wp2_with (first | ((with_reducible refine gate_dst (N := 10) rfl ?_); (try (refine gate_guard (by rfl) ?_; dsimp only)); refine box_event ?hg (N := 10) ?hd (cs := #[.string (⟨#[]⟩ : ByteArray), .string (⟨#[]⟩ : ByteArray), .string (⟨#[]⟩ : ByteArray)]) (t := 53) ?hr ?_; (case hd => rfl); (case hg => rfl); (case hr => first | (go_simp; done) | (go_simp; rfl)); intro gb206 hg w126 hbox hb; have n0_ := Aside0.mk (blk_below (g := gb187) (o := .cells #[.string a0_0, .string a0_1, .string a0_2, .slice A0_3 l0_3.length c0_3, .slice A0_4 l0_4.length c0_4, .slice A0_5 l0_5.length c0_5, .slice (some ad205) l0_6.length c0_6, .slice A0_7 l0_7.length c0_7, .slice A0_8 l0_8.length c0_8] 32 (0, 0)) (by (with_reducible repeat (first | refine blk_drewN ?_ _ | refine blk_drew ?_ | refine blk_alloc ?_ _)); exact BK187.out) hb); have n1_ := Aside0.mk (below_step (by repeat (first | (with_reducible first | exact HB.out | apply below_alloc | apply pw_below_drewN | apply below_drew1 | refine below_set ?_ GE187.out) | exact HB.out)) hb); have n2_ := Aside0.mk (hbox); have n3_ := Aside0.mk ((by rw [hg]; exact (below_size (by repeat (first | (with_reducible first | exact HB.out | apply below_alloc | apply pw_below_drewN | apply below_drew1 | refine below_set ?_ GE187.out) | exact HB.out))) : w.heap.size ≤ gb206)); have n4_ := Aside0.mk ((by rw [hg]; exact (below_size (by repeat (first | (with_reducible first | exact HB.out | apply below_alloc | apply pw_below_drewN | apply below_drew1 | refine below_set ?_ GE187.out) | exact HB.out))) : w.heap.size ≤ gb206)); have n5_ := Aside0.mk ((by rw [hg]; exact Nat.ne_of_lt (blk_lt (g := gb187) (o := .cells #[.string a0_0, .string a0_1, .string a0_2, .slice A0_3 l0_3.length c0_3, .slice A0_4 l0_4.length c0_4, .slice A0_5 l0_5.length c0_5, .slice (some ad205) l0_6.length c0_6, .slice A0_7 l0_7.length c0_7, .slice A0_8 l0_8.length c0_8] 32 (0, 0)) (by (with_reducible repeat (first | refine blk_drewN ?_ _ | refine blk_drew ?_ | refine blk_alloc ?_ _)); exact BK187.out)) : gb187 ≠ gb206)); have n6_ := Aside0.mk ((by rw [hg]; exact Nat.ne_of_gt (blk_lt (g := gb187) (o := .cells #[.string a0_0, .string a0_1, .string a0_2, .slice A0_3 l0_3.length c0_3, .slice A0_4 l0_4.length c0_4, .slice A0_5 l0_5.length c0_5, .slice (some ad205) l0_6.length c0_6, .slice A0_7 l0_7.length c0_7, .slice A0_8 l0_8.length c0_8] 32 (0, 0)) (by (with_reducible repeat (first | refine blk_drewN ?_ _ | refine blk_drew ?_ | refine blk_alloc ?_ _)); exact BK187.out)) : gb206 ≠ gb187)); clear BK187; clear HB; have BK187 := n0_; have HB := n1_; have BK206 := n2_; have GW206 := n3_; have GE206 := n4_; have NB187_206 := n5_; have NB206_187 := n6_; clear n0_ n1_ n2_ n3_ n4_ n5_ n6_; clear hb hbox hg; have hnb127 := NB206_187.out; have hnc127 := NB187_206.out; have hcz128_0 : w126.cell? ⟨gb206, 0, none⟩ = some (.string (⟨#[]⟩ : ByteArray)) := (blk_cell BK206.out 0).trans rfl; have hcz128_1 : w126.cell? ⟨gb206, 1, none⟩ = some (.string (⟨#[]⟩ : ByteArray)) := (blk_cell BK206.out 1).trans rfl; have hcz128_2 : w126.cell? ⟨gb206, 2, none⟩ = some (.string (⟨#[]⟩ : ByteArray)) := (blk_cell BK206.out 2).trans rfl; have hfz128_0 := blk_frozen BK206.out 0; have hfz128_1 := blk_frozen BK206.out 1; have hfz128_2 := blk_frozen BK206.out 2) | ((with_reducible refine gate_callee (f := 27) rfl ?_); refine goesL_ (some 109) rfl rfl Tryd.func27 (by kernel_rfl) rfl #[.string ((rd_T53 l0_6 x103_5).f0)] rfl (by (try simp only [List.map_toArray, List.map_cons, List.map_nil]); first | done | rfl | (simp only [List.length_drop, List.length_take]; rfl)) ?_; (with_reducible refine (spec_VersionOk.calls k5 ((rd_T53 l0_6 x103_5).f0) true _ A120.out).mono ?_); rintro e w129 ⟨rfl, hb⟩; refine ⟨_, rfl, ?_⟩; have n0_ := Aside0.mk (blk_below (g := gb187) (o := .cells #[.string a0_0, .string a0_1, .string a0_2, .slice A0_3 l0_3.length c0_3, .slice A0_4 l0_4.length c0_4, .slice A0_5 l0_5.length c0_5, .slice (some ad205) l0_6.length c0_6, .slice A0_7 l0_7.length c0_7, .slice A0_8 l0_8.length c0_8] 32 (0, 0)) (by (with_reducible repeat (first | refine blk_drewN ?_ _ | refine blk_drew ?_ | refine blk_alloc ?_ _)); refine blk_far ?_ NB187_206.out _; (with_reducible repeat (first | refine blk_drewN ?_ _ | refine blk_drew ?_ | refine blk_alloc ?_ _)); refine blk_far ?_ NB187_206.out _; (with_reducible repeat (first | refine blk_drewN ?_ _ | refine blk_drew ?_ | refine blk_alloc ?_ _)); refine blk_far ?_ NB187_206.out _; (with_reducible repeat (first | refine blk_drewN ?_ _ | refine blk_drew ?_ | refine blk_alloc ?_ _)); exact BK187.out) hb); have n1_ := Aside0.mk (blk_below (g := gb206) (o := .cells #[.string ((rd_T53 l0_6 x103_5).f0), .string ((rd_T53 l0_6 x103_5).f1), .string ((rd_T53 l0_6 x103_5).f2)] 53 (0, 0)) (by (with_reducible repeat (first | refine blk_drewN ?_ _ | refine blk_drew ?_ | refine blk_alloc ?_ _)); refine blk_put (cs := #[.string ((rd_T53 l0_6 x103_5).f0), .string ((rd_T53 l0_6 x103_5).f1), .string (⟨#[]⟩ : ByteArray)]) ?_ 2 _ rfl; (with_reducible repeat (first | refine blk_drewN ?_ _ | refine blk_drew ?_ | refine blk_alloc ?_ _)); refine blk_put (cs := #[.string ((rd_T53 l0_6 x103_5).f0), .string (⟨#[]⟩ : ByteArray), .string (⟨#[]⟩ : ByteArray)]) ?_ 1 _ rfl; (with_reducible repeat (first | refine blk_drewN ?_ _ | refine blk_drew ?_ | refine blk_alloc ?_ _)); refine blk_put (cs := #[.string (⟨#[]⟩ : ByteArray), .string (⟨#[]⟩ : ByteArray), .string (⟨#[]⟩ : ByteArray)]) ?_ 0 _ rfl; (with_reducible repeat (first | refine blk_drewN ?_ _ | refine blk_drew ?_ | refine blk_alloc ?_ _)); exact BK206.out) hb); have n2_ := Aside0.mk (below_step (by repeat (first | (with_reducible first | exact HB.out | apply below_alloc | apply pw_below_drewN | apply below_drew1 | refine below_set ?_ GE187.out | refine below_set ?_ GE206.out) | exact HB.out)) hb); clear BK187; clear BK206; clear HB; have BK187 := n0_; have BK206 := n1_; have HB := n2_; clear n0_ n1_ n2_; (try clear hb); (try clear hb2); (try clear hk); (try clear hi); have hcz130_0 : w129.cell? ⟨gb206, 0, none⟩ = some (.string ((rd_T53 l0_6 x103_5).f0)) := (blk_cell BK206.out 0).trans rfl; have hcz130_1 : w129.cell? ⟨gb206, 1, none⟩ = some (.string ((rd_T53 l0_6 x103_5).f1)) := (blk_cell BK206.out 1).trans rfl; have hcz130_2 : w129.cell? ⟨gb206, 2, none⟩ = some (.string ((rd_T53 l0_6 x103_5).f2)) := (blk_cell BK206.out 2).trans rfl; have hfz130_0 := blk_frozen BK206.out 0; have hfz130_1 := blk_frozen BK206.out 1; have hfz130_2 := blk_frozen BK206.out 2) | (go_at_call 27; (with_reducible refine (spec_VersionOk.calls k5 ((rd_T53 l0_6 x103_5).f1) true _ A122.out).mono ?_); rintro e w131 ⟨rfl, hb⟩; have n0_ := Aside0.mk (blk_below (g := gb187) (o := .cells #[.string a0_0, .string a0_1, .string a0_2, .slice A0_3 l0_3.length c0_3, .slice A0_4 l0_4.length c0_4, .slice A0_5 l0_5.length c0_5, .slice (some ad205) l0_6.length c0_6, .slice A0_7 l0_7.length c0_7, .slice A0_8 l0_8.length c0_8] 32 (0, 0)) (by (with_reducible repeat (first | refine blk_drewN ?_ _ | refine blk_drew ?_ | refine blk_alloc ?_ _)); exact BK187.out) hb); have n1_ := Aside0.mk (blk_below (g := gb206) (o := .cells #[.string ((rd_T53 l0_6 x103_5).f0), .string ((rd_T53 l0_6 x103_5).f1), .string ((rd_T53 l0_6 x103_5).f2)] 53 (0, 0)) (by (with_reducible repeat (first | refine blk_drewN ?_ _ | refine blk_drew ?_ | refine blk_alloc ?_ _)); exact BK206.out) hb); have n2_ := Aside0.mk (below_step (by repeat (first | (with_reducible first | exact HB.out | apply below_alloc | apply pw_below_drewN | apply below_drew1 | refine below_set ?_ GE187.out | refine below_set ?_ GE206.out) | exact HB.out)) hb); clear BK187; clear BK206; clear HB; have BK187 := n0_; have BK206 := n1_; have HB := n2_; clear n0_ n1_ n2_; (try clear hb); (try clear hb2); (try clear hk); (try clear hi); have hcz132_0 : w131.cell? ⟨gb206, 0, none⟩ = some (.string ((rd_T53 l0_6 x103_5).f0)) := (blk_cell BK206.out 0).trans rfl; have hcz132_1 : w131.cell? ⟨gb206, 1, none⟩ = some (.string ((rd_T53 l0_6 x103_5).f1)) := (blk_cell BK206.out 1).trans rfl; have hcz132_2 : w131.cell? ⟨gb206, 2, none⟩ = some (.string ((rd_T53 l0_6 x103_5).f2)) := (blk_cell BK206.out 2).trans rfl; have hfz132_0 := blk_frozen BK206.out 0; have hfz132_1 := blk_frozen BK206.out 1; have hfz132_2 := blk_frozen BK206.out 2) | (go_at_call 29; (with_reducible refine (spec_WhyOk.calls k5 ((rd_T53 l0_6 x103_5).f2) true _ A124.out).mono ?_); rintro e w133 ⟨rfl, hb⟩; have n0_ := Aside0.mk (blk_below (g := gb187) (o := .cells #[.string a0_0, .string a0_1, .string a0_2, .slice A0_3 l0_3.length c0_3, .slice A0_4 l0_4.length c0_4, .slice A0_5 l0_5.length c0_5, .slice (some ad205) l0_6.length c0_6, .slice A0_7 l0_7.length c0_7, .slice A0_8 l0_8.length c0_8] 32 (0, 0)) (by (with_reducible repeat (first | refine blk_drewN ?_ _ | refine blk_drew ?_ | refine blk_alloc ?_ _)); exact BK187.out) hb); have n1_ := Aside0.mk (blk_below (g := gb206) (o := .cells #[.string ((rd_T53 l0_6 x103_5).f0), .string ((rd_T53 l0_6 x103_5).f1), .string ((rd_T53 l0_6 x103_5).f2)] 53 (0, 0)) (by (with_reducible repeat (first | refine blk_drewN ?_ _ | refine blk_drew ?_ | refine blk_alloc ?_ _)); exact BK206.out) hb); have n2_ := Aside0.mk (below_step (by repeat (first | (with_reducible first | exact HB.out | apply below_alloc | apply pw_below_drewN | apply below_drew1 | refine below_set ?_ GE187.out | refine below_set ?_ GE206.out) | exact HB.out)) hb); clear BK187; clear BK206; clear HB; have BK187 := n0_; have BK206 := n1_; have HB := n2_; clear n0_ n1_ n2_; (try clear hb); (try clear hb2); (try clear hk); (try clear hi)))
                     go_roundg k5
                     case measure => have := HJ1.out; have := HK2.out; have := HK3.out; have := HK4.out; have := HK5.out; omega
                     case rel => exact ⟨(wrap64 (x103_5 + 1)), (by first | rfl | (simp; done) | (simp [*]; done)), H', ⟨by have := HJ1.out; have := HK2.out; have := HK3.out; have := HK4.out; have := HK5.out; omega⟩, ⟨by (with_reducible repeat (first | refine blk_drewN ?_ _ | refine blk_drew ?_ | refine blk_alloc ?_ _)); exact BK187.out⟩, ⟨by repeat (first | (with_reducible first | exact HB.out | apply below_alloc | apply pw_below_drewN | apply below_drew1 | refine below_set ?_ GE187.out | refine below_set ?_ GE206.out) | exact HB.out)⟩⟩
                    ·
                     replace c125 := Bool.eq_false_iff.mpr c125
                     subst c125
                     have H1 : (some false) = some r := by rw [if_neg (show ¬ (false = true) by decide)] at H; exact H
                     clear H
                     have H := H1
                     clear H1
                     obtain rfl := Option.some.inj H
                     have p205 : 0 ≤ (x103_5 : Int) := of_decide_eq_true (by first | (with_reducible assumption) | assumption)
                     have q205 : x103_5 < (l0_6.length : Int) := of_decide_eq_true (by first | (with_reducible assumption) | assumption)
                     obtain ⟨ad205, e205, hx205_0, hx205_1, hx205_2⟩ := at_T53 HR0_6.out x103_5 p205 q205
                     cases e205
                     replace hx205_0 := (HB.out.cell (World.block_lt_of_cell? w _ hx205_0)).trans hx205_0
                     replace hx205_1 := (HB.out.cell (World.block_lt_of_cell? w _ hx205_1)).trans hx205_1
                     replace hx205_2 := (HB.out.cell (World.block_lt_of_cell? w _ hx205_2)).trans hx205_2
                     replace p205 := eq_true p205
                     replace q205 := eq_true q205
                     go_wp2_with (first | ((with_reducible refine gate_dst (N := 10) rfl ?_); (try (refine gate_guard (by rfl) ?_; dsimp only)); refine box_event ?hg (N := 10) ?hd (cs := #[.string (⟨#[]⟩ : ByteArray), .string (⟨#[]⟩ : ByteArray), .string (⟨#[]⟩ : ByteArray)]) (t := 53) ?hr ?_; (case hd => rfl); (case hg => rfl); (case hr => first | (go_simp; done) | (go_simp; rfl)); intro gb206 hg w134 hbox hb; have n0_ := Aside0.mk (blk_below (g := gb187) (o := .cells #[.string a0_0, .string a0_1, .string a0_2, .slice A0_3 l0_3.length c0_3, .slice A0_4 l0_4.length c0_4, .slice A0_5 l0_5.length c0_5, .slice (some ad205) l0_6.length c0_6, .slice A0_7 l0_7.length c0_7, .slice A0_8 l0_8.length c0_8] 32 (0, 0)) (by (with_reducible repeat (first | refine blk_drewN ?_ _ | refine blk_drew ?_ | refine blk_alloc ?_ _)); exact BK187.out) hb); have n1_ := Aside0.mk (below_step (by repeat (first | (with_reducible first | exact HB.out | apply below_alloc | apply pw_below_drewN | apply below_drew1 | refine below_set ?_ GE187.out) | exact HB.out)) hb); have n2_ := Aside0.mk (hbox); have n3_ := Aside0.mk ((by rw [hg]; exact (below_size (by repeat (first | (with_reducible first | exact HB.out | apply below_alloc | apply pw_below_drewN | apply below_drew1 | refine below_set ?_ GE187.out) | exact HB.out))) : w.heap.size ≤ gb206)); have n4_ := Aside0.mk ((by rw [hg]; exact (below_size (by repeat (first | (with_reducible first | exact HB.out | apply below_alloc | apply pw_below_drewN | apply below_drew1 | refine below_set ?_ GE187.out) | exact HB.out))) : w.heap.size ≤ gb206)); have n5_ := Aside0.mk ((by rw [hg]; exact Nat.ne_of_lt (blk_lt (g := gb187) (o := .cells #[.string a0_0, .string a0_1, .string a0_2, .slice A0_3 l0_3.length c0_3, .slice A0_4 l0_4.length c0_4, .slice A0_5 l0_5.length c0_5, .slice (some ad205) l0_6.length c0_6, .slice A0_7 l0_7.length c0_7, .slice A0_8 l0_8.length c0_8] 32 (0, 0)) (by (with_reducible repeat (first | refine blk_drewN ?_ _ | refine blk_drew ?_ | refine blk_alloc ?_ _)); exact BK187.out)) : gb187 ≠ gb206)); have n6_ := Aside0.mk ((by rw [hg]; exact Nat.ne_of_gt (blk_lt (g := gb187) (o := .cells #[.string a0_0, .string a0_1, .string a0_2, .slice A0_3 l0_3.length c0_3, .slice A0_4 l0_4.length c0_4, .slice A0_5 l0_5.length c0_5, .slice (some ad205) l0_6.length c0_6, .slice A0_7 l0_7.length c0_7, .slice A0_8 l0_8.length c0_8] 32 (0, 0)) (by (with_reducible repeat (first | refine blk_drewN ?_ _ | refine blk_drew ?_ | refine blk_alloc ?_ _)); exact BK187.out)) : gb206 ≠ gb187)); clear BK187; clear HB; have BK187 := n0_; have HB := n1_; have BK206 := n2_; have GW206 := n3_; have GE206 := n4_; have NB187_206 := n5_; have NB206_187 := n6_; clear n0_ n1_ n2_ n3_ n4_ n5_ n6_; clear hb hbox hg; have hnb135 := NB206_187.out; have hnc135 := NB187_206.out; have hcz136_0 : w134.cell? ⟨gb206, 0, none⟩ = some (.string (⟨#[]⟩ : ByteArray)) := (blk_cell BK206.out 0).trans rfl; have hcz136_1 : w134.cell? ⟨gb206, 1, none⟩ = some (.string (⟨#[]⟩ : ByteArray)) := (blk_cell BK206.out 1).trans rfl; have hcz136_2 : w134.cell? ⟨gb206, 2, none⟩ = some (.string (⟨#[]⟩ : ByteArray)) := (blk_cell BK206.out 2).trans rfl; have hfz136_0 := blk_frozen BK206.out 0; have hfz136_1 := blk_frozen BK206.out 1; have hfz136_2 := blk_frozen BK206.out 2) | ((with_reducible refine gate_callee (f := 27) rfl ?_); refine goesL_ (some 109) rfl rfl Tryd.func27 (by kernel_rfl) rfl #[.string ((rd_T53 l0_6 x103_5).f0)] rfl (by (try simp only [List.map_toArray, List.map_cons, List.map_nil]); first | done | rfl | (simp only [List.length_drop, List.length_take]; rfl)) ?_; (with_reducible refine (spec_VersionOk.calls k5 ((rd_T53 l0_6 x103_5).f0) true _ A120.out).mono ?_); rintro e w137 ⟨rfl, hb⟩; refine ⟨_, rfl, ?_⟩; have n0_ := Aside0.mk (blk_below (g := gb187) (o := .cells #[.string a0_0, .string a0_1, .string a0_2, .slice A0_3 l0_3.length c0_3, .slice A0_4 l0_4.length c0_4, .slice A0_5 l0_5.length c0_5, .slice (some ad205) l0_6.length c0_6, .slice A0_7 l0_7.length c0_7, .slice A0_8 l0_8.length c0_8] 32 (0, 0)) (by (with_reducible repeat (first | refine blk_drewN ?_ _ | refine blk_drew ?_ | refine blk_alloc ?_ _)); refine blk_far ?_ NB187_206.out _; (with_reducible repeat (first | refine blk_drewN ?_ _ | refine blk_drew ?_ | refine blk_alloc ?_ _)); refine blk_far ?_ NB187_206.out _; (with_reducible repeat (first | refine blk_drewN ?_ _ | refine blk_drew ?_ | refine blk_alloc ?_ _)); refine blk_far ?_ NB187_206.out _; (with_reducible repeat (first | refine blk_drewN ?_ _ | refine blk_drew ?_ | refine blk_alloc ?_ _)); exact BK187.out) hb); have n1_ := Aside0.mk (blk_below (g := gb206) (o := .cells #[.string ((rd_T53 l0_6 x103_5).f0), .string ((rd_T53 l0_6 x103_5).f1), .string ((rd_T53 l0_6 x103_5).f2)] 53 (0, 0)) (by (with_reducible repeat (first | refine blk_drewN ?_ _ | refine blk_drew ?_ | refine blk_alloc ?_ _)); refine blk_put (cs := #[.string ((rd_T53 l0_6 x103_5).f0), .string ((rd_T53 l0_6 x103_5).f1), .string (⟨#[]⟩ : ByteArray)]) ?_ 2 _ rfl; (with_reducible repeat (first | refine blk_drewN ?_ _ | refine blk_drew ?_ | refine blk_alloc ?_ _)); refine blk_put (cs := #[.string ((rd_T53 l0_6 x103_5).f0), .string (⟨#[]⟩ : ByteArray), .string (⟨#[]⟩ : ByteArray)]) ?_ 1 _ rfl; (with_reducible repeat (first | refine blk_drewN ?_ _ | refine blk_drew ?_ | refine blk_alloc ?_ _)); refine blk_put (cs := #[.string (⟨#[]⟩ : ByteArray), .string (⟨#[]⟩ : ByteArray), .string (⟨#[]⟩ : ByteArray)]) ?_ 0 _ rfl; (with_reducible repeat (first | refine blk_drewN ?_ _ | refine blk_drew ?_ | refine blk_alloc ?_ _)); exact BK206.out) hb); have n2_ := Aside0.mk (below_step (by repeat (first | (with_reducible first | exact HB.out | apply below_alloc | apply pw_below_drewN | apply below_drew1 | refine below_set ?_ GE187.out | refine below_set ?_ GE206.out) | exact HB.out)) hb); clear BK187; clear BK206; clear HB; have BK187 := n0_; have BK206 := n1_; have HB := n2_; clear n0_ n1_ n2_; (try clear hb); (try clear hb2); (try clear hk); (try clear hi); have hcz138_0 : w137.cell? ⟨gb206, 0, none⟩ = some (.string ((rd_T53 l0_6 x103_5).f0)) := (blk_cell BK206.out 0).trans rfl; have hcz138_1 : w137.cell? ⟨gb206, 1, none⟩ = some (.string ((rd_T53 l0_6 x103_5).f1)) := (blk_cell BK206.out 1).trans rfl; have hcz138_2 : w137.cell? ⟨gb206, 2, none⟩ = some (.string ((rd_T53 l0_6 x103_5).f2)) := (blk_cell BK206.out 2).trans rfl; have hfz138_0 := blk_frozen BK206.out 0; have hfz138_1 := blk_frozen BK206.out 1; have hfz138_2 := blk_frozen BK206.out 2) | (go_at_call 27; (with_reducible refine (spec_VersionOk.calls k5 ((rd_T53 l0_6 x103_5).f1) true _ A122.out).mono ?_); rintro e w139 ⟨rfl, hb⟩; have n0_ := Aside0.mk (blk_below (g := gb187) (o := .cells #[.string a0_0, .string a0_1, .string a0_2, .slice A0_3 l0_3.length c0_3, .slice A0_4 l0_4.length c0_4, .slice A0_5 l0_5.length c0_5, .slice (some ad205) l0_6.length c0_6, .slice A0_7 l0_7.length c0_7, .slice A0_8 l0_8.length c0_8] 32 (0, 0)) (by (with_reducible repeat (first | refine blk_drewN ?_ _ | refine blk_drew ?_ | refine blk_alloc ?_ _)); exact BK187.out) hb); have n1_ := Aside0.mk (blk_below (g := gb206) (o := .cells #[.string ((rd_T53 l0_6 x103_5).f0), .string ((rd_T53 l0_6 x103_5).f1), .string ((rd_T53 l0_6 x103_5).f2)] 53 (0, 0)) (by (with_reducible repeat (first | refine blk_drewN ?_ _ | refine blk_drew ?_ | refine blk_alloc ?_ _)); exact BK206.out) hb); have n2_ := Aside0.mk (below_step (by repeat (first | (with_reducible first | exact HB.out | apply below_alloc | apply pw_below_drewN | apply below_drew1 | refine below_set ?_ GE187.out | refine below_set ?_ GE206.out) | exact HB.out)) hb); clear BK187; clear BK206; clear HB; have BK187 := n0_; have BK206 := n1_; have HB := n2_; clear n0_ n1_ n2_; (try clear hb); (try clear hb2); (try clear hk); (try clear hi); have hcz140_0 : w139.cell? ⟨gb206, 0, none⟩ = some (.string ((rd_T53 l0_6 x103_5).f0)) := (blk_cell BK206.out 0).trans rfl; have hcz140_1 : w139.cell? ⟨gb206, 1, none⟩ = some (.string ((rd_T53 l0_6 x103_5).f1)) := (blk_cell BK206.out 1).trans rfl; have hcz140_2 : w139.cell? ⟨gb206, 2, none⟩ = some (.string ((rd_T53 l0_6 x103_5).f2)) := (blk_cell BK206.out 2).trans rfl; have hfz140_0 := blk_frozen BK206.out 0; have hfz140_1 := blk_frozen BK206.out 1; have hfz140_2 := blk_frozen BK206.out 2) | (go_at_call 29; (with_reducible refine (spec_WhyOk.calls k5 ((rd_T53 l0_6 x103_5).f2) false _ A124.out).mono ?_); rintro e w141 ⟨rfl, hb⟩; have n0_ := Aside0.mk (blk_below (g := gb187) (o := .cells #[.string a0_0, .string a0_1, .string a0_2, .slice A0_3 l0_3.length c0_3, .slice A0_4 l0_4.length c0_4, .slice A0_5 l0_5.length c0_5, .slice (some ad205) l0_6.length c0_6, .slice A0_7 l0_7.length c0_7, .slice A0_8 l0_8.length c0_8] 32 (0, 0)) (by (with_reducible repeat (first | refine blk_drewN ?_ _ | refine blk_drew ?_ | refine blk_alloc ?_ _)); exact BK187.out) hb); have n1_ := Aside0.mk (blk_below (g := gb206) (o := .cells #[.string ((rd_T53 l0_6 x103_5).f0), .string ((rd_T53 l0_6 x103_5).f1), .string ((rd_T53 l0_6 x103_5).f2)] 53 (0, 0)) (by (with_reducible repeat (first | refine blk_drewN ?_ _ | refine blk_drew ?_ | refine blk_alloc ?_ _)); exact BK206.out) hb); have n2_ := Aside0.mk (below_step (by repeat (first | (with_reducible first | exact HB.out | apply below_alloc | apply pw_below_drewN | apply below_drew1 | refine below_set ?_ GE187.out | refine below_set ?_ GE206.out) | exact HB.out)) hb); clear BK187; clear BK206; clear HB; have BK187 := n0_; have BK206 := n1_; have HB := n2_; clear n0_ n1_ n2_; (try clear hb); (try clear hb2); (try clear hk); (try clear hi)))
                     go_ret
                     exact ⟨by first | rfl | (simp [errW_none, errW_some] <;> rfl) | (simp [*, errW_none, errW_some] <;> rfl), by repeat (first | (with_reducible first | exact HB.out | apply below_alloc | apply pw_below_drewN | apply below_drew1 | refine below_set ?_ GE187.out | refine below_set ?_ GE206.out) | exact HB.out)⟩
                   ·
                    replace c123 := Bool.eq_false_iff.mpr c123
                    subst c123
                    have H1 : (some false) = some r := by rw [if_neg (show ¬ (false = true) by decide)] at H; exact H
                    clear H
                    have H := H1
                    clear H1
                    obtain rfl := Option.some.inj H
                    have p205 : 0 ≤ (x103_5 : Int) := of_decide_eq_true (by first | (with_reducible assumption) | assumption)
                    have q205 : x103_5 < (l0_6.length : Int) := of_decide_eq_true (by first | (with_reducible assumption) | assumption)
                    obtain ⟨ad205, e205, hx205_0, hx205_1, hx205_2⟩ := at_T53 HR0_6.out x103_5 p205 q205
                    cases e205
                    replace hx205_0 := (HB.out.cell (World.block_lt_of_cell? w _ hx205_0)).trans hx205_0
                    replace hx205_1 := (HB.out.cell (World.block_lt_of_cell? w _ hx205_1)).trans hx205_1
                    replace hx205_2 := (HB.out.cell (World.block_lt_of_cell? w _ hx205_2)).trans hx205_2
                    replace p205 := eq_true p205
                    replace q205 := eq_true q205
                    go_wp2_with (first | ((with_reducible refine gate_dst (N := 10) rfl ?_); (try (refine gate_guard (by rfl) ?_; dsimp only)); refine box_event ?hg (N := 10) ?hd (cs := #[.string (⟨#[]⟩ : ByteArray), .string (⟨#[]⟩ : ByteArray), .string (⟨#[]⟩ : ByteArray)]) (t := 53) ?hr ?_; (case hd => rfl); (case hg => rfl); (case hr => first | (go_simp; done) | (go_simp; rfl)); intro gb206 hg w142 hbox hb; have n0_ := Aside0.mk (blk_below (g := gb187) (o := .cells #[.string a0_0, .string a0_1, .string a0_2, .slice A0_3 l0_3.length c0_3, .slice A0_4 l0_4.length c0_4, .slice A0_5 l0_5.length c0_5, .slice (some ad205) l0_6.length c0_6, .slice A0_7 l0_7.length c0_7, .slice A0_8 l0_8.length c0_8] 32 (0, 0)) (by (with_reducible repeat (first | refine blk_drewN ?_ _ | refine blk_drew ?_ | refine blk_alloc ?_ _)); exact BK187.out) hb); have n1_ := Aside0.mk (below_step (by repeat (first | (with_reducible first | exact HB.out | apply below_alloc | apply pw_below_drewN | apply below_drew1 | refine below_set ?_ GE187.out) | exact HB.out)) hb); have n2_ := Aside0.mk (hbox); have n3_ := Aside0.mk ((by rw [hg]; exact (below_size (by repeat (first | (with_reducible first | exact HB.out | apply below_alloc | apply pw_below_drewN | apply below_drew1 | refine below_set ?_ GE187.out) | exact HB.out))) : w.heap.size ≤ gb206)); have n4_ := Aside0.mk ((by rw [hg]; exact (below_size (by repeat (first | (with_reducible first | exact HB.out | apply below_alloc | apply pw_below_drewN | apply below_drew1 | refine below_set ?_ GE187.out) | exact HB.out))) : w.heap.size ≤ gb206)); have n5_ := Aside0.mk ((by rw [hg]; exact Nat.ne_of_lt (blk_lt (g := gb187) (o := .cells #[.string a0_0, .string a0_1, .string a0_2, .slice A0_3 l0_3.length c0_3, .slice A0_4 l0_4.length c0_4, .slice A0_5 l0_5.length c0_5, .slice (some ad205) l0_6.length c0_6, .slice A0_7 l0_7.length c0_7, .slice A0_8 l0_8.length c0_8] 32 (0, 0)) (by (with_reducible repeat (first | refine blk_drewN ?_ _ | refine blk_drew ?_ | refine blk_alloc ?_ _)); exact BK187.out)) : gb187 ≠ gb206)); have n6_ := Aside0.mk ((by rw [hg]; exact Nat.ne_of_gt (blk_lt (g := gb187) (o := .cells #[.string a0_0, .string a0_1, .string a0_2, .slice A0_3 l0_3.length c0_3, .slice A0_4 l0_4.length c0_4, .slice A0_5 l0_5.length c0_5, .slice (some ad205) l0_6.length c0_6, .slice A0_7 l0_7.length c0_7, .slice A0_8 l0_8.length c0_8] 32 (0, 0)) (by (with_reducible repeat (first | refine blk_drewN ?_ _ | refine blk_drew ?_ | refine blk_alloc ?_ _)); exact BK187.out)) : gb206 ≠ gb187)); clear BK187; clear HB; have BK187 := n0_; have HB := n1_; have BK206 := n2_; have GW206 := n3_; have GE206 := n4_; have NB187_206 := n5_; have NB206_187 := n6_; clear n0_ n1_ n2_ n3_ n4_ n5_ n6_; clear hb hbox hg; have hnb143 := NB206_187.out; have hnc143 := NB187_206.out; have hcz144_0 : w142.cell? ⟨gb206, 0, none⟩ = some (.string (⟨#[]⟩ : ByteArray)) := (blk_cell BK206.out 0).trans rfl; have hcz144_1 : w142.cell? ⟨gb206, 1, none⟩ = some (.string (⟨#[]⟩ : ByteArray)) := (blk_cell BK206.out 1).trans rfl; have hcz144_2 : w142.cell? ⟨gb206, 2, none⟩ = some (.string (⟨#[]⟩ : ByteArray)) := (blk_cell BK206.out 2).trans rfl; have hfz144_0 := blk_frozen BK206.out 0; have hfz144_1 := blk_frozen BK206.out 1; have hfz144_2 := blk_frozen BK206.out 2) | ((with_reducible refine gate_callee (f := 27) rfl ?_); refine goesL_ (some 109) rfl rfl Tryd.func27 (by kernel_rfl) rfl #[.string ((rd_T53 l0_6 x103_5).f0)] rfl (by (try simp only [List.map_toArray, List.map_cons, List.map_nil]); first | done | rfl | (simp only [List.length_drop, List.length_take]; rfl)) ?_; (with_reducible refine (spec_VersionOk.calls k5 ((rd_T53 l0_6 x103_5).f0) true _ A120.out).mono ?_); rintro e w145 ⟨rfl, hb⟩; refine ⟨_, rfl, ?_⟩; have n0_ := Aside0.mk (blk_below (g := gb187) (o := .cells #[.string a0_0, .string a0_1, .string a0_2, .slice A0_3 l0_3.length c0_3, .slice A0_4 l0_4.length c0_4, .slice A0_5 l0_5.length c0_5, .slice (some ad205) l0_6.length c0_6, .slice A0_7 l0_7.length c0_7, .slice A0_8 l0_8.length c0_8] 32 (0, 0)) (by (with_reducible repeat (first | refine blk_drewN ?_ _ | refine blk_drew ?_ | refine blk_alloc ?_ _)); refine blk_far ?_ NB187_206.out _; (with_reducible repeat (first | refine blk_drewN ?_ _ | refine blk_drew ?_ | refine blk_alloc ?_ _)); refine blk_far ?_ NB187_206.out _; (with_reducible repeat (first | refine blk_drewN ?_ _ | refine blk_drew ?_ | refine blk_alloc ?_ _)); refine blk_far ?_ NB187_206.out _; (with_reducible repeat (first | refine blk_drewN ?_ _ | refine blk_drew ?_ | refine blk_alloc ?_ _)); exact BK187.out) hb); have n1_ := Aside0.mk (blk_below (g := gb206) (o := .cells #[.string ((rd_T53 l0_6 x103_5).f0), .string ((rd_T53 l0_6 x103_5).f1), .string ((rd_T53 l0_6 x103_5).f2)] 53 (0, 0)) (by (with_reducible repeat (first | refine blk_drewN ?_ _ | refine blk_drew ?_ | refine blk_alloc ?_ _)); refine blk_put (cs := #[.string ((rd_T53 l0_6 x103_5).f0), .string ((rd_T53 l0_6 x103_5).f1), .string (⟨#[]⟩ : ByteArray)]) ?_ 2 _ rfl; (with_reducible repeat (first | refine blk_drewN ?_ _ | refine blk_drew ?_ | refine blk_alloc ?_ _)); refine blk_put (cs := #[.string ((rd_T53 l0_6 x103_5).f0), .string (⟨#[]⟩ : ByteArray), .string (⟨#[]⟩ : ByteArray)]) ?_ 1 _ rfl; (with_reducible repeat (first | refine blk_drewN ?_ _ | refine blk_drew ?_ | refine blk_alloc ?_ _)); refine blk_put (cs := #[.string (⟨#[]⟩ : ByteArray), .string (⟨#[]⟩ : ByteArray), .string (⟨#[]⟩ : ByteArray)]) ?_ 0 _ rfl; (with_reducible repeat (first | refine blk_drewN ?_ _ | refine blk_drew ?_ | refine blk_alloc ?_ _)); exact BK206.out) hb); have n2_ := Aside0.mk (below_step (by repeat (first | (with_reducible first | exact HB.out | apply below_alloc | apply pw_below_drewN | apply below_drew1 | refine below_set ?_ GE187.out | refine below_set ?_ GE206.out) | exact HB.out)) hb); clear BK187; clear BK206; clear HB; have BK187 := n0_; have BK206 := n1_; have HB := n2_; clear n0_ n1_ n2_; (try clear hb); (try clear hb2); (try clear hk); (try clear hi); have hcz146_0 : w145.cell? ⟨gb206, 0, none⟩ = some (.string ((rd_T53 l0_6 x103_5).f0)) := (blk_cell BK206.out 0).trans rfl; have hcz146_1 : w145.cell? ⟨gb206, 1, none⟩ = some (.string ((rd_T53 l0_6 x103_5).f1)) := (blk_cell BK206.out 1).trans rfl; have hcz146_2 : w145.cell? ⟨gb206, 2, none⟩ = some (.string ((rd_T53 l0_6 x103_5).f2)) := (blk_cell BK206.out 2).trans rfl; have hfz146_0 := blk_frozen BK206.out 0; have hfz146_1 := blk_frozen BK206.out 1; have hfz146_2 := blk_frozen BK206.out 2) | (go_at_call 27; (with_reducible refine (spec_VersionOk.calls k5 ((rd_T53 l0_6 x103_5).f1) false _ A122.out).mono ?_); rintro e w147 ⟨rfl, hb⟩; have n0_ := Aside0.mk (blk_below (g := gb187) (o := .cells #[.string a0_0, .string a0_1, .string a0_2, .slice A0_3 l0_3.length c0_3, .slice A0_4 l0_4.length c0_4, .slice A0_5 l0_5.length c0_5, .slice (some ad205) l0_6.length c0_6, .slice A0_7 l0_7.length c0_7, .slice A0_8 l0_8.length c0_8] 32 (0, 0)) (by (with_reducible repeat (first | refine blk_drewN ?_ _ | refine blk_drew ?_ | refine blk_alloc ?_ _)); exact BK187.out) hb); have n1_ := Aside0.mk (blk_below (g := gb206) (o := .cells #[.string ((rd_T53 l0_6 x103_5).f0), .string ((rd_T53 l0_6 x103_5).f1), .string ((rd_T53 l0_6 x103_5).f2)] 53 (0, 0)) (by (with_reducible repeat (first | refine blk_drewN ?_ _ | refine blk_drew ?_ | refine blk_alloc ?_ _)); exact BK206.out) hb); have n2_ := Aside0.mk (below_step (by repeat (first | (with_reducible first | exact HB.out | apply below_alloc | apply pw_below_drewN | apply below_drew1 | refine below_set ?_ GE187.out | refine below_set ?_ GE206.out) | exact HB.out)) hb); clear BK187; clear BK206; clear HB; have BK187 := n0_; have BK206 := n1_; have HB := n2_; clear n0_ n1_ n2_; (try clear hb); (try clear hb2); (try clear hk); (try clear hi)))
                    go_ret
                    exact ⟨by first | rfl | (simp [errW_none, errW_some] <;> rfl) | (simp [*, errW_none, errW_some] <;> rfl), by repeat (first | (with_reducible first | exact HB.out | apply below_alloc | apply pw_below_drewN | apply below_drew1 | refine below_set ?_ GE187.out | refine below_set ?_ GE206.out) | exact HB.out)⟩
                  ·
                   replace c121 := Bool.eq_false_iff.mpr c121
                   subst c121
                   have H1 : (some false) = some r := by rw [if_neg (show ¬ (false = true) by decide)] at H; exact H
                   clear H
                   have H := H1
                   clear H1
                   obtain rfl := Option.some.inj H
                   have p205 : 0 ≤ (x103_5 : Int) := of_decide_eq_true (by first | (with_reducible assumption) | assumption)
                   have q205 : x103_5 < (l0_6.length : Int) := of_decide_eq_true (by first | (with_reducible assumption) | assumption)
                   obtain ⟨ad205, e205, hx205_0, hx205_1, hx205_2⟩ := at_T53 HR0_6.out x103_5 p205 q205
                   cases e205
                   replace hx205_0 := (HB.out.cell (World.block_lt_of_cell? w _ hx205_0)).trans hx205_0
                   replace hx205_1 := (HB.out.cell (World.block_lt_of_cell? w _ hx205_1)).trans hx205_1
                   replace hx205_2 := (HB.out.cell (World.block_lt_of_cell? w _ hx205_2)).trans hx205_2
                   replace p205 := eq_true p205
                   replace q205 := eq_true q205
                   go_wp2_with (first | ((with_reducible refine gate_dst (N := 10) rfl ?_); (try (refine gate_guard (by rfl) ?_; dsimp only)); refine box_event ?hg (N := 10) ?hd (cs := #[.string (⟨#[]⟩ : ByteArray), .string (⟨#[]⟩ : ByteArray), .string (⟨#[]⟩ : ByteArray)]) (t := 53) ?hr ?_; (case hd => rfl); (case hg => rfl); (case hr => first | (go_simp; done) | (go_simp; rfl)); intro gb206 hg w148 hbox hb; have n0_ := Aside0.mk (blk_below (g := gb187) (o := .cells #[.string a0_0, .string a0_1, .string a0_2, .slice A0_3 l0_3.length c0_3, .slice A0_4 l0_4.length c0_4, .slice A0_5 l0_5.length c0_5, .slice (some ad205) l0_6.length c0_6, .slice A0_7 l0_7.length c0_7, .slice A0_8 l0_8.length c0_8] 32 (0, 0)) (by (with_reducible repeat (first | refine blk_drewN ?_ _ | refine blk_drew ?_ | refine blk_alloc ?_ _)); exact BK187.out) hb); have n1_ := Aside0.mk (below_step (by repeat (first | (with_reducible first | exact HB.out | apply below_alloc | apply pw_below_drewN | apply below_drew1 | refine below_set ?_ GE187.out) | exact HB.out)) hb); have n2_ := Aside0.mk (hbox); have n3_ := Aside0.mk ((by rw [hg]; exact (below_size (by repeat (first | (with_reducible first | exact HB.out | apply below_alloc | apply pw_below_drewN | apply below_drew1 | refine below_set ?_ GE187.out) | exact HB.out))) : w.heap.size ≤ gb206)); have n4_ := Aside0.mk ((by rw [hg]; exact (below_size (by repeat (first | (with_reducible first | exact HB.out | apply below_alloc | apply pw_below_drewN | apply below_drew1 | refine below_set ?_ GE187.out) | exact HB.out))) : w.heap.size ≤ gb206)); have n5_ := Aside0.mk ((by rw [hg]; exact Nat.ne_of_lt (blk_lt (g := gb187) (o := .cells #[.string a0_0, .string a0_1, .string a0_2, .slice A0_3 l0_3.length c0_3, .slice A0_4 l0_4.length c0_4, .slice A0_5 l0_5.length c0_5, .slice (some ad205) l0_6.length c0_6, .slice A0_7 l0_7.length c0_7, .slice A0_8 l0_8.length c0_8] 32 (0, 0)) (by (with_reducible repeat (first | refine blk_drewN ?_ _ | refine blk_drew ?_ | refine blk_alloc ?_ _)); exact BK187.out)) : gb187 ≠ gb206)); have n6_ := Aside0.mk ((by rw [hg]; exact Nat.ne_of_gt (blk_lt (g := gb187) (o := .cells #[.string a0_0, .string a0_1, .string a0_2, .slice A0_3 l0_3.length c0_3, .slice A0_4 l0_4.length c0_4, .slice A0_5 l0_5.length c0_5, .slice (some ad205) l0_6.length c0_6, .slice A0_7 l0_7.length c0_7, .slice A0_8 l0_8.length c0_8] 32 (0, 0)) (by (with_reducible repeat (first | refine blk_drewN ?_ _ | refine blk_drew ?_ | refine blk_alloc ?_ _)); exact BK187.out)) : gb206 ≠ gb187)); clear BK187; clear HB; have BK187 := n0_; have HB := n1_; have BK206 := n2_; have GW206 := n3_; have GE206 := n4_; have NB187_206 := n5_; have NB206_187 := n6_; clear n0_ n1_ n2_ n3_ n4_ n5_ n6_; clear hb hbox hg; have hnb149 := NB206_187.out; have hnc149 := NB187_206.out; have hcz150_0 : w148.cell? ⟨gb206, 0, none⟩ = some (.string (⟨#[]⟩ : ByteArray)) := (blk_cell BK206.out 0).trans rfl; have hcz150_1 : w148.cell? ⟨gb206, 1, none⟩ = some (.string (⟨#[]⟩ : ByteArray)) := (blk_cell BK206.out 1).trans rfl; have hcz150_2 : w148.cell? ⟨gb206, 2, none⟩ = some (.string (⟨#[]⟩ : ByteArray)) := (blk_cell BK206.out 2).trans rfl; have hfz150_0 := blk_frozen BK206.out 0; have hfz150_1 := blk_frozen BK206.out 1; have hfz150_2 := blk_frozen BK206.out 2) | ((with_reducible refine gate_callee (f := 27) rfl ?_); refine goesL_ (some 109) rfl rfl Tryd.func27 (by kernel_rfl) rfl #[.string ((rd_T53 l0_6 x103_5).f0)] rfl (by (try simp only [List.map_toArray, List.map_cons, List.map_nil]); first | done | rfl | (simp only [List.length_drop, List.length_take]; rfl)) ?_; (with_reducible refine (spec_VersionOk.calls k5 ((rd_T53 l0_6 x103_5).f0) false _ A120.out).mono ?_); rintro e w151 ⟨rfl, hb⟩; refine ⟨_, rfl, ?_⟩; have n0_ := Aside0.mk (blk_below (g := gb187) (o := .cells #[.string a0_0, .string a0_1, .string a0_2, .slice A0_3 l0_3.length c0_3, .slice A0_4 l0_4.length c0_4, .slice A0_5 l0_5.length c0_5, .slice (some ad205) l0_6.length c0_6, .slice A0_7 l0_7.length c0_7, .slice A0_8 l0_8.length c0_8] 32 (0, 0)) (by (with_reducible repeat (first | refine blk_drewN ?_ _ | refine blk_drew ?_ | refine blk_alloc ?_ _)); refine blk_far ?_ NB187_206.out _; (with_reducible repeat (first | refine blk_drewN ?_ _ | refine blk_drew ?_ | refine blk_alloc ?_ _)); refine blk_far ?_ NB187_206.out _; (with_reducible repeat (first | refine blk_drewN ?_ _ | refine blk_drew ?_ | refine blk_alloc ?_ _)); refine blk_far ?_ NB187_206.out _; (with_reducible repeat (first | refine blk_drewN ?_ _ | refine blk_drew ?_ | refine blk_alloc ?_ _)); exact BK187.out) hb); have n1_ := Aside0.mk (blk_below (g := gb206) (o := .cells #[.string ((rd_T53 l0_6 x103_5).f0), .string ((rd_T53 l0_6 x103_5).f1), .string ((rd_T53 l0_6 x103_5).f2)] 53 (0, 0)) (by (with_reducible repeat (first | refine blk_drewN ?_ _ | refine blk_drew ?_ | refine blk_alloc ?_ _)); refine blk_put (cs := #[.string ((rd_T53 l0_6 x103_5).f0), .string ((rd_T53 l0_6 x103_5).f1), .string (⟨#[]⟩ : ByteArray)]) ?_ 2 _ rfl; (with_reducible repeat (first | refine blk_drewN ?_ _ | refine blk_drew ?_ | refine blk_alloc ?_ _)); refine blk_put (cs := #[.string ((rd_T53 l0_6 x103_5).f0), .string (⟨#[]⟩ : ByteArray), .string (⟨#[]⟩ : ByteArray)]) ?_ 1 _ rfl; (with_reducible repeat (first | refine blk_drewN ?_ _ | refine blk_drew ?_ | refine blk_alloc ?_ _)); refine blk_put (cs := #[.string (⟨#[]⟩ : ByteArray), .string (⟨#[]⟩ : ByteArray), .string (⟨#[]⟩ : ByteArray)]) ?_ 0 _ rfl; (with_reducible repeat (first | refine blk_drewN ?_ _ | refine blk_drew ?_ | refine blk_alloc ?_ _)); exact BK206.out) hb); have n2_ := Aside0.mk (below_step (by repeat (first | (with_reducible first | exact HB.out | apply below_alloc | apply pw_below_drewN | apply below_drew1 | refine below_set ?_ GE187.out | refine below_set ?_ GE206.out) | exact HB.out)) hb); clear BK187; clear BK206; clear HB; have BK187 := n0_; have BK206 := n1_; have HB := n2_; clear n0_ n1_ n2_; (try clear hb); (try clear hb2); (try clear hk); (try clear hi)))
                   go_ret
                   exact ⟨by first | rfl | (simp [errW_none, errW_some] <;> rfl) | (simp [*, errW_none, errW_some] <;> rfl), by repeat (first | (with_reducible first | exact HB.out | apply below_alloc | apply pw_below_drewN | apply below_drew1 | refine below_set ?_ GE187.out | refine below_set ?_ GE206.out) | exact HB.out)⟩
                 ·
                  rw [if_neg c119] at H
                  exact absurd H (by simp)
                ·
                 rw [if_neg c118] at H
                 exact absurd H (by simp)
               ·
                rw [if_neg c117] at H
                have c117b0 : decide (x103_5 < (l0_6.length : Int)) = false := decide_eq_false c117
                clear c117
                have H' := Aside0.mk H
                clear H
                have hcz152_0 : wr.cell? ⟨gb187, 0, none⟩ = some (.string a0_0) := (blk_cell BK187.out 0).trans rfl
                have hcz152_1 : wr.cell? ⟨gb187, 1, none⟩ = some (.string a0_1) := (blk_cell BK187.out 1).trans rfl
                have hcz152_2 : wr.cell? ⟨gb187, 2, none⟩ = some (.string a0_2) := (blk_cell BK187.out 2).trans rfl
                have hcz152_3 : wr.cell? ⟨gb187, 3, none⟩ = some (.slice A0_3 l0_3.length c0_3) := (blk_cell BK187.out 3).trans rfl
                have hcz152_4 : wr.cell? ⟨gb187, 4, none⟩ = some (.slice A0_4 l0_4.length c0_4) := (blk_cell BK187.out 4).trans rfl
                have hcz152_5 : wr.cell? ⟨gb187, 5, none⟩ = some (.slice A0_5 l0_5.length c0_5) := (blk_cell BK187.out 5).trans rfl
                have hcz152_6 : wr.cell? ⟨gb187, 6, none⟩ = some (.slice A0_6 l0_6.length c0_6) := (blk_cell BK187.out 6).trans rfl
                have hcz152_7 : wr.cell? ⟨gb187, 7, none⟩ = some (.slice A0_7 l0_7.length c0_7) := (blk_cell BK187.out 7).trans rfl
                have hcz152_8 : wr.cell? ⟨gb187, 8, none⟩ = some (.slice A0_8 l0_8.length c0_8) := (blk_cell BK187.out 8).trans rfl
                have hfz152_0 := blk_frozen BK187.out 0
                have hfz152_1 := blk_frozen BK187.out 1
                have hfz152_2 := blk_frozen BK187.out 2
                have hfz152_3 := blk_frozen BK187.out 3
                have hfz152_4 := blk_frozen BK187.out 4
                have hfz152_5 := blk_frozen BK187.out 5
                have hfz152_6 := blk_frozen BK187.out 6
                have hfz152_7 := blk_frozen BK187.out 7
                have hfz152_8 := blk_frozen BK187.out 8
                obtain ⟨gs, hgs⟩ : ∃ g, wr.heap.size = g := ⟨_, rfl⟩
                have HGS := Aside0.mk hgs
                go_wp2
                clear hgs
                go_loopg [130] k5 (fun kq v130 w' => ∃ (z : Int), v130 = .int .i64 z ∧ Aside0 ((z = 0 ∧ spec_ContentOk.l4 kq l0_7 (l0_7.length : Int) 0 a0_0 a0_1 a0_2 l0_3 l0_4 l0_5 l0_6 l0_7 l0_8 = some r) ∨ (z = 1 ∧ spec_ContentOk.l5 kq l0_8 (l0_8.length : Int) 0 a0_0 a0_1 a0_2 l0_3 l0_4 l0_5 l0_6 l0_7 l0_8 = some r) ∨ (z = 2 ∧ (some (decide ((mx (mx (mx (mx (mx (l0_3.length : Int) (l0_4.length : Int)) (l0_5.length : Int)) (l0_6.length : Int)) (l0_7.length : Int)) (l0_8.length : Int)) ≤ 100))) = some r)) ∧ Aside0 (kq ≤ k5) ∧ Aside0 (w'.heap[gb187]? = some (.cells #[.string a0_0, .string a0_1, .string a0_2, (.slice A0_3 l0_3.length c0_3), (.slice A0_4 l0_4.length c0_4), (.slice A0_5 l0_5.length c0_5), (.slice A0_6 l0_6.length c0_6), (.slice A0_7 l0_7.length c0_7), (.slice A0_8 l0_8.length c0_8)] 32 (0, 0))) ∧ Aside0 (w'.heap[gs]? = some (.cells #[.slice A0_7 l0_7.length c0_7, .slice A0_8 l0_8.length c0_8] 30 (0, 0))) ∧ Aside0 (Below w.heap.size w w'))
                case atStart => exact ⟨0, rfl, ⟨Or.inl ⟨rfl, H'.out⟩⟩, ⟨Nat.le_refl _⟩, ⟨(by (with_reducible repeat (first | refine blk_drewN ?_ _ | refine blk_drew ?_ | refine blk_alloc ?_ _)); exact BK187.out)⟩, ⟨by rw [← HGS.out]; exact blk_new _ _⟩, ⟨(by repeat (first | (with_reducible first | exact HB.out | apply below_alloc | apply pw_below_drewN | apply below_drew1 | refine below_set ?_ GE187.out) | exact HB.out))⟩⟩
                case round =>
                 clear H' HB BK187
                 obtain ⟨z, rfl, HZ, HKZ, BK187, BKS, HB⟩ := hrel
                 have hs0 : wr.cell? ⟨gs, 0, none⟩ = some (.slice A0_7 l0_7.length c0_7) := (blk_cell BKS.out 0).trans rfl
                 have hs1 : wr.cell? ⟨gs, 1, none⟩ = some (.slice A0_8 l0_8.length c0_8) := (blk_cell BKS.out 1).trans rfl
                 rcases HZ.out with ⟨rfl, HA⟩ | ⟨rfl, HA⟩ | ⟨rfl, HA⟩
                 ·
                  have HA0 := Aside0.mk HA
                  clear HA
                  go_wp2
                  go_loopg [136] gk (fun kq v136 w' => ∃ (x : Int), v136 = .int .i64 x ∧ Aside0 (spec_ContentOk.l4 kq l0_7 (l0_7.length : Int) x a0_0 a0_1 a0_2 l0_3 l0_4 l0_5 l0_6 l0_7 l0_8 = some r) ∧ Aside0 (kq ≤ gk) ∧ Aside0 (w'.heap[gb187]? = some (.cells #[.string a0_0, .string a0_1, .string a0_2, (.slice A0_3 l0_3.length c0_3), (.slice A0_4 l0_4.length c0_4), (.slice A0_5 l0_5.length c0_5), (.slice A0_6 l0_6.length c0_6), (.slice A0_7 l0_7.length c0_7), (.slice A0_8 l0_8.length c0_8)] 32 (0, 0))) ∧ Aside0 (w'.heap[gs]? = some (.cells #[.slice A0_7 l0_7.length c0_7, .slice A0_8 l0_8.length c0_8] 30 (0, 0))) ∧ Aside0 (Below w.heap.size w w'))
                  case atStart => exact ⟨0, rfl, HA0, ⟨Nat.le_refl _⟩, ⟨(by (with_reducible repeat (first | refine blk_drewN ?_ _ | refine blk_drew ?_ | refine blk_alloc ?_ _)); exact BK187.out)⟩, ⟨(by (with_reducible repeat (first | refine blk_drewN ?_ _ | refine blk_drew ?_ | refine blk_alloc ?_ _)); exact BKS.out)⟩, ⟨(by repeat (first | (with_reducible first | exact HB.out | apply below_alloc | apply pw_below_drewN | apply below_drew1 | refine below_set ?_ GE187.out) | exact HB.out))⟩⟩
                  case round =>
                   clear HA0 HB BK187 BKS hs0 hs1
                   obtain ⟨x, rfl, HA, HKI, BK187, BKS, HB⟩ := hrel
                   cases gk with
                   | zero => exact absurd HA.out (by simp [spec_ContentOk.l4])
                   | succ k7 =>
                    have H := HA.out
                    clear HA
                    simp only [spec_ContentOk.l4] at H
                    by_cases c1 : x < (l0_7.length : Int)
                    ·
                     rw [if_pos c1] at H
                     have c1b0 : decide (x < (l0_7.length : Int)) = true := decide_eq_true c1
                     by_cases c2 : 0 ≤ x
                     ·
                      rw [if_pos c2, if_pos c1] at H
                      have c2b0 : decide (0 ≤ x) = true := decide_eq_true c2
                      replace H := Option.bind_eq_some_iff.mp H
                      obtain ⟨t, A1, H⟩ := H
                      replace H : (if t = true then (spec_ContentOk.l4 k7 l0_7 (l0_7.length : Int) (wrap64 (x + 1)) a0_0 a0_1 a0_2 l0_3 l0_4 l0_5 l0_6 l0_7 l0_8) else (some false)) = some r := H
                      have A2 := Aside0.mk A1
                      clear A1
                      obtain ⟨ad, e_, hx_0⟩ := Kd.at_string HR0_7.out x c2 c1
                      cases e_
                      replace hx_0 := (HB.out.cell (World.block_lt_of_cell? w _ hx_0)).trans hx_0
                      replace c1 := eq_true c1
                      replace c2 := eq_true c2
                      cases t with
                      | true =>
                       have H' : Aside0 (spec_ContentOk.l4 k7 l0_7 (l0_7.length : Int) (wrap64 (x + 1)) a0_0 a0_1 a0_2 l0_3 l0_4 l0_5 l0_6 l0_7 l0_8 = some r) := Aside0.mk (by rw [if_pos rfl] at H; exact H)
                       clear H
                       go_wp2_with (go_at_call 9; (with_reducible refine (spec_PathOk.calls k7 (rdOf ByteArray.empty l0_7 x) true _ A2.out).mono ?_); rintro e w' ⟨rfl, hb⟩; have n1_ := Aside0.mk (below_step (by exact HB.out) hb); have n2_ := Aside0.mk (blk_below BK187.out hb); have n3_ := Aside0.mk (blk_below BKS.out hb); clear HB BK187 BKS; have HB := n1_; have BK187 := n2_; have BKS := n3_; clear n1_ n2_ n3_ hb)
                       go_roundg k7
                       case measure => omega
                       case rel => exact ⟨(wrap64 (x + 1)), (by first | rfl | (simp; done) | (simp [*]; done)), H', ⟨by have := HKI.out; omega⟩, ⟨(by (with_reducible repeat (first | refine blk_drewN ?_ _ | refine blk_drew ?_ | refine blk_alloc ?_ _)); exact BK187.out)⟩, ⟨(by (with_reducible repeat (first | refine blk_drewN ?_ _ | refine blk_drew ?_ | refine blk_alloc ?_ _)); exact BKS.out)⟩, ⟨(by repeat (first | (with_reducible first | exact HB.out | apply below_alloc | apply pw_below_drewN | apply below_drew1 | refine below_set ?_ GE187.out) | exact HB.out))⟩⟩
                      | false =>
                       rw [if_neg (by decide)] at H
                       obtain rfl := Option.some.inj H
                       go_wp2_with (go_at_call 9; (with_reducible refine (spec_PathOk.calls k7 (rdOf ByteArray.empty l0_7 x) false _ A2.out).mono ?_); rintro e w' ⟨rfl, hb⟩; have n1_ := Aside0.mk (below_step (by exact HB.out) hb); have n2_ := Aside0.mk (blk_below BK187.out hb); have n3_ := Aside0.mk (blk_below BKS.out hb); clear HB BK187 BKS; have HB := n1_; have BK187 := n2_; have BKS := n3_; clear n1_ n2_ n3_ hb)
                       go_ret
                       exact ⟨rfl, HB.out⟩
                     ·
                      rw [if_neg c2] at H
                      exact absurd H (by simp)
                    ·
                     rw [if_neg c1] at H
                     have c1b0 : decide (x < (l0_7.length : Int)) = false := decide_eq_false c1
                     clear c1
                     have H' := Aside0.mk H
                     clear H
                     go_wp2
                     go_roundg k7
                     case measure => have := HKI.out; omega
                     case rel => exact ⟨1, (by first | rfl | (simp; done)), ⟨Or.inr (Or.inl ⟨rfl, H'.out⟩)⟩, ⟨by have := HKI.out; have := HKZ.out; omega⟩, ⟨(by (with_reducible repeat (first | refine blk_drewN ?_ _ | refine blk_drew ?_ | refine blk_alloc ?_ _)); exact BK187.out)⟩, ⟨(by (with_reducible repeat (first | refine blk_drewN ?_ _ | refine blk_drew ?_ | refine blk_alloc ?_ _)); exact BKS.out)⟩, ⟨(by repeat (first | (with_reducible first | exact HB.out | apply below_alloc | apply pw_below_drewN | apply below_drew1 | refine below_set ?_ GE187.out) | exact HB.out))⟩⟩
                 ·
                  have HA0 := Aside0.mk HA
                  clear HA
                  go_wp2
                  go_loopg [136] gk (fun kq v136 w' => ∃ (x : Int), v136 = .int .i64 x ∧ Aside0 (spec_ContentOk.l5 kq l0_8 (l0_8.length : Int) x a0_0 a0_1 a0_2 l0_3 l0_4 l0_5 l0_6 l0_7 l0_8 = some r) ∧ Aside0 (kq ≤ gk) ∧ Aside0 (w'.heap[gb187]? = some (.cells #[.string a0_0, .string a0_1, .string a0_2, (.slice A0_3 l0_3.length c0_3), (.slice A0_4 l0_4.length c0_4), (.slice A0_5 l0_5.length c0_5), (.slice A0_6 l0_6.length c0_6), (.slice A0_7 l0_7.length c0_7), (.slice A0_8 l0_8.length c0_8)] 32 (0, 0))) ∧ Aside0 (w'.heap[gs]? = some (.cells #[.slice A0_7 l0_7.length c0_7, .slice A0_8 l0_8.length c0_8] 30 (0, 0))) ∧ Aside0 (Below w.heap.size w w'))
                  case atStart => exact ⟨0, rfl, HA0, ⟨Nat.le_refl _⟩, ⟨(by (with_reducible repeat (first | refine blk_drewN ?_ _ | refine blk_drew ?_ | refine blk_alloc ?_ _)); exact BK187.out)⟩, ⟨(by (with_reducible repeat (first | refine blk_drewN ?_ _ | refine blk_drew ?_ | refine blk_alloc ?_ _)); exact BKS.out)⟩, ⟨(by repeat (first | (with_reducible first | exact HB.out | apply below_alloc | apply pw_below_drewN | apply below_drew1 | refine below_set ?_ GE187.out) | exact HB.out))⟩⟩
                  case round =>
                   clear HA0 HB BK187 BKS hs0 hs1
                   obtain ⟨x, rfl, HA, HKI, BK187, BKS, HB⟩ := hrel
                   cases gk with
                   | zero => exact absurd HA.out (by simp [spec_ContentOk.l5])
                   | succ k7 =>
                    have H := HA.out
                    clear HA
                    simp only [spec_ContentOk.l5] at H
                    by_cases c1 : x < (l0_8.length : Int)
                    ·
                     rw [if_pos c1] at H
                     have c1b0 : decide (x < (l0_8.length : Int)) = true := decide_eq_true c1
                     by_cases c2 : 0 ≤ x
                     ·
                      rw [if_pos c2, if_pos c1] at H
                      have c2b0 : decide (0 ≤ x) = true := decide_eq_true c2
                      replace H := Option.bind_eq_some_iff.mp H
                      obtain ⟨t, A1, H⟩ := H
                      replace H : (if t = true then (spec_ContentOk.l5 k7 l0_8 (l0_8.length : Int) (wrap64 (x + 1)) a0_0 a0_1 a0_2 l0_3 l0_4 l0_5 l0_6 l0_7 l0_8) else (some false)) = some r := H
                      have A2 := Aside0.mk A1
                      clear A1
                      obtain ⟨ad, e_, hx_0⟩ := Kd.at_string HR0_8.out x c2 c1
                      cases e_
                      replace hx_0 := (HB.out.cell (World.block_lt_of_cell? w _ hx_0)).trans hx_0
                      replace c1 := eq_true c1
                      replace c2 := eq_true c2
                      cases t with
                      | true =>
                       have H' : Aside0 (spec_ContentOk.l5 k7 l0_8 (l0_8.length : Int) (wrap64 (x + 1)) a0_0 a0_1 a0_2 l0_3 l0_4 l0_5 l0_6 l0_7 l0_8 = some r) := Aside0.mk (by rw [if_pos rfl] at H; exact H)
                       clear H
                       go_wp2_with (go_at_call 9; (with_reducible refine (spec_PathOk.calls k7 (rdOf ByteArray.empty l0_8 x) true _ A2.out).mono ?_); rintro e w' ⟨rfl, hb⟩; have n1_ := Aside0.mk (below_step (by exact HB.out) hb); have n2_ := Aside0.mk (blk_below BK187.out hb); have n3_ := Aside0.mk (blk_below BKS.out hb); clear HB BK187 BKS; have HB := n1_; have BK187 := n2_; have BKS := n3_; clear n1_ n2_ n3_ hb)
                       go_roundg k7
                       case measure => omega
                       case rel => exact ⟨(wrap64 (x + 1)), (by first | rfl | (simp; done) | (simp [*]; done)), H', ⟨by have := HKI.out; omega⟩, ⟨(by (with_reducible repeat (first | refine blk_drewN ?_ _ | refine blk_drew ?_ | refine blk_alloc ?_ _)); exact BK187.out)⟩, ⟨(by (with_reducible repeat (first | refine blk_drewN ?_ _ | refine blk_drew ?_ | refine blk_alloc ?_ _)); exact BKS.out)⟩, ⟨(by repeat (first | (with_reducible first | exact HB.out | apply below_alloc | apply pw_below_drewN | apply below_drew1 | refine below_set ?_ GE187.out) | exact HB.out))⟩⟩
                      | false =>
                       rw [if_neg (by decide)] at H
                       obtain rfl := Option.some.inj H
                       go_wp2_with (go_at_call 9; (with_reducible refine (spec_PathOk.calls k7 (rdOf ByteArray.empty l0_8 x) false _ A2.out).mono ?_); rintro e w' ⟨rfl, hb⟩; have n1_ := Aside0.mk (below_step (by exact HB.out) hb); have n2_ := Aside0.mk (blk_below BK187.out hb); have n3_ := Aside0.mk (blk_below BKS.out hb); clear HB BK187 BKS; have HB := n1_; have BK187 := n2_; have BKS := n3_; clear n1_ n2_ n3_ hb)
                       go_ret
                       exact ⟨rfl, HB.out⟩
                     ·
                      rw [if_neg c2] at H
                      exact absurd H (by simp)
                    ·
                     rw [if_neg c1] at H
                     have c1b0 : decide (x < (l0_8.length : Int)) = false := decide_eq_false c1
                     clear c1
                     have H' := Aside0.mk H
                     clear H
                     go_wp2
                     go_roundg k7
                     case measure => have := HKI.out; omega
                     case rel => exact ⟨2, (by first | rfl | (simp; done)), ⟨Or.inr (Or.inr ⟨rfl, H'.out⟩)⟩, ⟨by have := HKI.out; have := HKZ.out; omega⟩, ⟨(by (with_reducible repeat (first | refine blk_drewN ?_ _ | refine blk_drew ?_ | refine blk_alloc ?_ _)); exact BK187.out)⟩, ⟨(by (with_reducible repeat (first | refine blk_drewN ?_ _ | refine blk_drew ?_ | refine blk_alloc ?_ _)); exact BKS.out)⟩, ⟨(by repeat (first | (with_reducible first | exact HB.out | apply below_alloc | apply pw_below_drewN | apply below_drew1 | refine below_set ?_ GE187.out) | exact HB.out))⟩⟩
                 ·
                  have H := HA
                  clear HA
                  obtain ⟨jm, hjm⟩ : ∃ j_ : Int, (mx (mx (mx (mx (mx (l0_3.length : Int) (l0_4.length : Int)) (l0_5.length : Int)) (l0_6.length : Int)) (l0_7.length : Int)) (l0_8.length : Int)) = j_ := ⟨_, rfl⟩
                  replace H : (some (decide (jm ≤ 100))) = some r := by rw [hjm] at H; exact H
                  have hmx := fun W => max_six_run #[3, 3, 3, 3, 3, 3] 3 (l0_3.length : Int) (l0_4.length : Int) (l0_5.length : Int) (l0_6.length : Int) (l0_7.length : Int) (l0_8.length : Int) W
                  rw [hjm] at hmx
                  clear hjm
                  obtain rfl := Option.some.inj H
                  have hcz900_0 : wr.cell? ⟨gb187, 0, none⟩ = some (.string a0_0) := (blk_cell BK187.out 0).trans rfl
                  have hcz900_1 : wr.cell? ⟨gb187, 1, none⟩ = some (.string a0_1) := (blk_cell BK187.out 1).trans rfl
                  have hcz900_2 : wr.cell? ⟨gb187, 2, none⟩ = some (.string a0_2) := (blk_cell BK187.out 2).trans rfl
                  have hcz900_3 : wr.cell? ⟨gb187, 3, none⟩ = some (.slice A0_3 l0_3.length c0_3) := (blk_cell BK187.out 3).trans rfl
                  have hcz900_4 : wr.cell? ⟨gb187, 4, none⟩ = some (.slice A0_4 l0_4.length c0_4) := (blk_cell BK187.out 4).trans rfl
                  have hcz900_5 : wr.cell? ⟨gb187, 5, none⟩ = some (.slice A0_5 l0_5.length c0_5) := (blk_cell BK187.out 5).trans rfl
                  have hcz900_6 : wr.cell? ⟨gb187, 6, none⟩ = some (.slice A0_6 l0_6.length c0_6) := (blk_cell BK187.out 6).trans rfl
                  have hcz900_7 : wr.cell? ⟨gb187, 7, none⟩ = some (.slice A0_7 l0_7.length c0_7) := (blk_cell BK187.out 7).trans rfl
                  have hcz900_8 : wr.cell? ⟨gb187, 8, none⟩ = some (.slice A0_8 l0_8.length c0_8) := (blk_cell BK187.out 8).trans rfl
                  have hfz900_0 := blk_frozen BK187.out 0
                  have hfz900_1 := blk_frozen BK187.out 1
                  have hfz900_2 := blk_frozen BK187.out 2
                  have hfz900_3 := blk_frozen BK187.out 3
                  have hfz900_4 := blk_frozen BK187.out 4
                  have hfz900_5 := blk_frozen BK187.out 5
                  have hfz900_6 := blk_frozen BK187.out 6
                  have hfz900_7 := blk_frozen BK187.out 7
                  have hfz900_8 := blk_frozen BK187.out 8
                  go_wp2
                  go_ret
                  exact ⟨rfl, HB.out⟩
end Go.Proofs.YtlnmchehnhgfnaaDoor.PCont
