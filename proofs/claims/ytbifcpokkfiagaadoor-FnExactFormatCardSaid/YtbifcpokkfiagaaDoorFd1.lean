/- The printer's expr. Conditions: the tree lies in memory below the printer's block. -/
import Derived.Test.YtbifcpokkfiagaaDoorFc6
import Derived.Test.YtbifcpokkfiagaaDoorPFmx0
import Derived.Deep.Upon
import Derived.Deep.AppendLies
import Derived.Deep.RegionLaw
import Derived.Deep.RegionHeld3
namespace Go.Proofs.YtbifcpokkfiagaaDoor.F
open Go.RowKit Go.Proofs.YtbifcpokkfiagaaDoorW.PrintWords Go.Proofs.YtbifcpokkfiagaaDoor.PFm
set_option linter.unusedVariables false

theorem com101 (g o : Nat) (w : World) : (method 257 101 (.pointer (some ⟨g, o, none⟩)) "Comment").run Tryd.prog w = .ok (75, .pointer (some ⟨g, o, none⟩)) w := by kernel_rfl
theorem com102 (g o : Nat) (w : World) : (method 257 102 (.pointer (some ⟨g, o, none⟩)) "Comment").run Tryd.prog w = .ok (75, .pointer (some ⟨g, o, none⟩)) w := by kernel_rfl
theorem com61 (g o : Nat) (w : World) : (method 257 61 (.pointer (some ⟨g, o, none⟩)) "Comment").run Tryd.prog w = .ok (75, .pointer (some ⟨g, o, none⟩)) w := by kernel_rfl
theorem com67 (g o : Nat) (w : World) : (method 257 67 (.pointer (some ⟨g, o, none⟩)) "Comment").run Tryd.prog w = .ok (75, .pointer (some ⟨g, o, none⟩)) w := by kernel_rfl
theorem com74 (g o : Nat) (w : World) : (method 257 74 (.pointer (some ⟨g, o, none⟩)) "Comment").run Tryd.prog w = .ok (75, .pointer (some ⟨g, o, none⟩)) w := by kernel_rfl

theorem ta61_61 (v : Value) (w : World) : (Instr.typeAssert (.iface 61 v) 86 61 true).run Tryd.prog w = .ok (.tuple #[v, .bool true]) w := by kernel_rfl
theorem ta61_101 (v : Value) (w : World) : (Instr.typeAssert (.iface 61 v) 86 101 true).run Tryd.prog w = .ok (.tuple #[.pointer none, .bool false]) w := by kernel_rfl
theorem ta61_102 (v : Value) (w : World) : (Instr.typeAssert (.iface 61 v) 86 102 true).run Tryd.prog w = .ok (.tuple #[.pointer none, .bool false]) w := by kernel_rfl
theorem ta61_74 (v : Value) (w : World) : (Instr.typeAssert (.iface 61 v) 86 74 true).run Tryd.prog w = .ok (.tuple #[.pointer none, .bool false]) w := by kernel_rfl
theorem ta61_67 (v : Value) (w : World) : (Instr.typeAssert (.iface 61 v) 86 67 true).run Tryd.prog w = .ok (.tuple #[.pointer none, .bool false]) w := by kernel_rfl
theorem ta101_61 (v : Value) (w : World) : (Instr.typeAssert (.iface 101 v) 86 61 true).run Tryd.prog w = .ok (.tuple #[.pointer none, .bool false]) w := by kernel_rfl
theorem ta101_101 (v : Value) (w : World) : (Instr.typeAssert (.iface 101 v) 86 101 true).run Tryd.prog w = .ok (.tuple #[v, .bool true]) w := by kernel_rfl
theorem ta101_102 (v : Value) (w : World) : (Instr.typeAssert (.iface 101 v) 86 102 true).run Tryd.prog w = .ok (.tuple #[.pointer none, .bool false]) w := by kernel_rfl
theorem ta101_74 (v : Value) (w : World) : (Instr.typeAssert (.iface 101 v) 86 74 true).run Tryd.prog w = .ok (.tuple #[.pointer none, .bool false]) w := by kernel_rfl
theorem ta101_67 (v : Value) (w : World) : (Instr.typeAssert (.iface 101 v) 86 67 true).run Tryd.prog w = .ok (.tuple #[.pointer none, .bool false]) w := by kernel_rfl
theorem ta102_61 (v : Value) (w : World) : (Instr.typeAssert (.iface 102 v) 86 61 true).run Tryd.prog w = .ok (.tuple #[.pointer none, .bool false]) w := by kernel_rfl
theorem ta102_101 (v : Value) (w : World) : (Instr.typeAssert (.iface 102 v) 86 101 true).run Tryd.prog w = .ok (.tuple #[.pointer none, .bool false]) w := by kernel_rfl
theorem ta102_102 (v : Value) (w : World) : (Instr.typeAssert (.iface 102 v) 86 102 true).run Tryd.prog w = .ok (.tuple #[v, .bool true]) w := by kernel_rfl
theorem ta102_74 (v : Value) (w : World) : (Instr.typeAssert (.iface 102 v) 86 74 true).run Tryd.prog w = .ok (.tuple #[.pointer none, .bool false]) w := by kernel_rfl
theorem ta102_67 (v : Value) (w : World) : (Instr.typeAssert (.iface 102 v) 86 67 true).run Tryd.prog w = .ok (.tuple #[.pointer none, .bool false]) w := by kernel_rfl
theorem ta74_61 (v : Value) (w : World) : (Instr.typeAssert (.iface 74 v) 86 61 true).run Tryd.prog w = .ok (.tuple #[.pointer none, .bool false]) w := by kernel_rfl
theorem ta74_101 (v : Value) (w : World) : (Instr.typeAssert (.iface 74 v) 86 101 true).run Tryd.prog w = .ok (.tuple #[.pointer none, .bool false]) w := by kernel_rfl
theorem ta74_102 (v : Value) (w : World) : (Instr.typeAssert (.iface 74 v) 86 102 true).run Tryd.prog w = .ok (.tuple #[.pointer none, .bool false]) w := by kernel_rfl
theorem ta74_74 (v : Value) (w : World) : (Instr.typeAssert (.iface 74 v) 86 74 true).run Tryd.prog w = .ok (.tuple #[v, .bool true]) w := by kernel_rfl
theorem ta74_67 (v : Value) (w : World) : (Instr.typeAssert (.iface 74 v) 86 67 true).run Tryd.prog w = .ok (.tuple #[.pointer none, .bool false]) w := by kernel_rfl
theorem ta67_61 (v : Value) (w : World) : (Instr.typeAssert (.iface 67 v) 86 61 true).run Tryd.prog w = .ok (.tuple #[.pointer none, .bool false]) w := by kernel_rfl
theorem ta67_101 (v : Value) (w : World) : (Instr.typeAssert (.iface 67 v) 86 101 true).run Tryd.prog w = .ok (.tuple #[.pointer none, .bool false]) w := by kernel_rfl
theorem ta67_102 (v : Value) (w : World) : (Instr.typeAssert (.iface 67 v) 86 102 true).run Tryd.prog w = .ok (.tuple #[.pointer none, .bool false]) w := by kernel_rfl
theorem ta67_74 (v : Value) (w : World) : (Instr.typeAssert (.iface 67 v) 86 74 true).run Tryd.prog w = .ok (.tuple #[.pointer none, .bool false]) w := by kernel_rfl
theorem ta67_67 (v : Value) (w : World) : (Instr.typeAssert (.iface 67 v) 86 67 true).run Tryd.prog w = .ok (.tuple #[v, .bool true]) w := by kernel_rfl
theorem comment_is (g o : Nat) (w : World) : Calls Tryd.prog 75 #[.pointer (some ⟨g, o, none⟩)] w fun e w' => e = .returned (.pointer (some ⟨g, o, none⟩)) ∧ w = w' := by
  go_enter Tryd.func75, Tryd.ntmps75
  go_wp2
  go_ret
  exact ⟨rfl, rfl⟩

theorem cell_up {W w : World} (hb : Below W.heap.size W w) {g i : Nat} {v : Value} (h : W.cell? ⟨g, i, none⟩ = some v) : w.cell? ⟨g, i, none⟩ = some v := by
  have hlt : g < W.heap.size := by
    rcases Nat.lt_or_ge g W.heap.size with h' | h'
    · exact h'
    · simp [World.cell?, Array.getElem?_eq_none h'] at h
  unfold World.cell? at h ⊢
  rw [hb.block g hlt]
  exact h

/-- The operation of an append in a region that draws its order, of which it is known what it does. -/
theorem step_append_run {P : Program} {w w' : World} {ops : Array Oper} {o : Oper} {a : Act} {K : Act → World → Prop} {Q : Exit → Act → World → Prop} {E : Prop} (hgd : o.guard = none) (s x : Operand) (t : TypeId) (v u r : Value)
    (ho : o.op = .call { callee := .builtin .append, args := #[s, x], argTypes := #[t, t] }) (hs : a.eval s = v) (hx : a.eval x = u)
    (hr : (Builtin.append_ #[t, t] o.type #[v, u]).run P w = .ok r w') (h : K (a.put o.dst r) w') : if Region.wanted o (yielded ops a.tmps) = true then Oper.wp P o a w K Q else E := by
  have hw : Region.wanted o (yielded ops a.tmps) = true := by simp [Region.wanted, hgd]
  rw [if_pos hw]
  unfold Oper.wp execOp
  simp only [ho, resolve, invoke, builtin, Sem.run_bind, Sem.run_pure, Result.andThen_ok, List.map_toArray, List.map_cons, List.map_nil, hs, hx, hr]
  exact h

/-- A comment behind something, as a slice in memory. -/
def Suf (w : World) (A : Option Addr) (k c : Nat) : Option ByteArray → Prop
  | none => k = 0
  | some s => ∃ ad, A = some ad ∧ k = 1 ∧ ∀ j u, (comC s)[j]? = some u → w.cell? (ad.add j) = some u

def addO : Option ByteArray → Option ByteArray → Option ByteArray
  | some s, _ => some s
  | none, o => o

theorem info79' : ∃ i, Tryd.prog.info? 79 = some i ∧ i.zero = some (.agg #[(.int .i64 0), (.int .i64 0), (.int .i64 0), (.string ⟨#[]⟩), (.bool false)]) ∧ i.size = 5 ∧ i.bytes = 48 := by
  have h := info79
  cases hi : Tryd.prog.info? 79 with
  | none => rw [hi] at h; simp at h
  | some i =>
    rw [hi, Option.map_some] at h
    have h2 := Option.some.inj h
    exact ⟨i, rfl, congrArg (·.1) h2, congrArg (·.2.1) h2, congrArg (·.2.2) h2⟩

theorem comC_one (s : ByteArray) : ∀ u ∈ comC s, u.oneCell' = true := by
  intro u hu
  simp only [comC, List.mem_cons, List.not_mem_nil, or_false] at hu
  rcases hu with rfl | rfl | rfl | rfl | rfl <;> rfl

theorem Pend.set {B b : Nat} {l : List UInt8} {cv cv' : Value} {m : Nat} {o : Option ByteArray} {w : World} (h : Pend B cv' o w) (hp : PB B b l cv m w) (v : Value) : Pend B cv' o (w.setCell ⟨b, 3, none⟩ v) :=
  h.ok hp ((Ok.refl B b w).set hp.hB 3 v)

theorem PB.grown {B b : Nat} {l : List UInt8} {cv cv' : Value} {m : Nat} {o : Option ByteArray} {w w' : World} (hp : PB B b l cv m w) (hq : Pend B cv' o w) (hg : w.grownBy w' cv'.ownBlock) : PB B b l cv m w' := by
  have hne : some b ≠ cv'.ownBlock := by
    intro e
    obtain ⟨c, fz, hk⟩ := hp.kind
    rcases hq.2 with ⟨rfl, -⟩ | ⟨g, cap, cur, rfl, hBg, hgc, -⟩
    · simp [Value.ownBlock] at e
    · have e2 : b = g := by simpa [Value.ownBlock] using e
      rw [e2, hgc] at hk
      simp at hk
  have hlt := hp.lt
  obtain ⟨hB, v, lr, ⟨cs, hb, h1⟩, hown, hnb⟩ := hp
  refine ⟨hB, v, lr, ⟨cs, ?_, h1⟩, hown.kept hg ?_, hnb⟩
  · rw [hg.block b hlt hne]
    exact hb
  · rcases hown.2 with ⟨rfl, -⟩ | ⟨g, cap, cur, rfl, hBg, hgc, -⟩
    · exact Or.inl rfl
    · refine Or.inr ?_
      rcases hq.2 with ⟨rfl, -⟩ | ⟨g', cap', cur', rfl, hBg', hgc', -⟩
      · simp [Value.ownBlock]
      · intro e
        have e2 : g = g' := by simpa [Value.ownBlock] using e
        rw [e2, hgc'] at hgc
        simp at hgc

theorem append_com {B b : Nat} {l : List UInt8} {cv : Value} {m : Nat} {o suf : Option ByteArray} {A : Option Addr} {k c : Nat} {w : World} (hp : PB B b l cv m w) (hq : Pend B cv o w) (hs : Suf w A k c suf) (hno : suf = none ∨ o = none) :
    ∃ p n cap p' n' cap' w3, cv = .slice p n cap ∧ (Builtin.append_ #[51, 51] 51 #[.slice p n cap, .slice A k c]).run Tryd.prog w = .ok (.slice p' n' cap') w3 ∧ PB B b l cv m w3 ∧ Pend B (.slice p' n' cap') (addO suf o) w3 ∧ Below B w w3 := by
  obtain ⟨i, hi, hz, hsz, hby⟩ := info79'
  cases suf with
  | none =>
    have hs' : k = 0 := hs
    subst hs'
    obtain ⟨p, n, cap, hcv, hle⟩ : ∃ p n cap, cv = .slice p n cap ∧ n ≤ cap := by
      rcases hq.2 with ⟨h1, -⟩ | ⟨g, cap, cur, h1, -, -, h4, -⟩
      · exact ⟨none, 0, 0, h1, Nat.le_refl _⟩
      · exact ⟨some ⟨g, 0, none⟩, _, cap, h1, h4⟩
    refine ⟨p, n, cap, p, n, cap, w, hcv, ?_, hp, by rw [← hcv]; exact hq, Below.refl _ _⟩
    exact run_append_nothing w 51 51 51 79 i Tryd.underlying51 hi p n cap hle _ (by
      cases A with
      | none => exact Src.ofNil w Tryd.underlying51 c
      | some a => exact Src.ofSlice w Tryd.underlying51 a 0 c [] (by simp) (by simp) (by simp))
  | some s =>
    obtain ⟨ad, rfl, rfl, hc⟩ := hs
    obtain rfl : o = none := by simpa using hno
    obtain ⟨g, cap, w3, hr, ho3, hgr, hgg, hlt⟩ := run_append_lies (P := Tryd.prog) w 51 51 B 79 i _ 5 48 Tryd.underlying51 hi hz hsz hby rfl (by omega) cv 0 [] hq ad 1 c (comC s) rfl hc (comC_one s) (by omega) (by decide) (by omega) hp.le w.heap.size rfl
    have hform : ∃ p n cap, cv = .slice p n cap := by
      rcases hq.2 with ⟨h1, -⟩ | ⟨g, cap, cur, h1, -⟩
      · exact ⟨_, _, _, h1⟩
      · exact ⟨_, _, _, h1⟩
    obtain ⟨p, n, cp, hcv⟩ := hform
    refine ⟨p, n, cp, some ⟨g, 0, none⟩, 0 + 1, cap, w3, hcv, by rw [← hcv]; exact hr, hp.grown hq hgr, ?_, ?_⟩
    · have : [] ++ comC s = comC s := rfl
      rw [this] at ho3
      exact ho3
    · exact (Below.refl B w).grown hgr hp.le (fun k hk => (hq.lt k hk).1)

theorem cell_upA {W w : World} (hb : Below W.heap.size W w) {a : Addr} {v : Value} (h : W.cell? a = some v) : w.cell? a = some v := by
  have hlt := World.block_lt_of_cell? W a h
  unfold World.cell? at h ⊢
  rw [hb.block _ hlt]
  exact h

theorem Suf.up {W w : World} (hb : Below W.heap.size W w) {A : Option Addr} {k c : Nat} {s : Option ByteArray} (h : Suf W A k c s) : Suf w A k c s := by
  cases s with
  | none => exact h
  | some s =>
    obtain ⟨ad, h1, h2, h3⟩ := h
    exact ⟨ad, h1, h2, fun j u hu => cell_upA hb (h3 j u hu)⟩

set_option maxRecDepth 100000 in
set_option maxHeartbeats 8000000 in
theorem lparen_is {W : World} {b : Nat} {l : List UInt8} {o suf : Option ByteArray} {As Ab : Option Addr} {ks cs cb m : Nat} {w : World} (g : Nat) (HB : Hid (Below W.heap.size W w)) (h : Hid (PS W.heap.size b l o m w)) (hg0 : W.cell? ⟨g, 6, none⟩ = some (.slice Ab 0 cb)) (hg1 : W.cell? ⟨g, 7, none⟩ = some (.slice As ks cs)) (HS : Hid (Suf W As ks cs suf)) (hno : Hid (suf = none ∨ o = none)) (hl : Hid (l.length + 1 ≤ 140737488355000)) :
    Calls Tryd.prog 34 #[.pointer (some ⟨b, 0, none⟩), .iface 101 (.pointer (some ⟨g, 6, none⟩))] w fun e w' => e = .returned (.tuple #[]) ∧ Hid (PS W.heap.size b (l ++ [40]) (addO suf o) m w') ∧ Hid (Below W.heap.size w w') := by
  have hw0 : w.cell? ⟨g, 6, none⟩ = some (.slice Ab 0 cb) := cell_up HB.out hg0
  have hw1 : w.cell? ⟨g, 7, none⟩ = some (.slice As ks cs) := cell_up HB.out hg1
  have hm := com101 g 6
  have ht61 := ta101_61
  have ht101 := ta101_101
  have ht102 := ta101_102
  have ht74 := ta101_74
  have ht67 := ta101_67
  obtain ⟨cv, hp, hq⟩ := h.out
  have HP := Lib.hid hp
  have HQ := Lib.hid hq
  have HL1 : Hid (l.length + (⟨#[40]⟩ : ByteArray).size ≤ 140737488355328) := Lib.hid (by
    have h1 : (⟨#[40]⟩ : ByteArray).size = 1 := rfl
    have := hl.out
    omega)
  go_enter Tryd.func34, Tryd.ntmps34
  go_wp2_with (first | (go_at_call 75; (with_reducible refine (comment_is _ _ _).mono ?_); rintro e w' ⟨rfl, rfl⟩) | (go_at_call 31; (with_reducible refine (write_is HP ⟨#[40]⟩ HL1).mono ?_); rintro e w1 ⟨rfl, hp1, hk1'⟩))
  have hq1 : Hid (Pend W.heap.size cv o w1) := Lib.hid (HQ.out.ok HP.out hk1'.out)
  have hk1 : Hid (Below W.heap.size w w1) := Lib.hid hk1'.out.1
  clear hk1' hw0 hw1 hg0 HP HQ hp hq h HL1 hl
  clear ht61 ht101 ht102 ht74 ht67
  have hq1d : Pend W.heap.size cv o w1.drew := hq1.out
  have hp1d : PB W.heap.size b (l ++ [40]) cv m w1.drew := hp1.out.drewN 1
  have hb1 : Below W.heap.size w w1.drew := ⟨hk1.out.os, hk1.out.tape, hk1.out.output, hk1.out.size, hk1.out.block⟩
  obtain ⟨pcv, ncv, ccv, pc', nc', cc', w3, hcvE, hr, hp3, hq3, hb3⟩ := append_com hp1d hq1d (HS.out.up (HB.out.trans hb1)) hno.out
  have e3 : w1.drew.cell? ⟨b, 3, none⟩ = some (.slice pcv ncv ccv) := hcvE ▸ hp1d.com
  have e7 : w1.drew.cell? ⟨g, 7, none⟩ = some (.slice As ks cs) := cell_up (HB.out.trans hb1) hg1
  have c3 : w3.cell? ⟨b, 3, none⟩ = some (.slice pcv ncv ccv) := hcvE ▸ hp3.com
  have f3 : w3.frozen? ⟨b, 3, none⟩ = false := by
    obtain ⟨_, _, _, _, _, _, _, _, hf, _⟩ := hp3.parts
    exact hf 3
  have HP3 : Hid (PS W.heap.size b (l ++ [40]) (addO suf o) m (w3.setCell ⟨b, 3, none⟩ (.slice pc' nc' cc'))) := Lib.hid ⟨_, hp3.setCom, hq3.set hp3 _⟩
  have HB3 : Hid (Below W.heap.size w (w3.setCell ⟨b, 3, none⟩ (.slice pc' nc' cc'))) := Lib.hid ((hb1.trans hb3).setCell (p := ⟨b, 3, none⟩) hp3.hB _)
  clear hq3 hp3 hb3 hb1 hp1d hq1d hcvE HB hg1 hp1 hq1 hk1 hno HS
  go_region_law (first | (go_simp; go_at_call 75; (with_reducible refine (comment_is _ _ _).mono ?_); rintro e w' ⟨rfl, rfl⟩) | (with_reducible refine step_append_run rfl (.tmp 150) (.tmp 155) 51 (.slice pcv ncv ccv) (.slice As ks cs) (.slice pc' nc' cc') rfl ?_ ?_ hr ?_; kernel_rfl; kernel_rfl))
  all_goals go_end0
  all_goals exact ⟨rfl, HP3, HB3⟩

set_option maxRecDepth 100000 in
set_option maxHeartbeats 8000000 in
theorem rparen_is {W : World} {b : Nat} {l : List UInt8} {o suf : Option ByteArray} {As Ab : Option Addr} {ks cs cb m : Nat} {w : World} (g : Nat) (HB : Hid (Below W.heap.size W w)) (h : Hid (PS W.heap.size b l o m w)) (hg0 : W.cell? ⟨g, 14, none⟩ = some (.slice Ab 0 cb)) (hg1 : W.cell? ⟨g, 15, none⟩ = some (.slice As ks cs)) (HS : Hid (Suf W As ks cs suf)) (hno : Hid (suf = none ∨ o = none)) (hl : Hid (l.length + 1 ≤ 140737488355000)) :
    Calls Tryd.prog 34 #[.pointer (some ⟨b, 0, none⟩), .iface 102 (.pointer (some ⟨g, 14, none⟩))] w fun e w' => e = .returned (.tuple #[]) ∧ Hid (PS W.heap.size b (l ++ [41]) (addO suf o) m w') ∧ Hid (Below W.heap.size w w') := by
  have hw0 : w.cell? ⟨g, 14, none⟩ = some (.slice Ab 0 cb) := cell_up HB.out hg0
  have hw1 : w.cell? ⟨g, 15, none⟩ = some (.slice As ks cs) := cell_up HB.out hg1
  have hm := com102 g 14
  have ht61 := ta102_61
  have ht101 := ta102_101
  have ht102 := ta102_102
  have ht74 := ta102_74
  have ht67 := ta102_67
  obtain ⟨cv, hp, hq⟩ := h.out
  have HP := Lib.hid hp
  have HQ := Lib.hid hq
  have HL1 : Hid (l.length + (⟨#[41]⟩ : ByteArray).size ≤ 140737488355328) := Lib.hid (by
    have h1 : (⟨#[41]⟩ : ByteArray).size = 1 := rfl
    have := hl.out
    omega)
  go_enter Tryd.func34, Tryd.ntmps34
  go_wp2_with (first | (go_at_call 75; (with_reducible refine (comment_is _ _ _).mono ?_); rintro e w' ⟨rfl, rfl⟩) | (go_at_call 31; (with_reducible refine (write_is HP ⟨#[41]⟩ HL1).mono ?_); rintro e w1 ⟨rfl, hp1, hk1'⟩))
  have hq1 : Hid (Pend W.heap.size cv o w1) := Lib.hid (HQ.out.ok HP.out hk1'.out)
  have hk1 : Hid (Below W.heap.size w w1) := Lib.hid hk1'.out.1
  clear hk1' hw0 hw1 hg0 HP HQ hp hq h HL1 hl
  clear ht61 ht101 ht102 ht74 ht67
  have hq1d : Pend W.heap.size cv o w1.drew := hq1.out
  have hp1d : PB W.heap.size b (l ++ [41]) cv m w1.drew := hp1.out.drewN 1
  have hb1 : Below W.heap.size w w1.drew := ⟨hk1.out.os, hk1.out.tape, hk1.out.output, hk1.out.size, hk1.out.block⟩
  obtain ⟨pcv, ncv, ccv, pc', nc', cc', w3, hcvE, hr, hp3, hq3, hb3⟩ := append_com hp1d hq1d (HS.out.up (HB.out.trans hb1)) hno.out
  have e3 : w1.drew.cell? ⟨b, 3, none⟩ = some (.slice pcv ncv ccv) := hcvE ▸ hp1d.com
  have e7 : w1.drew.cell? ⟨g, 15, none⟩ = some (.slice As ks cs) := cell_up (HB.out.trans hb1) hg1
  have c3 : w3.cell? ⟨b, 3, none⟩ = some (.slice pcv ncv ccv) := hcvE ▸ hp3.com
  have f3 : w3.frozen? ⟨b, 3, none⟩ = false := by
    obtain ⟨_, _, _, _, _, _, _, _, hf, _⟩ := hp3.parts
    exact hf 3
  have HP3 : Hid (PS W.heap.size b (l ++ [41]) (addO suf o) m (w3.setCell ⟨b, 3, none⟩ (.slice pc' nc' cc'))) := Lib.hid ⟨_, hp3.setCom, hq3.set hp3 _⟩
  have HB3 : Hid (Below W.heap.size w (w3.setCell ⟨b, 3, none⟩ (.slice pc' nc' cc'))) := Lib.hid ((hb1.trans hb3).setCell (p := ⟨b, 3, none⟩) hp3.hB _)
  clear hq3 hp3 hb3 hb1 hp1d hq1d hcvE HB hg1 hp1 hq1 hk1 hno HS
  go_region_law (first | (go_simp; go_at_call 75; (with_reducible refine (comment_is _ _ _).mono ?_); rintro e w' ⟨rfl, rfl⟩) | (with_reducible refine step_append_run rfl (.tmp 150) (.tmp 155) 51 (.slice pcv ncv ccv) (.slice As ks cs) (.slice pc' nc' cc') rfl ?_ ?_ hr ?_; kernel_rfl; kernel_rfl))
  all_goals go_end0
  all_goals exact ⟨rfl, HP3, HB3⟩

end Go.Proofs.YtbifcpokkfiagaaDoor.F
