/- A bytes.Buffer in the printer's struct: what calls of Bytes, Len, Reset, Truncate do to it, and of the printer's trim and indent. Conditions: the buffer is one of the call's own that has only been written. -/
import Derived.Test.YtbifcpokkfiagaaDoorProg
import Derived.Test.YtbifcpokkfiagaaDoorWMore
import Derived.Lib.BufferAt
import Derived.Lib.OthersKept
import Derived.WalkKit
import Derived.KernelRfl
import Derived.Deep.LoopGhost
import Derived.Deep.QuietTactic
import Derived.BigQuiet
import Derived.LoopTactic
import Derived.Lib.Hide
import Derived.WalkSpells
import Derived.WalkLawsBesides
import Derived.StillTailTactics
import Derived.Deep.RegionWith
import Derived.RegionTactic
import Derived.Outline
namespace Go.Proofs.YtbifcpokkfiagaaDoor.F
open Go.RowKit Go.Proofs.YtbifcpokkfiagaaDoorW.PrintWords

/-- The printer's other fields. -/
def Rest (cv : Value) (m : Nat) : Nat → Option Value := fun i => if i = 3 then some cv else if i = 4 then some (.int .i64 (m : Int)) else none

/-- The printer at block b holds the bytes l in its buffer, cv as its comments, m as its margin. -/
def PB (B b : Nat) (l : List UInt8) (cv : Value) (m : Nat) (w : World) : Prop := LibA.IsBuffer 53 (Rest cv m) 5 B b 0 (Lib.byteCells l) w

theorem bc_len (l : List UInt8) : (Lib.byteCells l).length = l.length := Lib.byteCells_length l

/-- A slice at p of capacity c reads as the bytes l. -/
def Rd (w : World) (p : Option Addr) (c : Nat) (l : List UInt8) : Prop := l.length ≤ c ∧ ((p = none ∧ l = [] ∧ c = 0) ∨ ∃ g, p = some ⟨g, 0, none⟩ ∧ ∀ i, (h : i < l.length) → w.cell? ⟨g, i, none⟩ = some (.int .u8 ((l[i]'h).toNat : Int)))

theorem bc_get (l : List UInt8) (i : Nat) (h : i < l.length) : (Lib.byteCells l)[i]? = some (.int .u8 ((l[i]'h).toNat : Int)) := by
  unfold Lib.byteCells
  rw [List.getElem?_map, List.getElem?_eq_getElem h]
  rfl

theorem PB.parts {B b : Nat} {l : List UInt8} {cv : Value} {m : Nat} {w : World} (h : PB B b l cv m w) : ∃ (p : Option Addr) (c : Nat) (lr : Int), w.cell? ⟨b, 0, none⟩ = some (.slice p l.length c) ∧ w.cell? ⟨b, 1, none⟩ = some (.int .i64 0) ∧ w.cell? ⟨b, 2, none⟩ = some (.int .i8 lr) ∧
    w.cell? ⟨b, 3, none⟩ = some cv ∧ w.cell? ⟨b, 4, none⟩ = some (.int .i64 (m : Int)) ∧ (∀ i, w.frozen? ⟨b, i, none⟩ = false) ∧ Rd w p c l ∧ c ≤ 9223372036854775807 := by
  have hr := h.rest
  have hnf := h.notFrozen
  obtain ⟨hB, lr, hc⟩ := h.cases
  have r3 : w.cell? ⟨b, 3, none⟩ = some cv := by rw [hr 3 (by omega)]; rfl
  have r4 : w.cell? ⟨b, 4, none⟩ = some (.int .i64 (m : Int)) := by rw [hr 4 (by omega)]; rfl
  rcases hc with ⟨hnil, hbk⟩ | ⟨g, cap, cur, hbk, hBg, hg, hnc, hcm, hcs, htk, hgb⟩
  · have hl : l = [] := List.eq_nil_of_length_eq_zero (by rw [← bc_len, hnil]; rfl)
    subst hl
    exact ⟨none, 0, lr, hbk.c0, hbk.c1, hbk.c2, r3, r4, hnf, ⟨Nat.le_refl _, Or.inl ⟨rfl, rfl, rfl⟩⟩, by omega⟩
  · rw [bc_len] at hbk hnc htk
    refine ⟨some ⟨g, 0, none⟩, cap, lr, hbk.c0, hbk.c1, hbk.c2, r3, r4, hnf, ⟨hnc, Or.inr ⟨g, rfl, fun i hi => ?_⟩⟩, by unfold maxLen at hcm; omega⟩
    have e : cur[i]? = (Lib.byteCells l)[i]? := by
      rw [← htk, List.getElem?_take_of_lt hi, Array.getElem?_toList]
    rw [Lib.cell_of_heap hg, e, bc_get l i hi]

theorem PB.drewN {B b : Nat} {l : List UInt8} {cv : Value} {m : Nat} {w : World} (h : PB B b l cv m w) (n : Nat) : PB B b l cv m (w.drewN n) := LibA.IsBuffer.drewN h n

set_option maxRecDepth 100000 in
set_option maxHeartbeats 2000000 in
theorem bytes_is {B b : Nat} {l : List UInt8} {cv : Value} {m : Nat} {w : World} (h : Hid (PB B b l cv m w)) (n : Nat) (hn : Hid (n = l.length)) :
    Calls Tryd.prog 24 #[.pointer (some ⟨b, 0, none⟩)] w fun e w' => ∃ p c, e = .returned (.slice p n c) ∧ Hid (Rd w p c l) ∧ Drawn0 w w' := by
  obtain ⟨p, c, lr, h0, h1, h2, h3, h4, hf, hR, hc⟩ := h.out.parts
  have HR := Lib.hid hR
  have hle : n ≤ c := by rw [hn.out]; exact hR.1
  rw [← hn.out] at h0
  have hsl : ∀ W, (Instr.slice 37 (.slice p n c) (some (.int .i64 0)) none none).run Tryd.prog W = .ok (.slice p n c) W := by
    intro W
    rw [run_slice_l (P := Tryd.prog) W 37 p n c (by kernel_rfl) .i64 0 (by omega) (by omega)]
    have hz : ∀ w', (sizeOf (Tryd.prog.elem 37)).run Tryd.prog w' = .ok 1 w' := fun w' => by kernel_rfl
    rw [hz]
    show Result.ok (sliced p 0 n c 1) W = _
    unfold sliced
    cases p with
    | none => simp
    | some a => simp [Addr.add]
  clear hR hf h2 h3 h4
  go_enter Tryd.func24, Tryd.ntmps24
  go_wp2
  go_quiet (fail)
  go_wp2
  go_ret
  exact ⟨p, c, rfl, HR, by repeat (first | exact Drawn0.refl _ | apply Drawn0.step)⟩

/-! ### frames -/

/-- What a call that writes the printer alone leaves: all below B, and every block that is no row of bytes and not the printer's. -/
def Ok (B b : Nat) (w w' : World) : Prop := Below B w w' ∧ Lib.OthersKept 5 (some b) w w'
theorem Ok.refl (B b : Nat) (w : World) : Ok B b w w := ⟨Below.refl _ _, Lib.OthersKept.refl _ _ _⟩
theorem Ok.trans {B b : Nat} {w w1 w2 : World} (h : Ok B b w w1) (k : Ok B b w1 w2) : Ok B b w w2 := ⟨h.1.trans k.1, h.2.trans k.2⟩
theorem Ok.set {B b : Nat} {w w1 : World} (h : Ok B b w w1) (hB : B ≤ b) (i : Nat) (v : Value) : Ok B b w (w1.setCell ⟨b, i, none⟩ v) := by
  refine h.trans ⟨(Below.refl B w1).setCell (p := ⟨b, i, none⟩) hB v, fun k o hk hb _ => ?_⟩
  rw [Below.heap_setCell w1 ⟨b, i, none⟩ v k (fun e => hb (by rw [e]))]
  exact hk
theorem Ok.drewN {B b : Nat} {w w1 : World} (h : Ok B b w w1) (n : Nat) : Ok B b w (w1.drewN n) := ⟨⟨h.1.os, h.1.tape, h.1.output, h.1.size, h.1.block⟩, h.2⟩
theorem Ok.drew {B b : Nat} {w w1 : World} (h : Ok B b w w1) : Ok B b w w1.drew := ⟨⟨h.1.os, h.1.tape, h.1.output, h.1.size, h.1.block⟩, h.2⟩

theorem PB.hB {B b : Nat} {l : List UInt8} {cv : Value} {m : Nat} {w : World} (h : PB B b l cv m w) : B ≤ b := h.1

theorem bc_take (l : List UInt8) (k : Nat) : (Lib.byteCells l).take k = Lib.byteCells (l.take k) := by
  unfold Lib.byteCells
  rw [List.map_take]

theorem PB.setBuf {B b : Nat} {l : List UInt8} {cv : Value} {m : Nat} {w : World} (h : PB B b l cv m w) {p : Option Addr} {c n : Nat} (h0 : w.cell? ⟨b, 0, none⟩ = some (.slice p n c)) (k : Nat) (hk : k ≤ l.length) : PB B b (l.take k) cv m (w.setCell ⟨b, 0, none⟩ (.slice p k c)) := by
  obtain ⟨hB, lr, hc⟩ := LibA.IsBuffer.cases h
  rcases hc with ⟨hnil, hbk⟩ | ⟨g, cap, cur, hbk, hBg, hg, hnc, hcm, hcs, htk, hgb⟩
  · have hl : l = [] := List.eq_nil_of_length_eq_zero (by rw [← bc_len, hnil]; rfl)
    have hk0 : k = 0 := by rw [hl] at hk; simpa using hk
    have e := hbk.c0.symm.trans h0
    injection e with e
    injection e with e1 e2 e3
    subst e1
    subst e3
    rw [hk0, hl]
    exact ⟨hB, _, lr, hbk.set0 _, World.ownsRow_nil _ _ _ _, by simp [Value.ownBlock]⟩
  · have e := hbk.c0.symm.trans h0
    injection e with e
    injection e with e1 e2 e3
    subst e1
    subst e3
    have hgw : (w.setCell ⟨b, 0, none⟩ (.slice (some ⟨g, 0, none⟩) k cap)).heap[g]? = some (.cells cur 5 (0, 0)) := by
      rw [Below.heap_setCell _ _ _ _ hgb]; exact hg
    rw [bc_len] at hnc htk
    have := LibA.isBuffer_mk hB (hbk.set0 (.slice (some ⟨g, 0, none⟩) k cap)) hBg hgw (by omega : k ≤ cap) hcm hcs hgb
    have e4 : cur.toList.take k = Lib.byteCells (l.take k) := by
      rw [← bc_take, ← htk, List.take_take, Nat.min_eq_left hk]
    rw [e4] at this
    exact this

theorem PB.setOff {B b : Nat} {l : List UInt8} {cv : Value} {m : Nat} {w : World} (h : PB B b l cv m w) : PB B b l cv m (w.setCell ⟨b, 1, none⟩ (.int .i64 0)) := by
  obtain ⟨hB, v, lr, hbk, hown, hne⟩ := h
  exact ⟨hB, v, lr, hbk.set1 _, hown.kept (Go.Lib.grownBy_setCell w b 1 _) (Or.inr hne), hne⟩

theorem PB.setLast {B b : Nat} {l : List UInt8} {cv : Value} {m : Nat} {w : World} (h : PB B b l cv m w) (x : Int) : PB B b l cv m (w.setCell ⟨b, 2, none⟩ (.int .i8 x)) := LibA.IsBuffer.setLast h x

theorem PB.setCom {B b : Nat} {l : List UInt8} {cv cv' : Value} {m : Nat} {w : World} (h : PB B b l cv m w) : PB B b l cv' m (w.setCell ⟨b, 3, none⟩ cv') := by
  have := LibA.IsBuffer.setOther h 3 (by omega) (old := cv) rfl cv'
  unfold PB
  refine (?_ : Rest cv' m = _) ▸ this
  funext j
  unfold Rest
  by_cases h3 : j = 3
  · simp [h3]
  · simp [h3]

theorem PB.setMargin {B b : Nat} {l : List UInt8} {cv : Value} {m : Nat} {w : World} (h : PB B b l cv m w) (m' : Nat) : PB B b l cv m' (w.setCell ⟨b, 4, none⟩ (.int .i64 (m' : Int))) := by
  have := LibA.IsBuffer.setOther h 4 (by omega) (old := .int .i64 (m : Int)) rfl (.int .i64 (m' : Int))
  unfold PB
  refine (?_ : Rest cv m' = _) ▸ this
  funext j
  unfold Rest
  by_cases h3 : j = 4
  · simp [h3]
  · simp [h3]

set_option maxRecDepth 100000 in
set_option maxHeartbeats 2000000 in
theorem reset_is {B b : Nat} {l : List UInt8} {cv : Value} {m : Nat} {w : World} (h : Hid (PB B b l cv m w)) :
    Calls Tryd.prog 45 #[.pointer (some ⟨b, 0, none⟩)] w fun e w' => e = .returned (.tuple #[]) ∧ Hid (PB B b [] cv m w') ∧ Hid (Ok B b w w') := by
  obtain ⟨p, c, lr, h0, h1, h2, h3, h4, hf, hR, hc⟩ := h.out.parts
  have f0 := hf 0
  have f1 := hf 1
  have f2 := hf 2
  obtain ⟨n, hn⟩ : ∃ n, n = l.length := ⟨_, rfl⟩
  have HN := Lib.hid hn
  have hle : n ≤ c := by rw [hn]; exact hR.1
  rw [← hn] at h0
  have hsl : ∀ W, (Instr.slice 37 (.slice p n c) none (some (.int .i64 0)) none).run Tryd.prog W = .ok (.slice p 0 c) W := by
    intro W
    rw [run_slice_h (P := Tryd.prog) W 37 p n c (by kernel_rfl) .i64 0 (by omega) (by omega)]
    have hz : ∀ w', (sizeOf (Tryd.prog.elem 37)).run Tryd.prog w' = .ok 1 w' := fun w' => by kernel_rfl
    rw [hz]
    show Result.ok (sliced p 0 0 c 1) W = _
    unfold sliced
    cases p with
    | none => simp
    | some a => simp [Addr.add]
  have HP : Hid (PB B b [] cv m (((w.setCell ⟨b, 0, none⟩ (.slice p 0 c)).setCell ⟨b, 1, none⟩ (.int .i64 0)).setCell ⟨b, 2, none⟩ (.int .i8 0))) := Lib.hid (by
    have := ((h.out.setBuf h0 0 (by omega)).setOff).setLast 0
    rwa [List.take_zero] at this)
  have HK : Hid (Ok B b w (((w.setCell ⟨b, 0, none⟩ (.slice p 0 c)).setCell ⟨b, 1, none⟩ (.int .i64 0)).setCell ⟨b, 2, none⟩ (.int .i8 0))) := Lib.hid ((((Ok.refl B b w).set h.out.hB 0 _).set h.out.hB 1 _).set h.out.hB 2 _)
  clear hn hf hR h3 h4
  go_enter Tryd.func45, Tryd.ntmps45
  go_wp2
  go_end0
  exact ⟨rfl, HP, HK⟩

end Go.Proofs.YtbifcpokkfiagaaDoor.F
