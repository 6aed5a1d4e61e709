/- The tree that is written, as it lies in memory: lines, comments alone, blocks. What is said of the blocks of memory, and the same as kinds of elements of rows. -/
import Derived.Test.YtbifcpokkfiagaaDoorFd3
namespace Go.Proofs.YtbifcpokkfiagaaDoor.F
open Go.RowKit Go.Proofs.YtbifcpokkfiagaaDoorW.PrintWords Go.Proofs.YtbifcpokkfiagaaDoor.PFm
set_option linter.unusedVariables false

/-- A line: comments ahead, the one behind (nothing: none), words. -/
structure LnD where
  bs : List ByteArray
  suf : ByteArray
  toks : List ByteArray

/-- A statement: a line, comments alone, a block. -/
inductive StD where
  | line (d : LnD)
  | com (bs : List ByteArray)
  | blk (bs toks : List ByteArray) (ls : List LnD) (suf : ByteArray)

def cSuf (s : ByteArray) : S79 := ⟨z64, s, true⟩
def sufO (s : ByteArray) : Option ByteArray := if s.toList = [] then none else some s
def sufL (s : ByteArray) : List S79 := if s.toList = [] then [] else [cSuf s]

theorem suf_of {w : World} {A : Option Addr} {s : ByteArray} (c : Nat) (h : k79.C w A (sufL s).length (sufL s)) : Suf w A (sufL s).length c (sufO s) := by
  unfold sufL sufO at *
  by_cases e : s.toList = []
  · rw [if_pos e, if_pos e]
    exact rfl
  · rw [if_neg e] at h ⊢
    rw [if_neg e]
    obtain ⟨ad, cs, e1, _, hK, hc⟩ := Kd.C_get h z79 0 (by omega) (by simp)
    have hk := k79_open hK
    refine ⟨ad, e1, rfl, fun j u hu => ?_⟩
    have h2 := hc j u (by rw [hk]; exact hu)
    simpa using h2

abbrev ptrV (g : Nat) : Value := .pointer (some ⟨g, 0, none⟩)

/-! ### a line -/
def LineK (w : World) (g : Nat) (d : LnD) : Prop := ∃ A0 c0 As cs A2 c2 At ct, w.cell? ⟨g, 0, none⟩ = some (.slice A0 d.bs.length c0) ∧ k79.C w A0 d.bs.length (d.bs.map cBef) ∧ w.cell? ⟨g, 1, none⟩ = some (.slice As (sufL d.suf).length cs) ∧ k79.C w As (sufL d.suf).length (sufL d.suf) ∧
  w.cell? ⟨g, 2, none⟩ = some (.slice A2 0 c2) ∧ w.cell? ⟨g, 6, none⟩ = some (.slice At d.toks.length ct) ∧ Kd.string.C w At d.toks.length d.toks
def LineM (w : World) (base : Nat) (ok : Nat → Prop) (g : Nat) (d : LnD) : Prop := ok g ∧ base ≤ g ∧ ∃ v0 v1 v2 vt inb, w.heap[g]? = some (.cells #[v0, v1, v2, .int .i64 0, .int .i64 0, .int .i64 0, vt, .bool inb, .int .i64 0, .int .i64 0, .int .i64 0] 93 (0, 0)) ∧
  k79.R 79 w base ok v0 (d.bs.map cBef) ∧ k79.R 79 w base ok v1 (sufL d.suf) ∧ k79.R 79 w base ok v2 [] ∧ Kd.string.R 9 w base ok vt d.toks

theorem cell_of_blk {w : World} {g : Nat} {cells : Array Value} {t : TypeId} {fz : Nat × Nat} (h : w.heap[g]? = some (.cells cells t fz)) (i : Nat) (v : Value) (hv : cells[i]? = some v) : w.cell? ⟨g, i, none⟩ = some v := by
  rw [Lib.cell_of_heap h, hv]

theorem LineK.below {w w1 : World} {g : Nat} {d : LnD} (hb : Below w.heap.size w w1) (h : LineK w g d) : LineK w1 g d := by
  obtain ⟨A0, c0, As, cs, A2, c2, At, ct, h0, h0', h1, h1', h2, h6, h6'⟩ := h
  exact ⟨A0, c0, As, cs, A2, c2, At, ct, cell_up hb h0, Kd.C_below h0' hb, cell_up hb h1, Kd.C_below h1' hb, cell_up hb h2, cell_up hb h6, Kd.C_below h6' hb⟩

theorem LineM.reads {w : World} {base : Nat} {ok : Nat → Prop} {g : Nat} {d : LnD} (h : LineM w base ok g d) : LineK w g d := by
  obtain ⟨-, -, v0, v1, v2, vt, inb, hg, h0, h1, h2, ht⟩ := h
  obtain ⟨A0, c0, rfl, -, r0⟩ := Kd.R_reads h0
  obtain ⟨A1, c1, rfl, -, r1⟩ := Kd.R_reads h1
  obtain ⟨A2, c2, rfl, -, r2⟩ := Kd.R_reads h2
  obtain ⟨At, ct, rfl, -, rt⟩ := Kd.R_reads ht
  rw [List.length_map] at r0
  refine ⟨A0, c0, A1, c1, A2, c2, At, ct, ?_, r0, ?_, r1, ?_, ?_, rt⟩
  · have := cell_of_blk hg 0 _ rfl; rwa [List.length_map] at this
  · exact cell_of_blk hg 1 _ rfl
  · exact cell_of_blk hg 2 _ rfl
  · exact cell_of_blk hg 6 _ rfl

theorem R_sub {α : Type} {d : Kd α} {e : Nat} {w : World} {base : Nat} {ok ok' : Nat → Prop} {v : Value} {xs : List α} (h : d.R e w base ok v xs) (E : List Nat) (hE : ∀ q, q ∈ e :: d.E → q ∈ E) (hok : ∀ k, ok k → ok' k) :
    d.R e w base (fun k => ok' k ∧ base ≤ k ∧ k < w.heap.size ∧ ∃ q, q ∈ E ∧ ∃ cells, w.heap[k]? = some (.cells cells q (0, 0))) v xs :=
  Kd.R_mono (Kd.R_bound h) (fun k hk => by
    obtain ⟨h1, h2, h3, q, hq, hc⟩ := hk
    exact ⟨hok k h1, h2, h3, q, hE q hq, hc⟩)

theorem lt_of_blk {w : World} {g : Nat} {o : Obj} (h : w.heap[g]? = some o) : g < w.heap.size := by
  rcases Nat.lt_or_ge g w.heap.size with h' | h'
  · exact h'
  · simp [Array.getElem?_eq_none h'] at h

theorem LineM.bound {w : World} {base : Nat} {ok : Nat → Prop} {g : Nat} {d : LnD} (E : List Nat) (hE : ∀ q, q ∈ [93, 79, 9] → q ∈ E) (h : LineM w base ok g d) : LineM w base (fun k => ok k ∧ base ≤ k ∧ k < w.heap.size ∧ ∃ q, q ∈ E ∧ ∃ cells, w.heap[k]? = some (.cells cells q (0, 0))) g d := by
  obtain ⟨hk, hbg, v0, v1, v2, vt, inb, hg, h0, h1, h2, ht⟩ := h
  have e79 : ∀ q, q ∈ (79 : Nat) :: k79.E → q ∈ E := fun q hq => hE q (by
    have : q = 79 := by simpa [k79, Kd.iso, Kd.pair, k64, Kd.string, Kd.bool, Kd.int, Kd.scalar] using hq
    subst this
    simp)
  have e9 : ∀ q, q ∈ (9 : Nat) :: Kd.string.E → q ∈ E := fun q hq => hE q (by
    have : q = 9 := by simpa [Kd.string, Kd.scalar] using hq
    subst this
    simp)
  exact ⟨⟨hk, hbg, lt_of_blk hg, 93, hE 93 (by simp), _, hg⟩, hbg, v0, v1, v2, vt, inb, hg, R_sub h0 E e79 (fun _ h => h), R_sub h1 E e79 (fun _ h => h), R_sub h2 E e79 (fun _ h => h), R_sub ht E e9 (fun _ h => h)⟩

theorem LineM.mono {w : World} {base : Nat} {ok ok' : Nat → Prop} {g : Nat} {d : LnD} (hok : ∀ k, ok k → ok' k) (h : LineM w base ok g d) : LineM w base ok' g d := by
  obtain ⟨hk, hbg, v0, v1, v2, vt, inb, hg, h0, h1, h2, ht⟩ := h
  exact ⟨hok _ hk, hbg, v0, v1, v2, vt, inb, hg, Kd.R_mono h0 hok, Kd.R_mono h1 hok, Kd.R_mono h2 hok, Kd.R_mono ht hok⟩

theorem LineM.move {w w1 : World} {base : Nat} {ok : Nat → Prop} {g : Nat} {d : LnD} (hm : ∀ k, ok k → w1.heap[k]? = w.heap[k]?) (h : LineM w base ok g d) : LineM w1 base ok g d := by
  obtain ⟨hk, hbg, v0, v1, v2, vt, inb, hg, h0, h1, h2, ht⟩ := h
  exact ⟨hk, hbg, v0, v1, v2, vt, inb, (hm g hk).trans hg, Kd.R_move h0 hm, Kd.R_move h1 hm, Kd.R_move h2 hm, Kd.R_move ht hm⟩

theorem LineM.lower {w : World} {base base' : Nat} {ok : Nat → Prop} {g : Nat} {d : LnD} (hb : base' ≤ base) (h : LineM w base ok g d) : LineM w base' ok g d := by
  obtain ⟨hk, hbg, v0, v1, v2, vt, inb, hg, h0, h1, h2, ht⟩ := h
  exact ⟨hk, Nat.le_trans hb hbg, v0, v1, v2, vt, inb, hg, Kd.R_lower h0 hb, Kd.R_lower h1 hb, Kd.R_lower h2 hb, Kd.R_lower ht hb⟩

/-- Pointers to lines, as elements of a row. -/
def kLn : Kd LnD where
  sz := 1
  E := [93, 79, 9]
  K w d cs := ∃ g, cs = [ptrV g] ∧ LineK w g d
  M w base ok d cs := ∃ g, cs = [ptrV g] ∧ LineM w base ok g d
  K_len := by
    rintro w x cs ⟨g, rfl, -⟩
    rfl
  K_one := by
    rintro w x cs ⟨g, rfl, -⟩ u hu
    simp only [List.mem_singleton] at hu
    subst hu
    rfl
  K_below := by
    rintro w w1 x cs hb ⟨g, rfl, h⟩
    exact ⟨g, rfl, h.below hb⟩
  K_of_M := by
    rintro w base ok x cs ⟨g, rfl, h⟩
    exact ⟨g, rfl, h.reads⟩
  M_mono := by
    rintro w base ok ok' x cs hok ⟨g, rfl, h⟩
    exact ⟨g, rfl, h.mono hok⟩
  M_bound := by
    rintro w base ok x cs ⟨g, rfl, h⟩
    exact ⟨g, rfl, h.bound _ (fun _ h => h)⟩
  M_move := by
    rintro w w1 base ok x cs hm ⟨g, rfl, h⟩
    exact ⟨g, rfl, h.move hm⟩
  M_lower := by
    rintro w base base' ok x cs hb ⟨g, rfl, h⟩
    exact ⟨g, rfl, h.lower hb⟩

/-! ### comments alone -/
def ComK (w : World) (g : Nat) (bs : List ByteArray) : Prop := ∃ A0 c0 As cs A2 c2, w.cell? ⟨g, 0, none⟩ = some (.slice A0 bs.length c0) ∧ k79.C w A0 bs.length (bs.map cBef) ∧ w.cell? ⟨g, 1, none⟩ = some (.slice As 0 cs) ∧ w.cell? ⟨g, 2, none⟩ = some (.slice A2 0 c2)
def ComM (w : World) (base : Nat) (ok : Nat → Prop) (g : Nat) (bs : List ByteArray) : Prop := ok g ∧ base ≤ g ∧ ∃ v0 v1 v2, w.heap[g]? = some (.cells #[v0, v1, v2, .int .i64 0, .int .i64 0, .int .i64 0] 66 (0, 0)) ∧
  k79.R 79 w base ok v0 (bs.map cBef) ∧ k79.R 79 w base ok v1 [] ∧ k79.R 79 w base ok v2 []

theorem ComK.below {w w1 : World} {g : Nat} {d : List ByteArray} (hb : Below w.heap.size w w1) (h : ComK w g d) : ComK w1 g d := by
  obtain ⟨A0, c0, As, cs, A2, c2, h0, h0', h1, h2⟩ := h
  exact ⟨A0, c0, As, cs, A2, c2, cell_up hb h0, Kd.C_below h0' hb, cell_up hb h1, cell_up hb h2⟩

theorem ComM.reads {w : World} {base : Nat} {ok : Nat → Prop} {g : Nat} {d : List ByteArray} (h : ComM w base ok g d) : ComK w g d := by
  obtain ⟨-, -, v0, v1, v2, hg, h0, h1, h2⟩ := h
  obtain ⟨A0, c0, rfl, -, r0⟩ := Kd.R_reads h0
  obtain ⟨A1, c1, rfl, -, r1⟩ := Kd.R_reads h1
  obtain ⟨A2, c2, rfl, -, r2⟩ := Kd.R_reads h2
  rw [List.length_map] at r0
  refine ⟨A0, c0, A1, c1, A2, c2, ?_, r0, ?_, ?_⟩
  · have := cell_of_blk hg 0 _ rfl; rwa [List.length_map] at this
  · exact cell_of_blk hg 1 _ rfl
  · exact cell_of_blk hg 2 _ rfl

theorem ComM.bound {w : World} {base : Nat} {ok : Nat → Prop} {g : Nat} {d : List ByteArray} (E : List Nat) (hE : ∀ q, q ∈ [66, 79] → q ∈ E) (h : ComM w base ok g d) : ComM w base (fun k => ok k ∧ base ≤ k ∧ k < w.heap.size ∧ ∃ q, q ∈ E ∧ ∃ cells, w.heap[k]? = some (.cells cells q (0, 0))) g d := by
  obtain ⟨hk, hbg, v0, v1, v2, hg, h0, h1, h2⟩ := h
  have e79 : ∀ q, q ∈ (79 : Nat) :: k79.E → q ∈ E := fun q hq => hE q (by
    have : q = 79 := by simpa [k79, Kd.iso, Kd.pair, k64, Kd.string, Kd.bool, Kd.int, Kd.scalar] using hq
    subst this
    simp)
  exact ⟨⟨hk, hbg, lt_of_blk hg, 66, hE 66 (by simp), _, hg⟩, hbg, v0, v1, v2, hg, R_sub h0 E e79 (fun _ h => h), R_sub h1 E e79 (fun _ h => h), R_sub h2 E e79 (fun _ h => h)⟩

theorem ComM.mono {w : World} {base : Nat} {ok ok' : Nat → Prop} {g : Nat} {d : List ByteArray} (hok : ∀ k, ok k → ok' k) (h : ComM w base ok g d) : ComM w base ok' g d := by
  obtain ⟨hk, hbg, v0, v1, v2, hg, h0, h1, h2⟩ := h
  exact ⟨hok _ hk, hbg, v0, v1, v2, hg, Kd.R_mono h0 hok, Kd.R_mono h1 hok, Kd.R_mono h2 hok⟩

theorem ComM.move {w w1 : World} {base : Nat} {ok : Nat → Prop} {g : Nat} {d : List ByteArray} (hm : ∀ k, ok k → w1.heap[k]? = w.heap[k]?) (h : ComM w base ok g d) : ComM w1 base ok g d := by
  obtain ⟨hk, hbg, v0, v1, v2, hg, h0, h1, h2⟩ := h
  exact ⟨hk, hbg, v0, v1, v2, (hm g hk).trans hg, Kd.R_move h0 hm, Kd.R_move h1 hm, Kd.R_move h2 hm⟩

theorem ComM.lower {w : World} {base base' : Nat} {ok : Nat → Prop} {g : Nat} {d : List ByteArray} (hb : base' ≤ base) (h : ComM w base ok g d) : ComM w base' ok g d := by
  obtain ⟨hk, hbg, v0, v1, v2, hg, h0, h1, h2⟩ := h
  exact ⟨hk, Nat.le_trans hb hbg, v0, v1, v2, hg, Kd.R_lower h0 hb, Kd.R_lower h1 hb, Kd.R_lower h2 hb⟩

/-! ### a block -/
def BlkK (w : World) (g : Nat) (bs toks : List ByteArray) (ls : List LnD) (suf : ByteArray) : Prop := ∃ A0 c0 As cs A2 c2 At ct Al cl Ab cb Ar cr, w.cell? ⟨g, 0, none⟩ = some (.slice A0 bs.length c0) ∧ k79.C w A0 bs.length (bs.map cBef) ∧ w.cell? ⟨g, 1, none⟩ = some (.slice As 0 cs) ∧ w.cell? ⟨g, 2, none⟩ = some (.slice A2 0 c2) ∧
  w.cell? ⟨g, 6, none⟩ = some (.slice none 0 0) ∧ w.cell? ⟨g, 7, none⟩ = some (.slice none 0 0) ∧ w.cell? ⟨g, 12, none⟩ = some (.slice At toks.length ct) ∧ Kd.string.C w At toks.length toks ∧
  w.cell? ⟨g, 13, none⟩ = some (.slice Al ls.length cl) ∧ kLn.C w Al ls.length ls ∧ w.cell? ⟨g, 14, none⟩ = some (.slice Ab 0 cb) ∧ w.cell? ⟨g, 15, none⟩ = some (.slice Ar (sufL suf).length cr) ∧ k79.C w Ar (sufL suf).length (sufL suf)
def blkC (v0 v1 v2 vt vl vb vr va : Value) : Array Value := #[v0, v1, v2, .int .i64 0, .int .i64 0, .int .i64 0, .slice none 0 0, .slice none 0 0, .slice none 0 0, .int .i64 0, .int .i64 0, .int .i64 0, vt, vl, vb, vr, va, .int .i64 0, .int .i64 0, .int .i64 0]
def BlkM (w : World) (base : Nat) (ok : Nat → Prop) (g : Nat) (bs toks : List ByteArray) (ls : List LnD) (suf : ByteArray) : Prop := ok g ∧ base ≤ g ∧ ∃ v0 v1 v2 vt vl vb vr va, w.heap[g]? = some (.cells (blkC v0 v1 v2 vt vl vb vr va) 73 (0, 0)) ∧
  k79.R 79 w base ok v0 (bs.map cBef) ∧ k79.R 79 w base ok v1 [] ∧ k79.R 79 w base ok v2 [] ∧ Kd.string.R 9 w base ok vt toks ∧ kLn.R 74 w base ok vl ls ∧ k79.R 79 w base ok vb [] ∧ k79.R 79 w base ok vr (sufL suf)

theorem BlkK.below {w w1 : World} {g : Nat} {bs toks : List ByteArray} {ls : List LnD} {suf : ByteArray} (hb : Below w.heap.size w w1) (h : BlkK w g bs toks ls suf) : BlkK w1 g bs toks ls suf := by
  obtain ⟨A0, c0, As, cs, A2, c2, At, ct, Al, cl, Ab, cb, Ar, cr, h0, h0', h1, h2, h6, h7, h12, h12', h13, h13', h14, h15, h15'⟩ := h
  exact ⟨A0, c0, As, cs, A2, c2, At, ct, Al, cl, Ab, cb, Ar, cr, cell_up hb h0, Kd.C_below h0' hb, cell_up hb h1, cell_up hb h2, cell_up hb h6, cell_up hb h7, cell_up hb h12, Kd.C_below h12' hb, cell_up hb h13, Kd.C_below h13' hb, cell_up hb h14, cell_up hb h15, Kd.C_below h15' hb⟩

theorem BlkM.reads {w : World} {base : Nat} {ok : Nat → Prop} {g : Nat} {bs toks : List ByteArray} {ls : List LnD} {suf : ByteArray} (h : BlkM w base ok g bs toks ls suf) : BlkK w g bs toks ls suf := by
  obtain ⟨-, -, v0, v1, v2, vt, vl, vb, vr, va, hg, h0, h1, h2, ht, hl, hb, hr⟩ := h
  obtain ⟨A0, c0, rfl, -, r0⟩ := Kd.R_reads h0
  obtain ⟨A1, c1, rfl, -, r1⟩ := Kd.R_reads h1
  obtain ⟨A2, c2, rfl, -, r2⟩ := Kd.R_reads h2
  obtain ⟨At, ct, rfl, -, rt⟩ := Kd.R_reads ht
  obtain ⟨Al, cl, rfl, -, rl⟩ := Kd.R_reads hl
  obtain ⟨Ab, cb, rfl, -, rb⟩ := Kd.R_reads hb
  obtain ⟨Ar, cr, rfl, -, rr⟩ := Kd.R_reads hr
  rw [List.length_map] at r0
  refine ⟨A0, c0, A1, c1, A2, c2, At, ct, Al, cl, Ab, cb, Ar, cr, ?_, r0, ?_, ?_, ?_, ?_, ?_, rt, ?_, rl, ?_, ?_, rr⟩
  · have := cell_of_blk hg 0 _ rfl; rwa [List.length_map] at this
  · exact cell_of_blk hg 1 _ rfl
  · exact cell_of_blk hg 2 _ rfl
  · exact cell_of_blk hg 6 _ rfl
  · exact cell_of_blk hg 7 _ rfl
  · exact cell_of_blk hg 12 _ rfl
  · exact cell_of_blk hg 13 _ rfl
  · exact cell_of_blk hg 14 _ rfl
  · exact cell_of_blk hg 15 _ rfl

theorem BlkM.bound {w : World} {base : Nat} {ok : Nat → Prop} {g : Nat} {bs toks : List ByteArray} {ls : List LnD} {suf : ByteArray} (E : List Nat) (hE : ∀ q, q ∈ [73, 74, 93, 79, 9] → q ∈ E) (h : BlkM w base ok g bs toks ls suf) :
    BlkM w base (fun k => ok k ∧ base ≤ k ∧ k < w.heap.size ∧ ∃ q, q ∈ E ∧ ∃ cells, w.heap[k]? = some (.cells cells q (0, 0))) g bs toks ls suf := by
  obtain ⟨hk, hbg, v0, v1, v2, vt, vl, vb, vr, va, hg, h0, h1, h2, ht, hl, hb, hr⟩ := h
  have e79 : ∀ q, q ∈ (79 : Nat) :: k79.E → q ∈ E := fun q hq => hE q (by
    have : q = 79 := by simpa [k79, Kd.iso, Kd.pair, k64, Kd.string, Kd.bool, Kd.int, Kd.scalar] using hq
    subst this
    simp)
  have e9 : ∀ q, q ∈ (9 : Nat) :: Kd.string.E → q ∈ E := fun q hq => hE q (by
    have : q = 9 := by simpa [Kd.string, Kd.scalar] using hq
    subst this
    simp)
  have e74 : ∀ q, q ∈ (74 : Nat) :: kLn.E → q ∈ E := fun q hq => hE q (by
    have : q = 74 ∨ q = 93 ∨ q = 79 ∨ q = 9 := by simpa [kLn] using hq
    rcases this with rfl | rfl | rfl | rfl <;> simp)
  exact ⟨⟨hk, hbg, lt_of_blk hg, 73, hE 73 (by simp), _, hg⟩, hbg, v0, v1, v2, vt, vl, vb, vr, va, hg, R_sub h0 E e79 (fun _ h => h), R_sub h1 E e79 (fun _ h => h), R_sub h2 E e79 (fun _ h => h), R_sub ht E e9 (fun _ h => h), R_sub hl E e74 (fun _ h => h), R_sub hb E e79 (fun _ h => h), R_sub hr E e79 (fun _ h => h)⟩

theorem BlkM.mono {w : World} {base : Nat} {ok ok' : Nat → Prop} {g : Nat} {bs toks : List ByteArray} {ls : List LnD} {suf : ByteArray} (hok : ∀ k, ok k → ok' k) (h : BlkM w base ok g bs toks ls suf) : BlkM w base ok' g bs toks ls suf := by
  obtain ⟨hk, hbg, v0, v1, v2, vt, vl, vb, vr, va, hg, h0, h1, h2, ht, hl, hb, hr⟩ := h
  exact ⟨hok _ hk, hbg, v0, v1, v2, vt, vl, vb, vr, va, hg, Kd.R_mono h0 hok, Kd.R_mono h1 hok, Kd.R_mono h2 hok, Kd.R_mono ht hok, Kd.R_mono hl hok, Kd.R_mono hb hok, Kd.R_mono hr hok⟩

theorem BlkM.move {w w1 : World} {base : Nat} {ok : Nat → Prop} {g : Nat} {bs toks : List ByteArray} {ls : List LnD} {suf : ByteArray} (hm : ∀ k, ok k → w1.heap[k]? = w.heap[k]?) (h : BlkM w base ok g bs toks ls suf) : BlkM w1 base ok g bs toks ls suf := by
  obtain ⟨hk, hbg, v0, v1, v2, vt, vl, vb, vr, va, hg, h0, h1, h2, ht, hl, hb, hr⟩ := h
  exact ⟨hk, hbg, v0, v1, v2, vt, vl, vb, vr, va, (hm g hk).trans hg, Kd.R_move h0 hm, Kd.R_move h1 hm, Kd.R_move h2 hm, Kd.R_move ht hm, Kd.R_move hl hm, Kd.R_move hb hm, Kd.R_move hr hm⟩

theorem BlkM.lower {w : World} {base base' : Nat} {ok : Nat → Prop} {g : Nat} {bs toks : List ByteArray} {ls : List LnD} {suf : ByteArray} (hbb : base' ≤ base) (h : BlkM w base ok g bs toks ls suf) : BlkM w base' ok g bs toks ls suf := by
  obtain ⟨hk, hbg, v0, v1, v2, vt, vl, vb, vr, va, hg, h0, h1, h2, ht, hl, hb, hr⟩ := h
  exact ⟨hk, Nat.le_trans hbb hbg, v0, v1, v2, vt, vl, vb, vr, va, hg, Kd.R_lower h0 hbb, Kd.R_lower h1 hbb, Kd.R_lower h2 hbb, Kd.R_lower ht hbb, Kd.R_lower hl hbb, Kd.R_lower hb hbb, Kd.R_lower hr hbb⟩

/-! ### statements -/
/-- The type and what lies behind the pointer. -/
def stT : StD → Nat
  | .line _ => 74
  | .com _ => 61
  | .blk _ _ _ _ => 67
def StK (w : World) (g : Nat) : StD → Prop
  | .line d => LineK w g d
  | .com bs => ComK w g bs
  | .blk bs toks ls suf => BlkK w g bs toks ls suf
def StM (w : World) (base : Nat) (ok : Nat → Prop) (g : Nat) : StD → Prop
  | .line d => LineM w base ok g d
  | .com bs => ComM w base ok g bs
  | .blk bs toks ls suf => BlkM w base ok g bs toks ls suf

/-- Statements, as elements of a row. -/
def kEx : Kd StD where
  sz := 1
  E := [93, 79, 9, 73, 74, 66]
  K w d cs := ∃ g, cs = [.iface (stT d) (ptrV g)] ∧ StK w g d
  M w base ok d cs := ∃ g, cs = [.iface (stT d) (ptrV g)] ∧ StM w base ok g d
  K_len := by
    rintro w x cs ⟨g, rfl, -⟩
    rfl
  K_one := by
    rintro w x cs ⟨g, rfl, -⟩ u hu
    simp only [List.mem_singleton] at hu
    subst hu
    rfl
  K_below := by
    rintro w w1 x cs hb ⟨g, rfl, h⟩
    refine ⟨g, rfl, ?_⟩
    cases x with
    | line d => exact LineK.below hb h
    | com bs => exact ComK.below hb h
    | blk bs toks ls suf => exact BlkK.below hb h
  K_of_M := by
    rintro w base ok x cs ⟨g, rfl, h⟩
    refine ⟨g, rfl, ?_⟩
    cases x with
    | line d => exact LineM.reads h
    | com bs => exact ComM.reads h
    | blk bs toks ls suf => exact BlkM.reads h
  M_mono := by
    rintro w base ok ok' x cs hok ⟨g, rfl, h⟩
    refine ⟨g, rfl, ?_⟩
    cases x with
    | line d => exact LineM.mono hok h
    | com bs => exact ComM.mono hok h
    | blk bs toks ls suf => exact BlkM.mono hok h
  M_bound := by
    rintro w base ok x cs ⟨g, rfl, h⟩
    refine ⟨g, rfl, ?_⟩
    cases x with
    | line d => exact LineM.bound _ (fun q hq => by simp at hq ⊢; omega) h
    | com bs => exact ComM.bound _ (fun q hq => by simp at hq ⊢; omega) h
    | blk bs toks ls suf => exact BlkM.bound _ (fun q hq => by simp at hq ⊢; omega) h
  M_move := by
    rintro w w1 base ok x cs hm ⟨g, rfl, h⟩
    refine ⟨g, rfl, ?_⟩
    cases x with
    | line d => exact LineM.move hm h
    | com bs => exact ComM.move hm h
    | blk bs toks ls suf => exact BlkM.move hm h
  M_lower := by
    rintro w base base' ok x cs hb ⟨g, rfl, h⟩
    refine ⟨g, rfl, ?_⟩
    cases x with
    | line d => exact LineM.lower hb h
    | com bs => exact ComM.lower hb h
    | blk bs toks ls suf => exact BlkM.lower hb h

end Go.Proofs.YtbifcpokkfiagaaDoor.F
