/- What the making of a tree leaves in memory, step by step: an element appended to the statements or to a block's lines, a store into the file's or the block's own cells. -/
import Derived.Test.YtbifcpokkfiagaaDoorFf1
namespace Go.Proofs.YtbifcpokkfiagaaDoor.F
open Go.RowKit Go.Proofs.YtbifcpokkfiagaaDoorW.PrintWords Go.Proofs.YtbifcpokkfiagaaDoor.PFm
set_option linter.unusedVariables false

theorem info86 : (Tryd.prog.info? 86).map (fun i => (i.zero, i.size, i.bytes)) = some (some .nilIface, 1, 16) := by kernel_rfl
theorem info74 : (Tryd.prog.info? 74).map (fun i => (i.zero, i.size, i.bytes)) = some (some (.pointer none), 1, 8) := by kernel_rfl

abbrev fileC (v : Value) : Array Value := #[.string ⟨#[103, 111, 46, 109, 111, 100]⟩, .slice none 0 0, .slice none 0 0, .slice none 0 0, v]

/-- The file's block at go, its statements xs in the row v. -/
def SynV (w W : World) (go : Nat) (v : Value) (xs : List StD) : Prop := W.heap[go]? = some (.cells (fileC v) 60 (0, 0)) ∧ kEx.R 86 W w.heap.size (fun _ => True) v xs ∧ Below w.heap.size w W ∧ w.heap.size ≤ go

theorem SynV.up {w W W1 : World} {go : Nat} {v : Value} {xs : List StD} (h : SynV w W go v xs) (hb : Below W.heap.size W W1) : SynV w W1 go v xs :=
  ⟨blk_below h.1 hb, Kd.R_below h.2.1 hb, h.2.2.1.trans (hb.mono h.2.2.1.size), h.2.2.2⟩
theorem SynV.cell {w W : World} {go : Nat} {v : Value} {xs : List StD} (h : SynV w W go v xs) : W.cell? ⟨go, 4, none⟩ = some v := by rw [blk_cell h.1 4]; rfl
theorem SynV.frozen {w W : World} {go : Nat} {v : Value} {xs : List StD} (h : SynV w W go v xs) : W.frozen? ⟨go, 4, none⟩ = false := blk_frozen h.1 4

theorem kEx_E (t : Nat) (h : t = 60 ∨ t = 30 ∨ t = 35) : ∀ q, q ∈ (86 : Nat) :: kEx.E → q ≠ t := by
  intro q hq
  have : q = 86 ∨ q = 93 ∨ q = 79 ∨ q = 9 ∨ q = 73 ∨ q = 74 ∨ q = 66 := by simpa [kEx] using hq
  omega

theorem kLn_E (t : Nat) (h : t = 60 ∨ t = 30 ∨ t = 35 ∨ t = 73) : ∀ q, q ∈ (74 : Nat) :: kLn.E → q ≠ t := by
  intro q hq
  have : q = 74 ∨ q = 93 ∨ q = 79 ∨ q = 9 := by simpa [kLn] using hq
  omega

theorem SynV.app {w W W1 : World} {go : Nat} {v v1 : Value} {xs ys : List StD} (h : SynV w W go v xs) (hr : kEx.R 86 W1 w.heap.size (fun _ => True) v1 ys) (hb : Below w.heap.size w W1) (hg : W.grownBy W1 v.ownBlock) :
    W1.cell? ⟨go, 4, none⟩ = some v ∧ W1.frozen? ⟨go, 4, none⟩ = false ∧ SynV w (W1.setCell ⟨go, 4, none⟩ v1) go v1 ys := by
  have hne : some go ≠ v.ownBlock := Kd.R_ne h.2.1 h.1 (by decide)
  have hb1 := blk_grown h.1 hg hne
  refine ⟨by rw [blk_cell hb1 4]; rfl, blk_frozen hb1 4, blk_put hb1 4 v1 rfl, Kd.R_set hr hb1 (kEx_E 60 (Or.inl rfl)) 4 v1, hb.setCell (p := ⟨go, 4, none⟩) h.2.2.2 v1, h.2.2.2⟩

/-- A block that is being made: its lines in the row vl. -/
def BlkV (w W : World) (g : Nat) (bs toks : List ByteArray) (vl : Value) (ls : List LnD) (suf : ByteArray) : Prop := w.heap.size ≤ g ∧ Below w.heap.size w W ∧ ∃ v0 v1 v2 vt vb vr va, W.heap[g]? = some (.cells (blkC v0 v1 v2 vt vl vb vr va) 73 (0, 0)) ∧
  k79.R 79 W w.heap.size (fun _ => True) v0 (bs.map cBef) ∧ k79.R 79 W w.heap.size (fun _ => True) v1 [] ∧ k79.R 79 W w.heap.size (fun _ => True) v2 [] ∧ Kd.string.R 9 W w.heap.size (fun _ => True) vt toks ∧ kLn.R 74 W w.heap.size (fun _ => True) vl ls ∧ k79.R 79 W w.heap.size (fun _ => True) vb [] ∧ k79.R 79 W w.heap.size (fun _ => True) vr (sufL suf)

theorem BlkV.done {w W : World} {g : Nat} {bs toks : List ByteArray} {vl : Value} {ls : List LnD} {suf : ByteArray} (h : BlkV w W g bs toks vl ls suf) : StM W w.heap.size (fun _ => True) g (.blk bs toks ls suf) := by
  obtain ⟨hg, hb, v0, v1, v2, vt, vb, vr, va, hh, r⟩ := h
  exact ⟨trivial, hg, v0, v1, v2, vt, vl, vb, vr, va, hh, r⟩

theorem BlkV.up {w W W1 : World} {g : Nat} {bs toks : List ByteArray} {vl : Value} {ls : List LnD} {suf : ByteArray} (h : BlkV w W g bs toks vl ls suf) (hb : Below W.heap.size W W1) : BlkV w W1 g bs toks vl ls suf := by
  obtain ⟨hg, hb0, v0, v1, v2, vt, vb, vr, va, hh, r0, r1, r2, rt, rl, rb, rr⟩ := h
  exact ⟨hg, hb0.trans (hb.mono hb0.size), v0, v1, v2, vt, vb, vr, va, blk_below hh hb, Kd.R_below r0 hb, Kd.R_below r1 hb, Kd.R_below r2 hb, Kd.R_below rt hb, Kd.R_below rl hb, Kd.R_below rb hb, Kd.R_below rr hb⟩

theorem BlkV.blk {w W : World} {g : Nat} {bs toks : List ByteArray} {vl : Value} {ls : List LnD} {suf : ByteArray} (h : BlkV w W g bs toks vl ls suf) : ∃ cs, W.heap[g]? = some (.cells cs 73 (0, 0)) ∧ cs[13]? = some vl := by
  obtain ⟨hg, hb0, v0, v1, v2, vt, vb, vr, va, hh, r0, r1, r2, rt, rl, rb, rr⟩ := h
  exact ⟨_, hh, rfl⟩
theorem BlkV.cell {w W : World} {g : Nat} {bs toks : List ByteArray} {vl : Value} {ls : List LnD} {suf : ByteArray} (h : BlkV w W g bs toks vl ls suf) : W.cell? ⟨g, 13, none⟩ = some vl := by
  obtain ⟨cs, hh, e⟩ := h.blk
  rw [blk_cell hh 13, e]
theorem BlkV.frozen {w W : World} {g : Nat} {bs toks : List ByteArray} {vl : Value} {ls : List LnD} {suf : ByteArray} (h : BlkV w W g bs toks vl ls suf) (i : Nat) : W.frozen? ⟨g, i, none⟩ = false := by
  obtain ⟨cs, hh, e⟩ := h.blk
  exact blk_frozen hh i

theorem k79_E (t : Nat) (h : t ≠ 79) : ∀ q, q ∈ (79 : Nat) :: k79.E → q ≠ t := by
  intro q hq
  have : q = 79 := by simpa [k79, Kd.iso, Kd.pair, k64, Kd.string, Kd.bool, Kd.int, Kd.scalar] using hq
  omega
theorem ks_E (t : Nat) (h : t ≠ 9) : ∀ q, q ∈ (9 : Nat) :: Kd.string.E → q ≠ t := by
  intro q hq
  have : q = 9 := by simpa [Kd.string, Kd.scalar] using hq
  omega

/-- A row of another type stays when the row v (of elements of type t) is grown. -/
theorem R_other {α : Type} {d : Kd α} {e : Nat} {W W1 : World} {base : Nat} {u v : Value} {xs : List α} {b2 t sz n : Nat} {inner : List Value} (h : d.R e W base (fun _ => True) u xs) (hown : W.ownsRow b2 t sz v n inner) (hE : ∀ q, q ∈ e :: d.E → q ≠ t) (hg : W.grownBy W1 v.ownBlock) : d.R e W1 base (fun _ => True) u xs := by
  cases hv : v.ownBlock with
  | none =>
    rw [hv] at hg
    exact Kd.R_grown h hg (fun k _ => by simp)
  | some g =>
    obtain ⟨cells, hc⟩ := own_typed hown g hv
    rw [hv] at hg
    refine Kd.R_mono (Kd.R_grown (Kd.R_types h hc hE) hg (fun k hk => ?_)) (fun _ _ => trivial)
    have := hk.2
    simpa using this

theorem BlkV.app {w W W1 : World} {g : Nat} {bs toks : List ByteArray} {vl v1 : Value} {ls ys : List LnD} {suf : ByteArray} (h : BlkV w W g bs toks vl ls suf) (hr : kLn.R 74 W1 w.heap.size (fun _ => True) v1 ys) (hb : Below w.heap.size w W1) (hg : W.grownBy W1 vl.ownBlock) :
    W1.cell? ⟨g, 13, none⟩ = some vl ∧ W1.frozen? ⟨g, 13, none⟩ = false ∧ BlkV w (W1.setCell ⟨g, 13, none⟩ v1) g bs toks v1 ys suf := by
  obtain ⟨hgs, hb0, v0, v1', v2, vt, vb, vr, va, hh, r0, r1, r2, rt, rl, rb, rr⟩ := h
  have hne : some g ≠ vl.ownBlock := Kd.R_ne rl hh (by decide)
  have hb1 := blk_grown hh hg hne
  obtain ⟨inner, hown⟩ := Kd.R_own rl
  have c79 : ∀ {u xs}, k79.R 79 W w.heap.size (fun _ => True) u xs → k79.R 79 (W1.setCell ⟨g, 13, none⟩ v1) w.heap.size (fun _ => True) u xs := fun hu =>
    Kd.R_set (R_other hu hown (k79_E 74 (by decide)) hg) hb1 (k79_E 73 (by decide)) 13 v1
  refine ⟨by rw [blk_cell hb1 13]; rfl, blk_frozen hb1 13, hgs, hb.setCell (p := ⟨g, 13, none⟩) hgs v1, v0, v1', v2, vt, vb, vr, va, blk_put hb1 13 v1 rfl, c79 r0, c79 r1, c79 r2, ?_, Kd.R_set hr hb1 (kLn_E 73 (by omega)) 13 v1, c79 rb, c79 rr⟩
  exact Kd.R_set (R_other rt hown (ks_E 74 (by decide)) hg) hb1 (ks_E 73 (by decide)) 13 v1

/-- The comments behind the block's bracket, stored. -/
theorem BlkV.par {w W : World} {g : Nat} {bs toks : List ByteArray} {vl xb xr xa : Value} {ls : List LnD} {suf suf' : ByteArray} (h : BlkV w W g bs toks vl ls suf) (hb : k79.R 79 W w.heap.size (fun _ => True) xb []) (hr : k79.R 79 W w.heap.size (fun _ => True) xr (sufL suf')) :
    BlkV w (((W.setCell ⟨g, 14, none⟩ xb).setCell ⟨g, 15, none⟩ xr).setCell ⟨g, 16, none⟩ xa) g bs toks vl ls suf' := by
  obtain ⟨hgs, hb0, v0, v1, v2, vt, vb, vr, va, hh, r0, r1, r2, rt, rl, rb, rr⟩ := h
  have h1 := blk_put hh 14 xb (cs' := blkC v0 v1 v2 vt vl xb vr va) rfl
  have h2 := blk_put h1 15 xr (cs' := blkC v0 v1 v2 vt vl xb xr va) rfl
  have h3 := blk_put h2 16 xa (cs' := blkC v0 v1 v2 vt vl xb xr xa) rfl
  have c : ∀ {α : Type} {d : Kd α} {e : Nat} {u : Value} {xs : List α}, (∀ q, q ∈ e :: d.E → q ≠ 73) → d.R e W w.heap.size (fun _ => True) u xs → d.R e (((W.setCell ⟨g, 14, none⟩ xb).setCell ⟨g, 15, none⟩ xr).setCell ⟨g, 16, none⟩ xa) w.heap.size (fun _ => True) u xs := fun hE hu =>
    Kd.R_set (Kd.R_set (Kd.R_set hu hh hE 14 xb) h1 hE 15 xr) h2 hE 16 xa
  exact ⟨hgs, ((hb0.setCell (p := ⟨g, 14, none⟩) hgs xb).setCell (p := ⟨g, 15, none⟩) hgs xr).setCell (p := ⟨g, 16, none⟩) hgs xa, v0, v1, v2, vt, xb, xr, xa, h3, c (k79_E 73 (by decide)) r0, c (k79_E 73 (by decide)) r1, c (k79_E 73 (by decide)) r2, c (ks_E 73 (by decide)) rt, c (kLn_E 73 (by omega)) rl, c (k79_E 73 (by decide)) hb, c (k79_E 73 (by decide)) hr⟩

/-! ### appends, in a region that draws its order -/
theorem step_ex {ops : Array Oper} {o : Oper} {a : Act} {Kc : Act → World → Prop} {Q : Exit → Act → World → Prop} (hgd : o.guard = none) (s x : Operand) (ho : o.op = .call { callee := .builtin .append, args := #[s, x], argTypes := #[58, 58] })
    {W w0 : World} (go : Nat) (v : Value) (xs : List StD) (d : StD) (g : Nat) (hs : a.eval s = v) (hx : a.eval x = .slice (some ⟨W.heap.size, 0, none⟩) 1 1) (HM : StM W w0.heap.size (fun _ => True) g d) (HS : SynV w0 W go v xs) (nx : Nat) (hnx : xs.length = nx) (hl : nx ≤ 1000)
    (h : ∀ v1 w1, w1.cell? ⟨go, 4, none⟩ = some v → w1.frozen? ⟨go, 4, none⟩ = false → Hid (SynV w0 (w1.setCell ⟨go, 4, none⟩ v1) go v1 (xs ++ [d])) → Hid (Below w0.heap.size w0 w1) → Hid (W.grownBy w1 v.ownBlock) → (∃ A c, v1 = .slice A (nx + 1) c) → Kc (a.put o.dst v1) w1) :
    if Region.wanted o (yielded ops a.tmps) = true then Oper.wp Tryd.prog o a (W.alloc (.cells #[.iface (stT d) (ptrV g)] 86 (0, 0))) Kc Q else Kc (a.put o.dst undef) (W.alloc (.cells #[.iface (stT d) (ptrV g)] 86 (0, 0))) := by
  have hM : kEx.M W w0.heap.size (fun _ => True) d [.iface (stT d) (ptrV g)] := ⟨g, rfl, HM⟩
  obtain ⟨inner, hown⟩ := Kd.R_own HS.2.1
  have hM2 : kEx.M W w0.heap.size (fun k => True ∧ some k ≠ v.ownBlock) d [.iface (stT d) (ptrV g)] := by
    cases hv : v.ownBlock with
    | none => exact kEx.M_mono (fun k _ => ⟨trivial, by simp⟩) hM
    | some gr =>
      obtain ⟨cells, hc⟩ := own_typed hown gr hv
      refine kEx.M_mono (fun k hk => ⟨trivial, ?_⟩) (Kd.M_types hM hc (fun q hq => ?_))
      · simpa using hk.2
      · have : q = 93 ∨ q = 79 ∨ q = 9 ∨ q = 73 ∨ q = 74 ∨ q = 66 := by simpa [kEx] using hq
        omega
  refine Kd.R_append_step kEx (w0 := w0) w0.heap.size (by simp [Region.wanted, hgd]) s x 58 86 .nilIface 16 ho Tryd.underlying58 info86 rfl (by decide) (by omega) v xs d [.iface (stT d) (ptrV g)] (fun _ => True) _ hs hx hM2 (fun _ hk => hk) (fun _ _ => trivial) HS.2.1 HS.2.2.1 HS.2.2.1.size (by omega) ?_
  intro v1 w1 h1 h2 h3 _
  obtain ⟨k1, k2, k3⟩ := HS.app h1 h2 h3
  refine h v1 w1 k1 k2 (Lib.hid k3) (Lib.hid h2) (Lib.hid h3) ?_
  obtain ⟨A, c, e⟩ := Kd.R_slice h1
  exact ⟨A, c, by rw [e, ← hnx]; simp⟩

theorem step_ln {ops : Array Oper} {o : Oper} {a : Act} {Kc : Act → World → Prop} {Q : Exit → Act → World → Prop} (hgd : o.guard = none) (s x : Operand) (ho : o.op = .call { callee := .builtin .append, args := #[s, x], argTypes := #[70, 70] })
    {W w0 : World} (gB : Nat) {bs toks : List ByteArray} {suf : ByteArray} (v : Value) (xs : List LnD) (d : LnD) (g : Nat) (hs : a.eval s = v) (hx : a.eval x = .slice (some ⟨W.heap.size, 0, none⟩) 1 1) (HM : LineM W w0.heap.size (fun _ => True) g d) (HS : BlkV w0 W gB bs toks v xs suf) (nx : Nat) (hnx : xs.length = nx) (hl : nx ≤ 1000)
    (h : ∀ v1 w1, w1.cell? ⟨gB, 13, none⟩ = some v → w1.frozen? ⟨gB, 13, none⟩ = false → Hid (BlkV w0 (w1.setCell ⟨gB, 13, none⟩ v1) gB bs toks v1 (xs ++ [d]) suf) → Hid (Below w0.heap.size w0 w1) → Hid (W.grownBy w1 v.ownBlock) → (∃ A c, v1 = .slice A (nx + 1) c) → Kc (a.put o.dst v1) w1) :
    if Region.wanted o (yielded ops a.tmps) = true then Oper.wp Tryd.prog o a (W.alloc (.cells #[ptrV g] 74 (0, 0))) Kc Q else Kc (a.put o.dst undef) (W.alloc (.cells #[ptrV g] 74 (0, 0))) := by
  have hM : kLn.M W w0.heap.size (fun _ => True) d [ptrV g] := ⟨g, rfl, HM⟩
  have HS' := HS
  obtain ⟨hgs, hb0, v0, v1, v2, vt, vb, vr, va, hh, r0, r1, r2, rt, rl, rb, rr⟩ := HS'
  obtain ⟨inner, hown⟩ := Kd.R_own rl
  have hM2 : kLn.M W w0.heap.size (fun k => True ∧ some k ≠ v.ownBlock) d [ptrV g] := by
    cases hv : v.ownBlock with
    | none => exact kLn.M_mono (fun k _ => ⟨trivial, by simp⟩) hM
    | some gr =>
      obtain ⟨cells, hc⟩ := own_typed hown gr hv
      refine kLn.M_mono (fun k hk => ⟨trivial, ?_⟩) (Kd.M_types hM hc (fun q hq => ?_))
      · simpa using hk.2
      · have : q = 93 ∨ q = 79 ∨ q = 9 := by simpa [kLn] using hq
        omega
  refine Kd.R_append_step kLn (w0 := w0) w0.heap.size (by simp [Region.wanted, hgd]) s x 70 74 (.pointer none) 8 ho Tryd.underlying70 info74 rfl (by decide) (by omega) v xs d [ptrV g] (fun _ => True) _ hs hx hM2 (fun _ hk => hk) (fun _ _ => trivial) rl hb0 hb0.size (by omega) ?_
  intro v1 w1 h1 h2 h3 _
  obtain ⟨k1, k2, k3⟩ := HS.app h1 h2 h3
  refine h v1 w1 k1 k2 (Lib.hid k3) (Lib.hid h2) (Lib.hid h3) ?_
  obtain ⟨A, c, e⟩ := Kd.R_slice h1
  exact ⟨A, c, by rw [e, ← hnx]; simp⟩

theorem sufL_nil : sufL ⟨#[]⟩ = [] := by
  unfold sufL
  rw [if_pos (by rw [toList_data])]

theorem com_end {w W : World} {v0 v1 v2 : Value} {bs : List ByteArray} (hb : Below w.heap.size w W) (h0 : k79.R 79 W w.heap.size (fun _ => True) v0 (bs.map cBef)) (h1 : k79.R 79 W w.heap.size (fun _ => True) v1 []) (h2 : k79.R 79 W w.heap.size (fun _ => True) v2 []) :
    StM (W.alloc (.cells #[v0, v1, v2, .int .i64 0, .int .i64 0, .int .i64 0] 66 (0, 0))) w.heap.size (fun _ => True) W.heap.size (.com bs) := by
  have hba := below_allocs W (.cells #[v0, v1, v2, .int .i64 0, .int .i64 0, .int .i64 0] 66 (0, 0))
  exact ⟨trivial, hb.size, v0, v1, v2, heap_alloc_new W _, Kd.R_below h0 hba, Kd.R_below h1 hba, Kd.R_below h2 hba⟩

theorem blk_new0 {w W : World} {v0 v1 v2 vt : Value} {bs toks : List ByteArray} (hb : Below w.heap.size w W) (h0 : k79.R 79 W w.heap.size (fun _ => True) v0 (bs.map cBef)) (h1 : k79.R 79 W w.heap.size (fun _ => True) v1 []) (h2 : k79.R 79 W w.heap.size (fun _ => True) v2 []) (ht : Kd.string.R 9 W w.heap.size (fun _ => True) vt toks) :
    BlkV w (W.alloc (.cells (blkC v0 v1 v2 vt (.slice none 0 0) (.slice none 0 0) (.slice none 0 0) (.slice none 0 0)) 73 (0, 0))) W.heap.size bs toks (.slice none 0 0) [] ⟨#[]⟩ := by
  have hba := below_allocs W (.cells (blkC v0 v1 v2 vt (.slice none 0 0) (.slice none 0 0) (.slice none 0 0) (.slice none 0 0)) 73 (0, 0))
  exact ⟨hb.size, hb.trans (hba.mono hb.size), v0, v1, v2, vt, _, _, _, heap_alloc_new W _, Kd.R_below h0 hba, Kd.R_below h1 hba, Kd.R_below h2 hba, Kd.R_below ht hba, Kd.R_nil _ _ _ _ _, Kd.R_nil _ _ _ _ _, by rw [sufL_nil]; exact Kd.R_nil _ _ _ _ _⟩

theorem lineOf_at {w0 w : World} {A0 A1 : Option Addr} {c0 c1 : Nat} {tk bs : List ByteArray} {s : ByteArray} {inb : Bool} (hb : Below w0.heap.size w0 w) (nt nb : Nat) (hnb : Hid (nb = bs.length)) (HT : Hid (Kd.string.C w0 A0 nt tk)) (HB : Hid (Kd.string.C w0 A1 nb bs)) (h0 : nt ≤ c0) (h1 : nb ≤ c1) (hl : nb < 1000000) (hlt : nt ≤ 1000000) :
    Calls Tryd.prog 26 #[.agg #[.slice A0 nt c0, .slice A1 nb c1, .string s], .bool inb] w fun e w' => ∃ g, e = .returned (ptrV g) ∧ Hid (LineM w' w0.heap.size (fun _ => True) g ⟨bs, s, tk⟩) ∧ Below w.heap.size w w' := by
  refine (lineOf_is nt nb hnb (Lib.hid (Kd.C_below HT.out hb)) (Lib.hid (Kd.C_below HB.out hb)) h0 h1 hl hlt).mono ?_
  rintro e w' ⟨g, rfl, h2, h3⟩
  exact ⟨g, rfl, Lib.hid (LineM.lower hb.size h2.out), h3.out⟩

/-- The copy of the statement at hand, in the block gs. -/
abbrev Sg (w : World) (gs : Nat) (x0 x1 x2 x3 x4 : Value) (w' : World) : Prop := (Below w.heap.size w w' ∧ w'.heap[gs]? = some (.cells #[x0, x1, x2, x3, x4] 30 (0, 0))) ∧ w'.cell? ⟨gs, 1, none⟩ = some x1 ∧ w'.cell? ⟨gs, 2, none⟩ = some x2 ∧ w'.cell? ⟨gs, 3, none⟩ = some x3 ∧ w'.cell? ⟨gs, 4, none⟩ = some x4

theorem sg_of {w w' : World} {gs : Nat} {x0 x1 x2 x3 x4 : Value} (hb : Below w.heap.size w w') (h : w'.heap[gs]? = some (.cells #[x0, x1, x2, x3, x4] 30 (0, 0))) : Sg w gs x0 x1 x2 x3 x4 w' :=
  ⟨⟨hb, h⟩, by rw [blk_cell h 1]; rfl, by rw [blk_cell h 2]; rfl, by rw [blk_cell h 3]; rfl, by rw [blk_cell h 4]; rfl⟩
theorem sg_below {w w1 w2 : World} {gs : Nat} {x0 x1 x2 x3 x4 : Value} (hb : Below w1.heap.size w1 w2) (h : Sg w gs x0 x1 x2 x3 x4 w1) : Sg w gs x0 x1 x2 x3 x4 w2 :=
  sg_of (h.1.1.trans (hb.mono h.1.1.size)) (blk_below h.1.2 hb)
theorem sg_app {w W w3 : World} {gs go : Nat} {x0 x1 x2 x3 x4 v : Value} {xs : List StD} (hS : Hid (SynV w W go v xs)) (hb : Hid (Below w.heap.size w w3)) (hg : Hid (W.grownBy w3 v.ownBlock)) (h : Sg w gs x0 x1 x2 x3 x4 W) : Sg w gs x0 x1 x2 x3 x4 w3 :=
  sg_of hb.out (blk_grown h.1.2 hg.out (Kd.R_ne hS.out.2.1 h.1.2 (by decide)))
theorem sg_set {w w3 : World} {gs go i : Nat} {x0 x1 x2 x3 x4 u : Value} (hgo : w.heap.size ≤ go) (hne : gs ≠ go) (h : Sg w gs x0 x1 x2 x3 x4 w3) : Sg w gs x0 x1 x2 x3 x4 (w3.setCell ⟨go, i, none⟩ u) :=
  sg_of (h.1.1.setCell (p := ⟨go, i, none⟩) hgo u) (blk_far h.1.2 hne u)
theorem below_drews (w : World) : Below w.heap.size w w.drew := ⟨rfl, rfl, rfl, Nat.le_refl _, fun _ _ => rfl⟩

/-- The same append, in a list of operations. -/
theorem wl_ex {ops : Array Oper} {rest : List Oper} {o : Oper} {a : Act} {Q : Exit → Act → World → Prop} (hgd : o.guard = none) (s x : Operand) (ho : o.op = .call { callee := .builtin .append, args := #[s, x], argTypes := #[58, 58] })
    {W w0 : World} (go : Nat) (v : Value) (xs : List StD) (d : StD) (g : Nat) (hs : a.eval s = v) (hx : a.eval x = .slice (some ⟨W.heap.size, 0, none⟩) 1 1) (HM : StM W w0.heap.size (fun _ => True) g d) (HS : SynV w0 W go v xs) (nx : Nat) (hnx : xs.length = nx) (hl : nx ≤ 1000)
    (h : ∀ v1 w1, w1.cell? ⟨go, 4, none⟩ = some v → w1.frozen? ⟨go, 4, none⟩ = false → Hid (SynV w0 (w1.setCell ⟨go, 4, none⟩ v1) go v1 (xs ++ [d])) → Hid (Below w0.heap.size w0 w1) → (∃ A c, v1 = .slice A (nx + 1) c) → wpList Tryd.prog ops Q rest (a.put o.dst v1) w1) :
    wpList Tryd.prog ops Q (o :: rest) a (W.alloc (.cells #[.iface (stT d) (ptrV g)] 86 (0, 0))) := by
  have hM : kEx.M W w0.heap.size (fun _ => True) d [.iface (stT d) (ptrV g)] := ⟨g, rfl, HM⟩
  obtain ⟨inner, hown⟩ := Kd.R_own HS.2.1
  have hM2 : kEx.M W w0.heap.size (fun k => True ∧ some k ≠ v.ownBlock) d [.iface (stT d) (ptrV g)] := by
    cases hv : v.ownBlock with
    | none => exact kEx.M_mono (fun k _ => ⟨trivial, by simp⟩) hM
    | some gr =>
      obtain ⟨cells, hc⟩ := own_typed hown gr hv
      refine kEx.M_mono (fun k hk => ⟨trivial, ?_⟩) (Kd.M_types hM hc (fun q hq => ?_))
      · simpa using hk.2
      · have : q = 93 ∨ q = 79 ∨ q = 9 ∨ q = 73 ∨ q = 74 ∨ q = 66 := by simpa [kEx] using hq
        omega
  refine Kd.R_append kEx (w0 := w0) w0.heap.size hgd s x 58 86 .nilIface 16 ho Tryd.underlying58 info86 rfl (by decide) (by omega) v xs d [.iface (stT d) (ptrV g)] (fun _ => True) _ hs hx hM2 (fun _ hk => hk) (fun _ _ => trivial) HS.2.1 HS.2.2.1 HS.2.2.1.size (by omega) ?_
  intro v1 w1 h1 h2 h3 _
  obtain ⟨k1, k2, k3⟩ := HS.app h1 h2 h3
  refine h v1 w1 k1 k2 (Lib.hid k3) (Lib.hid h2) ?_
  obtain ⟨A, c, e⟩ := Kd.R_slice h1
  exact ⟨A, c, by rw [e, ← hnx]; simp⟩

theorem both_nil {w0 w : World} {s : ByteArray} (hb : Below w0.heap.size w0 w) :
    Calls Tryd.prog 25 #[.slice none 0 0, .string s] w fun e w' => ∃ v0 v1 v2, e = .returned (.agg #[v0, v1, v2]) ∧ Hid (k79.R 79 w' w0.heap.size (fun _ => True) v0 []) ∧ Hid (k79.R 79 w' w0.heap.size (fun _ => True) v1 (sufL s)) ∧ Hid (k79.R 79 w' w0.heap.size (fun _ => True) v2 []) ∧ Below w.heap.size w w' :=
  both_at (l := []) hb (Lib.hid (Kd.C_nil Kd.string w0)) (Lib.hid rfl) (Nat.le_refl _) (by omega)

theorem BlkV.cellx {w W : World} {g : Nat} {bs toks : List ByteArray} {vl : Value} {ls : List LnD} {suf : ByteArray} (h : BlkV w W g bs toks vl ls suf) : ∃ x14 x15 x16, W.cell? ⟨g, 14, none⟩ = some x14 ∧ W.cell? ⟨g, 15, none⟩ = some x15 ∧ W.cell? ⟨g, 16, none⟩ = some x16 := by
  obtain ⟨hg, hb0, v0, v1, v2, vt, vb, vr, va, hh, r⟩ := h
  exact ⟨vb, vr, va, by rw [blk_cell hh 14]; rfl, by rw [blk_cell hh 15]; rfl, by rw [blk_cell hh 16]; rfl⟩
theorem BlkV.len {w W : World} {g : Nat} {bs toks : List ByteArray} {vl : Value} {ls : List LnD} {suf : ByteArray} (h : BlkV w W g bs toks vl ls suf) : ∃ Al cl, vl = .slice Al ls.length cl := by
  obtain ⟨hg, hb0, v0, v1, v2, vt, vb, vr, va, hh, r0, r1, r2, rt, rl, r⟩ := h
  exact Kd.R_slice rl

/-- The copy of the line at hand, in the block gj. -/
abbrev Sl (w : World) (gj : Nat) (x0 x1 x2 : Value) (w' : World) : Prop := (Below w.heap.size w w' ∧ w'.heap[gj]? = some (.cells #[x0, x1, x2] 35 (0, 0))) ∧ w'.cell? ⟨gj, 0, none⟩ = some x0 ∧ w'.cell? ⟨gj, 1, none⟩ = some x1 ∧ w'.cell? ⟨gj, 2, none⟩ = some x2
theorem sl_of {w w' : World} {gs : Nat} {x0 x1 x2 : Value} (hb : Below w.heap.size w w') (h : w'.heap[gs]? = some (.cells #[x0, x1, x2] 35 (0, 0))) : Sl w gs x0 x1 x2 w' :=
  ⟨⟨hb, h⟩, by rw [blk_cell h 0]; rfl, by rw [blk_cell h 1]; rfl, by rw [blk_cell h 2]; rfl⟩
theorem sl_below {w w1 w2 : World} {gs : Nat} {x0 x1 x2 : Value} (hb : Below w1.heap.size w1 w2) (h : Sl w gs x0 x1 x2 w1) : Sl w gs x0 x1 x2 w2 :=
  sl_of (h.1.1.trans (hb.mono h.1.1.size)) (blk_below h.1.2 hb)
theorem sl_app {w W w3 : World} {gs gB : Nat} {x0 x1 x2 v : Value} {bs toks : List ByteArray} {ls : List LnD} {suf : ByteArray} (hS : Hid (BlkV w W gB bs toks v ls suf)) (hb : Hid (Below w.heap.size w w3)) (hg : Hid (W.grownBy w3 v.ownBlock)) (h : Sl w gs x0 x1 x2 W) : Sl w gs x0 x1 x2 w3 := by
  obtain ⟨hgs, hb0, v0, v1, v2, vt, vb, vr, va, hh, r0, r1, r2, rt, rl, r⟩ := hS.out
  exact sl_of hb.out (blk_grown h.1.2 hg.out (Kd.R_ne rl h.1.2 (by decide)))
theorem sl_set {w w3 : World} {gs go i : Nat} {x0 x1 x2 u : Value} (hgo : w.heap.size ≤ go) (hne : gs ≠ go) (h : Sl w gs x0 x1 x2 w3) : Sl w gs x0 x1 x2 (w3.setCell ⟨go, i, none⟩ u) :=
  sl_of (h.1.1.setCell (p := ⟨go, i, none⟩) hgo u) (blk_far h.1.2 hne u)

theorem undrew {w w2 : World} (h : Below w.drew.heap.size w.drew w2) : Below w.heap.size w w2 := (below_drew (Below.refl w.heap.size w)).trans h

theorem alloc_size (w : World) (o : Obj) : (w.alloc o).heap.size = w.heap.size + 1 := Array.size_push _

theorem StM.lower {w : World} {base base' : Nat} {ok : Nat → Prop} {g : Nat} {d : StD} (hb : base' ≤ base) (h : StM w base ok g d) : StM w base' ok g d := by
  cases d with
  | line d => exact LineM.lower hb h
  | com bs => exact ComM.lower hb h
  | blk bs toks ls suf => exact BlkM.lower hb h

def lnOf (l : S35) : LnD := ⟨l.f1, l.f2, l.f0⟩
/-- A statement of the tree. -/
def stOf (s : S30) : StD := if s.f0 = 2 then .com s.f3 else if s.f0 = 1 then .blk s.f3 s.f1 (s.f2.map lnOf) s.f4 else .line ⟨s.f3, s.f4, s.f1⟩

/-- A tree's lists are short. -/
structure Small (s : S30) : Prop where
  tk : s.f1.length ≤ 10
  ls : s.f2.length ≤ 20
  bf : s.f3.length ≤ 10
  lt : ∀ l ∈ s.f2, l.f0.length ≤ 10
  lb : ∀ l ∈ s.f2, l.f1.length ≤ 10

end Go.Proofs.YtbifcpokkfiagaaDoor.F
