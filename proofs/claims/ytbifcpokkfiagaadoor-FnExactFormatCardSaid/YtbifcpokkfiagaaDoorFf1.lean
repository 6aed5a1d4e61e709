/- impl.lineOf: a line, made. Conditions: its texts lie in memory. -/
import Derived.Test.YtbifcpokkfiagaaDoorFe2
import Derived.Test.YtbifcpokkfiagaaDoorPFmx6
namespace Go.Proofs.YtbifcpokkfiagaaDoor.F
open Go.RowKit Go.Proofs.YtbifcpokkfiagaaDoorW.PrintWords Go.Proofs.YtbifcpokkfiagaaDoor.PFm
set_option linter.unusedVariables false

theorem comments_l (b : Bool) (l : List ByteArray) (h : l.length < 2932031007402) : ∀ (d i : Nat) (acc : List S79), d + i = l.length → acc.length = i → ∀ k, d < k → impl_comments.l0 k b acc l (l.length : Int) (i : Int) = some (acc ++ (l.drop i).map (fun s => (⟨z64, s, b⟩ : S79))) := by
  intro d
  induction d with
  | zero =>
    intro i acc hi ha k hk
    obtain ⟨k, rfl⟩ : ∃ m, k = m + 1 := ⟨k - 1, by omega⟩
    simp only [impl_comments.l0]
    rw [if_neg (by omega), List.drop_eq_nil_of_le (by omega)]
    simp
  | succ d ih =>
    intro i acc hi ha k hk
    obtain ⟨k, rfl⟩ : ∃ m, k = m + 1 := ⟨k - 1, by omega⟩
    have hil : i < l.length := by omega
    simp only [impl_comments.l0]
    rw [if_pos (by omega), if_pos (by omega), if_pos (by omega), if_pos (by omega)]
    have hw : wrap64 ((i : Int) + 1) = ((i + 1 : Nat) : Int) := by unfold wrap64; omega
    rw [hw, ih (i + 1) _ (by omega) (by simp [ha]) k (by omega), List.drop_eq_getElem_cons hil]
    have hr : rdOf ByteArray.empty l (i : Int) = l[i] := by
      unfold rdOf
      rw [Int.toNat_natCast, List.getD_eq_getElem?_getD, List.getElem?_eq_getElem hil]
      rfl
    rw [hr, List.map_cons, List.append_assoc]
    rfl

theorem comments_f (l : List ByteArray) (b : Bool) (h : l.length < 2932031007402) (k : Nat) (hk : l.length < k) : impl_comments.f k l b = some (l.map (fun s => (⟨z64, s, b⟩ : S79))) := by
  unfold impl_comments.f
  have := comments_l b l h l.length 0 [] (by omega) rfl k hk
  simpa using this

theorem both_f (l : List ByteArray) (s : ByteArray) (h : l.length < 2932031007402) (k : Nat) (hk : l.length + 2 < k) : impl_both.f k l s = some (l.map cBef, sufL s, []) := by
  unfold impl_both.f
  rw [comments_f l false h k (by omega), Option.bind_some]
  unfold sufL
  by_cases e : s.toList = []
  · rw [if_pos e, if_pos e]
    rfl
  · rw [if_neg e, if_neg e, comments_f [s] true (by simp) k (by simp; omega), Option.bind_some]
    rfl

theorem both_is (w : World) (A0 : Option Addr) (c0 : Nat) (l : List ByteArray) (s : ByteArray) (hC : Kd.string.C w A0 l.length l) (hc : l.length ≤ c0) (hl : l.length < 1000000) :
    Calls Tryd.prog 25 #[.slice A0 l.length c0, .string s] w fun e w' => ∃ v0 v1 v2, e = .returned (.agg #[v0, v1, v2]) ∧ k79.R 79 w' w.heap.size (fun _ => True) v0 (l.map cBef) ∧ k79.R 79 w' w.heap.size (fun _ => True) v1 (sufL s) ∧ k79.R 79 w' w.heap.size (fun _ => True) v2 [] ∧ Below w.heap.size w w' := by
  refine (impl_both.calls (l.length + 3) A0 c0 l s _ _ _ w hC hc (both_f l s (by omega) _ (by omega))).mono ?_
  rintro e w' ⟨v0, v1, v2, rfl, h0, h1, h2, hb⟩
  exact ⟨v0, v1, v2, rfl, Kd.R_mono h0 (fun _ _ => trivial), Kd.R_mono h1 (fun _ _ => trivial), Kd.R_mono h2 (fun _ _ => trivial), hb⟩

theorem both_at {w0 w : World} {A0 : Option Addr} {c0 n : Nat} {l : List ByteArray} {s : ByteArray} (hb : Below w0.heap.size w0 w) (hC : Hid (Kd.string.C w0 A0 n l)) (hn : Hid (n = l.length)) (hc : n ≤ c0) (hl : n < 1000000) :
    Calls Tryd.prog 25 #[.slice A0 n c0, .string s] w fun e w' => ∃ v0 v1 v2, e = .returned (.agg #[v0, v1, v2]) ∧ Hid (k79.R 79 w' w0.heap.size (fun _ => True) v0 (l.map cBef)) ∧ Hid (k79.R 79 w' w0.heap.size (fun _ => True) v1 (sufL s)) ∧ Hid (k79.R 79 w' w0.heap.size (fun _ => True) v2 []) ∧ Below w.heap.size w w' := by
  obtain rfl := hn.out
  refine (both_is w A0 c0 l s (Kd.C_below hC.out hb) hc hl).mono ?_
  rintro e w' ⟨v0, v1, v2, rfl, h0, h1, h2, h3⟩
  exact ⟨v0, v1, v2, rfl, Lib.hid (Kd.R_lower h0 hb.size), Lib.hid (Kd.R_lower h1 hb.size), Lib.hid (Kd.R_lower h2 hb.size), h3⟩

theorem keep3 {w w1 w2 : World} {a0 a1 a2 : Addr} {x0 x1 x2 : Value} (h : Below w.heap.size w w1 ∧ w1.cell? a0 = some x0 ∧ w1.cell? a1 = some x1 ∧ w1.cell? a2 = some x2) (hb : Below w1.heap.size w1 w2) :
    Below w.heap.size w w2 ∧ w2.cell? a0 = some x0 ∧ w2.cell? a1 = some x1 ∧ w2.cell? a2 = some x2 :=
  ⟨h.1.trans (hb.mono h.1.size), cell_upA hb h.2.1, cell_upA hb h.2.2.1, cell_upA hb h.2.2.2⟩

theorem keep4 {w W w3 : World} {i0 i1 i2 g : Nat} {x0 x1 x2 : Value} (h : Below w.heap.size w W ∧ W.cell? ⟨w.heap.size, i0, none⟩ = some x0 ∧ W.cell? ⟨w.heap.size, i1, none⟩ = some x1 ∧ W.cell? ⟨w.heap.size, i2, none⟩ = some x2)
    (hb : Hid (Below w.heap.size w w3)) (hg : Hid (W.grownBy w3 (Value.slice (some ⟨g, 0, none⟩) 0 0).ownBlock)) (hlt : w.heap.size < g) :
    Below w.heap.size w w3 ∧ w3.cell? ⟨w.heap.size, i0, none⟩ = some x0 ∧ w3.cell? ⟨w.heap.size, i1, none⟩ = some x1 ∧ w3.cell? ⟨w.heap.size, i2, none⟩ = some x2 := by
  have hl := World.block_lt_of_cell? W _ h.2.1
  have hbk := hg.out.block w.heap.size hl (by simp [Value.ownBlock]; omega)
  refine ⟨hb.out, ?_, ?_, ?_⟩
  · rw [← h.2.1]; unfold World.cell?; rw [hbk]
  · rw [← h.2.2.1]; unfold World.cell?; rw [hbk]
  · rw [← h.2.2.2]; unfold World.cell?; rw [hbk]

theorem below_allocs (w : World) (o : Obj) : Below w.heap.size w (w.alloc o) := (Below.refl _ _).alloc (Nat.le_refl _) _

/-- A new row of no texts. -/
theorem r_empty (W : World) (base : Nat) (h : base ≤ W.heap.size) : Kd.string.R 9 (W.alloc (.cells #[] 9 (0, 0))) base (fun _ => True) (.slice (some ⟨W.heap.size, 0, none⟩) 0 0) [] := by
  refine ⟨fun _ _ => trivial, [], ?_, Reps.none _ _⟩
  have h2 := World.ownsRow_lit (base := base) (e := 9) (size := 1) W (#[] : Array Value) 0 h (by simp [maxLen]) (by simp)
  have h3 : (W.alloc (.cells (#[] : Array Value) 9 (0, 0))).ownsRow base 9 1 (.slice (some ⟨W.heap.size, 0, none⟩) 0 0) 0 [] := by simpa using h2
  exact h3

theorem info9s : (Tryd.prog.info? 9).map (fun i => (i.zero, i.size, i.bytes)) = some (some (.string ⟨#[]⟩), 1, 16) := info9

/-- The append of texts that are read to a row of the call's own, in a region that draws its order. -/
theorem step_toks {ops : Array Oper} {o : Oper} {a : Act} {Kc : Act → World → Prop} {Q : Exit → Act → World → Prop} (hgd : o.guard = none) (s x : Operand) (ho : o.op = .call { callee := .builtin .append, args := #[s, x], argTypes := #[27, 27] })
    {W w0 : World} (v : Value) (A : Option Addr) (nt c : Nat) (tk : List ByteArray) (hs : a.eval s = v) (hx : a.eval x = .slice A nt c) (HO : Kd.string.R 9 W w0.heap.size (fun _ => True) v []) (HR : Kd.string.C w0 A nt tk) (HB : Below w0.heap.size w0 W) (hl : nt ≤ 1000000)
    (h : ∀ v1 w1, Hid (Kd.string.R 9 w1 w0.heap.size (fun _ => True) v1 tk) → Hid (Below w0.heap.size w0 w1) → Hid (W.grownBy w1 v.ownBlock) → Kc (a.put o.dst v1) w1) :
    if Region.wanted o (yielded ops a.tmps) = true then Oper.wp Tryd.prog o a W Kc Q else Kc (a.put o.dst undef) W := by
  refine Kd.R_append_rows_step Kd.string (w0 := w0) w0.heap.size (by simp [Region.wanted, hgd]) s x 27 9 (.string ⟨#[]⟩) 16 ho Tryd.underlying27 info9s rfl (by decide) (by omega) v [] tk A nt c (fun _ => True) (fun _ => False) hs hx HO (Rr := Kd.string.K W) (Kd.C_below HR HB) (fun y cs hy => hy) (fun _ h => h.elim) (fun _ _ => trivial) HB HB.size (by simp only [List.length_nil]; omega) ?_
  intro v1 w1 h1 h2 h3 _
  exact h v1 w1 (Lib.hid h1) (Lib.hid h2) (Lib.hid h3)

/-- What was made of another type stays behind an append to a row of texts. -/
theorem carry79 {W w1 : World} {base b2 : Nat} {v u : Value} {xs : List S79} {ys : List ByteArray} (h : k79.R 79 W base (fun _ => True) u xs) (HO : Kd.string.R 9 W b2 (fun _ => True) v ys) (hg : W.grownBy w1 v.ownBlock) : k79.R 79 w1 base (fun _ => True) u xs := by
  obtain ⟨inner, hown⟩ := Kd.R_own HO
  cases hv : v.ownBlock with
  | none =>
    rw [hv] at hg
    exact Kd.R_grown h hg (fun k _ => by simp)
  | some g =>
    obtain ⟨cells, hc⟩ := own_typed hown g hv
    rw [hv] at hg
    refine Kd.R_mono (Kd.R_grown (Kd.R_types h hc (fun q hq => ?_)) hg (fun k hk => ?_)) (fun _ _ => trivial)
    · have : q = 79 := by simpa [k79, Kd.iso, Kd.pair, k64, Kd.string, Kd.bool, Kd.int, Kd.scalar] using hq
      subst this
      decide
    · have := hk.2
      simpa using this

theorem line_end {w W : World} {v0 v1 v2 vt : Value} {bs tk : List ByteArray} {s : ByteArray} {inb : Bool} (hb : Below w.heap.size w W) (h0 : k79.R 79 W w.heap.size (fun _ => True) v0 (bs.map cBef)) (h1 : k79.R 79 W w.heap.size (fun _ => True) v1 (sufL s)) (h2 : k79.R 79 W w.heap.size (fun _ => True) v2 []) (ht : Kd.string.R 9 W w.heap.size (fun _ => True) vt tk) :
    LineM (W.alloc (.cells #[v0, v1, v2, .int .i64 0, .int .i64 0, .int .i64 0, vt, .bool inb, .int .i64 0, .int .i64 0, .int .i64 0] 93 (0, 0))) w.heap.size (fun _ => True) W.heap.size ⟨bs, s, tk⟩ ∧ Below w.heap.size w (W.alloc (.cells #[v0, v1, v2, .int .i64 0, .int .i64 0, .int .i64 0, vt, .bool inb, .int .i64 0, .int .i64 0, .int .i64 0] 93 (0, 0))) := by
  have hba := below_allocs W (.cells #[v0, v1, v2, .int .i64 0, .int .i64 0, .int .i64 0, vt, .bool inb, .int .i64 0, .int .i64 0, .int .i64 0] 93 (0, 0))
  refine ⟨⟨trivial, hb.size, v0, v1, v2, vt, inb, ?_, Kd.R_below h0 hba, Kd.R_below h1 hba, Kd.R_below h2 hba, Kd.R_below ht hba⟩, hb.trans (hba.mono hb.size)⟩
  exact heap_alloc_new W _

set_option maxRecDepth 100000 in
set_option maxHeartbeats 8000000 in
theorem lineOf_is {w : World} {A0 A1 : Option Addr} {c0 c1 : Nat} {tk bs : List ByteArray} {s : ByteArray} {inb : Bool} (nt nb : Nat) (hnb : Hid (nb = bs.length)) (HT : Hid (Kd.string.C w A0 nt tk)) (HB : Hid (Kd.string.C w A1 nb bs)) (h0 : nt ≤ c0) (h1 : nb ≤ c1) (hl : nb < 1000000) (hlt : nt ≤ 1000000) :
    Calls Tryd.prog 26 #[.agg #[.slice A0 nt c0, .slice A1 nb c1, .string s], .bool inb] w fun e w' => ∃ g, e = .returned (ptrV g) ∧ Hid (LineM w' w.heap.size (fun _ => True) g ⟨bs, s, tk⟩) ∧ Hid (Below w.heap.size w w') := by
  go_enter Tryd.func26, Tryd.ntmps26
  go_wp2
  obtain ⟨ob, hob⟩ : ∃ ob, ob = Obj.cells #[.slice A0 nt c0, .slice A1 nb c1, .string s] 35 := ⟨_, rfl⟩
  have hb1 : Below w.heap.size w (w.alloc ob) := (Below.refl _ _).alloc (Nat.le_refl _) _
  have d0 : (w.alloc ob).cell? ⟨w.heap.size, 0, none⟩ = some (.slice A0 nt c0) := by rw [hob, World.cell?_alloc_mark]; rfl
  have d1 : (w.alloc ob).cell? ⟨w.heap.size, 1, none⟩ = some (.slice A1 nb c1) := by rw [hob, World.cell?_alloc_mark]; rfl
  have d2 : (w.alloc ob).cell? ⟨w.heap.size, 2, none⟩ = some (.string s) := by rw [hob, World.cell?_alloc_mark]; rfl
  rw [← hob]
  have HS : Hid (Below w.heap.size w (w.alloc ob) ∧ (w.alloc ob).cell? ⟨w.heap.size, 0, none⟩ = some (.slice A0 nt c0) ∧ (w.alloc ob).cell? ⟨w.heap.size, 1, none⟩ = some (.slice A1 nb c1) ∧ (w.alloc ob).cell? ⟨w.heap.size, 2, none⟩ = some (.string s)) := Lib.hid ⟨hb1, d0, d1, d2⟩
  clear hob hb1 d0 d1 d2
  generalize w.alloc ob = w1 at *
  go_region_held3 (fun w' => Below w.heap.size w w' ∧ w'.cell? ⟨w.heap.size, 0, none⟩ = some (.slice A0 nt c0) ∧ w'.cell? ⟨w.heap.size, 1, none⟩ = some (.slice A1 nb c1) ∧ w'.cell? ⟨w.heap.size, 2, none⟩ = some (.string s))
    (first | exact keep4 (by assumption) hb3 hg3 (by first | exact hs2.out | exact World.block_lt_of_cell? w1 _ HS.out.2.1) | exact keep3 (by assumption) hbl | exact keep3 (by assumption) (below_allocs _ _) | exact keep3 HS.out ⟨rfl, rfl, rfl, Nat.le_refl _, fun _ _ => rfl⟩ | go_keep)
    (first
      | (go_at_call 25; (with_reducible refine (both_at (w0 := w) (by exact (‹Below w.heap.size w _ ∧ _›).1) HB hnb h1 hl).mono ?_); rintro e w2 ⟨v0, v1, v2, rfl, hr0, hr1, hr2, hbl⟩; have hs2 : Hid (w.heap.size < w2.heap.size) := Lib.hid (Nat.lt_of_lt_of_le (World.block_lt_of_cell? w1 _ HS.out.2.1) (Nat.le_trans (by first | exact Nat.le_refl _ | exact (below_allocs w1.drew _).size) hbl.size)); obtain ⟨B0, e0, rfl⟩ := Kd.R_slice hr0.out; obtain ⟨B1, e1, rfl⟩ := Kd.R_slice hr1.out; obtain ⟨B2, e2, rfl⟩ := Kd.R_slice hr2.out)
      | (refine step_toks (w0 := w) (by rfl) _ _ (by rfl) _ A0 nt c0 tk (by rfl) (by rfl) (by first | exact r_empty _ _ (Nat.le_of_lt hs2.out) | exact Kd.R_below (r_empty w1.drew _ HS.out.1.size) hbl) HT.out (by exact (‹Below w.heap.size w _ ∧ _›).1) hlt ?_; intro vt w3 ht3 hb3 hg3; obtain ⟨B3, e3, rfl⟩ := Kd.R_slice ht3.out))
  · have q0 := carry79 (Kd.R_below hr0.out (below_allocs _ _)) (r_empty w2 w.heap.size (Nat.le_of_lt hs2.out)) hg3.out
    have q1 := carry79 (Kd.R_below hr1.out (below_allocs _ _)) (r_empty w2 w.heap.size (Nat.le_of_lt hs2.out)) hg3.out
    have q2 := carry79 (Kd.R_below hr2.out (below_allocs _ _)) (r_empty w2 w.heap.size (Nat.le_of_lt hs2.out)) hg3.out
    rw [List.length_map] at q0
    have hend := Lib.hid (line_end (inb := inb) hb3.out q0 q1 q2 ht3.out)
    clear q0 q1 q2 hr0 hr1 hr2 hg3
    go_wp2
    go_ret
    exact ⟨_, rfl, Lib.hid hend.out.1, Lib.hid hend.out.2⟩
  · have hre : Kd.string.R 9 w2 w.heap.size (fun _ => True) (.slice (some ⟨w1.heap.size, 0, none⟩) 0 0) [] := Kd.R_below (by apply Kd.R_drew; exact r_empty w1 w.heap.size HS.out.1.size) hbl
    have q0 := carry79 hr0.out hre hg3.out
    have q1 := carry79 hr1.out hre hg3.out
    have q2 := carry79 hr2.out hre hg3.out
    rw [List.length_map] at q0
    have hend := Lib.hid (line_end (inb := inb) hb3.out q0 q1 q2 ht3.out)
    clear q0 q1 q2 hr0 hr1 hr2 hg3 hre
    go_wp2
    go_ret
    exact ⟨_, rfl, Lib.hid hend.out.1, Lib.hid hend.out.2⟩

end Go.Proofs.YtbifcpokkfiagaaDoor.F
