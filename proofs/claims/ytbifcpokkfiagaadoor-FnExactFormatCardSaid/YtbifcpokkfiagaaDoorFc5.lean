/- The printer's newline: what it writes, and the comment that waits for the line's end. Conditions: at most one comment waits; the text is one that no trimming changes. -/
import Derived.Test.YtbifcpokkfiagaaDoorFc4
import Derived.Lib.SmallJoins
import Derived.Laws.OwnMore
namespace Go.Proofs.YtbifcpokkfiagaaDoor.F
open Go.RowKit Go.Proofs.YtbifcpokkfiagaaDoorW.PrintWords
set_option linter.unusedVariables false

abbrev Tab (w : World) : Prop := Lib.TabIs Tryd.prog w "strings.asciiSpace" .u8 Lib.asciiSpaceTab

theorem Tab.below {w w' : World} (h : Tab w) (hb : Below w.heap.size w w') : Tab w' := by
  unfold Tab Lib.TabIs at *
  unfold World.var? at h ⊢
  cases hg : Tryd.prog.globalNamed "strings.asciiSpace" with
  | none => simp [hg] at h
  | some g =>
    simp only [hg, Option.bind_some] at h ⊢
    have hlt : g < w.heap.size := by
      rcases Nat.lt_or_ge g w.heap.size with h' | h'
      · exact h'
      · simp [Array.getElem?_eq_none h'] at h
    rw [hb.block g hlt]
    exact h

/-- A comment's text: ASCII, no space ahead or behind. -/
structure Com (l : List UInt8) : Prop where
  asc : ∀ c ∈ l, c.toNat < 128
  hd : ∃ c t, l = c :: t ∧ Lib.isSp c = false
  tl : ∃ p c, l = p ++ [c] ∧ Lib.isSp c = false
  len : l.length ≤ 2000

theorem Com.trim {l : List UInt8} (h : Com l) : Lib.trimSpace l = l := by
  obtain ⟨c, t, e, hc⟩ := h.hd
  obtain ⟨p, d, e2, hd⟩ := h.tl
  unfold Lib.trimSpace
  have h1 : l.dropWhile Lib.isSp = l := by rw [e, List.dropWhile_cons, hc]; simp
  rw [h1]
  have h2 : l.reverse.dropWhile Lib.isSp = l.reverse := by rw [e2, List.reverse_append, List.reverse_singleton, List.singleton_append, List.dropWhile_cons, hd]; simp
  rw [h2, List.reverse_reverse]

theorem tsp_is (s : ByteArray) (w : World) (hT : Hid (Tab w)) (hC : Hid (Com s.data.toList)) :
    Calls Tryd.prog 32 #[.string s] w fun e w' => e = .returned (.string s) ∧ Below w.heap.size w w' := by
  have hsz : s.size ≤ 2000 := by have := hC.out.len; rw [Lib.size_eq]; exact this
  refine (Tryd.strings_TrimSpace s w (by omega) (fun j b hb => hC.out.asc b (List.mem_of_getElem? hb)) hT.out).mono ?_
  rintro e w' ⟨rfl, rfl⟩
  refine ⟨?_, Joins.below_bytesWorld w.heap.size w 5 s (Nat.le_refl _)⟩
  rw [hC.out.trim]

theorem PB.old {B b : Nat} {l : List UInt8} {cv : Value} {m : Nat} {w w' : World} (h : PB B b l cv m w) (hb : Below w.heap.size w w') : PB B b l cv m w' := LibA.IsBuffer.old h hb
theorem Ok.old {B b : Nat} {w w1 : World} (hB : B ≤ w.heap.size) (hb : Below w.heap.size w w1) : Ok B b w w1 :=
  ⟨hb.mono hB, fun k o hk _ _ => by
    have hlt : k < w.heap.size := by
      rcases Nat.lt_or_ge k w.heap.size with h' | h'
      · exact h'
      · simp [Array.getElem?_eq_none h'] at hk
    rw [hb.block k hlt]
    exact hk⟩
theorem PB.le {B b : Nat} {l : List UInt8} {cv : Value} {m : Nat} {w : World} (h : PB B b l cv m w) : B ≤ w.heap.size := Nat.le_of_lt (Nat.lt_of_le_of_lt h.hB h.lt)

/-- A comment's cells. -/
def comC (s : ByteArray) : List Value := [.int .i64 0, .int .i64 0, .int .i64 0, .string s, .bool true]
def pcs : Option ByteArray → List Value
  | none => []
  | some s => comC s
def pn : Option ByteArray → Nat
  | none => 0
  | some _ => 1

/-- The comments that wait: none, or one. -/
def Pend (B : Nat) (cv : Value) (o : Option ByteArray) (w : World) : Prop := w.ownsRow B 79 5 cv (pn o) (pcs o)

/-- The printer: its text, the comment that waits, its margin. -/
def PS (B b : Nat) (l : List UInt8) (o : Option ByteArray) (m : Nat) (w : World) : Prop := ∃ cv, PB B b l cv m w ∧ Pend B cv o w

theorem PB.kind {B b : Nat} {l : List UInt8} {cv : Value} {m : Nat} {w : World} (h : PB B b l cv m w) : ∃ c fz, w.heap[b]? = some (.cells c 53 fz) := by
  obtain ⟨hB, v, lr, hbk, hown, hne⟩ := h
  obtain ⟨cs, h, -⟩ := hbk
  exact ⟨cs, _, h⟩

theorem Pend.ok {B b : Nat} {l : List UInt8} {cv cv' : Value} {m : Nat} {o : Option ByteArray} {w w' : World} (h : Pend B cv o w) (hp : PB B b l cv' m w) (k : Ok B b w w') : Pend B cv o w' := by
  refine ⟨h.1, ?_⟩
  rcases h.2 with h2 | ⟨g, cap, cur, e, hBg, hg, h4, h5, h6, h7⟩
  · exact Or.inl h2
  · refine Or.inr ⟨g, cap, cur, e, hBg, k.2 g _ hg ?_ ?_, h4, h5, h6, h7⟩
    · intro e
      obtain ⟨c, fz, hk⟩ := hp.kind
      have e2 : g = b := by simpa using e
      rw [e2, hk] at hg
      simp at hg
    · intro c fz e
      simp at e

/-- The text of the comment that waits. -/
def sfx : Option ByteArray → List UInt8
  | none => []
  | some s => 32 :: s.data.toList

/-- A text at whose end newline trims nothing, and adds a line end. -/
def Ends (l : List UInt8) : Prop := (∃ p c, l = p ++ [c] ∧ c ≠ 9 ∧ c ≠ 32 ∧ c ≠ 10) ∨ (∃ p c, l = p ++ [c, 10] ∧ c ≠ 10)

theorem Ends.last {l : List UInt8} (h : Ends l) (j : Nat) (hj : j + 1 = l.length) (hl : j < l.length) : l[j] ≠ 9 ∧ l[j] ≠ 32 := by
  rcases h with ⟨p, c, rfl, h1, h2, h3⟩ | ⟨p, c, rfl, h1⟩
  · have : j = p.length := by simpa using hj
    subst this
    simp [h1, h2]
  · have : j = p.length + 1 := by simpa using hj
    subst this
    simp

theorem Ends.pos {l : List UInt8} (h : Ends l) : 0 < l.length := by
  rcases h with ⟨p, c, rfl, h1, h2, h3⟩ | ⟨p, c, rfl, h1⟩ <;> simp

theorem Ends.two {l : List UInt8} (h : Ends l) (j : Nat) (hj : j + 2 = l.length) (hl : j + 1 < l.length) (h10 : l[j + 1] = 10) : l[j] ≠ 10 := by
  rcases h with ⟨p, c, rfl, h1, h2, h3⟩ | ⟨p, c, rfl, h1⟩
  · have : j + 1 = p.length := by simp at hj; omega
    have h4 : (p ++ [c])[p.length]'(by simp) = c := by simp
    simp only [this] at h10
    exact absurd (h4.symm.trans h10) h3
  · have : j = p.length := by simpa using hj
    subst this
    simp [h1]

theorem drawnPB {B b : Nat} {l : List UInt8} {cv : Value} {m : Nat} {w w' : World} (h : Hid (PB B b l cv m w)) (hd : Drawn0 w w') : Hid (PB B b l cv m w') := Lib.hid (by obtain ⟨⟨q, rfl⟩⟩ := hd; exact h.out.drewN q)
theorem drawnOk {B b : Nat} {w0 w w' : World} (h : Hid (Ok B b w0 w)) (hd : Drawn0 w w') : Hid (Ok B b w0 w') := Lib.hid (by obtain ⟨⟨q, rfl⟩⟩ := hd; exact h.out.drewN q)
theorem drawnRd {p : Option Addr} {c : Nat} {l : List UInt8} {w w' : World} (h : Hid (Rd w p c l)) (hd : Drawn0 w w') : Hid (Rd w' p c l) := Lib.hid (by obtain ⟨⟨q, rfl⟩⟩ := hd; exact h.out)
theorem thenOk {B b : Nat} {w0 w w' : World} (h : Hid (Ok B b w0 w)) (k : Hid (Ok B b w w')) : Hid (Ok B b w0 w') := Lib.hid (h.out.trans k.out)

/-- A byte of the buffer at place i. -/
theorem rd_at {p : Option Addr} {c : Nat} {l : List UInt8} {w : World} (h : Hid (Rd w p c l)) (i : Nat) (hi : i < l.length) : ∃ g, p = some ⟨g, 0, none⟩ ∧ w.cell? ⟨g, i, none⟩ = some (.int .u8 ((l[i]'hi).toNat : Int)) := by
  obtain ⟨hc, hr⟩ := h.out
  rcases hr with ⟨rfl, rfl, rfl⟩ | ⟨g, rfl, hr⟩
  · simp at hi
  · exact ⟨g, rfl, hr i hi⟩

/-- The three ways in which a text ends that newline ends. -/
theorem Ends.ways {l : List UInt8} (h : Ends l) (n : Nat) (hn : n = l.length) : (n = 1) ∨ (∃ (i x : Nat), n = i + 2 ∧ x ≠ 10 ∧ ∀ {p c w}, Hid (Rd w p c l) → ∃ g, p = some ⟨g, 0, none⟩ ∧ w.cell? ⟨g, i + 1, none⟩ = some (.int .u8 (x : Int))) ∨
    (∃ (i x : Nat), n = i + 2 ∧ x ≠ 10 ∧ ∀ {p c w}, Hid (Rd w p c l) → ∃ g, p = some ⟨g, 0, none⟩ ∧ w.cell? ⟨g, i + 1, none⟩ = some (.int .u8 10) ∧ w.cell? ⟨g, i, none⟩ = some (.int .u8 (x : Int))) := by
  subst hn
  rcases h with ⟨p, c, rfl, h1, h2, h3⟩ | ⟨p, c, rfl, h1⟩
  · cases hp : p.length with
    | zero => exact Or.inl (by simp [hp])
    | succ j =>
      refine Or.inr (Or.inl ⟨j, c.toNat, by simp [hp], fun e => h3 (UInt8.toNat_inj.mp (by rw [e]; rfl)), fun {q d w} hr => ?_⟩)
      obtain ⟨g, e, hc⟩ := rd_at hr (j + 1) (by simp [hp])
      refine ⟨g, e, ?_⟩
      rw [hc]
      have : (p ++ [c])[j + 1]'(by simp [hp]) = c := by
        rw [List.getElem_append_right (by omega)]
        simp [hp]
      rw [this]
  · refine Or.inr (Or.inr ⟨p.length, c.toNat, by simp, fun e => h1 (UInt8.toNat_inj.mp (by rw [e]; rfl)), fun {q d w} hr => ?_⟩)
    obtain ⟨g, e, hc⟩ := rd_at hr (p.length + 1) (by simp)
    obtain ⟨g', e', hc'⟩ := rd_at hr p.length (by simp)
    rw [e] at e'
    obtain rfl : g = g' := by simpa using e'
    refine ⟨g, e, ?_, ?_⟩
    · rw [hc]
      have : (p ++ [c, 10])[p.length + 1]'(by simp) = 10 := by simp
      rw [this]
      rfl
    · rw [hc']
      have : (p ++ [c, 10])[p.length]'(by simp) = c := by simp
      rw [this]

set_option maxRecDepth 100000 in
set_option maxHeartbeats 8000000 in
theorem newline_none {B b : Nat} {l : List UInt8} {m : Nat} {w : World} (h : Hid (PS B b l none m w)) (he : Hid (Ends l)) (hl : Hid (l.length + m ≤ 140737488355000)) :
    Calls Tryd.prog 33 #[.pointer (some ⟨b, 0, none⟩)] w fun e w' => e = .returned (.tuple #[]) ∧ Hid (PS B b (l ++ 10 :: List.replicate m 9) none m w') ∧ Hid (Ok B b w w') := by
  obtain ⟨cv, hp, hq⟩ := h.out
  have HP := Lib.hid hp
  have HQ := Lib.hid hq
  obtain ⟨pc, cc, hcv⟩ : ∃ pc cc, cv = .slice pc 0 cc := by
    rcases hq.2 with ⟨h1, -⟩ | ⟨g, cap, cur, h1, -⟩
    · exact ⟨none, 0, h1⟩
    · exact ⟨some ⟨g, 0, none⟩, cap, h1⟩
  obtain ⟨n, hn⟩ : ∃ n, n = l.length := ⟨_, rfl⟩
  have HN := Lib.hid hn
  obtain ⟨p0, c0, lr, h0, h1, h2, h3, h4, hf, hR, hc⟩ := hp.parts
  have hnc : n ≤ 9223372036854775807 := by have := hR.1; omega
  have H3 := h3
  rw [hcv] at H3
  have hm64 : m ≤ 140737488355000 := by have := hl.out; omega
  have HL : Hid (l.length ≤ l.length) := Lib.hid (Nat.le_refl _)
  have HW : Hid (∀ i, l.length ≤ i → (h : i < l.length) → l[i] = 9 ∨ l[i] = 32) := Lib.hid (fun i h1 h2 => by omega)
  have HS : Hid (∀ j, j + 1 = l.length → (h : j < l.length) → l[j] ≠ 9 ∧ l[j] ≠ 32) := Lib.hid (fun j h1 h2 => he.out.last j h1 h2)
  have HTK : Hid (l.take l.length = l) := Lib.hid List.take_length
  have HLIM : Hid (l.length + (⟨#[10]⟩ : ByteArray).size ≤ 140737488355328) := Lib.hid (by
    have h1 : (⟨#[10]⟩ : ByteArray).size = 1 := rfl
    have := hl.out
    omega)
  clear h0 h1 h2 h3 hf hR hc hn h hp hq
  go_enter Tryd.func33, Tryd.ntmps33
  rcases he.out.ways n HN.out with rfl | ⟨i, x, rfl, hx, hread⟩ | ⟨i, x, rfl, hx, hread⟩
  · go_wp2_with (first | (go_at_call 41; (with_reducible refine (trim_is HP l.length HL HW HS).mono ?_); rintro e w1 ⟨rfl, hp1, hk1⟩; rw [HTK.out] at hp1) | (go_at_call 24; (with_reducible refine (bytes_is hp1 _ HN).mono ?_); rintro e w2 ⟨p, c, rfl, HR, hd⟩; have hp2 := drawnPB hp1 hd; have hk2 := drawnOk hk1 hd; have HR2 := drawnRd HR hd; clear HR hd; skip) | (go_at_call 31; (with_reducible refine (write_is hp2 ⟨#[10]⟩ HLIM).mono ?_); rintro e w3 ⟨rfl, hp3, hk3⟩; have hk4 := thenOk hk2 hk3))
    clear hp1 hk1 hp2 hk2 HR2 hk3
    go_loopg [6] m (fun kq v6 w' => ∃ k : Nat, v6 = .int .i64 (k : Int) ∧ k ≤ m ∧ m ≤ kq + k ∧ Hid (PB B b (l ++ 10 :: List.replicate k 9) cv m w') ∧ Hid (Ok B b w w'))
    case atStart => exact ⟨0, rfl, by omega, by omega, hp3, hk4⟩
    case round =>
      clear hp3 hk4
      obtain ⟨k, rfl, hk, hq, hp5, hk5⟩ := hrel
      obtain ⟨p5, c5, lr5, g0, g1, g2, g3, g4, gf, gR, gc⟩ := hp5.out.parts
      clear g0 g1 g2 g3 gf gR gc
      by_cases hlt : k < m
      · have b1 : decide ((k : Int) < (m : Int)) = true := decide_eq_true (by omega)
        have HL2 : Hid ((l ++ 10 :: List.replicate k 9).length + (⟨#[9]⟩ : ByteArray).size ≤ 140737488355328) := Lib.hid (by
          have h1 : (⟨#[9]⟩ : ByteArray).size = 1 := rfl
          have := hl.out
          rw [h1, List.length_append, List.length_cons, List.length_replicate]
          omega)
        go_wp2_with (first | (go_at_call 31; (with_reducible refine (write_is hp5 ⟨#[9]⟩ HL2).mono ?_); rintro e w6 ⟨rfl, hp6, hk6⟩))
        go_roundg (gk - 1)
        case measure => omega
        case rel => exact ⟨k + 1, by go_num, by omega, by omega, (by rw [List.replicate_succ', List.append_assoc] at *; simpa using hp6), thenOk hk5 hk6⟩
      · have b1 : decide ((k : Int) < (m : Int)) = false := decide_eq_false (by omega)
        obtain rfl : k = m := by omega
        go_wp2
        go_end0
        exact ⟨rfl, Lib.hid ⟨cv, hp5.out, HQ.out.ok HP.out hk5.out⟩, hk5⟩
  · have hx1 : (((x : Nat) : Int) == 10) = false := by rw [beq_eq_false_iff_ne]; omega
    go_wp2_with (first | (go_at_call 41; (with_reducible refine (trim_is HP l.length HL HW HS).mono ?_); rintro e w1 ⟨rfl, hp1, hk1⟩; rw [HTK.out] at hp1) | (go_at_call 24; (with_reducible refine (bytes_is hp1 _ HN).mono ?_); rintro e w2 ⟨p, c, rfl, HR, hd⟩; have hp2 := drawnPB hp1 hd; have hk2 := drawnOk hk1 hd; have HR2 := drawnRd HR hd; clear HR hd; obtain ⟨g, rfl, hcx⟩ := hread HR2) | (go_at_call 31; (with_reducible refine (write_is hp2 ⟨#[10]⟩ HLIM).mono ?_); rintro e w3 ⟨rfl, hp3, hk3⟩; have hk4 := thenOk hk2 hk3))
    clear hp1 hk1 hp2 hk2 HR2 hk3
    go_loopg [6] m (fun kq v6 w' => ∃ k : Nat, v6 = .int .i64 (k : Int) ∧ k ≤ m ∧ m ≤ kq + k ∧ Hid (PB B b (l ++ 10 :: List.replicate k 9) cv m w') ∧ Hid (Ok B b w w'))
    case atStart => exact ⟨0, rfl, by omega, by omega, hp3, hk4⟩
    case round =>
      clear hp3 hk4
      obtain ⟨k, rfl, hk, hq, hp5, hk5⟩ := hrel
      obtain ⟨p5, c5, lr5, g0, g1, g2, g3, g4, gf, gR, gc⟩ := hp5.out.parts
      clear g0 g1 g2 g3 gf gR gc
      by_cases hlt : k < m
      · have b1 : decide ((k : Int) < (m : Int)) = true := decide_eq_true (by omega)
        have HL2 : Hid ((l ++ 10 :: List.replicate k 9).length + (⟨#[9]⟩ : ByteArray).size ≤ 140737488355328) := Lib.hid (by
          have h1 : (⟨#[9]⟩ : ByteArray).size = 1 := rfl
          have := hl.out
          rw [h1, List.length_append, List.length_cons, List.length_replicate]
          omega)
        go_wp2_with (first | (go_at_call 31; (with_reducible refine (write_is hp5 ⟨#[9]⟩ HL2).mono ?_); rintro e w6 ⟨rfl, hp6, hk6⟩))
        go_roundg (gk - 1)
        case measure => omega
        case rel => exact ⟨k + 1, by go_num, by omega, by omega, (by rw [List.replicate_succ', List.append_assoc] at *; simpa using hp6), thenOk hk5 hk6⟩
      · have b1 : decide ((k : Int) < (m : Int)) = false := decide_eq_false (by omega)
        obtain rfl : k = m := by omega
        go_wp2
        go_end0
        exact ⟨rfl, Lib.hid ⟨cv, hp5.out, HQ.out.ok HP.out hk5.out⟩, hk5⟩
  · have hx1 : (((x : Nat) : Int) == 10) = false := by rw [beq_eq_false_iff_ne]; omega
    go_wp2_with (first | (go_at_call 41; (with_reducible refine (trim_is HP l.length HL HW HS).mono ?_); rintro e w1 ⟨rfl, hp1, hk1⟩; rw [HTK.out] at hp1) | (go_at_call 24; (with_reducible refine (bytes_is hp1 _ HN).mono ?_); rintro e w2 ⟨p, c, rfl, HR, hd⟩; have hp2 := drawnPB hp1 hd; have hk2 := drawnOk hk1 hd; have HR2 := drawnRd HR hd; clear HR hd; obtain ⟨g, rfl, hcx, hcy⟩ := hread HR2) | (go_at_call 31; (with_reducible refine (write_is hp2 ⟨#[10]⟩ HLIM).mono ?_); rintro e w3 ⟨rfl, hp3, hk3⟩; have hk4 := thenOk hk2 hk3))
    clear hp1 hk1 hp2 hk2 HR2 hk3
    go_loopg [6] m (fun kq v6 w' => ∃ k : Nat, v6 = .int .i64 (k : Int) ∧ k ≤ m ∧ m ≤ kq + k ∧ Hid (PB B b (l ++ 10 :: List.replicate k 9) cv m w') ∧ Hid (Ok B b w w'))
    case atStart => exact ⟨0, rfl, by omega, by omega, hp3, hk4⟩
    case round =>
      clear hp3 hk4
      obtain ⟨k, rfl, hk, hq, hp5, hk5⟩ := hrel
      obtain ⟨p5, c5, lr5, g0, g1, g2, g3, g4, gf, gR, gc⟩ := hp5.out.parts
      clear g0 g1 g2 g3 gf gR gc
      by_cases hlt : k < m
      · have b1 : decide ((k : Int) < (m : Int)) = true := decide_eq_true (by omega)
        have HL2 : Hid ((l ++ 10 :: List.replicate k 9).length + (⟨#[9]⟩ : ByteArray).size ≤ 140737488355328) := Lib.hid (by
          have h1 : (⟨#[9]⟩ : ByteArray).size = 1 := rfl
          have := hl.out
          rw [h1, List.length_append, List.length_cons, List.length_replicate]
          omega)
        go_wp2_with (first | (go_at_call 31; (with_reducible refine (write_is hp5 ⟨#[9]⟩ HL2).mono ?_); rintro e w6 ⟨rfl, hp6, hk6⟩))
        go_roundg (gk - 1)
        case measure => omega
        case rel => exact ⟨k + 1, by go_num, by omega, by omega, (by rw [List.replicate_succ', List.append_assoc] at *; simpa using hp6), thenOk hk5 hk6⟩
      · have b1 : decide ((k : Int) < (m : Int)) = false := decide_eq_false (by omega)
        obtain rfl : k = m := by omega
        go_wp2
        go_end0
        exact ⟨rfl, Lib.hid ⟨cv, hp5.out, HQ.out.ok HP.out hk5.out⟩, hk5⟩
end Go.Proofs.YtbifcpokkfiagaaDoor.F
