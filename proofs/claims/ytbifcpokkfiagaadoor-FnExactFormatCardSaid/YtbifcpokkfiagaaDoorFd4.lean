/- The printer's expr at a block. Conditions: the tree lies in memory below the printer's block. -/
import Derived.Test.YtbifcpokkfiagaaDoorFk
namespace Go.Proofs.YtbifcpokkfiagaaDoor.F
open Go.RowKit Go.Proofs.YtbifcpokkfiagaaDoorW.PrintWords Go.Proofs.YtbifcpokkfiagaaDoor.PFm
set_option linter.unusedVariables false

/-- The printer's text, with the comment that waits. -/
def PT (B b : Nat) (T : List UInt8) (m : Nat) (w : World) : Prop := ∃ l o, PS B b l o m w ∧ l ++ sfx o = T ∧ ∀ s, o = some s → Com s.data.toList

theorem PT.mk {B b : Nat} {l T : List UInt8} {o : Option ByteArray} {m : Nat} {w : World} (h : PS B b l o m w) (e : l ++ sfx o = T) (hs : ∀ s, o = some s → Com s.data.toList) : PT B b T m w := ⟨l, o, h, e, hs⟩

theorem newline_pt {W : World} {b : Nat} {T : List UInt8} {m : Nat} {w : World} (HB : Hid (Below W.heap.size W w)) (h : Hid (PT W.heap.size b T m w)) (ht : Hid (Tab W)) (he : Hid (Ends T)) (hl : Hid (T.length + m ≤ 140737488355000)) :
    Calls Tryd.prog 33 #[.pointer (some ⟨b, 0, none⟩)] w fun e w' => e = .returned (.tuple #[]) ∧ Hid (PS W.heap.size b (T ++ 10 :: List.replicate m 9) none m w') ∧ Hid (Ok W.heap.size b w w') := by
  obtain ⟨l, o, hp, rfl, hs⟩ := h.out
  exact newline_is HB (Lib.hid hp) ht (Lib.hid hs) he hl

structure LnOk (d : LnD) : Prop where
  bs : ∀ t ∈ d.bs, Com t.data.toList
  suf : ∀ s, sufO d.suf = some s → Com s.data.toList
  ne : d.toks ≠ []
  toks : ∀ t ∈ d.toks, Word t.data.toList
  lb : d.bs.length ≤ 10
  lt : d.toks.length ≤ 10

/-- What a line is written as, at margin m. -/
def lnB (m : Nat) (d : LnD) : List UInt8 := befB m d.bs ++ joinW d.toks ++ sfx (sufO d.suf)
/-- A line in a block. -/
def lnF (d : LnD) : List UInt8 := 10 :: 9 :: lnB 1 d

theorem sfx_len {o : Option ByteArray} (h : ∀ s, o = some s → Com s.data.toList) : (sfx o).length ≤ 2001 := by
  cases o with
  | none => simp [sfx]
  | some s =>
    have := (h s rfl).len
    simp only [sfx, List.length_cons]
    omega

theorem lnB_len {d : LnD} (h : LnOk d) (m : Nat) (hm : m ≤ 1) : (lnB m d).length ≤ 30000 := by
  have h1 := befB_len m d.bs h.bs
  have h2 := joinW_len d.toks h.toks
  have h3 := sfx_len h.suf
  have h4 := h.lb
  have h5 := h.lt
  have h6 : (2001 + m) * d.bs.length ≤ 2002 * 10 := Nat.mul_le_mul (by omega) h4
  unfold lnB
  rw [List.length_append, List.length_append]
  omega

theorem lns_len (ls : List LnD) (h : ∀ d ∈ ls, LnOk d) : (ls.flatMap lnF).length ≤ 30002 * ls.length := by
  induction ls with
  | nil => simp
  | cons x xs ih =>
    have h1 := lnB_len (h x (by simp)) 1 (by omega)
    have h2 := ih (fun t ht => h t (by simp [ht]))
    rw [List.flatMap_cons, List.length_append, List.length_cons]
    unfold lnF
    rw [List.length_cons, List.length_cons]
    unfold lnF at h2
    omega

theorem lns_step (ls : List LnD) (k : Nat) (d : LnD) (h : ls[k]? = some d) : (ls.take (k + 1)).flatMap lnF = (ls.take k).flatMap lnF ++ lnF d := by
  rw [List.take_add_one, h, Option.toList_some, List.flatMap_append, List.flatMap_singleton]

theorem Word.last {l : List UInt8} (h : Word l) : ∃ p c, l = p ++ [c] ∧ c ≠ 9 ∧ c ≠ 32 ∧ c ≠ 10 := by
  obtain ⟨p, c, e⟩ : ∃ p c, l = p ++ [c] := by
    rcases List.eq_nil_or_concat l with e | ⟨p, c, e⟩
    · exact absurd e h.ne
    · exact ⟨p, c, by rw [e]; simp⟩
  have hc := h.ok c (by rw [e]; simp)
  refine ⟨p, c, e, ?_, ?_, ?_⟩ <;> (rintro rfl; revert hc; decide)

theorem Com.last {l : List UInt8} (h : Com l) : ∃ p c, l = p ++ [c] ∧ c ≠ 9 ∧ c ≠ 32 ∧ c ≠ 10 := by
  obtain ⟨p, c, e, hc⟩ := h.tl
  refine ⟨p, c, e, ?_, ?_, ?_⟩ <;> (rintro rfl; revert hc; decide)

theorem Ends.app (X : List UInt8) {l : List UInt8} (h : ∃ p c, l = p ++ [c] ∧ c ≠ 9 ∧ c ≠ 32 ∧ c ≠ 10) : Ends (X ++ l) := by
  obtain ⟨p, c, rfl, h1, h2, h3⟩ := h
  exact Or.inl ⟨X ++ p, c, by simp, h1, h2, h3⟩

theorem last_app (X : List UInt8) {l : List UInt8} (h : ∃ p c, l = p ++ [c] ∧ c ≠ 9 ∧ c ≠ 32 ∧ c ≠ 10) : ∃ p c, X ++ l = p ++ [c] ∧ c ≠ 9 ∧ c ≠ 32 ∧ c ≠ 10 := by
  obtain ⟨p, c, rfl, h1⟩ := h
  exact ⟨X ++ p, c, by simp, h1⟩

theorem joinW_last {xs : List ByteArray} (h : ∀ t ∈ xs, Word t.data.toList) (hne : xs ≠ []) : ∃ p c, joinW xs = p ++ [c] ∧ c ≠ 9 ∧ c ≠ 32 ∧ c ≠ 10 := by
  obtain ⟨ys, t, e⟩ : ∃ ys t, xs = ys ++ [t] := by
    rcases List.eq_nil_or_concat xs with e | ⟨p, c, e⟩
    · exact absurd e hne
    · exact ⟨p, c, by rw [e]; simp⟩
  have ht : xs[ys.length]? = some t := by rw [e]; simp
  have e2 : xs.take (ys.length + 1) = xs := by rw [e, List.take_of_length_le (by simp)]
  have h2 := joinW_step xs ys.length t ht
  rw [e2] at h2
  rw [h2, ← List.append_assoc]
  exact last_app _ (h t (by rw [e]; simp)).last

theorem sfx_last (X : List UInt8) (hX : ∃ p c, X = p ++ [c] ∧ c ≠ 9 ∧ c ≠ 32 ∧ c ≠ 10) {o : Option ByteArray} (h : ∀ s, o = some s → Com s.data.toList) : ∃ p c, X ++ sfx o = p ++ [c] ∧ c ≠ 9 ∧ c ≠ 32 ∧ c ≠ 10 := by
  cases o with
  | none =>
    rw [show X ++ sfx none = X from List.append_nil X]
    exact hX
  | some s =>
    have : X ++ sfx (some s) = X ++ [32] ++ s.data.toList := by simp [sfx]
    rw [this]
    exact last_app _ (h s rfl).last

theorem lnB_last {d : LnD} (h : LnOk d) (m : Nat) : ∃ p c, lnB m d = p ++ [c] ∧ c ≠ 9 ∧ c ≠ 32 ∧ c ≠ 10 := by
  unfold lnB
  exact sfx_last _ (last_app _ (joinW_last h.toks h.ne)) h.suf

theorem lns_last (T0 : List UInt8) (h0 : ∃ p c, T0 = p ++ [c] ∧ c ≠ 9 ∧ c ≠ 32 ∧ c ≠ 10) (ls : List LnD) (h : ∀ d ∈ ls, LnOk d) : ∃ p c, T0 ++ ls.flatMap lnF = p ++ [c] ∧ c ≠ 9 ∧ c ≠ 32 ∧ c ≠ 10 := by
  rcases List.eq_nil_or_concat ls with e | ⟨ys, t, e⟩
  · subst e
    simpa using h0
  · have e2 : ls = ys ++ [t] := by rw [e]; simp
    subst e2
    rw [List.flatMap_append, List.flatMap_singleton, ← List.append_assoc]
    refine last_app _ ?_
    unfold lnF
    have := lnB_last (h t (by simp)) 1
    obtain ⟨p, c, e3, h3⟩ := this
    exact ⟨10 :: 9 :: p, c, by rw [e3]; rfl, h3⟩

theorem PB.fr {B b : Nat} {l : List UInt8} {cv : Value} {m : Nat} {w : World} (h : PB B b l cv m w) (i : Nat) : w.frozen? ⟨b, i, none⟩ = false := by
  obtain ⟨_, _, _, _, _, _, _, _, hf, _⟩ := h.parts
  exact hf i

theorem PB.mar {B b : Nat} {l : List UInt8} {cv : Value} {m : Nat} {w : World} (h : PB B b l cv m w) : w.cell? ⟨b, 4, none⟩ = some (.int .i64 (m : Int)) := by
  obtain ⟨_, _, _, _, _, _, _, h4, _⟩ := h.parts
  exact h4

theorem PS.margin {B b : Nat} {l : List UInt8} {o : Option ByteArray} {m : Nat} {w : World} (h : PS B b l o m w) (m' : Nat) : PS B b l o m' (w.setCell ⟨b, 4, none⟩ (.int .i64 (m' : Int))) := by
  obtain ⟨cv, hp, hq⟩ := h
  exact ⟨cv, hp.setMargin m', hq.ok hp ((Ok.refl B b w).set hp.hB 4 _)⟩

theorem PT.margin {B b : Nat} {T : List UInt8} {m : Nat} {w : World} (h : PT B b T m w) (m' : Nat) : PT B b T m' (w.setCell ⟨b, 4, none⟩ (.int .i64 (m' : Int))) := by
  obtain ⟨l, o, hp, e, hs⟩ := h
  exact ⟨l, o, hp.margin m', e, hs⟩

theorem PT.cells {B b : Nat} {T : List UInt8} {m : Nat} {w : World} (h : PT B b T m w) : B ≤ b ∧ w.cell? ⟨b, 4, none⟩ = some (.int .i64 (m : Int)) ∧ w.frozen? ⟨b, 4, none⟩ = false := by
  obtain ⟨l, o, ⟨cv, hp, hq⟩, e, hs⟩ := h
  exact ⟨hp.hB, hp.mar, hp.fr 4⟩

theorem Start.nl (T : List UInt8) (m : Nat) : Start m (T ++ 10 :: List.replicate m 9) := ⟨T ++ [10], by simp, Or.inr ⟨T, rfl⟩⟩

theorem addO_none (s : Option ByteArray) : addO s none = s := by cases s <;> rfl

theorem suf0 (W : World) (A : Option Addr) (c : Nat) : Suf W A 0 c none := rfl

/-- A line in memory, written. -/
theorem line_at {W : World} {b : Nat} {l : List UInt8} {m : Nat} {w : World} (g : Nat) (d : LnD) (HL : Hid (LineK W g d)) (hd : Hid (LnOk d)) (HB : Hid (Below W.heap.size W w)) (h : Hid (PS W.heap.size b l none m w)) (hst : Hid (Start m l)) (hT : Hid (Tab W))
    (hm : m ≤ 100) (hl : Hid (l.length + 50000 ≤ 140737488350000)) :
    Calls Tryd.prog 34 #[.pointer (some ⟨b, 0, none⟩), .iface 74 (.pointer (some ⟨g, 0, none⟩))] w fun e w' => e = .returned (.tuple #[]) ∧ Hid (PS W.heap.size b (l ++ befB m d.bs ++ joinW d.toks) (sufO d.suf) m w') ∧ Hid (Below W.heap.size w w') := by
  obtain ⟨A0, c0, As, cs, A2, c2, At, ct, h0, h0', h1, h1', h2, h6, h6'⟩ := HL.out
  have h4 := hd.out.lb
  have h5 := hd.out.lt
  refine (line_is g HB h hst hT d.bs.length (Lib.hid rfl) h0 (Lib.hid h0') (Lib.hid hd.out.bs) h1 (Lib.hid (suf_of cs h1')) d.toks.length (Lib.hid rfl) h6 (Lib.hid h6') (Lib.hid hd.out.toks) hm (Lib.hid (by have := hl.out; omega))).mono ?_
  rintro e w' ⟨rfl, hp, hb⟩
  rw [addO_none] at hp
  exact ⟨rfl, hp, hb⟩

theorem ln_at {W : World} {A : Option Addr} {n : Nat} {ls : List LnD} (h : kLn.C W A n ls) (i : Nat) (hi : i < n) (d : LnD) (hd : ls[i]? = some d) : ∃ ad g, A = some ad ∧ W.cell? (ad.add i) = some (ptrV g) ∧ LineK W g d := by
  obtain ⟨ad, c, e, hc, hK, hcell⟩ := Kd.C_get h d (i : Int) (by omega) (by omega)
  rw [Int.toNat_natCast, List.getD_eq_getElem?_getD, hd] at hK
  obtain ⟨g, rfl, hg⟩ := hK
  refine ⟨ad, g, e, ?_, hg⟩
  have h2 := hcell 0 _ rfl
  rw [Int.toNat_natCast] at h2
  have h3 : i * kLn.sz + 0 = i := by show i * 1 + 0 = i; omega
  rw [h3] at h2
  exact h2


/-- What a block is written as, without what waits at its end. -/
def bkT (bs toks : List ByteArray) (ls : List LnD) : List UInt8 := befB 0 bs ++ joinW toks ++ [32, 40] ++ ls.flatMap lnF ++ [10, 41]

set_option maxRecDepth 100000 in
set_option maxHeartbeats 8000000 in
theorem block_is {W : World} {b : Nat} {l : List UInt8} {A0 As At Al Ab Ar : Option Addr} {c0 ks cs ct cl cb kr cr m : Nat} {bs toks : List ByteArray} {ls : List LnD} {suf : ByteArray} {w : World} (g : Nat) (HB : Hid (Below W.heap.size W w)) (h : Hid (PS W.heap.size b l none m w)) (hst : Hid (Start m l)) (hT : Hid (Tab W))
    (n0 : Nat) (hn0 : Hid (n0 = bs.length)) (hg0 : W.cell? ⟨g, 0, none⟩ = some (.slice A0 n0 c0)) (HB0 : Hid (k79.C W A0 n0 (bs.map cBef))) (hbs : Hid (∀ t ∈ bs, Com t.data.toList))
    (hg1 : W.cell? ⟨g, 1, none⟩ = some (.slice As ks cs)) (hks : Hid (ks = 0)) (hg6 : W.cell? ⟨g, 6, none⟩ = some (.slice none 0 0)) (hg7 : W.cell? ⟨g, 7, none⟩ = some (.slice none 0 0))
    (nt : Nat) (hnt : Hid (nt = toks.length)) (hg12 : W.cell? ⟨g, 12, none⟩ = some (.slice At nt ct)) (HTK : Hid (Kd.string.C W At nt toks)) (hws : Hid (∀ t ∈ toks, Word t.data.toList))
    (nl : Nat) (hnl : Hid (nl = ls.length)) (hg13 : W.cell? ⟨g, 13, none⟩ = some (.slice Al nl cl)) (HLS : Hid (kLn.C W Al nl ls)) (hls : Hid (∀ d ∈ ls, LnOk d))
    (hg14 : W.cell? ⟨g, 14, none⟩ = some (.slice Ab 0 cb)) (hg15 : W.cell? ⟨g, 15, none⟩ = some (.slice Ar kr cr)) (HSR : Hid (Suf W Ar kr cr (sufO suf)))
    (hm : m ≤ 100) (hm0 : Hid (m = 0)) (hl : Hid (l.length + 4000 * n0 + 51 * nt + 30002 * nl ≤ 140737488300000)) :
    Calls Tryd.prog 34 #[.pointer (some ⟨b, 0, none⟩), .iface 67 (.pointer (some ⟨g, 0, none⟩))] w fun e w' => e = .returned (.tuple #[]) ∧ Hid (PS W.heap.size b (l ++ bkT bs toks ls) (sufO suf) 0 w') ∧ Hid (Below W.heap.size w w') := by
  have hw0 : w.cell? ⟨g, 0, none⟩ = some (.slice A0 n0 c0) := cell_up HB.out hg0
  have hm67 := com67 g 0
  have hn64 : n0 ≤ 140737488350000 := by have := hl.out; omega
  have hnl64 : nl ≤ 140737488350000 := by have := hl.out; omega
  have HS : Hid (Suf W As ks cs none) := Lib.hid hks.out
  rcases Nat.eq_zero_or_pos n0 with z0 | z0
  · subst z0
    have hm0' := hm0.out
    subst hm0'
    have hbe : bs = [] := List.eq_nil_of_length_eq_zero hn0.out.symm
    subst hbe
    have HPS9 : Hid (PS W.heap.size b (l ++ befB 0 []) none 0 w) := Lib.hid (by have := h.out; rwa [show l ++ befB 0 [] = l from List.append_nil l])
    have hbw : Hid (Below W.heap.size w w) := Lib.hid (Below.refl _ _)
    have HLT : Hid ((l ++ befB 0 []).length + 51 * nt ≤ 140737488355328) := Lib.hid (by
      have h1 := hl.out
      rw [show l ++ befB 0 [] = l from List.append_nil l]
      omega)
    have hlt9 : Hid ((l ++ befB 0 []).length + 51 * nt + 30002 * nl ≤ 140737488300000) := Lib.hid (by
      have h1 := hl.out
      rw [show l ++ befB 0 [] = l from List.append_nil l]
      omega)
    clear h
    obtain ⟨cv3, hp3, hq3⟩ := HPS9.out
    have HP9 := Lib.hid hp3
    have HQ9 := Lib.hid hq3
    have HRT : Hid (Kd.string.C W At toks.length toks) := Lib.hid (by rw [← hnt.out]; exact HTK.out)
    have HBn := Lib.hid (HB.out.trans hbw.out)
    have hg12' := cell_up HBn.out hg12
    have hgW : g < W.heap.size := World.block_lt_of_cell? W _ hg12
    have hgb : g ≠ b := by have := hp3.hB; omega
    have hbg : b ≠ g := fun e => hgb e.symm
    clear hgW
    have hjl : (joinW toks).length ≤ 51 * nt := by rw [hnt.out]; exact joinW_len toks hws.out
    have HLW : Hid ((l ++ befB 0 [] ++ joinW toks).length + (⟨#[32]⟩ : ByteArray).size ≤ 140737488355328) := Lib.hid (by
      have h1 : (⟨#[32]⟩ : ByteArray).size = 1 := rfl
      have := HLT.out
      have := hlt9.out
      rw [h1, List.length_append]
      omega)
    have HLP : Hid ((l ++ befB 0 [] ++ joinW toks ++ [32]).length + 1 ≤ 140737488355000) := Lib.hid (by
      have := hlt9.out
      rw [List.length_append, List.length_append]
      simp only [List.length_cons, List.length_nil]
      omega)
    clear hp3 hq3 HPS9 hjl
    have ht61 := ta67_61
    have ht101 := ta67_101
    have ht102 := ta67_102
    have ht74 := ta67_74
    have ht67 := ta67_67
    go_enter Tryd.func34, Tryd.ntmps34
    go_wp2_with (first | (go_at_call 75; (with_reducible refine (comment_is _ _ _).mono ?_); rintro e w' ⟨rfl, rfl⟩) | (go_at_call 43; (with_reducible refine (tokens_is HRT nt hnt HBn HP9 hws HLT).mono ?_); rintro e w1 ⟨rfl, hp1, hk1⟩) | (go_at_call 31; (with_reducible refine (write_is hp1 ⟨#[32]⟩ HLW).mono ?_); rintro e w2 ⟨rfl, hp2, hk2'⟩; have hk2 := thenOk hk1 hk2'; clear hk2'; have hs2 : Hid (PS W.heap.size b (l ++ befB 0 [] ++ joinW toks ++ [32]) none 0 w2) := Lib.hid ⟨cv3, hp2.out, HQ9.out.ok HP9.out hk2.out⟩; have hb2 : Hid (Below W.heap.size W w2) := Lib.hid (HBn.out.trans hk2.out.1)) | (go_at_call 34; (with_reducible refine (lparen_is (o := none) (suf := none) g hb2 hs2 hg6 hg7 (Lib.hid (suf0 _ _ _)) (Lib.hid (Or.inl rfl)) HLP).mono ?_); rintro e w3 ⟨rfl, hs3, hb3'⟩; have hbB : Hid (W.heap.size ≤ b) := Lib.hid HP9.out.hB; have hb3 : Hid (Below W.heap.size _ w3) := Lib.hid (hk2.out.1.trans hb3'.out); have hw13 := cell_up (hb2.out.trans hb3'.out) hg13; clear hb3'; have hm3 : w3.cell? ⟨b, 4, none⟩ = some (.int .i64 0) := (by obtain ⟨cvx, hpx, _⟩ := hs3.out; exact hpx.mar); have hf3 : w3.frozen? ⟨b, 4, none⟩ = false := (by obtain ⟨cvx, hpx, _⟩ := hs3.out; exact hpx.fr 4)))
    clear hp1 hk1 hp2 hk2 hs2 hb2 HP9 HQ9 HBn hg12' HLW HLP ht61 ht101 ht102 ht74 ht67
    obtain ⟨T0, hT0⟩ : ∃ T0, T0 = l ++ befB 0 [] ++ joinW toks ++ [32] ++ [40] := ⟨_, rfl⟩
    rw [← hT0] at hs3
    have HT0 := Lib.hid hT0
    have HL0 : Hid (∃ p c, T0 = p ++ [c] ∧ c ≠ 9 ∧ c ≠ 32 ∧ c ≠ 10) := Lib.hid ⟨_, 40, hT0, by decide, by decide, by decide⟩
    have HN0 : Hid (T0.length + 30002 * nl + 100 ≤ 140737488310000) := Lib.hid (by
      have := hlt9.out
      have hjl : (joinW toks).length ≤ 51 * nt := by rw [hnt.out]; exact joinW_len toks hws.out
      rw [hT0, List.length_append, List.length_append, List.length_append]
      simp only [List.length_cons, List.length_nil]
      omega)
    clear hT0 hlt9 HLT
    have HPT : Hid (PT W.heap.size b T0 1 (w3.setCell ⟨b, 4, none⟩ (.int .i64 1))) := Lib.hid (PT.mk (hs3.out.margin 1) (List.append_nil T0) (fun s h => by simp [addO] at h))
    have HBW : Hid (Below W.heap.size w (w3.setCell ⟨b, 4, none⟩ (.int .i64 1))) := Lib.hid (hbw.out.trans ((hb3.out).setCell (p := ⟨b, 4, none⟩) hbB.out _))
    clear hs3 hb3 hbw hm3 hf3 hw13
    generalize w3.setCell ⟨b, 4, none⟩ (.int .i64 1) = w4 at *
    go_loopg [120] nl (fun kq v120 w' => ∃ i : Nat, v120 = .int .i64 (i : Int) ∧ i ≤ nl ∧ nl ≤ kq + i ∧ Hid (PT W.heap.size b (T0 ++ (ls.take i).flatMap lnF) 1 w') ∧ Hid (Below W.heap.size w w'))
    case atStart => exact ⟨0, rfl, by omega, by omega, by simpa using HPT, HBW⟩
    case round =>
      clear HPT HBW
      obtain ⟨i, rfl, hi, hq, hpt, hbw⟩ := hrel
      have HBr := Lib.hid (HB.out.trans hbw.out)
      have hll : ((ls.take i).flatMap lnF).length ≤ 30002 * i := by
        have := lns_len (ls.take i) (fun d hd => hls.out d (List.mem_of_mem_take hd))
        rw [List.length_take, Nat.min_eq_left (by have := hnl.out; omega)] at this
        exact this
      have HE : Hid (Ends (T0 ++ (ls.take i).flatMap lnF)) := Lib.hid (by
        have := lns_last T0 HL0.out (ls.take i) (fun d hd => hls.out d (List.mem_of_mem_take hd))
        exact Ends.app [] this)
      have HLN : Hid ((T0 ++ (ls.take i).flatMap lnF).length + 1 ≤ 140737488355000) := Lib.hid (by
        have := HN0.out
        rw [List.length_append]
        omega)
      by_cases hlt : i < nl
      · have b1 : decide ((i : Int) < (nl : Int)) = true := decide_eq_true (by omega)
        have hil : i < ls.length := by have := hnl.out; omega
        obtain ⟨d, hd⟩ : ∃ d, ls[i]? = some d := ⟨_, List.getElem?_eq_getElem hil⟩
        obtain ⟨ad, g2, rfl, hcell, hLK⟩ := ln_at HLS.out i hlt d hd
        have hcell' := cell_upA HBr.out hcell
        have HLK := Lib.hid hLK
        have HD := Lib.hid (hls.out d (List.mem_of_getElem? hd))
        have HL5 : Hid ((T0 ++ (ls.take i).flatMap lnF ++ 10 :: List.replicate 1 9).length + 50000 ≤ 140737488350000) := Lib.hid (by
          have := HN0.out
          rw [List.length_append, List.length_append, List.length_cons, List.length_replicate]
          omega)
        have HEQ : Hid (T0 ++ (ls.take i).flatMap lnF ++ 10 :: List.replicate 1 9 ++ befB 1 d.bs ++ joinW d.toks ++ sfx (sufO d.suf) = T0 ++ (ls.take (i + 1)).flatMap lnF) := Lib.hid (by
          rw [lns_step ls i d hd]
          simp [lnF, lnB])
        clear hcell hLK hll
        go_wp2_with (first | (go_at_call 33; (with_reducible refine (newline_pt HBr hpt hT HE HLN).mono ?_); rintro e w5 ⟨rfl, hp5, hk5⟩; have hb5 := Lib.hid (HBr.out.trans hk5.out.1)) | (go_at_call 34; (with_reducible refine (line_at g2 d HLK HD hb5 hp5 (Lib.hid (Start.nl _ _)) hT (by omega) HL5).mono ?_); rintro e w6 ⟨rfl, hp6, hb6⟩))
        go_roundg (gk - 1)
        case measure => omega
        case rel => exact ⟨i + 1, by go_num, by omega, by omega, Lib.hid (PT.mk hp6.out HEQ.out HD.out.suf), Lib.hid (hbw.out.trans (hk5.out.1.trans hb6.out))⟩
      · have b1 : decide ((i : Int) < (nl : Int)) = false := decide_eq_false (by omega)
        obtain rfl : i = nl := by omega
        obtain ⟨hbB2, hm4, hf4⟩ := hpt.out.cells
        have hm4' : wr.cell? ⟨b, 4, none⟩ = some (.int .i64 1) := hm4
        have hpt0 : Hid (PT W.heap.size b (T0 ++ (ls.take i).flatMap lnF) 0 (wr.setCell ⟨b, 4, none⟩ (.int .i64 0))) := Lib.hid (hpt.out.margin 0)
        have hbw0 : Hid (Below W.heap.size w (wr.setCell ⟨b, 4, none⟩ (.int .i64 0))) := Lib.hid (hbw.out.setCell (p := ⟨b, 4, none⟩) hbB2 _)
        have HBr0 := Lib.hid (HB.out.trans hbw0.out)
        have HLN0 : Hid ((T0 ++ (ls.take i).flatMap lnF).length + 0 ≤ 140737488355000) := Lib.hid (by have := HLN.out; omega)
        have HLR : Hid ((T0 ++ (ls.take i).flatMap lnF ++ 10 :: List.replicate 0 9).length + 1 ≤ 140737488355000) := Lib.hid (by
          have := HN0.out
          rw [List.length_append, List.length_append, List.length_cons, List.length_replicate]
          omega)
        clear hm4 hll hpt hbw HBr HLN
        go_wp2_with (first | (go_at_call 33; (with_reducible refine (newline_pt HBr0 hpt0 hT HE HLN0).mono ?_); rintro e w5 ⟨rfl, hp5, hk5⟩; have hb5 := Lib.hid (HBr0.out.trans hk5.out.1)) | (go_at_call 34; (with_reducible refine (rparen_is g hb5 hp5 hg14 hg15 HSR (Lib.hid (Or.inr rfl)) HLR).mono ?_); rintro e w1 ⟨rfl, hp6, hb6⟩))
        obtain ⟨T9, hT9⟩ : ∃ T9, T9 = T0 ++ (ls.take i).flatMap lnF ++ 10 :: List.replicate 0 9 ++ [41] := ⟨_, rfl⟩
        obtain ⟨o9, ho9⟩ : ∃ o9, o9 = addO (sufO suf) none := ⟨_, rfl⟩
        rw [← hT9, ← ho9] at hp6
        obtain ⟨cv9, hp7, hq7⟩ := hp6.out
        have hp1 := Lib.hid hp7
        have hq1 := Lib.hid hq7
        have hk1 : Hid (Below W.heap.size w w1) := Lib.hid (hbw0.out.trans (hk5.out.1.trans hb6.out))
        have hfin : ∀ wz, PS W.heap.size b T9 o9 0 wz → Hid (PS W.heap.size b (l ++ bkT [] toks ls) (sufO suf) 0 wz) := fun wz hz => Lib.hid (by
          rw [ho9, addO_none, hT9, HT0.out, hnl.out, List.take_length] at hz
          have : l ++ befB 0 [] ++ joinW toks ++ [32] ++ [40] ++ ls.flatMap lnF ++ 10 :: List.replicate 0 9 ++ [41] = l ++ bkT [] toks ls := by simp [bkT, befB]
          rwa [this] at hz)
        clear hT9 ho9 hp6 hp7 hq7 hp5 hk5 hb5 hb6 hbw0 HBr0 hpt0 HLN0 HLR HE hm4' hf4 hg12 hg13 hg14 hg15 hg6 hg7 hg0
        have hq1d : Pend W.heap.size cv9 o9 w1.drew := hq1.out
        have hp1d : PB W.heap.size b (T9) cv9 0 w1.drew := hp1.out.drewN 1
        have hb1 : Below W.heap.size w w1.drew := ⟨hk1.out.os, hk1.out.tape, hk1.out.output, hk1.out.size, hk1.out.block⟩
        obtain ⟨pcv, ncv, ccv, pc', nc', cc', w3, hcvE, hr, hp3, hq3, hb3⟩ := append_com hp1d hq1d (HS.out.up (HB.out.trans hb1)) (Or.inl rfl)
        have e3 : w1.drew.cell? ⟨b, 3, none⟩ = some (.slice pcv ncv ccv) := hcvE ▸ hp1d.com
        have e7 : w1.drew.cell? ⟨g, 1, none⟩ = some (.slice As ks cs) := cell_up (HB.out.trans hb1) hg1
        have c3 : w3.cell? ⟨b, 3, none⟩ = some (.slice pcv ncv ccv) := hcvE ▸ hp3.com
        have f3 : w3.frozen? ⟨b, 3, none⟩ = false := by
          obtain ⟨_, _, _, _, _, _, _, _, hf, _⟩ := hp3.parts
          exact hf 3
        have HP3 : Hid (PS W.heap.size b (T9) (o9) 0 (w3.setCell ⟨b, 3, none⟩ (.slice pc' nc' cc'))) := Lib.hid ⟨_, hp3.setCom, hq3.set hp3 _⟩
        have HB3 : Hid (Below W.heap.size w (w3.setCell ⟨b, 3, none⟩ (.slice pc' nc' cc'))) := Lib.hid ((hb1.trans hb3).setCell (p := ⟨b, 3, none⟩) hp3.hB _)
        clear hq3 hp3 hb3 hb1 hp1d hq1d hcvE HB hg1 hp1 hq1 hk1 HS
        go_region_law (first | (go_simp; go_at_call 75; (with_reducible refine (comment_is _ _ _).mono ?_); rintro e w' ⟨rfl, rfl⟩) | (with_reducible refine step_append_run rfl (.tmp 150) (.tmp 155) 51 (.slice pcv ncv ccv) (.slice As ks cs) (.slice pc' nc' cc') rfl ?_ ?_ hr ?_; kernel_rfl; kernel_rfl))
        all_goals go_end0
        all_goals exact ⟨rfl, hfin _ HP3.out, HB3⟩
  · have b1 : decide ((0 : Int) < (n0 : Int)) = true := decide_eq_true (by omega)
    have b2 : decide (0 < n0) = true := decide_eq_true (by omega)
    obtain ⟨cv, hp, hq⟩ := h.out
    have HP := Lib.hid hp
    have HQ := Lib.hid hq
    obtain ⟨l1, hl1, hend⟩ := hst.out
    have HE1 := Lib.hid hl1
    have HL : Hid (l1.length ≤ l.length) := Lib.hid (by rw [hl1, List.length_append]; omega)
    have HW : Hid (∀ i, l1.length ≤ i → (h : i < l.length) → l[i] = 9 ∨ l[i] = 32) := Lib.hid (by
      intro i h1 h2
      subst hl1
      rw [List.getElem_append_right h1, List.getElem_replicate]
      exact Or.inl rfl)
    have HS1 : Hid (∀ j, j + 1 = l1.length → (h : j < l.length) → l[j] ≠ 9 ∧ l[j] ≠ 32) := Lib.hid (by
      intro j h1 h2
      subst hl1
      rw [List.getElem_append_left (by omega)]
      rcases hend with rfl | ⟨p, rfl⟩
      · simp at h1
      · have : j = p.length := by simpa using h1
        subst this
        simp)
    have HTK1 : Hid (l.take l1.length = l1) := Lib.hid (by rw [hl1, List.take_left])
    have HE10 : Hid (∀ j, j + 1 = l1.length → (h : j < l1.length) → l1[j] = 10) := Lib.hid (by
      intro j h1 h2
      rcases hend with rfl | ⟨p, rfl⟩
      · simp at h1
      · have : j = p.length := by simpa using h1
        subst this
        simp)
    clear hp hq h hl1 hend
    go_enter Tryd.func34, Tryd.ntmps34
    go_wp2_with (first | (go_at_call 75; (with_reducible refine (comment_is _ _ _).mono ?_); rintro e w' ⟨rfl, rfl⟩) | (go_at_call 41; (with_reducible refine (trim_is HP l1.length HL HW HS1).mono ?_); rintro e w1 ⟨rfl, hp1, hk1⟩; rw [HTK1.out] at hp1) | (go_at_call 42; (with_reducible refine (indent_is hp1 HE10).mono ?_); rintro e w2 ⟨rfl, hp2, hk2'⟩; have hk2 := thenOk hk1 hk2'; clear hk2'))
    clear hp1 hk1
    go_loopg [5] m (fun kq v5 w' => ∃ k : Nat, v5 = .int .i64 (k : Int) ∧ k ≤ m ∧ m ≤ kq + k ∧ Hid (PB W.heap.size b (l1 ++ List.replicate k 9) cv m w') ∧ Hid (Ok W.heap.size b w w'))
    case atStart => exact ⟨0, rfl, by omega, by omega, by simpa using hp2, hk2⟩
    case round =>
      clear hp2 hk2
      obtain ⟨k, rfl, hk, hq, hp5, hk5⟩ := hrel
      obtain ⟨p5, c5, lr5, g0, g1, g2, g3, g4, gf, gR, gc⟩ := hp5.out.parts
      clear g0 g1 g2 g3 gf gR gc
      by_cases hlt : k < m
      · have b3 : decide ((k : Int) < (m : Int)) = true := decide_eq_true (by omega)
        have HL2 : Hid ((l1 ++ List.replicate k 9).length + (⟨#[9]⟩ : ByteArray).size ≤ 140737488355328) := Lib.hid (by
          have h1 : (⟨#[9]⟩ : ByteArray).size = 1 := rfl
          have := hl.out
          have h2 := congrArg List.length HE1.out
          rw [List.length_append] at h2
          rw [h1, List.length_append, List.length_replicate]
          omega)
        go_wp2_with (first | (go_at_call 31; (with_reducible refine (write_is hp5 ⟨#[9]⟩ HL2).mono ?_); rintro e w6 ⟨rfl, hp6, hk6⟩))
        go_roundg (gk - 1)
        case measure => omega
        case rel => exact ⟨k + 1, by go_num, by omega, by omega, (by rw [List.replicate_succ', ← List.append_assoc]; exact hp6), thenOk hk5 hk6⟩
      · have b3 : decide ((k : Int) < (m : Int)) = false := decide_eq_false (by omega)
        obtain rfl : k = m := by omega
        rw [← HE1.out] at hp5
        have HPS : Hid (PS W.heap.size b l none k wr) := Lib.hid ⟨cv, hp5.out, HQ.out.ok HP.out hk5.out⟩
        have HBW : Hid (Below W.heap.size w wr) := Lib.hid hk5.out.1
        go_wp2
        clear hp5 hk5 g4
        go_loopg [47] n0 (fun kq v47 w' => ∃ i : Nat, v47 = .int .i64 (i : Int) ∧ i ≤ n0 ∧ n0 ≤ kq + i ∧ Hid (PS W.heap.size b (l ++ befB k (bs.take i)) none k w') ∧ Hid (Below W.heap.size w w'))
        case atStart => exact ⟨0, rfl, by omega, by omega, by simpa [befB] using HPS, HBW⟩
        case round =>
          clear HPS HBW
          obtain ⟨i, rfl, hi, hq2, hps, hbw⟩ := hrel
          by_cases hlt2 : i < n0
          · have b4 : decide ((i : Int) < (n0 : Int)) = true := decide_eq_true (by omega)
            have HC : k79.C wr A0 n0 (bs.map cBef) := Kd.C_below HB0.out (HB.out.trans hbw.out)
            obtain ⟨ad, e, d0, d1, d2, d3, d4⟩ := at_T79 HC (i : Int) (by omega) (by omega)
            have hil : i < bs.length := by have := hn0.out; omega
            obtain ⟨t, htE⟩ : ∃ t, t = bs[i]'hil := ⟨_, rfl⟩
            have hget : bs[i]? = some t := by rw [htE, List.getElem?_eq_getElem hil]
            have hrd : rd_T79 (bs.map cBef) (i : Int) = cBef t := by
              unfold rd_T79
              rw [Int.toNat_natCast, List.getD_eq_getElem?_getD, List.getElem?_map, hget]
              rfl
            rw [hrd, Int.toNat_natCast] at d0 d1 d2 d3 d4
            simp only [cBef, z64] at d0 d1 d2 d3 d4
            have HCt : Hid (Com t.data.toList) := Lib.hid (hbs.out t (List.mem_of_getElem? hget))
            clear HC htE hrd
            subst e
            obtain ⟨cv2, hpA, hqA⟩ := hps.out
            have HPA := Lib.hid hpA
            have HQA := Lib.hid hqA
            have hqlen : (befB k (bs.take i)).length ≤ (2001 + k) * i := by
              have := befB_len k (bs.take i) (fun t ht => hbs.out t (List.mem_of_mem_take ht))
              rw [List.length_take, Nat.min_eq_left (by omega)] at this
              exact this
            have hql2 : (2001 + k) * i ≤ 2101 * i := Nat.mul_le_mul_right _ (by omega)
            have HLB : Hid ((l ++ befB k (bs.take i)).length + t.size ≤ 140737488355328) := Lib.hid (by
              have h1 := hl.out
              have h2 := HCt.out.len
              rw [List.length_append, Lib.size_eq]
              omega)
            have HLN : Hid ((l ++ befB k (bs.take i) ++ t.data.toList ++ sfx none).length + k ≤ 140737488355000) := Lib.hid (by
              have h1 := hl.out
              have h2 := HCt.out.len
              rw [List.length_append, List.length_append, List.length_append]
              simp only [sfx, List.length_nil]
              omega)
            have HEN : Hid (Ends (l ++ befB k (bs.take i) ++ t.data.toList ++ sfx none)) := Lib.hid (by
              obtain ⟨p, c, e, hc⟩ := HCt.out.tl
              refine Or.inl ⟨l ++ befB k (bs.take i) ++ p, c, by rw [e]; simp [sfx], ?_, ?_, ?_⟩ <;> (rintro rfl; revert hc; decide))
            have HEQ : Hid (l ++ befB k (bs.take i) ++ t.data.toList ++ sfx none ++ 10 :: List.replicate k 9 = l ++ befB k (bs.take (i + 1))) := Lib.hid (by rw [befB_step k bs i t hget]; simp [sfx])
            clear hpA hqA hps hqlen hql2
            go_wp2
            obtain ⟨ob, hob⟩ : ∃ ob, ob = Obj.cells #[.int .i64 0, .int .i64 0, .int .i64 0, .string t, .bool false] 79 := ⟨_, rfl⟩
            have hb : Below wr.heap.size wr (wr.alloc ob) := (Below.refl _ _).alloc (Nat.le_refl _) _
            have hd3 : (wr.alloc ob).cell? ⟨wr.heap.size, 3, none⟩ = some (.string t) := by rw [hob, World.cell?_alloc_mark]; rfl
            have hp5 : Hid (PB W.heap.size b (l ++ befB k (bs.take i)) cv2 k (wr.alloc ob).drew) := Lib.hid ((HPA.out.old hb).drewN 1)
            have hk5 : Hid (Ok W.heap.size b wr (wr.alloc ob).drew) := Lib.hid ((Ok.old (B := W.heap.size) (b := b) HPA.out.le hb).drewN 1)
            have HT5 : Hid (Tab (wr.alloc ob).drew) := Lib.hid (hT.out.below (HB.out.trans (hbw.out.trans hk5.out.1)))
            rw [← hob]
            clear hob hb d0 d1 d2 d3 d4
            generalize wr.alloc ob = w5 at *
            generalize wr.heap.size = gb at *
            go_region_with (first | (go_at_call 32; (with_reducible refine (tsp_is t _ HT5 HCt).mono ?_); rintro e w6 ⟨rfl, hb6⟩; have hp6 := Lib.hid (hp5.out.old hb6); have hk6 := thenOk hk5 (Lib.hid (Ok.old (B := W.heap.size) (b := b) hp5.out.le hb6)); clear hb6) | (go_at_call 31; (with_reducible refine (write_is hp6 t HLB).mono ?_); rintro e w7 ⟨rfl, hp7, hk7⟩; have hps7 : Hid (PS W.heap.size b (l ++ befB k (bs.take i) ++ t.data.toList) none k w7) := Lib.hid ⟨cv2, hp7.out, HQA.out.ok HPA.out (hk6.out.trans hk7.out)⟩; have hbw7 : Hid (Below W.heap.size w w7) := Lib.hid (hbw.out.trans (hk6.out.trans hk7.out).1)))
            all_goals go_wp2_with (first | (go_at_call 33; (with_reducible refine (newline_is (Lib.hid (HB.out.trans hbw7.out)) hps7 hT (Lib.hid (fun s h => by simp at h)) HEN HLN).mono ?_); rintro e w8 ⟨rfl, hp8, hk8⟩; rw [HEQ.out] at hp8))
            all_goals (go_roundg (gk - 1))
            case measure => omega
            case rel => exact ⟨i + 1, by go_num, by omega, by omega, hp8, Lib.hid (hbw7.out.trans hk8.out.1)⟩
          · have b4 : decide ((i : Int) < (n0 : Int)) = false := decide_eq_false (by omega)
            obtain rfl : i = n0 := by omega
            have HPS9 : Hid (PS W.heap.size b (l ++ befB k bs) none k wr) := Lib.hid (by have := hps.out; rw [hn0.out, List.take_length] at this; exact this)
            have hbl : (befB k bs).length ≤ (2001 + k) * i := by
              have := befB_len k bs hbs.out
              rw [← hn0.out] at this
              exact this
            have hql2 : (2001 + k) * i ≤ 2101 * i := Nat.mul_le_mul_right _ (by omega)
            have HLT : Hid ((l ++ befB k bs).length + 51 * nt ≤ 140737488355328) := Lib.hid (by
              have h1 := hl.out
              rw [List.length_append]
              omega)
            clear hbl hql2 hps
            have hm0' := hm0.out
            subst hm0'
            have hlt9 : Hid ((l ++ befB 0 bs).length + 51 * nt + 30002 * nl ≤ 140737488300000) := Lib.hid (by
              have h1 := hl.out
              have hbl : (befB 0 bs).length ≤ (2001 + 0) * i := by
                have := befB_len 0 bs hbs.out
                rw [← hn0.out] at this
                exact this
              rw [List.length_append]
              omega)
            obtain ⟨cv3, hp3, hq3⟩ := HPS9.out
            have HP9 := Lib.hid hp3
            have HQ9 := Lib.hid hq3
            have HRT : Hid (Kd.string.C W At toks.length toks) := Lib.hid (by rw [← hnt.out]; exact HTK.out)
            have HBn := Lib.hid (HB.out.trans hbw.out)
            have hg12' := cell_up HBn.out hg12
            have hgW : g < W.heap.size := World.block_lt_of_cell? W _ hg12
            have hgb : g ≠ b := by have := hp3.hB; omega
            have hbg : b ≠ g := fun e => hgb e.symm
            clear hgW
            have hjl : (joinW toks).length ≤ 51 * nt := by rw [hnt.out]; exact joinW_len toks hws.out
            have HLW : Hid ((l ++ befB 0 bs ++ joinW toks).length + (⟨#[32]⟩ : ByteArray).size ≤ 140737488355328) := Lib.hid (by
              have h1 : (⟨#[32]⟩ : ByteArray).size = 1 := rfl
              have := HLT.out
              have := hlt9.out
              rw [h1, List.length_append]
              omega)
            have HLP : Hid ((l ++ befB 0 bs ++ joinW toks ++ [32]).length + 1 ≤ 140737488355000) := Lib.hid (by
              have := hlt9.out
              rw [List.length_append, List.length_append]
              simp only [List.length_cons, List.length_nil]
              omega)
            clear hp3 hq3 HPS9 hjl
            have ht61 := ta67_61
            have ht101 := ta67_101
            have ht102 := ta67_102
            have ht74 := ta67_74
            have ht67 := ta67_67
            go_wp2_with (first | (go_at_call 43; (with_reducible refine (tokens_is HRT nt hnt HBn HP9 hws HLT).mono ?_); rintro e w1 ⟨rfl, hp1, hk1⟩) | (go_at_call 31; (with_reducible refine (write_is hp1 ⟨#[32]⟩ HLW).mono ?_); rintro e w2 ⟨rfl, hp2, hk2'⟩; have hk2 := thenOk hk1 hk2'; clear hk2'; have hs2 : Hid (PS W.heap.size b (l ++ befB 0 bs ++ joinW toks ++ [32]) none 0 w2) := Lib.hid ⟨cv3, hp2.out, HQ9.out.ok HP9.out hk2.out⟩; have hb2 : Hid (Below W.heap.size W w2) := Lib.hid (HBn.out.trans hk2.out.1)) | (go_at_call 34; (with_reducible refine (lparen_is (o := none) (suf := none) g hb2 hs2 hg6 hg7 (Lib.hid (suf0 _ _ _)) (Lib.hid (Or.inl rfl)) HLP).mono ?_); rintro e w3 ⟨rfl, hs3, hb3'⟩; have hbB : Hid (W.heap.size ≤ b) := Lib.hid HP9.out.hB; have hb3 : Hid (Below W.heap.size _ w3) := Lib.hid (hk2.out.1.trans hb3'.out); have hw13 := cell_up (hb2.out.trans hb3'.out) hg13; clear hb3'; have hm3 : w3.cell? ⟨b, 4, none⟩ = some (.int .i64 0) := (by obtain ⟨cvx, hpx, _⟩ := hs3.out; exact hpx.mar); have hf3 : w3.frozen? ⟨b, 4, none⟩ = false := (by obtain ⟨cvx, hpx, _⟩ := hs3.out; exact hpx.fr 4)))
            clear hp1 hk1 hp2 hk2 hs2 hb2 HP9 HQ9 HBn hg12' HLW HLP ht61 ht101 ht102 ht74 ht67
            obtain ⟨T0, hT0⟩ : ∃ T0, T0 = l ++ befB 0 bs ++ joinW toks ++ [32] ++ [40] := ⟨_, rfl⟩
            rw [← hT0] at hs3
            have HT0 := Lib.hid hT0
            have HL0 : Hid (∃ p c, T0 = p ++ [c] ∧ c ≠ 9 ∧ c ≠ 32 ∧ c ≠ 10) := Lib.hid ⟨_, 40, hT0, by decide, by decide, by decide⟩
            have HN0 : Hid (T0.length + 30002 * nl + 100 ≤ 140737488310000) := Lib.hid (by
              have := hlt9.out
              have hjl : (joinW toks).length ≤ 51 * nt := by rw [hnt.out]; exact joinW_len toks hws.out
              rw [hT0, List.length_append, List.length_append, List.length_append]
              simp only [List.length_cons, List.length_nil]
              omega)
            clear hT0 hlt9 HLT
            have HPT : Hid (PT W.heap.size b T0 1 (w3.setCell ⟨b, 4, none⟩ (.int .i64 1))) := Lib.hid (PT.mk (hs3.out.margin 1) (List.append_nil T0) (fun s h => by simp [addO] at h))
            have HBW : Hid (Below W.heap.size w (w3.setCell ⟨b, 4, none⟩ (.int .i64 1))) := Lib.hid (hbw.out.trans ((hb3.out).setCell (p := ⟨b, 4, none⟩) hbB.out _))
            clear hs3 hb3 hbw hm3 hf3 hw13
            generalize w3.setCell ⟨b, 4, none⟩ (.int .i64 1) = w4 at *
            go_loopg [120] nl (fun kq v120 w' => ∃ i : Nat, v120 = .int .i64 (i : Int) ∧ i ≤ nl ∧ nl ≤ kq + i ∧ Hid (PT W.heap.size b (T0 ++ (ls.take i).flatMap lnF) 1 w') ∧ Hid (Below W.heap.size w w'))
            case atStart => exact ⟨0, rfl, by omega, by omega, by simpa using HPT, HBW⟩
            case round =>
              clear HPT HBW
              obtain ⟨i, rfl, hi, hq, hpt, hbw⟩ := hrel
              have HBr := Lib.hid (HB.out.trans hbw.out)
              have hll : ((ls.take i).flatMap lnF).length ≤ 30002 * i := by
                have := lns_len (ls.take i) (fun d hd => hls.out d (List.mem_of_mem_take hd))
                rw [List.length_take, Nat.min_eq_left (by have := hnl.out; omega)] at this
                exact this
              have HE : Hid (Ends (T0 ++ (ls.take i).flatMap lnF)) := Lib.hid (by
                have := lns_last T0 HL0.out (ls.take i) (fun d hd => hls.out d (List.mem_of_mem_take hd))
                exact Ends.app [] this)
              have HLN : Hid ((T0 ++ (ls.take i).flatMap lnF).length + 1 ≤ 140737488355000) := Lib.hid (by
                have := HN0.out
                rw [List.length_append]
                omega)
              by_cases hlt : i < nl
              · have b1 : decide ((i : Int) < (nl : Int)) = true := decide_eq_true (by omega)
                have hil : i < ls.length := by have := hnl.out; omega
                obtain ⟨d, hd⟩ : ∃ d, ls[i]? = some d := ⟨_, List.getElem?_eq_getElem hil⟩
                obtain ⟨ad, g2, rfl, hcell, hLK⟩ := ln_at HLS.out i hlt d hd
                have hcell' := cell_upA HBr.out hcell
                have HLK := Lib.hid hLK
                have HD := Lib.hid (hls.out d (List.mem_of_getElem? hd))
                have HL5 : Hid ((T0 ++ (ls.take i).flatMap lnF ++ 10 :: List.replicate 1 9).length + 50000 ≤ 140737488350000) := Lib.hid (by
                  have := HN0.out
                  rw [List.length_append, List.length_append, List.length_cons, List.length_replicate]
                  omega)
                have HEQ : Hid (T0 ++ (ls.take i).flatMap lnF ++ 10 :: List.replicate 1 9 ++ befB 1 d.bs ++ joinW d.toks ++ sfx (sufO d.suf) = T0 ++ (ls.take (i + 1)).flatMap lnF) := Lib.hid (by
                  rw [lns_step ls i d hd]
                  simp [lnF, lnB])
                clear hcell hLK hll
                go_wp2_with (first | (go_at_call 33; (with_reducible refine (newline_pt HBr hpt hT HE HLN).mono ?_); rintro e w5 ⟨rfl, hp5, hk5⟩; have hb5 := Lib.hid (HBr.out.trans hk5.out.1)) | (go_at_call 34; (with_reducible refine (line_at g2 d HLK HD hb5 hp5 (Lib.hid (Start.nl _ _)) hT (by omega) HL5).mono ?_); rintro e w6 ⟨rfl, hp6, hb6⟩))
                go_roundg (gk - 1)
                case measure => omega
                case rel => exact ⟨i + 1, by go_num, by omega, by omega, Lib.hid (PT.mk hp6.out HEQ.out HD.out.suf), Lib.hid (hbw.out.trans (hk5.out.1.trans hb6.out))⟩
              · have b1 : decide ((i : Int) < (nl : Int)) = false := decide_eq_false (by omega)
                obtain rfl : i = nl := by omega
                obtain ⟨hbB2, hm4, hf4⟩ := hpt.out.cells
                have hm4' : wr.cell? ⟨b, 4, none⟩ = some (.int .i64 1) := hm4
                have hpt0 : Hid (PT W.heap.size b (T0 ++ (ls.take i).flatMap lnF) 0 (wr.setCell ⟨b, 4, none⟩ (.int .i64 0))) := Lib.hid (hpt.out.margin 0)
                have hbw0 : Hid (Below W.heap.size w (wr.setCell ⟨b, 4, none⟩ (.int .i64 0))) := Lib.hid (hbw.out.setCell (p := ⟨b, 4, none⟩) hbB2 _)
                have HBr0 := Lib.hid (HB.out.trans hbw0.out)
                have HLN0 : Hid ((T0 ++ (ls.take i).flatMap lnF).length + 0 ≤ 140737488355000) := Lib.hid (by have := HLN.out; omega)
                have HLR : Hid ((T0 ++ (ls.take i).flatMap lnF ++ 10 :: List.replicate 0 9).length + 1 ≤ 140737488355000) := Lib.hid (by
                  have := HN0.out
                  rw [List.length_append, List.length_append, List.length_cons, List.length_replicate]
                  omega)
                clear hm4 hll hpt hbw HBr HLN
                go_wp2_with (first | (go_at_call 33; (with_reducible refine (newline_pt HBr0 hpt0 hT HE HLN0).mono ?_); rintro e w5 ⟨rfl, hp5, hk5⟩; have hb5 := Lib.hid (HBr0.out.trans hk5.out.1)) | (go_at_call 34; (with_reducible refine (rparen_is g hb5 hp5 hg14 hg15 HSR (Lib.hid (Or.inr rfl)) HLR).mono ?_); rintro e w1 ⟨rfl, hp6, hb6⟩))
                obtain ⟨T9, hT9⟩ : ∃ T9, T9 = T0 ++ (ls.take i).flatMap lnF ++ 10 :: List.replicate 0 9 ++ [41] := ⟨_, rfl⟩
                obtain ⟨o9, ho9⟩ : ∃ o9, o9 = addO (sufO suf) none := ⟨_, rfl⟩
                rw [← hT9, ← ho9] at hp6
                obtain ⟨cv9, hp7, hq7⟩ := hp6.out
                have hp1 := Lib.hid hp7
                have hq1 := Lib.hid hq7
                have hk1 : Hid (Below W.heap.size w w1) := Lib.hid (hbw0.out.trans (hk5.out.1.trans hb6.out))
                have hfin : ∀ wz, PS W.heap.size b T9 o9 0 wz → Hid (PS W.heap.size b (l ++ bkT bs toks ls) (sufO suf) 0 wz) := fun wz hz => Lib.hid (by
                  rw [ho9, addO_none, hT9, HT0.out, hnl.out, List.take_length] at hz
                  have : l ++ befB 0 bs ++ joinW toks ++ [32] ++ [40] ++ ls.flatMap lnF ++ 10 :: List.replicate 0 9 ++ [41] = l ++ bkT bs toks ls := by simp [bkT, befB]
                  rwa [this] at hz)
                clear hT9 ho9 hp6 hp7 hq7 hp5 hk5 hb5 hb6 hbw0 HBr0 hpt0 HLN0 HLR HE hm4' hf4 hg12 hg13 hg14 hg15 hg6 hg7 hg0
                have hq1d : Pend W.heap.size cv9 o9 w1.drew := hq1.out
                have hp1d : PB W.heap.size b (T9) cv9 0 w1.drew := hp1.out.drewN 1
                have hb1 : Below W.heap.size w w1.drew := ⟨hk1.out.os, hk1.out.tape, hk1.out.output, hk1.out.size, hk1.out.block⟩
                obtain ⟨pcv, ncv, ccv, pc', nc', cc', w3, hcvE, hr, hp3, hq3, hb3⟩ := append_com hp1d hq1d (HS.out.up (HB.out.trans hb1)) (Or.inl rfl)
                have e3 : w1.drew.cell? ⟨b, 3, none⟩ = some (.slice pcv ncv ccv) := hcvE ▸ hp1d.com
                have e7 : w1.drew.cell? ⟨g, 1, none⟩ = some (.slice As ks cs) := cell_up (HB.out.trans hb1) hg1
                have c3 : w3.cell? ⟨b, 3, none⟩ = some (.slice pcv ncv ccv) := hcvE ▸ hp3.com
                have f3 : w3.frozen? ⟨b, 3, none⟩ = false := by
                  obtain ⟨_, _, _, _, _, _, _, _, hf, _⟩ := hp3.parts
                  exact hf 3
                have HP3 : Hid (PS W.heap.size b (T9) (o9) 0 (w3.setCell ⟨b, 3, none⟩ (.slice pc' nc' cc'))) := Lib.hid ⟨_, hp3.setCom, hq3.set hp3 _⟩
                have HB3 : Hid (Below W.heap.size w (w3.setCell ⟨b, 3, none⟩ (.slice pc' nc' cc'))) := Lib.hid ((hb1.trans hb3).setCell (p := ⟨b, 3, none⟩) hp3.hB _)
                clear hq3 hp3 hb3 hb1 hp1d hq1d hcvE HB hg1 hp1 hq1 hk1 HS
                go_region_law (first | (go_simp; go_at_call 75; (with_reducible refine (comment_is _ _ _).mono ?_); rintro e w' ⟨rfl, rfl⟩) | (with_reducible refine step_append_run rfl (.tmp 150) (.tmp 155) 51 (.slice pcv ncv ccv) (.slice As ks cs) (.slice pc' nc' cc') rfl ?_ ?_ hr ?_; kernel_rfl; kernel_rfl))
                all_goals go_end0
                all_goals exact ⟨rfl, hfin _ HP3.out, HB3⟩
end Go.Proofs.YtbifcpokkfiagaaDoor.F
