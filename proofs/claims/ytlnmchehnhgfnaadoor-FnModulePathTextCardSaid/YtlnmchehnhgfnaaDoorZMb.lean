/- What a call of the program's ModulePath answers, where the lines that it reads are ASCII. Conditions: the table of white space lies in memory. -/
import Derived.Test.YtlnmchehnhgfnaaDoorZMa
import Derived.Lib.SlBytesConst
import Derived.Outline
namespace Go.Proofs.YtlnmchehnhgfnaaDoor.M
open Go.RowKit Go.Proofs.YtlnmchehnhgfnaaDoorW.PrintWords
abbrev Tab (w : World) : Prop := Lib.TabIs Tryd.prog w "bytes.asciiSpace" .u8 Lib.asciiSpaceTab
theorem Tab.below {w w' : World} (h : Tab w) (hb : Below w.heap.size w w') : Tab w' := by
  unfold Tab Lib.TabIs at *
  unfold World.var? at h ⊢
  cases hg : Tryd.prog.globalNamed "bytes.asciiSpace" with
  | none => simp [hg] at h
  | some g =>
    simp only [hg, Option.bind_some] at h ⊢
    have hlt : g < w.heap.size := by
      rcases Nat.lt_or_ge g w.heap.size with h' | h'
      · exact h'
      · simp [Array.getElem?_eq_none h'] at h
    rw [hb.block g hlt]
    exact h
theorem ret_str {a b : List UInt8} (h : a = b) : Ending.returned (.string ⟨a.toArray⟩) = .returned (.string ⟨b.toArray⟩) := by rw [h]
theorem lineRes_nil : lineRes [] = none := by
  unfold lineRes
  rw [if_neg]
  decide
theorem res_nil {l r : List UInt8} (h : Res l r) (e : l = []) : r = [] := by
  cases h with
  | nil => rfl
  | skip => simp at e
  | skipEnd h => exact absurd e h
  | hit => simp at e
  | hitEnd _ _ h _ => rw [e, lineRes_nil] at h; exact absurd h (by simp)
theorem res_cons {l r : List UInt8} (h : Res l r) (e : l ≠ []) :
    (∃ L R, l = L ++ 10 :: R ∧ Ascii L ∧ 10 ∉ L ∧ ((lineRes L = none ∧ Res R r) ∨ (lineRes L = some r ∧ NoQuote r))) ∨ (Ascii l ∧ 10 ∉ l ∧ ((lineRes l = none ∧ r = []) ∨ (lineRes l = some r ∧ NoQuote r))) := by
  cases h with
  | nil => exact absurd rfl e
  | skip h1 h2 h3 h4 => exact Or.inl ⟨_, _, rfl, h1, h2, Or.inl ⟨h3, h4⟩⟩
  | skipEnd h h1 h2 h3 => exact Or.inr ⟨h1, h2, Or.inl ⟨h3, rfl⟩⟩
  | hit h1 h2 h3 h4 => exact Or.inl ⟨_, _, rfl, h1, h2, Or.inr ⟨h3, h4⟩⟩
  | hitEnd h1 h2 h3 h4 => exact Or.inr ⟨h1, h2, Or.inr ⟨h3, h4⟩⟩
theorem idx_no (w : World) (p : Option Addr) (c n : Nat) (l : List UInt8) (h0 : n ≠ 0) (hn : Hid (n = l.length)) (h : Hid (SB w p c l)) (ht : Hid (10 ∉ l)) :
    Calls Tryd.prog 34 #[.slice p n c, .int .u8 10] w fun e w' => e = .returned (.int .i64 (-1)) ∧ w = w' := by
  have e := hn.out
  subst e
  exact index_no w p c l (by intro e; rw [e] at h0; exact h0 rfl) h ht
theorem idx_yes (w : World) (p : Option Addr) (c n i : Nat) (L R : List UInt8) (hn : Hid (n = (L ++ 10 :: R).length)) (hi : Hid (i = L.length)) (h : Hid (SB w p c (L ++ 10 :: R))) (ht : Hid (10 ∉ L)) :
    Calls Tryd.prog 34 #[.slice p n c, .int .u8 10] w fun e w' => e = .returned (.int .i64 (i : Int)) ∧ w = w' := by
  have e := hn.out
  have e2 := hi.out
  subst e
  subst e2
  exact index_yes w p c L R h ht
theorem two_at (w : World) (p : Option Addr) (c g n : Nat) (l : List UInt8) (j : Int) (hn : Hid (n = l.length)) (hl : n ≤ 9223372036854775800) (hj : Hid (sl l 0 = j)) (h : SB w p c l) (hg0 : w.cell? ⟨g, 0, none⟩ = some (.int .u8 47)) (hg1 : w.cell? ⟨g, 1, none⟩ = some (.int .u8 47)) :
    Calls Tryd.prog 35 #[.slice p n c, .slice (some ⟨g, 0, none⟩) 2 2] w fun e w' => e = .returned (.int .i64 j) ∧ Drawn0 w w' := by
  have e := hn.out
  subst e
  exact bidx_is w p c g l j (Lib.hid h) hl (Lib.hid hg0) (Lib.hid hg1) hj
theorem trim_at (w : World) (p : Option Addr) (c n m : Nat) (l : List UInt8) (hn : Hid (n = l.length)) (hm : Hid (m = (Lib.trimSpace l).length)) (hl : n ≤ 9223372036854775800) (ha : Hid (Ascii l)) (h : SB w p c l) (ht : Tab w) :
    Calls Tryd.prog 36 #[.slice p n c] w fun e w' => ∃ p' c', e = .returned (.slice p' m c') ∧ Hid (SB w p' c' (Lib.trimSpace l)) ∧ w = w' := by
  have e := hn.out
  have e2 := hm.out
  subst e
  subst e2
  exact trim_is w p c l (Lib.hid h) hl ha (Lib.hid ht)
theorem pre_at (w : World) (p : Option Addr) (c g n : Nat) (l : List UInt8) (r : Bool) (hn : Hid (n = l.length)) (hr : Hid (decide (modL <+: l) = r)) (h : SB w p c l) (hm : ∀ i, i < 6 → w.cell? ⟨g, i, none⟩ = some (.int .u8 ((nums modL).getD i 0))) :
    Calls Tryd.prog 37 #[.slice p n c, .slice (some ⟨g, 0, none⟩) 6 6] w fun e w' => e = .returned (.bool r) ∧ w = w' := by
  have e := hn.out
  subst e
  exact pre_is w p c g l r (Lib.hid h) (Lib.hid hm) hr
theorem bel0 (w : World) (o : Obj) : Below w.heap.size w (w.alloc o) := (Below.refl _ _).alloc (Nat.le_refl _) _
theorem below_drewN {B : Nat} {a w : World} (h : Below B a w) (n : Nat) : Below B a (w.drewN n) := ⟨h.os, h.tape, h.output, h.size, h.block⟩
theorem bel1 (w : World) (o : Obj) (n : Nat) : Below w.heap.size w ((w.alloc o).drewN n) := below_drewN (bel0 w o) n
theorem bel12 (w : World) (o o2 : Obj) (n : Nat) : Below ((w.alloc o).drewN n).heap.size ((w.alloc o).drewN n) (((w.alloc o).drewN n).alloc o2) := bel0 _ _
theorem bel2 (w : World) (o o2 : Obj) (n : Nat) : Below w.heap.size w (((w.alloc o).drewN n).alloc o2) := (bel1 w o n).trans ((bel12 w o o2 n).mono (bel1 w o n).size)
theorem conv_new (w : World) (o : Obj) (x : Nat) (C : Array Value) (n c : Nat) : (convert 37 37 (.slice (some ⟨w.heap.size + 1, 0, none⟩) n c)).run Tryd.prog (((w.alloc o).drewN x).alloc (.cells C 5)) = .ok (.slice (some ⟨w.heap.size + 1, 0, none⟩) n c) (((w.alloc o).drewN x).alloc (.cells C 5 (C.size, C.size + 1))) := by
  have h := Lib.run_convert_bytes_const (P := Tryd.prog) ((w.alloc o).drewN x) 37 5 C n c Tryd.underlying37 Tryd.underlying5
  have e : ((w.alloc o).drewN x).heap.size = w.heap.size + 1 := by simp
  rw [e] at h
  exact h
theorem new47 (w : World) (t : TypeId) (fr : Nat × Nat) (i : Nat) (hi : i < 2) : (w.alloc (.cells #[.int .u8 47, .int .u8 47] t fr)).cell? ⟨w.heap.size, i, none⟩ = some (.int .u8 47) := by
  rw [World.cell?_alloc_mark]
  rcases (by omega : i = 0 ∨ i = 1) with rfl | rfl <;> rfl
theorem newMod (w : World) (o : Obj) (t : TypeId) (fr : Nat × Nat) (x : Nat) (i : Nat) (hi : i < 6) : (((w.alloc o).drewN x).alloc (.cells #[.int .u8 109, .int .u8 111, .int .u8 100, .int .u8 117, .int .u8 108, .int .u8 101] t fr)).cell? ⟨w.heap.size + 1, i, none⟩ = some (.int .u8 ((nums modL).getD i 0)) := by
  have h := World.cell?_alloc_mark ((w.alloc o).drewN x) #[.int .u8 109, .int .u8 111, .int .u8 100, .int .u8 117, .int .u8 108, .int .u8 101] t fr i
  have e : ((w.alloc o).drewN x).heap.size = w.heap.size + 1 := by simp
  rw [e] at h
  rw [h]
  rcases (by omega : i = 0 ∨ i = 1 ∨ i = 2 ∨ i = 3 ∨ i = 4 ∨ i = 5) with rfl | rfl | rfl | rfl | rfl | rfl <;> rfl
theorem sl_no {L : List UInt8} (h : (cutS L).length = L.length) : sl L 0 = -1 := by
  unfold sl
  rw [List.drop_zero, if_pos h]
theorem sl_yes {L : List UInt8} (h : ¬ (cutS L).length = L.length) : sl L 0 = ((cutS L).length : Int) := by
  unfold sl
  rw [List.drop_zero, if_neg h, Nat.zero_add]
theorem cutS_all {L : List UInt8} (h : (cutS L).length = L.length) : cutS L = L := by
  rw [← cutS_take L, h, List.take_length]
theorem ascii_cut {L : List UInt8} (h : Ascii L) : Ascii (cutS L) := fun c hc => h c (cutS_mem hc)
theorem ascii_core {L : List UInt8} (h : Ascii L) : Ascii (core L) := fun c hc => ascii_cut h c (trim_mem hc)
theorem ascii_drop {L : List UInt8} (h : Ascii L) (k : Nat) : Ascii (L.drop k) := fun c hc => h c (List.mem_of_mem_drop hc)
theorem res_o1 {L : List UInt8} (h : ¬ modL <+: core L) : lineRes L = none := by
  unfold lineRes
  rw [if_neg h]
theorem res_o23 {L : List UInt8} (h1 : (Lib.trimSpace ((core L).drop 6)).length = ((core L).drop 6).length ∨ (Lib.trimSpace ((core L).drop 6)).length = 0) : lineRes L = none := by
  unfold lineRes
  split
  · rw [if_pos]
    rcases h1 with h | h
    · exact Or.inl h
    · exact Or.inr (List.eq_nil_of_length_eq_zero h)
  · rfl
theorem res_o4 {L : List UInt8} (h : modL <+: core L) (h1 : ¬ (Lib.trimSpace ((core L).drop 6)).length = ((core L).drop 6).length) (h2 : ¬ (Lib.trimSpace ((core L).drop 6)).length = 0) : lineRes L = some (Lib.trimSpace ((core L).drop 6)) := by
  unfold lineRes
  rw [if_pos h, if_neg]
  rintro (h3 | h3)
  · exact h1 h3
  · exact h2 (by rw [h3]; rfl)
theorem str_of (l : List UInt8) : strOfNums (nums l) = ⟨l.toArray⟩ := by
  show (⟨(Lib.bytesOf (nums l)).toArray⟩ : ByteArray) = _
  rw [nums_back]
theorem conv_at (w : World) (b o c n : Nat) (l : List UInt8) (hn : Hid (n = l.length)) (h : Hid (SB w (some ⟨b, o, none⟩) c l)) (h0 : 0 < n) : (convert 37 9 (.slice (some ⟨b, o, none⟩) n c)).run Tryd.prog w = .ok (.string ⟨l.toArray⟩) w := by
  have e := hn.out
  subst e
  rw [conv_of w _ c l h.out h0, str_of]
theorem first_of {w : World} {p : Option Addr} {c n : Nat} {l r : List UInt8} (h : Hid (SB w p c l)) (hn : Hid (n = l.length)) (hp : Hid (l = r ∧ NoQuote r)) (h0 : 0 < n) : ∃ b o, p = some ⟨b, o, none⟩ ∧ ∃ x : Int, w.cell? ⟨b, o, none⟩ = some (.int .u8 x) ∧ (x == 34) = false ∧ (x == 96) = false := by
  have e := hn.out
  subst e
  obtain ⟨b, o, e, hc⟩ := h.out.cells h0
  refine ⟨b, o, e, (l[0].toNat : Int), ?_, ?_, ?_⟩
  · have := hc 0 h0
    rw [nums_get l 0 h0, Nat.add_zero] at this
    exact this
  · obtain ⟨rfl, hq⟩ := hp.out
    have := hq l[0] (l.drop 1) (by have := List.drop_eq_getElem_cons h0; rw [List.drop_zero] at this; exact this)
    rw [beq_eq_false_iff_ne]
    intro h34
    exact this.1 (UInt8.toNat_inj.mp (by have : (34 : UInt8).toNat = 34 := rfl; omega))
  · obtain ⟨rfl, hq⟩ := hp.out
    have := hq l[0] (l.drop 1) (by have := List.drop_eq_getElem_cons h0; rw [List.drop_zero] at this; exact this)
    rw [beq_eq_false_iff_ne]
    intro h34
    exact this.2 (UInt8.toNat_inj.mp (by have : (96 : UInt8).toNat = 96 := rfl; omega))
set_option maxHeartbeats 64000000 in
set_option maxRecDepth 100000 in
theorem mp_any (W : World) (p0 : Option Addr) (c0 n0 : Nat) (l0 r : List UInt8) (hn0 : Hid (n0 = l0.length)) (h0 : Hid (SB W p0 c0 l0)) (hl0 : n0 ≤ 9223372036854775800) (ht : Hid (Tab W)) (hr : Hid (Res l0 r)) :
    Calls Tryd.prog 13 #[.slice p0 n0 c0] W fun e w' => e = .returned (.string ⟨r.toArray⟩) ∧ Below W.heap.size W w' := by
  have kc := fun (w : World) (C : Array Value) (n c : Nat) => Lib.run_convert_bytes_const (P := Tryd.prog) w 37 5 C n c Tryd.underlying37 Tryd.underlying5
  have kc2 := conv_new
  go_enter Tryd.func13, Tryd.ntmps13
  go_wp2
  go_loopg [0] n0 (fun kq v0 wr => ∃ (p : Option Addr) (c n : Nat) (l : List UInt8), v0 = .slice p n c ∧ n ≤ kq ∧ n ≤ 9223372036854775800 ∧ Hid (n = l.length) ∧ Hid (SB wr p c l) ∧ Hid (Res l r) ∧ Hid (Below W.heap.size W wr))
  case atStart => exact ⟨p0, c0, n0, l0, rfl, by omega, hl0, hn0, h0, hr, Lib.hid (Below.refl _ _)⟩
  case round =>
    clear hr hn0 h0
    obtain ⟨p, c, n, l, rfl, hkq, hn, HN, HS, HR, HB⟩ := hrel
    by_cases hz : n = 0
    · have b1 : decide (0 < (n : Int)) = false := decide_eq_false (by omega)
      have b2 : decide (0 < n) = false := decide_eq_false (by omega)
      have RE : Hid (([] : List UInt8) = r) := Lib.hid (res_nil HR.out (List.eq_nil_of_length_eq_zero (by have := HN.out; omega))).symm
      clear hz
      go_wp2
      go_ret
      exact ⟨ret_str RE.out, HB.out⟩
    · have b1 : decide (0 < (n : Int)) = true := decide_eq_true (by omega)
      have b2 : decide (0 < n) = true := decide_eq_true (by omega)
      have HT : Hid (Tab wr) := Lib.hid (ht.out.below HB.out)
      have HBT : Hid (∀ w', Below wr.heap.size wr w' → Below W.heap.size W w') := Lib.hid (fun w' h => HB.out.trans (h.mono HB.out.size))
      rcases res_cons HR.out (by intro e; have := HN.out; rw [e] at this; exact hz this) with ⟨L, R, e, hA, h10, hres⟩ | ⟨hA, h10, hres⟩
      · subst e
        have H10 := Lib.hid h10
        have HAS := Lib.hid hA
        have HRES := Lib.hid hres
        obtain ⟨i, hi⟩ : ∃ i, i = L.length := ⟨_, rfl⟩
        have HI := Lib.hid hi
        have hlen : n = i + 1 + R.length := by have := HN.out; rw [List.length_append, List.length_cons] at this; omega
        have hcap : n ≤ c := by have h1 := HS.out.cap; have := HN.out; omega
        obtain ⟨m, hm⟩ : ∃ m, m = n - (i + 1) := ⟨_, rfl⟩
        have HM : Hid (m = R.length) := Lib.hid (by omega)
        obtain ⟨cm, hcm⟩ : ∃ cm, cm = c - (i + 1) := ⟨_, rfl⟩
        have sL : SB wr (adv p c 0) c L := by
          have := HS.out.take i (by rw [List.length_append]; omega)
          rw [hi, List.take_left] at this
          exact this
        have sR : SB wr (adv p c (i + 1)) (c - (i + 1)) R := by
          have := HS.out.drop (i + 1) (by rw [List.length_append, List.length_cons]; omega)
          have e1 : (L ++ 10 :: R).drop (i + 1) = R := by rw [hi, ← List.drop_drop, List.drop_left]; rfl
          rw [e1] at this
          exact this
        obtain ⟨pl, hpl⟩ : ∃ pl, pl = adv p c 0 := ⟨_, rfl⟩
        obtain ⟨pm, hpm⟩ : ∃ pm, pm = adv p c (i + 1) := ⟨_, rfl⟩
        have hs1 : ∀ W, (Instr.slice 37 (.slice p n c) none (some (.int .i64 (i : Int))) none).run Tryd.prog W = .ok (.slice pl i c) W := fun W => by rw [slice_to p n c i (by omega) W, hpl]
        have hs2 : ∀ W, (Instr.slice 37 (.slice p n c) (some (.int .i64 ((i : Int) + 1))) none none).run Tryd.prog W = .ok (.slice pm m cm) W := fun W => by
          have := slice_from p n c (i + 1) (by omega) W
          rw [show ((i + 1 : Nat) : Int) = (i : Int) + 1 by omega] at this
          rw [this, hpm, hm, hcm]
        rw [← hpl] at sL
        rw [← hpm, ← hcm] at sR
        have HLs := Lib.hid sL
        have HRs := Lib.hid sR
        have d1 : decide ((0 : Int) ≤ (i : Int)) = true := decide_eq_true (by omega)
        have hil : i ≤ 9223372036854775800 := by omega
        have hmk : m ≤ gk - 1 := by omega
        have hmn : m ≤ 9223372036854775800 := by omega
        have hgk : gk - 1 < gk := by omega
        have hi1 : (i : Int) + 1 ≤ 9223372036854775807 := by omega
        clear h10 hA hres HR hi hlen hm hcm sL sR hpl hpm hz HB
        go_wp2_with (go_at_call 34; (with_reducible refine (idx_yes wr p c n i L R HN HI HS H10).mono ?_); rintro e w' ⟨rfl, rfl⟩)
        go_quiet (fail)
        have HLq : Hid (SB (wr.drewN nq) pl c L) := Lib.hid (HLs.out.drewN nq)
        have HRq : Hid (SB (wr.drewN nq) pm cm R) := Lib.hid (HRs.out.drewN nq)
        have HTq : Hid (Tab (wr.drewN nq)) := Lib.hid (HT.out.below (below_drewN (Below.refl _ _) nq))
        have HBq : Hid (∀ w', Below (wr.drewN nq).heap.size (wr.drewN nq) w' → Below W.heap.size W w') := Lib.hid (fun w' h => HBT.out w' ((below_drewN (Below.refl _ _) nq).trans h))
        obtain ⟨wq, hwq⟩ : ∃ wq, wq = wr.drewN nq := ⟨_, rfl⟩
        rw [← hwq] at HLq HRq HTq HBq
        rw [← hwq]
        clear hwq HLs HRs HT HBT HS HN hs1 hs2
        have B35 : ∀ w', Below wq.heap.size wq w' → w'.cell? ⟨wq.heap.size, 0, none⟩ = some (.int .u8 47) → w'.cell? ⟨wq.heap.size, 1, none⟩ = some (.int .u8 47) → Calls Tryd.prog 35 #[.slice pl i c, .slice (some ⟨wq.heap.size, 0, none⟩) 2 2] w' fun e w'' => e = .returned (.int .i64 (sl L 0)) ∧ Drawn0 w' w'' :=
          fun w' hb g0 g1 => two_at w' pl c wq.heap.size i L _ HI hil (Lib.hid rfl) (HLq.out.below hb) g0 g1
        obtain ⟨nt, hnt⟩ : ∃ nt, nt = (core L).length := ⟨_, rfl⟩
        have HNT := Lib.hid hnt
        have hntl : nt ≤ i := by have h1 := cutS_le L; have h2 := trim_le (cutS L); have h3 := HI.out; unfold core at hnt; omega
        clear hnt
        by_cases hsl : (cutS L).length = L.length
        · have hce : cutS L = L := cutS_all hsl
          rw [sl_no hsl] at B35
          have d2 : decide ((0 : Int) ≤ -1) = false := by decide
          have T1 : ∀ w', Below wq.heap.size wq w' → Calls Tryd.prog 36 #[.slice pl i c] w' fun e w'' => ∃ p' c', e = .returned (.slice p' nt c') ∧ Hid (SB w' p' c' (core L)) ∧ w' = w'' := by
            have e0 : core L = Lib.trimSpace L := by unfold core; rw [hce]
            rw [e0]
            exact fun w' hb => trim_at w' pl c i nt L HI (Lib.hid (by rw [← e0]; exact HNT.out)) hil HAS (HLq.out.below hb) (HTq.out.below hb)
          clear hsl hce
          by_cases hpre : modL <+: core L
          · have HPRE : Hid (decide (modL <+: core L) = true) := Lib.hid (decide_eq_true hpre)
            have hsix : 6 ≤ nt := by have := hpre.length_le; have h2 := HNT.out; rw [h2]; exact this
            have HSIX : Hid (6 ≤ (core L).length) := Lib.hid (by have := HNT.out; omega)
            obtain ⟨nu, hnu⟩ : ∃ nu, nu = nt - 6 := ⟨_, rfl⟩
            have HNU : Hid (nu = ((core L).drop 6).length) := Lib.hid (by rw [List.length_drop, ← HNT.out, hnu])
            have hs6 : ∀ p c W, (Instr.slice 37 (.slice p nt c) (some (.int .i64 6)) none none).run Tryd.prog W = .ok (.slice (adv p c 6) nu (c - 6)) W := fun p c W => by
              have := slice_from p nt c 6 hsix W
              rw [hnu]
              exact this
            obtain ⟨nv, hnv⟩ : ∃ nv, nv = (Lib.trimSpace ((core L).drop 6)).length := ⟨_, rfl⟩
            have HNV := Lib.hid hnv
            have hul : nu ≤ 9223372036854775800 := by omega
            have HAU : Hid (Ascii ((core L).drop 6)) := Lib.hid (ascii_drop (ascii_core HAS.out) 6)
            clear hnu
            by_cases hq : nv = nu
            · have q1 : ((nv : Int) == (nu : Int)) = true := by simp [hq]
              have HNX : Hid (Res R r) := Lib.hid (by
                rcases HRES.out with h | h
                · exact h.2
                · rw [res_o23 (Or.inl (by rw [← hnv, ← HNU.out, hq]))] at h; exact absurd h.1 (by simp))
              clear hq hnv hpre HRES
              go_wp2_with (first | (go_at_call 35; (first | (with_reducible refine (B35 (wq.alloc _) (bel0 wq _) (new47 wq _ _ 0 (by omega)) (new47 wq _ _ 1 (by omega))).mono ?_) | (with_reducible refine (B35 ((wq.alloc _).drewN _) (bel1 wq _ _) (new47 wq _ _ 0 (by omega)) (new47 wq _ _ 1 (by omega))).mono ?_)); rintro e w' ⟨rfl, ⟨x, rfl⟩⟩) | (go_at_call 37; (with_reducible refine (pre_at (((wq.alloc _).drewN _).alloc _) p3 c3 (wq.heap.size + 1) nt (core L) true HNT HPRE (HS3.out.below (bel12 wq _ _ _)) (newMod wq _ _ _ _)).mono ?_); rintro e w' ⟨rfl, rfl⟩) | (go_at_call 36; first | ((with_reducible refine (T1 ((wq.alloc _).drewN _) (bel1 wq _ _)).mono ?_); rintro e w' ⟨p3, c3, rfl, HS3, rfl⟩) | ((with_reducible refine (trim_at (((wq.alloc _).drewN _).alloc _) (adv p3 c3 6) (c3 - 6) nu nv ((core L).drop 6) HNU HNV hul HAU ((HS3.out.below (bel12 wq _ _ _)).drop 6 HSIX.out) (HTq.out.below (bel2 wq _ _ _))).mono ?_); rintro e w' ⟨p4, c4, rfl, HS4, rfl⟩)))
              go_roundg (gk - 1)
              case measure => exact hgk
              case rel => exact ⟨pm, cm, m, R, rfl, hmk, hmn, HM, Lib.hid (HRq.out.below (bel2 wq _ _ _)), HNX, Lib.hid (HBq.out _ (bel2 wq _ _ _))⟩
            · have q1 : ((nv : Int) == (nu : Int)) = false := by simp; omega
              by_cases hv0 : nv = 0
              · have q2 : ((nv : Int) == 0) = true := by simp [hv0]
                have HNX : Hid (Res R r) := Lib.hid (by
                  rcases HRES.out with h | h
                  · exact h.2
                  · rw [res_o23 (Or.inr (by rw [← hnv, hv0]))] at h; exact absurd h.1 (by simp))
                clear hq hnv hpre HRES hv0
                go_wp2_with (first | (go_at_call 35; (first | (with_reducible refine (B35 (wq.alloc _) (bel0 wq _) (new47 wq _ _ 0 (by omega)) (new47 wq _ _ 1 (by omega))).mono ?_) | (with_reducible refine (B35 ((wq.alloc _).drewN _) (bel1 wq _ _) (new47 wq _ _ 0 (by omega)) (new47 wq _ _ 1 (by omega))).mono ?_)); rintro e w' ⟨rfl, ⟨x, rfl⟩⟩) | (go_at_call 37; (with_reducible refine (pre_at (((wq.alloc _).drewN _).alloc _) p3 c3 (wq.heap.size + 1) nt (core L) true HNT HPRE (HS3.out.below (bel12 wq _ _ _)) (newMod wq _ _ _ _)).mono ?_); rintro e w' ⟨rfl, rfl⟩) | (go_at_call 36; first | ((with_reducible refine (T1 ((wq.alloc _).drewN _) (bel1 wq _ _)).mono ?_); rintro e w' ⟨p3, c3, rfl, HS3, rfl⟩) | ((with_reducible refine (trim_at (((wq.alloc _).drewN _).alloc _) (adv p3 c3 6) (c3 - 6) nu nv ((core L).drop 6) HNU HNV hul HAU ((HS3.out.below (bel12 wq _ _ _)).drop 6 HSIX.out) (HTq.out.below (bel2 wq _ _ _))).mono ?_); rintro e w' ⟨p4, c4, rfl, HS4, rfl⟩)))
                go_roundg (gk - 1)
                case measure => exact hgk
                case rel => exact ⟨pm, cm, m, R, rfl, hmk, hmn, HM, Lib.hid (HRq.out.below (bel2 wq _ _ _)), HNX, Lib.hid (HBq.out _ (bel2 wq _ _ _))⟩
              · have q2 : ((nv : Int) == 0) = false := by simp [hv0]
                have HP : Hid (Lib.trimSpace ((core L).drop 6) = r ∧ NoQuote r) := Lib.hid (by
                  have h4 := res_o4 hpre (by rw [← hnv, ← HNU.out]; exact hq) (by rw [← hnv]; exact hv0)
                  rcases HRES.out with h | h
                  · rw [h4] at h; exact absurd h.1 (by simp)
                  · rw [h4] at h; exact ⟨Option.some.inj h.1, h.2⟩)
                have hv1 : 0 < nv := by omega
                have hv2 : (0 : Int) < (nv : Int) := by omega
                clear hq hnv hpre HRES hv0
                go_wp2_with (first | (go_at_call 35; (first | (with_reducible refine (B35 (wq.alloc _) (bel0 wq _) (new47 wq _ _ 0 (by omega)) (new47 wq _ _ 1 (by omega))).mono ?_) | (with_reducible refine (B35 ((wq.alloc _).drewN _) (bel1 wq _ _) (new47 wq _ _ 0 (by omega)) (new47 wq _ _ 1 (by omega))).mono ?_)); rintro e w' ⟨rfl, ⟨x, rfl⟩⟩) | (go_at_call 37; (with_reducible refine (pre_at (((wq.alloc _).drewN _).alloc _) p3 c3 (wq.heap.size + 1) nt (core L) true HNT HPRE (HS3.out.below (bel12 wq _ _ _)) (newMod wq _ _ _ _)).mono ?_); rintro e w' ⟨rfl, rfl⟩) | (go_at_call 36; first | ((with_reducible refine (T1 ((wq.alloc _).drewN _) (bel1 wq _ _)).mono ?_); rintro e w' ⟨p3, c3, rfl, HS3, rfl⟩) | (((with_reducible refine (trim_at (((wq.alloc _).drewN _).alloc _) (adv p3 c3 6) (c3 - 6) nu nv ((core L).drop 6) HNU HNV hul HAU ((HS3.out.below (bel12 wq _ _ _)).drop 6 HSIX.out) (HTq.out.below (bel2 wq _ _ _))).mono ?_); rintro e w' ⟨p4, c4, rfl, HS4, rfl⟩); obtain ⟨b4, o4, rfl, x, hx, hx34, hx96⟩ := first_of HS4 HNV HP hv1; have hcv := conv_at _ b4 o4 c4 nv _ HNV HS4 hv1)))
                go_ret
                exact ⟨ret_str HP.out.1, HBq.out _ (bel2 wq _ _ _)⟩
          · have HPRE : Hid (decide (modL <+: core L) = false) := Lib.hid (decide_eq_false hpre)
            have HNX : Hid (Res R r) := Lib.hid (by
              rcases HRES.out with h | h
              · exact h.2
              · rw [res_o1 hpre] at h; exact absurd h.1 (by simp))
            clear hpre HRES
            go_wp2_with (first | (go_at_call 35; (first | (with_reducible refine (B35 (wq.alloc _) (bel0 wq _) (new47 wq _ _ 0 (by omega)) (new47 wq _ _ 1 (by omega))).mono ?_) | (with_reducible refine (B35 ((wq.alloc _).drewN _) (bel1 wq _ _) (new47 wq _ _ 0 (by omega)) (new47 wq _ _ 1 (by omega))).mono ?_)); rintro e w' ⟨rfl, ⟨x, rfl⟩⟩) | (go_at_call 37; (with_reducible refine (pre_at (((wq.alloc _).drewN _).alloc _) p3 c3 (wq.heap.size + 1) nt (core L) false HNT HPRE (HS3.out.below (bel12 wq _ _ _)) (newMod wq _ _ _ _)).mono ?_); rintro e w' ⟨rfl, rfl⟩) | (go_at_call 36; ((with_reducible refine (T1 ((wq.alloc _).drewN _) (bel1 wq _ _)).mono ?_); rintro e w' ⟨p3, c3, rfl, HS3, rfl⟩)))
            go_roundg (gk - 1)
            case measure => exact hgk
            case rel => exact ⟨pm, cm, m, R, rfl, hmk, hmn, HM, Lib.hid (HRq.out.below (bel2 wq _ _ _)), HNX, Lib.hid (HBq.out _ (bel2 wq _ _ _))⟩
        · obtain ⟨na, hna⟩ : ∃ na, na = (cutS L).length := ⟨_, rfl⟩
          have HNA := Lib.hid hna
          have hnal : na ≤ i := by have h1 := cutS_le L; have h3 := HI.out; omega
          have hcl : i ≤ c := by have h1 := HLq.out.cap; have h3 := HI.out; omega
          obtain ⟨pa, hpa⟩ : ∃ pa, pa = adv pl c 0 := ⟨_, rfl⟩
          have sA : SB wq pa c (cutS L) := by
            have := HLq.out.take na (by have h3 := HI.out; omega)
            rw [hna, cutS_take, ← hpa] at this
            exact this
          have HSA := Lib.hid sA
          have hs3 : ∀ W, (Instr.slice 37 (.slice pl i c) none (some (.int .i64 (na : Int))) none).run Tryd.prog W = .ok (.slice pa na c) W := fun W => by rw [slice_to pl i c na (by omega) W, hpa]
          rw [sl_yes hsl, ← hna] at B35
          have d2 : decide ((0 : Int) ≤ (na : Int)) = true := decide_eq_true (by omega)
          have hnaB : na ≤ 9223372036854775800 := by omega
          clear hsl hna hpa sA
          have T1 : ∀ w', Below wq.heap.size wq w' → Calls Tryd.prog 36 #[.slice pa na c] w' fun e w'' => ∃ p' c', e = .returned (.slice p' nt c') ∧ Hid (SB w' p' c' (core L)) ∧ w' = w'' :=
            fun w' hb => trim_at w' pa c na nt (cutS L) HNA HNT hnaB (Lib.hid (ascii_cut HAS.out)) (HSA.out.below hb) (HTq.out.below hb)
          by_cases hpre : modL <+: core L
          · have HPRE : Hid (decide (modL <+: core L) = true) := Lib.hid (decide_eq_true hpre)
            have hsix : 6 ≤ nt := by have := hpre.length_le; have h2 := HNT.out; rw [h2]; exact this
            have HSIX : Hid (6 ≤ (core L).length) := Lib.hid (by have := HNT.out; omega)
            obtain ⟨nu, hnu⟩ : ∃ nu, nu = nt - 6 := ⟨_, rfl⟩
            have HNU : Hid (nu = ((core L).drop 6).length) := Lib.hid (by rw [List.length_drop, ← HNT.out, hnu])
            have hs6 : ∀ p c W, (Instr.slice 37 (.slice p nt c) (some (.int .i64 6)) none none).run Tryd.prog W = .ok (.slice (adv p c 6) nu (c - 6)) W := fun p c W => by
              have := slice_from p nt c 6 hsix W
              rw [hnu]
              exact this
            obtain ⟨nv, hnv⟩ : ∃ nv, nv = (Lib.trimSpace ((core L).drop 6)).length := ⟨_, rfl⟩
            have HNV := Lib.hid hnv
            have hul : nu ≤ 9223372036854775800 := by omega
            have HAU : Hid (Ascii ((core L).drop 6)) := Lib.hid (ascii_drop (ascii_core HAS.out) 6)
            clear hnu
            by_cases hq : nv = nu
            · have q1 : ((nv : Int) == (nu : Int)) = true := by simp [hq]
              have HNX : Hid (Res R r) := Lib.hid (by
                rcases HRES.out with h | h
                · exact h.2
                · rw [res_o23 (Or.inl (by rw [← hnv, ← HNU.out, hq]))] at h; exact absurd h.1 (by simp))
              clear hq hnv hpre HRES
              go_wp2_with (first | (go_at_call 35; (first | (with_reducible refine (B35 (wq.alloc _) (bel0 wq _) (new47 wq _ _ 0 (by omega)) (new47 wq _ _ 1 (by omega))).mono ?_) | (with_reducible refine (B35 ((wq.alloc _).drewN _) (bel1 wq _ _) (new47 wq _ _ 0 (by omega)) (new47 wq _ _ 1 (by omega))).mono ?_)); rintro e w' ⟨rfl, ⟨x, rfl⟩⟩) | (go_at_call 37; (with_reducible refine (pre_at (((wq.alloc _).drewN _).alloc _) p3 c3 (wq.heap.size + 1) nt (core L) true HNT HPRE (HS3.out.below (bel12 wq _ _ _)) (newMod wq _ _ _ _)).mono ?_); rintro e w' ⟨rfl, rfl⟩) | (go_at_call 36; first | ((with_reducible refine (T1 ((wq.alloc _).drewN _) (bel1 wq _ _)).mono ?_); rintro e w' ⟨p3, c3, rfl, HS3, rfl⟩) | ((with_reducible refine (trim_at (((wq.alloc _).drewN _).alloc _) (adv p3 c3 6) (c3 - 6) nu nv ((core L).drop 6) HNU HNV hul HAU ((HS3.out.below (bel12 wq _ _ _)).drop 6 HSIX.out) (HTq.out.below (bel2 wq _ _ _))).mono ?_); rintro e w' ⟨p4, c4, rfl, HS4, rfl⟩)))
              go_roundg (gk - 1)
              case measure => exact hgk
              case rel => exact ⟨pm, cm, m, R, rfl, hmk, hmn, HM, Lib.hid (HRq.out.below (bel2 wq _ _ _)), HNX, Lib.hid (HBq.out _ (bel2 wq _ _ _))⟩
            · have q1 : ((nv : Int) == (nu : Int)) = false := by simp; omega
              by_cases hv0 : nv = 0
              · have q2 : ((nv : Int) == 0) = true := by simp [hv0]
                have HNX : Hid (Res R r) := Lib.hid (by
                  rcases HRES.out with h | h
                  · exact h.2
                  · rw [res_o23 (Or.inr (by rw [← hnv, hv0]))] at h; exact absurd h.1 (by simp))
                clear hq hnv hpre HRES hv0
                go_wp2_with (first | (go_at_call 35; (first | (with_reducible refine (B35 (wq.alloc _) (bel0 wq _) (new47 wq _ _ 0 (by omega)) (new47 wq _ _ 1 (by omega))).mono ?_) | (with_reducible refine (B35 ((wq.alloc _).drewN _) (bel1 wq _ _) (new47 wq _ _ 0 (by omega)) (new47 wq _ _ 1 (by omega))).mono ?_)); rintro e w' ⟨rfl, ⟨x, rfl⟩⟩) | (go_at_call 37; (with_reducible refine (pre_at (((wq.alloc _).drewN _).alloc _) p3 c3 (wq.heap.size + 1) nt (core L) true HNT HPRE (HS3.out.below (bel12 wq _ _ _)) (newMod wq _ _ _ _)).mono ?_); rintro e w' ⟨rfl, rfl⟩) | (go_at_call 36; first | ((with_reducible refine (T1 ((wq.alloc _).drewN _) (bel1 wq _ _)).mono ?_); rintro e w' ⟨p3, c3, rfl, HS3, rfl⟩) | ((with_reducible refine (trim_at (((wq.alloc _).drewN _).alloc _) (adv p3 c3 6) (c3 - 6) nu nv ((core L).drop 6) HNU HNV hul HAU ((HS3.out.below (bel12 wq _ _ _)).drop 6 HSIX.out) (HTq.out.below (bel2 wq _ _ _))).mono ?_); rintro e w' ⟨p4, c4, rfl, HS4, rfl⟩)))
                go_roundg (gk - 1)
                case measure => exact hgk
                case rel => exact ⟨pm, cm, m, R, rfl, hmk, hmn, HM, Lib.hid (HRq.out.below (bel2 wq _ _ _)), HNX, Lib.hid (HBq.out _ (bel2 wq _ _ _))⟩
              · have q2 : ((nv : Int) == 0) = false := by simp [hv0]
                have HP : Hid (Lib.trimSpace ((core L).drop 6) = r ∧ NoQuote r) := Lib.hid (by
                  have h4 := res_o4 hpre (by rw [← hnv, ← HNU.out]; exact hq) (by rw [← hnv]; exact hv0)
                  rcases HRES.out with h | h
                  · rw [h4] at h; exact absurd h.1 (by simp)
                  · rw [h4] at h; exact ⟨Option.some.inj h.1, h.2⟩)
                have hv1 : 0 < nv := by omega
                have hv2 : (0 : Int) < (nv : Int) := by omega
                clear hq hnv hpre HRES hv0
                go_wp2_with (first | (go_at_call 35; (first | (with_reducible refine (B35 (wq.alloc _) (bel0 wq _) (new47 wq _ _ 0 (by omega)) (new47 wq _ _ 1 (by omega))).mono ?_) | (with_reducible refine (B35 ((wq.alloc _).drewN _) (bel1 wq _ _) (new47 wq _ _ 0 (by omega)) (new47 wq _ _ 1 (by omega))).mono ?_)); rintro e w' ⟨rfl, ⟨x, rfl⟩⟩) | (go_at_call 37; (with_reducible refine (pre_at (((wq.alloc _).drewN _).alloc _) p3 c3 (wq.heap.size + 1) nt (core L) true HNT HPRE (HS3.out.below (bel12 wq _ _ _)) (newMod wq _ _ _ _)).mono ?_); rintro e w' ⟨rfl, rfl⟩) | (go_at_call 36; first | ((with_reducible refine (T1 ((wq.alloc _).drewN _) (bel1 wq _ _)).mono ?_); rintro e w' ⟨p3, c3, rfl, HS3, rfl⟩) | (((with_reducible refine (trim_at (((wq.alloc _).drewN _).alloc _) (adv p3 c3 6) (c3 - 6) nu nv ((core L).drop 6) HNU HNV hul HAU ((HS3.out.below (bel12 wq _ _ _)).drop 6 HSIX.out) (HTq.out.below (bel2 wq _ _ _))).mono ?_); rintro e w' ⟨p4, c4, rfl, HS4, rfl⟩); obtain ⟨b4, o4, rfl, x, hx, hx34, hx96⟩ := first_of HS4 HNV HP hv1; have hcv := conv_at _ b4 o4 c4 nv _ HNV HS4 hv1)))
                go_ret
                exact ⟨ret_str HP.out.1, HBq.out _ (bel2 wq _ _ _)⟩
          · have HPRE : Hid (decide (modL <+: core L) = false) := Lib.hid (decide_eq_false hpre)
            have HNX : Hid (Res R r) := Lib.hid (by
              rcases HRES.out with h | h
              · exact h.2
              · rw [res_o1 hpre] at h; exact absurd h.1 (by simp))
            clear hpre HRES
            go_wp2_with (first | (go_at_call 35; (first | (with_reducible refine (B35 (wq.alloc _) (bel0 wq _) (new47 wq _ _ 0 (by omega)) (new47 wq _ _ 1 (by omega))).mono ?_) | (with_reducible refine (B35 ((wq.alloc _).drewN _) (bel1 wq _ _) (new47 wq _ _ 0 (by omega)) (new47 wq _ _ 1 (by omega))).mono ?_)); rintro e w' ⟨rfl, ⟨x, rfl⟩⟩) | (go_at_call 37; (with_reducible refine (pre_at (((wq.alloc _).drewN _).alloc _) p3 c3 (wq.heap.size + 1) nt (core L) false HNT HPRE (HS3.out.below (bel12 wq _ _ _)) (newMod wq _ _ _ _)).mono ?_); rintro e w' ⟨rfl, rfl⟩) | (go_at_call 36; ((with_reducible refine (T1 ((wq.alloc _).drewN _) (bel1 wq _ _)).mono ?_); rintro e w' ⟨p3, c3, rfl, HS3, rfl⟩)))
            go_roundg (gk - 1)
            case measure => exact hgk
            case rel => exact ⟨pm, cm, m, R, rfl, hmk, hmn, HM, Lib.hid (HRq.out.below (bel2 wq _ _ _)), HNX, Lib.hid (HBq.out _ (bel2 wq _ _ _))⟩
      · have H10 := Lib.hid h10
        have HAS := Lib.hid hA
        have HRES : Hid ((lineRes l = none ∧ Res [] r) ∨ (lineRes l = some r ∧ NoQuote r)) := Lib.hid (by
          rcases hres with ⟨h1, h2⟩ | h
          · exact Or.inl ⟨h1, by rw [h2]; exact Res.nil⟩
          · exact Or.inr h)
        have HRs : Hid (SB wr none 0 []) := Lib.hid ⟨Or.inl ⟨rfl, rfl, rfl⟩, Nat.le_refl _, fun h => absurd h (by simp)⟩
        have HM : Hid (0 = ([] : List UInt8).length) := Lib.hid rfl
        have d1 : decide ((0 : Int) ≤ -1) = false := by decide
        have hmk : 0 ≤ gk - 1 := by omega
        have hmn : 0 ≤ 9223372036854775800 := by omega
        have hgk : gk - 1 < gk := by omega
        have HB' := HB
        clear h10 hA hres HR HB
        have B35 : ∀ w', Below wr.heap.size wr w' → w'.cell? ⟨wr.heap.size, 0, none⟩ = some (.int .u8 47) → w'.cell? ⟨wr.heap.size, 1, none⟩ = some (.int .u8 47) → Calls Tryd.prog 35 #[.slice p n c, .slice (some ⟨wr.heap.size, 0, none⟩) 2 2] w' fun e w'' => e = .returned (.int .i64 (sl l 0)) ∧ Drawn0 w' w'' :=
          fun w' hb g0 g1 => two_at w' p c wr.heap.size n l _ HN hn (Lib.hid rfl) (HS.out.below hb) g0 g1
        obtain ⟨nt, hnt⟩ : ∃ nt, nt = (core l).length := ⟨_, rfl⟩
        have HNT := Lib.hid hnt
        have hntl : nt ≤ n := by have h1 := cutS_le l; have h2 := trim_le (cutS l); have h3 := HN.out; unfold core at hnt; omega
        clear hnt
        by_cases hsl : (cutS l).length = l.length
        · have hce : cutS l = l := cutS_all hsl
          rw [sl_no hsl] at B35
          have d2 : decide ((0 : Int) ≤ -1) = false := by decide
          have T1 : ∀ w', Below wr.heap.size wr w' → Calls Tryd.prog 36 #[.slice p n c] w' fun e w'' => ∃ p' c', e = .returned (.slice p' nt c') ∧ Hid (SB w' p' c' (core l)) ∧ w' = w'' := by
            have e0 : core l = Lib.trimSpace l := by unfold core; rw [hce]
            rw [e0]
            exact fun w' hb => trim_at w' p c n nt l HN (Lib.hid (by rw [← e0]; exact HNT.out)) hn HAS (HS.out.below hb) (HT.out.below hb)
          clear hsl hce
          by_cases hpre : modL <+: core l
          · have HPRE : Hid (decide (modL <+: core l) = true) := Lib.hid (decide_eq_true hpre)
            have hsix : 6 ≤ nt := by have := hpre.length_le; have h2 := HNT.out; rw [h2]; exact this
            have HSIX : Hid (6 ≤ (core l).length) := Lib.hid (by have := HNT.out; omega)
            obtain ⟨nu, hnu⟩ : ∃ nu, nu = nt - 6 := ⟨_, rfl⟩
            have HNU : Hid (nu = ((core l).drop 6).length) := Lib.hid (by rw [List.length_drop, ← HNT.out, hnu])
            have hs6 : ∀ p c W, (Instr.slice 37 (.slice p nt c) (some (.int .i64 6)) none none).run Tryd.prog W = .ok (.slice (adv p c 6) nu (c - 6)) W := fun p c W => by
              have := slice_from p nt c 6 hsix W
              rw [hnu]
              exact this
            obtain ⟨nv, hnv⟩ : ∃ nv, nv = (Lib.trimSpace ((core l).drop 6)).length := ⟨_, rfl⟩
            have HNV := Lib.hid hnv
            have hul : nu ≤ 9223372036854775800 := by omega
            have HAU : Hid (Ascii ((core l).drop 6)) := Lib.hid (ascii_drop (ascii_core HAS.out) 6)
            clear hnu
            by_cases hq : nv = nu
            · have q1 : ((nv : Int) == (nu : Int)) = true := by simp [hq]
              have HNX : Hid (Res [] r) := Lib.hid (by
                rcases HRES.out with h | h
                · exact h.2
                · rw [res_o23 (Or.inl (by rw [← hnv, ← HNU.out, hq]))] at h; exact absurd h.1 (by simp))
              clear hq hnv hpre HRES
              go_wp2_with (first | (go_at_call 34; (with_reducible refine (idx_no wr p c n l hz HN HS H10).mono ?_); rintro e w' ⟨rfl, rfl⟩) | (go_at_call 35; (first | (with_reducible refine (B35 (wr.alloc _) (bel0 wr _) (new47 wr _ _ 0 (by omega)) (new47 wr _ _ 1 (by omega))).mono ?_) | (with_reducible refine (B35 ((wr.alloc _).drewN _) (bel1 wr _ _) (new47 wr _ _ 0 (by omega)) (new47 wr _ _ 1 (by omega))).mono ?_)); rintro e w' ⟨rfl, ⟨x, rfl⟩⟩) | (go_at_call 37; (with_reducible refine (pre_at (((wr.alloc _).drewN _).alloc _) p3 c3 (wr.heap.size + 1) nt (core l) true HNT HPRE (HS3.out.below (bel12 wr _ _ _)) (newMod wr _ _ _ _)).mono ?_); rintro e w' ⟨rfl, rfl⟩) | (go_at_call 36; first | ((with_reducible refine (T1 ((wr.alloc _).drewN _) (bel1 wr _ _)).mono ?_); rintro e w' ⟨p3, c3, rfl, HS3, rfl⟩) | ((with_reducible refine (trim_at (((wr.alloc _).drewN _).alloc _) (adv p3 c3 6) (c3 - 6) nu nv ((core l).drop 6) HNU HNV hul HAU ((HS3.out.below (bel12 wr _ _ _)).drop 6 HSIX.out) (HT.out.below (bel2 wr _ _ _))).mono ?_); rintro e w' ⟨p4, c4, rfl, HS4, rfl⟩)))
              go_roundg (gk - 1)
              case measure => exact hgk
              case rel => exact ⟨none, 0, 0, [], rfl, hmk, hmn, HM, Lib.hid (HRs.out.below (bel2 wr _ _ _)), HNX, Lib.hid (HBT.out _ (bel2 wr _ _ _))⟩
            · have q1 : ((nv : Int) == (nu : Int)) = false := by simp; omega
              by_cases hv0 : nv = 0
              · have q2 : ((nv : Int) == 0) = true := by simp [hv0]
                have HNX : Hid (Res [] r) := Lib.hid (by
                  rcases HRES.out with h | h
                  · exact h.2
                  · rw [res_o23 (Or.inr (by rw [← hnv, hv0]))] at h; exact absurd h.1 (by simp))
                clear hq hnv hpre HRES hv0
                go_wp2_with (first | (go_at_call 34; (with_reducible refine (idx_no wr p c n l hz HN HS H10).mono ?_); rintro e w' ⟨rfl, rfl⟩) | (go_at_call 35; (first | (with_reducible refine (B35 (wr.alloc _) (bel0 wr _) (new47 wr _ _ 0 (by omega)) (new47 wr _ _ 1 (by omega))).mono ?_) | (with_reducible refine (B35 ((wr.alloc _).drewN _) (bel1 wr _ _) (new47 wr _ _ 0 (by omega)) (new47 wr _ _ 1 (by omega))).mono ?_)); rintro e w' ⟨rfl, ⟨x, rfl⟩⟩) | (go_at_call 37; (with_reducible refine (pre_at (((wr.alloc _).drewN _).alloc _) p3 c3 (wr.heap.size + 1) nt (core l) true HNT HPRE (HS3.out.below (bel12 wr _ _ _)) (newMod wr _ _ _ _)).mono ?_); rintro e w' ⟨rfl, rfl⟩) | (go_at_call 36; first | ((with_reducible refine (T1 ((wr.alloc _).drewN _) (bel1 wr _ _)).mono ?_); rintro e w' ⟨p3, c3, rfl, HS3, rfl⟩) | ((with_reducible refine (trim_at (((wr.alloc _).drewN _).alloc _) (adv p3 c3 6) (c3 - 6) nu nv ((core l).drop 6) HNU HNV hul HAU ((HS3.out.below (bel12 wr _ _ _)).drop 6 HSIX.out) (HT.out.below (bel2 wr _ _ _))).mono ?_); rintro e w' ⟨p4, c4, rfl, HS4, rfl⟩)))
                go_roundg (gk - 1)
                case measure => exact hgk
                case rel => exact ⟨none, 0, 0, [], rfl, hmk, hmn, HM, Lib.hid (HRs.out.below (bel2 wr _ _ _)), HNX, Lib.hid (HBT.out _ (bel2 wr _ _ _))⟩
              · have q2 : ((nv : Int) == 0) = false := by simp [hv0]
                have HP : Hid (Lib.trimSpace ((core l).drop 6) = r ∧ NoQuote r) := Lib.hid (by
                  have h4 := res_o4 hpre (by rw [← hnv, ← HNU.out]; exact hq) (by rw [← hnv]; exact hv0)
                  rcases HRES.out with h | h
                  · rw [h4] at h; exact absurd h.1 (by simp)
                  · rw [h4] at h; exact ⟨Option.some.inj h.1, h.2⟩)
                have hv1 : 0 < nv := by omega
                have hv2 : (0 : Int) < (nv : Int) := by omega
                clear hq hnv hpre HRES hv0
                go_wp2_with (first | (go_at_call 34; (with_reducible refine (idx_no wr p c n l hz HN HS H10).mono ?_); rintro e w' ⟨rfl, rfl⟩) | (go_at_call 35; (first | (with_reducible refine (B35 (wr.alloc _) (bel0 wr _) (new47 wr _ _ 0 (by omega)) (new47 wr _ _ 1 (by omega))).mono ?_) | (with_reducible refine (B35 ((wr.alloc _).drewN _) (bel1 wr _ _) (new47 wr _ _ 0 (by omega)) (new47 wr _ _ 1 (by omega))).mono ?_)); rintro e w' ⟨rfl, ⟨x, rfl⟩⟩) | (go_at_call 37; (with_reducible refine (pre_at (((wr.alloc _).drewN _).alloc _) p3 c3 (wr.heap.size + 1) nt (core l) true HNT HPRE (HS3.out.below (bel12 wr _ _ _)) (newMod wr _ _ _ _)).mono ?_); rintro e w' ⟨rfl, rfl⟩) | (go_at_call 36; first | ((with_reducible refine (T1 ((wr.alloc _).drewN _) (bel1 wr _ _)).mono ?_); rintro e w' ⟨p3, c3, rfl, HS3, rfl⟩) | (((with_reducible refine (trim_at (((wr.alloc _).drewN _).alloc _) (adv p3 c3 6) (c3 - 6) nu nv ((core l).drop 6) HNU HNV hul HAU ((HS3.out.below (bel12 wr _ _ _)).drop 6 HSIX.out) (HT.out.below (bel2 wr _ _ _))).mono ?_); rintro e w' ⟨p4, c4, rfl, HS4, rfl⟩); obtain ⟨b4, o4, rfl, x, hx, hx34, hx96⟩ := first_of HS4 HNV HP hv1; have hcv := conv_at _ b4 o4 c4 nv _ HNV HS4 hv1)))
                go_ret
                exact ⟨ret_str HP.out.1, HBT.out _ (bel2 wr _ _ _)⟩
          · have HPRE : Hid (decide (modL <+: core l) = false) := Lib.hid (decide_eq_false hpre)
            have HNX : Hid (Res [] r) := Lib.hid (by
              rcases HRES.out with h | h
              · exact h.2
              · rw [res_o1 hpre] at h; exact absurd h.1 (by simp))
            clear hpre HRES
            go_wp2_with (first | (go_at_call 34; (with_reducible refine (idx_no wr p c n l hz HN HS H10).mono ?_); rintro e w' ⟨rfl, rfl⟩) | (go_at_call 35; (first | (with_reducible refine (B35 (wr.alloc _) (bel0 wr _) (new47 wr _ _ 0 (by omega)) (new47 wr _ _ 1 (by omega))).mono ?_) | (with_reducible refine (B35 ((wr.alloc _).drewN _) (bel1 wr _ _) (new47 wr _ _ 0 (by omega)) (new47 wr _ _ 1 (by omega))).mono ?_)); rintro e w' ⟨rfl, ⟨x, rfl⟩⟩) | (go_at_call 37; (with_reducible refine (pre_at (((wr.alloc _).drewN _).alloc _) p3 c3 (wr.heap.size + 1) nt (core l) false HNT HPRE (HS3.out.below (bel12 wr _ _ _)) (newMod wr _ _ _ _)).mono ?_); rintro e w' ⟨rfl, rfl⟩) | (go_at_call 36; ((with_reducible refine (T1 ((wr.alloc _).drewN _) (bel1 wr _ _)).mono ?_); rintro e w' ⟨p3, c3, rfl, HS3, rfl⟩)))
            go_roundg (gk - 1)
            case measure => exact hgk
            case rel => exact ⟨none, 0, 0, [], rfl, hmk, hmn, HM, Lib.hid (HRs.out.below (bel2 wr _ _ _)), HNX, Lib.hid (HBT.out _ (bel2 wr _ _ _))⟩
        · obtain ⟨na, hna⟩ : ∃ na, na = (cutS l).length := ⟨_, rfl⟩
          have HNA := Lib.hid hna
          have hnal : na ≤ n := by have h1 := cutS_le l; have h3 := HN.out; omega
          have hcl : n ≤ c := by have h1 := HS.out.cap; have h3 := HN.out; omega
          obtain ⟨pa, hpa⟩ : ∃ pa, pa = adv p c 0 := ⟨_, rfl⟩
          have sA : SB wr pa c (cutS l) := by
            have := HS.out.take na (by have h3 := HN.out; omega)
            rw [hna, cutS_take, ← hpa] at this
            exact this
          have HSA := Lib.hid sA
          have hs3 : ∀ W, (Instr.slice 37 (.slice p n c) none (some (.int .i64 (na : Int))) none).run Tryd.prog W = .ok (.slice pa na c) W := fun W => by rw [slice_to p n c na (by omega) W, hpa]
          rw [sl_yes hsl, ← hna] at B35
          have d2 : decide ((0 : Int) ≤ (na : Int)) = true := decide_eq_true (by omega)
          have hnaB : na ≤ 9223372036854775800 := by omega
          clear hsl hna hpa sA
          have T1 : ∀ w', Below wr.heap.size wr w' → Calls Tryd.prog 36 #[.slice pa na c] w' fun e w'' => ∃ p' c', e = .returned (.slice p' nt c') ∧ Hid (SB w' p' c' (core l)) ∧ w' = w'' :=
            fun w' hb => trim_at w' pa c na nt (cutS l) HNA HNT hnaB (Lib.hid (ascii_cut HAS.out)) (HSA.out.below hb) (HT.out.below hb)
          by_cases hpre : modL <+: core l
          · have HPRE : Hid (decide (modL <+: core l) = true) := Lib.hid (decide_eq_true hpre)
            have hsix : 6 ≤ nt := by have := hpre.length_le; have h2 := HNT.out; rw [h2]; exact this
            have HSIX : Hid (6 ≤ (core l).length) := Lib.hid (by have := HNT.out; omega)
            obtain ⟨nu, hnu⟩ : ∃ nu, nu = nt - 6 := ⟨_, rfl⟩
            have HNU : Hid (nu = ((core l).drop 6).length) := Lib.hid (by rw [List.length_drop, ← HNT.out, hnu])
            have hs6 : ∀ p c W, (Instr.slice 37 (.slice p nt c) (some (.int .i64 6)) none none).run Tryd.prog W = .ok (.slice (adv p c 6) nu (c - 6)) W := fun p c W => by
              have := slice_from p nt c 6 hsix W
              rw [hnu]
              exact this
            obtain ⟨nv, hnv⟩ : ∃ nv, nv = (Lib.trimSpace ((core l).drop 6)).length := ⟨_, rfl⟩
            have HNV := Lib.hid hnv
            have hul : nu ≤ 9223372036854775800 := by omega
            have HAU : Hid (Ascii ((core l).drop 6)) := Lib.hid (ascii_drop (ascii_core HAS.out) 6)
            clear hnu
            by_cases hq : nv = nu
            · have q1 : ((nv : Int) == (nu : Int)) = true := by simp [hq]
              have HNX : Hid (Res [] r) := Lib.hid (by
                rcases HRES.out with h | h
                · exact h.2
                · rw [res_o23 (Or.inl (by rw [← hnv, ← HNU.out, hq]))] at h; exact absurd h.1 (by simp))
              clear hq hnv hpre HRES
              go_wp2_with (first | (go_at_call 34; (with_reducible refine (idx_no wr p c n l hz HN HS H10).mono ?_); rintro e w' ⟨rfl, rfl⟩) | (go_at_call 35; (first | (with_reducible refine (B35 (wr.alloc _) (bel0 wr _) (new47 wr _ _ 0 (by omega)) (new47 wr _ _ 1 (by omega))).mono ?_) | (with_reducible refine (B35 ((wr.alloc _).drewN _) (bel1 wr _ _) (new47 wr _ _ 0 (by omega)) (new47 wr _ _ 1 (by omega))).mono ?_)); rintro e w' ⟨rfl, ⟨x, rfl⟩⟩) | (go_at_call 37; (with_reducible refine (pre_at (((wr.alloc _).drewN _).alloc _) p3 c3 (wr.heap.size + 1) nt (core l) true HNT HPRE (HS3.out.below (bel12 wr _ _ _)) (newMod wr _ _ _ _)).mono ?_); rintro e w' ⟨rfl, rfl⟩) | (go_at_call 36; first | ((with_reducible refine (T1 ((wr.alloc _).drewN _) (bel1 wr _ _)).mono ?_); rintro e w' ⟨p3, c3, rfl, HS3, rfl⟩) | ((with_reducible refine (trim_at (((wr.alloc _).drewN _).alloc _) (adv p3 c3 6) (c3 - 6) nu nv ((core l).drop 6) HNU HNV hul HAU ((HS3.out.below (bel12 wr _ _ _)).drop 6 HSIX.out) (HT.out.below (bel2 wr _ _ _))).mono ?_); rintro e w' ⟨p4, c4, rfl, HS4, rfl⟩)))
              go_roundg (gk - 1)
              case measure => exact hgk
              case rel => exact ⟨none, 0, 0, [], rfl, hmk, hmn, HM, Lib.hid (HRs.out.below (bel2 wr _ _ _)), HNX, Lib.hid (HBT.out _ (bel2 wr _ _ _))⟩
            · have q1 : ((nv : Int) == (nu : Int)) = false := by simp; omega
              by_cases hv0 : nv = 0
              · have q2 : ((nv : Int) == 0) = true := by simp [hv0]
                have HNX : Hid (Res [] r) := Lib.hid (by
                  rcases HRES.out with h | h
                  · exact h.2
                  · rw [res_o23 (Or.inr (by rw [← hnv, hv0]))] at h; exact absurd h.1 (by simp))
                clear hq hnv hpre HRES hv0
                go_wp2_with (first | (go_at_call 34; (with_reducible refine (idx_no wr p c n l hz HN HS H10).mono ?_); rintro e w' ⟨rfl, rfl⟩) | (go_at_call 35; (first | (with_reducible refine (B35 (wr.alloc _) (bel0 wr _) (new47 wr _ _ 0 (by omega)) (new47 wr _ _ 1 (by omega))).mono ?_) | (with_reducible refine (B35 ((wr.alloc _).drewN _) (bel1 wr _ _) (new47 wr _ _ 0 (by omega)) (new47 wr _ _ 1 (by omega))).mono ?_)); rintro e w' ⟨rfl, ⟨x, rfl⟩⟩) | (go_at_call 37; (with_reducible refine (pre_at (((wr.alloc _).drewN _).alloc _) p3 c3 (wr.heap.size + 1) nt (core l) true HNT HPRE (HS3.out.below (bel12 wr _ _ _)) (newMod wr _ _ _ _)).mono ?_); rintro e w' ⟨rfl, rfl⟩) | (go_at_call 36; first | ((with_reducible refine (T1 ((wr.alloc _).drewN _) (bel1 wr _ _)).mono ?_); rintro e w' ⟨p3, c3, rfl, HS3, rfl⟩) | ((with_reducible refine (trim_at (((wr.alloc _).drewN _).alloc _) (adv p3 c3 6) (c3 - 6) nu nv ((core l).drop 6) HNU HNV hul HAU ((HS3.out.below (bel12 wr _ _ _)).drop 6 HSIX.out) (HT.out.below (bel2 wr _ _ _))).mono ?_); rintro e w' ⟨p4, c4, rfl, HS4, rfl⟩)))
                go_roundg (gk - 1)
                case measure => exact hgk
                case rel => exact ⟨none, 0, 0, [], rfl, hmk, hmn, HM, Lib.hid (HRs.out.below (bel2 wr _ _ _)), HNX, Lib.hid (HBT.out _ (bel2 wr _ _ _))⟩
              · have q2 : ((nv : Int) == 0) = false := by simp [hv0]
                have HP : Hid (Lib.trimSpace ((core l).drop 6) = r ∧ NoQuote r) := Lib.hid (by
                  have h4 := res_o4 hpre (by rw [← hnv, ← HNU.out]; exact hq) (by rw [← hnv]; exact hv0)
                  rcases HRES.out with h | h
                  · rw [h4] at h; exact absurd h.1 (by simp)
                  · rw [h4] at h; exact ⟨Option.some.inj h.1, h.2⟩)
                have hv1 : 0 < nv := by omega
                have hv2 : (0 : Int) < (nv : Int) := by omega
                clear hq hnv hpre HRES hv0
                go_wp2_with (first | (go_at_call 34; (with_reducible refine (idx_no wr p c n l hz HN HS H10).mono ?_); rintro e w' ⟨rfl, rfl⟩) | (go_at_call 35; (first | (with_reducible refine (B35 (wr.alloc _) (bel0 wr _) (new47 wr _ _ 0 (by omega)) (new47 wr _ _ 1 (by omega))).mono ?_) | (with_reducible refine (B35 ((wr.alloc _).drewN _) (bel1 wr _ _) (new47 wr _ _ 0 (by omega)) (new47 wr _ _ 1 (by omega))).mono ?_)); rintro e w' ⟨rfl, ⟨x, rfl⟩⟩) | (go_at_call 37; (with_reducible refine (pre_at (((wr.alloc _).drewN _).alloc _) p3 c3 (wr.heap.size + 1) nt (core l) true HNT HPRE (HS3.out.below (bel12 wr _ _ _)) (newMod wr _ _ _ _)).mono ?_); rintro e w' ⟨rfl, rfl⟩) | (go_at_call 36; first | ((with_reducible refine (T1 ((wr.alloc _).drewN _) (bel1 wr _ _)).mono ?_); rintro e w' ⟨p3, c3, rfl, HS3, rfl⟩) | (((with_reducible refine (trim_at (((wr.alloc _).drewN _).alloc _) (adv p3 c3 6) (c3 - 6) nu nv ((core l).drop 6) HNU HNV hul HAU ((HS3.out.below (bel12 wr _ _ _)).drop 6 HSIX.out) (HT.out.below (bel2 wr _ _ _))).mono ?_); rintro e w' ⟨p4, c4, rfl, HS4, rfl⟩); obtain ⟨b4, o4, rfl, x, hx, hx34, hx96⟩ := first_of HS4 HNV HP hv1; have hcv := conv_at _ b4 o4 c4 nv _ HNV HS4 hv1)))
                go_ret
                exact ⟨ret_str HP.out.1, HBT.out _ (bel2 wr _ _ _)⟩
          · have HPRE : Hid (decide (modL <+: core l) = false) := Lib.hid (decide_eq_false hpre)
            have HNX : Hid (Res [] r) := Lib.hid (by
              rcases HRES.out with h | h
              · exact h.2
              · rw [res_o1 hpre] at h; exact absurd h.1 (by simp))
            clear hpre HRES
            go_wp2_with (first | (go_at_call 34; (with_reducible refine (idx_no wr p c n l hz HN HS H10).mono ?_); rintro e w' ⟨rfl, rfl⟩) | (go_at_call 35; (first | (with_reducible refine (B35 (wr.alloc _) (bel0 wr _) (new47 wr _ _ 0 (by omega)) (new47 wr _ _ 1 (by omega))).mono ?_) | (with_reducible refine (B35 ((wr.alloc _).drewN _) (bel1 wr _ _) (new47 wr _ _ 0 (by omega)) (new47 wr _ _ 1 (by omega))).mono ?_)); rintro e w' ⟨rfl, ⟨x, rfl⟩⟩) | (go_at_call 37; (with_reducible refine (pre_at (((wr.alloc _).drewN _).alloc _) p3 c3 (wr.heap.size + 1) nt (core l) false HNT HPRE (HS3.out.below (bel12 wr _ _ _)) (newMod wr _ _ _ _)).mono ?_); rintro e w' ⟨rfl, rfl⟩) | (go_at_call 36; ((with_reducible refine (T1 ((wr.alloc _).drewN _) (bel1 wr _ _)).mono ?_); rintro e w' ⟨p3, c3, rfl, HS3, rfl⟩)))
            go_roundg (gk - 1)
            case measure => exact hgk
            case rel => exact ⟨none, 0, 0, [], rfl, hmk, hmn, HM, Lib.hid (HRs.out.below (bel2 wr _ _ _)), HNX, Lib.hid (HBT.out _ (bel2 wr _ _ _))⟩
end Go.Proofs.YtlnmchehnhgfnaaDoor.M
