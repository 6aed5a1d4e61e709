/- The printer's file: all statements, written. Conditions: the tree lies in memory below the printer's block. -/
import Derived.Test.YtbifcpokkfiagaaDoorFd4
namespace Go.Proofs.YtbifcpokkfiagaaDoor.F
open Go.RowKit Go.Proofs.YtbifcpokkfiagaaDoorW.PrintWords Go.Proofs.YtbifcpokkfiagaaDoor.PFm
set_option linter.unusedVariables false

/-- A statement that is ok. -/
def StOk : StD → Prop
  | .line d => LnOk d
  | .com bs => bs ≠ [] ∧ (∀ t ∈ bs, Com t.data.toList) ∧ bs.length ≤ 10
  | .blk bs toks ls suf => (∀ t ∈ bs, Com t.data.toList) ∧ bs.length ≤ 10 ∧ toks ≠ [] ∧ (∀ t ∈ toks, Word t.data.toList) ∧ toks.length ≤ 10 ∧ (∀ d ∈ ls, LnOk d) ∧ ls.length ≤ 20 ∧ ∀ s, sufO suf = some s → Com s.data.toList

/-- What a statement is written as. -/
def stB : StD → List UInt8
  | .line d => lnB 0 d ++ [10]
  | .com bs => befB 0 bs
  | .blk bs toks ls suf => bkT bs toks ls ++ sfx (sufO suf) ++ [10]

/-- Statements, with an empty line between. -/
def joinS (xs : List StD) : List UInt8 := (xs.flatMap (fun s => 10 :: stB s)).drop 1
/-- What is written ahead of statement i. -/
def ahead (xs : List StD) (i : Nat) : List UInt8 := joinS (xs.take i) ++ (if 0 < i ∧ i < xs.length then [10] else [])

theorem joinS_step (xs : List StD) (k : Nat) (t : StD) (h : xs[k]? = some t) : joinS (xs.take (k + 1)) = joinS (xs.take k) ++ ((if k = 0 then [] else [10]) ++ stB t) := by
  unfold joinS
  rw [List.take_add_one, h, Option.toList_some, List.flatMap_append]
  by_cases k0 : k = 0
  · subst k0
    simp
  · obtain ⟨x, xs', rfl⟩ : ∃ x xs', xs = x :: xs' := by
      cases xs with
      | nil => simp at h
      | cons x xs' => exact ⟨x, xs', rfl⟩
    obtain ⟨j, rfl⟩ : ∃ j, k = j + 1 := ⟨k - 1, by omega⟩
    simp

theorem ahead_zero (xs : List StD) : ahead xs 0 = [] := by simp [ahead, joinS]
theorem ahead_all (xs : List StD) : ahead xs xs.length = joinS xs := by simp [ahead]
theorem ahead_st (xs : List StD) (k : Nat) (t : StD) (h : xs[k]? = some t) : ahead xs k ++ stB t = joinS (xs.take (k + 1)) := by
  have hlt := (List.getElem?_eq_some_iff.mp h).1
  rw [joinS_step xs k t h]
  unfold ahead
  by_cases k0 : k = 0
  · rw [if_pos k0, if_neg (by omega)]
    simp
  · rw [if_neg k0, if_pos (by omega)]
    simp
theorem ahead_next (xs : List StD) (k : Nat) (t : StD) (h : xs[k]? = some t) (hl : k + 1 < xs.length) : ahead xs (k + 1) = ahead xs k ++ stB t ++ [10] := by
  rw [ahead_st xs k t h]
  unfold ahead
  rw [if_pos (by omega)]
theorem ahead_last (xs : List StD) (k : Nat) (t : StD) (h : xs[k]? = some t) (hl : ¬ (k + 1 < xs.length)) : ahead xs (k + 1) = ahead xs k ++ stB t := by
  rw [ahead_st xs k t h]
  unfold ahead
  rw [if_neg (by omega), List.append_nil]

/-- It ends in a sign and a line end. -/
def EndNl (l : List UInt8) : Prop := ∃ p c, l = p ++ [c, 10] ∧ c ≠ 10

theorem EndNl.app (X : List UInt8) {l : List UInt8} (h : EndNl l) : EndNl (X ++ l) := by
  obtain ⟨p, c, rfl, h1⟩ := h
  exact ⟨X ++ p, c, by simp, h1⟩
theorem endNl_of {l : List UInt8} (h : ∃ p c, l = p ++ [c] ∧ c ≠ 9 ∧ c ≠ 32 ∧ c ≠ 10) : EndNl (l ++ [10]) := by
  obtain ⟨p, c, rfl, -, -, h⟩ := h
  exact ⟨p, c, by simp, h⟩
theorem EndNl.ends {l : List UInt8} (h : EndNl l) : Ends l := Or.inr h

theorem befB_end (bs : List ByteArray) (hne : bs ≠ []) (h : ∀ t ∈ bs, Com t.data.toList) : EndNl (befB 0 bs) := by
  rcases List.eq_nil_or_concat bs with e | ⟨ys, t, e⟩
  · exact absurd e hne
  · have e2 : bs = ys ++ [t] := by rw [e]; simp
    subst e2
    unfold befB
    rw [List.flatMap_append, List.flatMap_singleton]
    exact EndNl.app _ (endNl_of (h t (by simp)).last)

theorem bk_last (bs toks : List ByteArray) (ls : List LnD) {suf : ByteArray} (h : ∀ s, sufO suf = some s → Com s.data.toList) : ∃ p c, bkT bs toks ls ++ sfx (sufO suf) = p ++ [c] ∧ c ≠ 9 ∧ c ≠ 32 ∧ c ≠ 10 := by
  refine sfx_last _ ?_ h
  unfold bkT
  exact ⟨befB 0 bs ++ joinW toks ++ [32, 40] ++ ls.flatMap lnF ++ [10], 41, by simp, by decide, by decide, by decide⟩

theorem stB_end {s : StD} (h : StOk s) : EndNl (stB s) := by
  cases s with
  | line d => exact endNl_of (lnB_last h 0)
  | com bs => exact befB_end bs h.1 h.2.1
  | blk bs toks ls suf => exact endNl_of (bk_last bs toks ls h.2.2.2.2.2.2.2)

theorem bk_len {bs toks : List ByteArray} {ls : List LnD} {suf : ByteArray} (h : StOk (.blk bs toks ls suf)) : (bkT bs toks ls ++ sfx (sufO suf)).length ≤ 690000 := by
  obtain ⟨h1, h2, h3, h4, h5, h6, h7, h8⟩ := h
  have a1 := befB_len 0 bs h1
  have a2 := joinW_len toks h4
  have a3 := lns_len ls h6
  have a4 := sfx_len h8
  have a5 : (2001 + 0) * bs.length ≤ 2001 * 10 := Nat.mul_le_mul (by omega) h2
  unfold bkT
  simp only [List.length_append, List.length_cons, List.length_nil]
  omega

theorem stB_len {s : StD} (h : StOk s) : (stB s).length ≤ 700000 := by
  cases s with
  | line d =>
    have := lnB_len (d := d) h 0 (by omega)
    simp only [stB, List.length_append, List.length_cons, List.length_nil]
    omega
  | com bs =>
    have a1 := befB_len 0 bs h.2.1
    have a5 : (2001 + 0) * bs.length ≤ 2001 * 10 := Nat.mul_le_mul (by omega) h.2.2
    simp only [stB]
    omega
  | blk bs toks ls suf =>
    have := bk_len h
    simp only [stB, List.length_append, List.length_cons, List.length_nil] at this ⊢
    omega

theorem joinS_len (xs : List StD) (h : ∀ s ∈ xs, StOk s) : (joinS xs).length ≤ 700001 * xs.length := by
  have : (xs.flatMap (fun s => (10 : UInt8) :: stB s)).length ≤ 700001 * xs.length := by
    induction xs with
    | nil => simp
    | cons x xs ih =>
      have h1 := stB_len (h x (by simp))
      have h2 := ih (fun t ht => h t (by simp [ht]))
      rw [List.flatMap_cons, List.length_append, List.length_cons, List.length_cons]
      omega
  unfold joinS
  rw [List.length_drop]
  omega

theorem ahead_len (xs : List StD) (h : ∀ s ∈ xs, StOk s) (i : Nat) (hi : i ≤ xs.length) : (ahead xs i).length ≤ 700001 * i + 1 := by
  have h1 := joinS_len (xs.take i) (fun s hs => h s (List.mem_of_mem_take hs))
  rw [List.length_take, Nat.min_eq_left hi] at h1
  unfold ahead
  rw [List.length_append]
  split
  · simp only [List.length_cons, List.length_nil]
    omega
  · simp only [List.length_nil]
    omega

theorem ahead_start (xs : List StD) (i : Nat) (hi : i < xs.length) : Start 0 (ahead xs i) := by
  rcases Nat.eq_zero_or_pos i with rfl | h0
  · rw [ahead_zero]
    exact ⟨[], rfl, Or.inl rfl⟩
  · refine ⟨ahead xs i, by simp, Or.inr ⟨joinS (xs.take i), ?_⟩⟩
    unfold ahead
    rw [if_pos ⟨h0, hi⟩]

/-! ### one statement -/
theorem com_at {W : World} {b : Nat} {l : List UInt8} {w : World} (g : Nat) (bs : List ByteArray) (HL : Hid (ComK W g bs)) (hd : Hid (StOk (.com bs))) (HB : Hid (Below W.heap.size W w)) (h : Hid (PS W.heap.size b l none 0 w)) (hst : Hid (Start 0 l)) (hT : Hid (Tab W))
    (hl : Hid (l.length + 700000 ≤ 140737488000000)) :
    Calls Tryd.prog 34 #[.pointer (some ⟨b, 0, none⟩), .iface 61 (.pointer (some ⟨g, 0, none⟩))] w fun e w' => e = .returned (.tuple #[]) ∧ Hid (PS W.heap.size b (l ++ stB (.com bs)) none 0 w') ∧ Hid (Below W.heap.size w w') := by
  obtain ⟨A0, c0, As, cs, A2, c2, h0, h0', h1, h2⟩ := HL.out
  have h5 := hd.out.2.2
  exact comblock_is g HB h hst hT bs.length (Lib.hid rfl) h0 (Lib.hid h0') (Lib.hid hd.out.2.1) h1 (Lib.hid rfl) (by omega) (Lib.hid (by have := hl.out; omega))

theorem ln0_at {W : World} {b : Nat} {l : List UInt8} {w : World} (g : Nat) (d : LnD) (HL : Hid (LineK W g d)) (hd : Hid (StOk (.line d))) (HB : Hid (Below W.heap.size W w)) (h : Hid (PS W.heap.size b l none 0 w)) (hst : Hid (Start 0 l)) (hT : Hid (Tab W))
    (hl : Hid (l.length + 700000 ≤ 140737488000000)) :
    Calls Tryd.prog 34 #[.pointer (some ⟨b, 0, none⟩), .iface 74 (.pointer (some ⟨g, 0, none⟩))] w fun e w' => e = .returned (.tuple #[]) ∧ Hid (PT W.heap.size b (l ++ lnB 0 d) 0 w') ∧ Hid (Below W.heap.size w w') := by
  refine (line_at g d HL hd HB h hst hT (by omega) (Lib.hid (by have := hl.out; omega))).mono ?_
  rintro e w' ⟨rfl, hp, hb⟩
  exact ⟨rfl, Lib.hid (PT.mk hp.out (by simp [lnB]) hd.out.suf), hb⟩

theorem blk_at {W : World} {b : Nat} {l : List UInt8} {w : World} (g : Nat) (bs toks : List ByteArray) (ls : List LnD) (suf : ByteArray) (HL : Hid (BlkK W g bs toks ls suf)) (hd : Hid (StOk (.blk bs toks ls suf))) (HB : Hid (Below W.heap.size W w)) (h : Hid (PS W.heap.size b l none 0 w)) (hst : Hid (Start 0 l)) (hT : Hid (Tab W))
    (hl : Hid (l.length + 700000 ≤ 140737488000000)) :
    Calls Tryd.prog 34 #[.pointer (some ⟨b, 0, none⟩), .iface 67 (.pointer (some ⟨g, 0, none⟩))] w fun e w' => e = .returned (.tuple #[]) ∧ Hid (PT W.heap.size b (l ++ (bkT bs toks ls ++ sfx (sufO suf))) 0 w') ∧ Hid (Below W.heap.size w w') := by
  obtain ⟨A0, c0, As, cs, A2, c2, At, ct, Al, cl, Ab, cb, Ar, cr, h0, h0', h1, h2, h6, h7, h12, h12', h13, h13', h14, h15, h15'⟩ := HL.out
  obtain ⟨k1, k2, k3, k4, k5, k6, k7, k8⟩ := hd.out
  refine (block_is g HB h hst hT bs.length (Lib.hid rfl) h0 (Lib.hid h0') (Lib.hid k1) h1 (Lib.hid rfl) h6 h7 toks.length (Lib.hid rfl) h12 (Lib.hid h12') (Lib.hid k4) ls.length (Lib.hid rfl) h13 (Lib.hid h13') (Lib.hid k6) h14 h15 (Lib.hid (suf_of cr h15')) (by omega) (Lib.hid rfl) (Lib.hid (by have := hl.out; omega))).mono ?_
  rintro e w' ⟨rfl, hp, hb⟩
  exact ⟨rfl, Lib.hid (PT.mk hp.out (by simp) k8), hb⟩

theorem ex_at {W : World} {A : Option Addr} {n : Nat} {ss : List StD} (h : kEx.C W A n ss) (i : Nat) (hi : i < n) (s : StD) (hs : ss[i]? = some s) : ∃ ad g, A = some ad ∧ W.cell? (ad.add i) = some (.iface (stT s) (ptrV g)) ∧ StK W g s := by
  obtain ⟨ad, c, e, hc, hK, hcell⟩ := Kd.C_get h s (i : Int) (by omega) (by omega)
  rw [Int.toNat_natCast, List.getD_eq_getElem?_getD, hs] at hK
  obtain ⟨g, rfl, hg⟩ := hK
  refine ⟨ad, g, e, ?_, hg⟩
  have h2 := hcell 0 _ rfl
  rw [Int.toNat_natCast] at h2
  have h3 : i * kEx.sz + 0 = i := by show i * 1 + 0 = i; omega
  rw [h3] at h2
  exact h2

theorem after_of {W : World} {g : Nat} {s : StD} (h : StK W g s) : ∃ A2 c2, W.cell? ⟨g, 2, none⟩ = some (.slice A2 0 c2) := by
  cases s with
  | line d =>
    obtain ⟨A0, c0, As, cs, A2, c2, At, ct, h0, h0', h1, h1', h2, h6, h6'⟩ := h
    exact ⟨A2, c2, h2⟩
  | com bs =>
    obtain ⟨A0, c0, As, cs, A2, c2, h0, h0', h1, h2⟩ := h
    exact ⟨A2, c2, h2⟩
  | blk bs toks ls suf =>
    obtain ⟨A0, c0, As, cs, A2, c2, At, ct, Al, cl, Ab, cb, Ar, cr, h0, h0', h1, h2, r⟩ := h
    exact ⟨A2, c2, h2⟩

set_option maxRecDepth 100000 in
set_option maxHeartbeats 8000000 in
theorem file_is {W : World} {b : Nat} {A1 As : Option Addr} {c1 cs : Nat} {ss : List StD} {w : World} (g : Nat) (HB : Hid (Below W.heap.size W w)) (h : Hid (PS W.heap.size b [] none 0 w)) (hT : Hid (Tab W))
    (hg1 : W.cell? ⟨g, 1, none⟩ = some (.slice A1 0 c1)) (n : Nat) (hn : Hid (n = ss.length)) (hg4 : W.cell? ⟨g, 4, none⟩ = some (.slice As n cs)) (HC : Hid (kEx.C W As n ss)) (hss : Hid (∀ s ∈ ss, StOk s)) (hn50 : n ≤ 50) :
    Calls Tryd.prog 23 #[.pointer (some ⟨b, 0, none⟩), .pointer (some ⟨g, 0, none⟩)] w fun e w' => e = .returned (.tuple #[]) ∧ Hid (PS W.heap.size b (joinS ss) none 0 w') ∧ Hid (Below W.heap.size w w') := by
  have hw1 : w.cell? ⟨g, 1, none⟩ = some (.slice A1 0 c1) := cell_up HB.out hg1
  have hw4 : w.cell? ⟨g, 4, none⟩ = some (.slice As n cs) := cell_up HB.out hg4
  go_enter Tryd.func23, Tryd.ntmps23
  go_wp2
  go_loop [18] (fun v => v = .int .i64 0) (fun v => 0)
  case atStart => exact rfl
  case round =>
    subst hrel
    go_wp2
    clear hw1 hw4
    go_loopg [37] n (fun kq v37 w' => ∃ i : Nat, v37 = .int .i64 (i : Int) ∧ i ≤ n ∧ n ≤ kq + i ∧ Hid (PS W.heap.size b (ahead ss i) none 0 w') ∧ Hid (Below W.heap.size w w'))
    case atStart => exact ⟨0, rfl, by omega, by omega, Lib.hid (by rw [ahead_zero]; exact h.out), Lib.hid (Below.refl _ _)⟩
    case round =>
      clear h
      obtain ⟨i, rfl, hi, hq, HPSr, hbw⟩ := hrel
      have HBr := Lib.hid (HB.out.trans hbw.out)
      by_cases hlt : i < n
      · have b1 : decide ((i : Int) < (n : Int)) = true := decide_eq_true (by omega)
        have hil : i < ss.length := by have := hn.out; omega
        obtain ⟨s, hs⟩ : ∃ s, ss[i]? = some s := ⟨_, List.getElem?_eq_getElem hil⟩
        obtain ⟨ad, g2, rfl, hcell, hK⟩ := ex_at HC.out i hlt s hs
        have HD := Lib.hid (hss.out s (List.mem_of_getElem? hs))
        obtain ⟨A2, c2, hA2⟩ := after_of hK
        have HSTr := Lib.hid (ahead_start ss i hil)
        have HLr : Hid ((ahead ss i).length + 700000 ≤ 140737488000000) := Lib.hid (by
          have := ahead_len ss hss.out i (by omega)
          omega)
        have hcell0 := hcell
        cases s with
        | line d =>
          clear hcell0
          have HLK : Hid (LineK W g2 d) := Lib.hid hK
          have hcell' : wr.cell? (ad.add i) = some (.iface 74 (.pointer (some ⟨g2, 0, none⟩))) := cell_upA HBr.out hcell
          have HE2 : Hid (Ends (ahead ss i ++ stB (.line d))) := Lib.hid (EndNl.app _ (stB_end HD.out)).ends
          have HN2 : Hid ((ahead ss i ++ stB (.line d)).length + 0 ≤ 140737488355000) := Lib.hid (by
            have h1 := stB_len HD.out
            have h2 := HLr.out
            rw [List.length_append]
            omega)
          have HE1 : Hid (Ends (ahead ss i ++ lnB 0 d)) := Lib.hid (Ends.app _ (lnB_last HD.out 0))
          have HN1 : Hid ((ahead ss i ++ lnB 0 d).length + 0 ≤ 140737488355000) := Lib.hid (by
            have h1 := stB_len HD.out
            have h2 := HLr.out
            simp only [stB, List.length_append, List.length_cons, List.length_nil] at h1 h2 ⊢
            omega)
          have HQ1 : Hid (ahead ss i ++ lnB 0 d ++ 10 :: List.replicate 0 9 = ahead ss i ++ stB (.line d)) := Lib.hid (by simp [stB])
          clear hK hcell
          by_cases hlast : i + 1 < n
          · have HQ2 : Hid (ahead ss i ++ stB (.line d) ++ 10 :: List.replicate 0 9 = ahead ss (i + 1)) := Lib.hid (by rw [ahead_next ss i _ hs (by have := hn.out; omega)]; rfl)
            have b2 : decide ((i : Int) + 1 < (n : Int)) = true := decide_eq_true (by omega)
            have hm9 := com74 g2 0
            have ht61 := ta74_61
            go_wp2_with (first | (go_at_call 34; (with_reducible refine (ln0_at g2 d HLK HD HBr HPSr HSTr hT HLr).mono ?_); rintro e w5 ⟨rfl, hp5, hb5⟩; have hbV := Lib.hid (HBr.out.trans hb5.out)) | (go_at_call 33; (with_reducible refine (newline_pt hbV hp5 hT HE1 HN1).mono ?_); rintro e w6 ⟨rfl, hp6, hk6⟩; have hp7 : Hid (PS W.heap.size b (ahead ss i ++ stB (.line d)) none 0 w6) := Lib.hid (by have := hp6.out; rwa [HQ1.out] at this); have hb7 : Hid (Below W.heap.size _ w6) := Lib.hid (hb5.out.trans hk6.out.1); have hbW := Lib.hid (HBr.out.trans hb7.out); have hA7 := cell_up hbW.out hA2; have hS7 := cell_up hbW.out hg4; clear hp6 hk6) | (go_at_call 75; (with_reducible refine (comment_is _ _ _).mono ?_); rintro e w' ⟨rfl, rfl⟩))
            go_loop [61] (fun v => v = .int .i64 0) (fun v => 0)
            case atStart => exact rfl
            case round =>
              subst hrel
              go_wp2_with (first | (go_at_call 33; (with_reducible refine (newline_pt hbW (Lib.hid (PT.mk hp7.out (List.append_nil _) (fun s h => by simp at h))) hT HE2 HN2).mono ?_); rintro e w9 ⟨rfl, hp9, hk9⟩))
              go_roundg (gk - 1)
              case measure => omega
              case rel => exact ⟨i + 1, by go_num, by omega, by omega, Lib.hid (by have := hp9.out; rwa [HQ2.out] at this), Lib.hid (hbw.out.trans (hb7.out.trans hk9.out.1))⟩
          · have HQ2 : Hid (ahead ss (i + 1) = ahead ss i ++ stB (.line d)) := Lib.hid (ahead_last ss i _ hs (by have := hn.out; omega))
            have b2 : decide ((i : Int) + 1 < (n : Int)) = false := decide_eq_false (by omega)
            have hm9 := com74 g2 0
            have ht61 := ta74_61
            go_wp2_with (first | (go_at_call 34; (with_reducible refine (ln0_at g2 d HLK HD HBr HPSr HSTr hT HLr).mono ?_); rintro e w5 ⟨rfl, hp5, hb5⟩; have hbV := Lib.hid (HBr.out.trans hb5.out)) | (go_at_call 33; (with_reducible refine (newline_pt hbV hp5 hT HE1 HN1).mono ?_); rintro e w6 ⟨rfl, hp6, hk6⟩; have hp7 : Hid (PS W.heap.size b (ahead ss i ++ stB (.line d)) none 0 w6) := Lib.hid (by have := hp6.out; rwa [HQ1.out] at this); have hb7 : Hid (Below W.heap.size _ w6) := Lib.hid (hb5.out.trans hk6.out.1); have hbW := Lib.hid (HBr.out.trans hb7.out); have hA7 := cell_up hbW.out hA2; have hS7 := cell_up hbW.out hg4; clear hp6 hk6) | (go_at_call 75; (with_reducible refine (comment_is _ _ _).mono ?_); rintro e w' ⟨rfl, rfl⟩))
            go_loop [61] (fun v => v = .int .i64 0) (fun v => 0)
            case atStart => exact rfl
            case round =>
              subst hrel
              go_wp2
              go_roundg (gk - 1)
              case measure => omega
              case rel => exact ⟨i + 1, by go_num, by omega, by omega, Lib.hid (by rw [HQ2.out]; exact hp7.out), Lib.hid (hbw.out.trans hb7.out)⟩
        | com bs =>
          clear hcell0
          have HLK : Hid (ComK W g2 bs) := Lib.hid hK
          have hcell' : wr.cell? (ad.add i) = some (.iface 61 (.pointer (some ⟨g2, 0, none⟩))) := cell_upA HBr.out hcell
          have HE2 : Hid (Ends (ahead ss i ++ stB (.com bs))) := Lib.hid (EndNl.app _ (stB_end HD.out)).ends
          have HN2 : Hid ((ahead ss i ++ stB (.com bs)).length + 0 ≤ 140737488355000) := Lib.hid (by
            have h1 := stB_len HD.out
            have h2 := HLr.out
            rw [List.length_append]
            omega)
          clear hK hcell
          by_cases hlast : i + 1 < n
          · have HQ2 : Hid (ahead ss i ++ stB (.com bs) ++ 10 :: List.replicate 0 9 = ahead ss (i + 1)) := Lib.hid (by rw [ahead_next ss i _ hs (by have := hn.out; omega)]; rfl)
            have b2 : decide ((i : Int) + 1 < (n : Int)) = true := decide_eq_true (by omega)
            have hm9 := com61 g2 0
            have ht61 := ta61_61
            go_wp2_with (first | (go_at_call 34; (with_reducible refine (com_at g2 bs HLK HD HBr HPSr HSTr hT HLr).mono ?_); rintro e w5 ⟨rfl, hp7, hb7⟩; have hbW := Lib.hid (HBr.out.trans hb7.out); have hA7 := cell_up hbW.out hA2; have hS7 := cell_up hbW.out hg4) | (go_at_call 75; (with_reducible refine (comment_is _ _ _).mono ?_); rintro e w' ⟨rfl, rfl⟩))
            go_loop [61] (fun v => v = .int .i64 0) (fun v => 0)
            case atStart => exact rfl
            case round =>
              subst hrel
              go_wp2_with (first | (go_at_call 33; (with_reducible refine (newline_pt hbW (Lib.hid (PT.mk hp7.out (List.append_nil _) (fun s h => by simp at h))) hT HE2 HN2).mono ?_); rintro e w9 ⟨rfl, hp9, hk9⟩))
              go_roundg (gk - 1)
              case measure => omega
              case rel => exact ⟨i + 1, by go_num, by omega, by omega, Lib.hid (by have := hp9.out; rwa [HQ2.out] at this), Lib.hid (hbw.out.trans (hb7.out.trans hk9.out.1))⟩
          · have HQ2 : Hid (ahead ss (i + 1) = ahead ss i ++ stB (.com bs)) := Lib.hid (ahead_last ss i _ hs (by have := hn.out; omega))
            have b2 : decide ((i : Int) + 1 < (n : Int)) = false := decide_eq_false (by omega)
            have hm9 := com61 g2 0
            have ht61 := ta61_61
            go_wp2_with (first | (go_at_call 34; (with_reducible refine (com_at g2 bs HLK HD HBr HPSr HSTr hT HLr).mono ?_); rintro e w5 ⟨rfl, hp7, hb7⟩; have hbW := Lib.hid (HBr.out.trans hb7.out); have hA7 := cell_up hbW.out hA2; have hS7 := cell_up hbW.out hg4) | (go_at_call 75; (with_reducible refine (comment_is _ _ _).mono ?_); rintro e w' ⟨rfl, rfl⟩))
            go_loop [61] (fun v => v = .int .i64 0) (fun v => 0)
            case atStart => exact rfl
            case round =>
              subst hrel
              go_wp2
              go_roundg (gk - 1)
              case measure => omega
              case rel => exact ⟨i + 1, by go_num, by omega, by omega, Lib.hid (by rw [HQ2.out]; exact hp7.out), Lib.hid (hbw.out.trans hb7.out)⟩
        | blk bs toks ls suf =>
          clear hcell0
          have HLK : Hid (BlkK W g2 bs toks ls suf) := Lib.hid hK
          have hcell' : wr.cell? (ad.add i) = some (.iface 67 (.pointer (some ⟨g2, 0, none⟩))) := cell_upA HBr.out hcell
          have HE2 : Hid (Ends (ahead ss i ++ stB (.blk bs toks ls suf))) := Lib.hid (EndNl.app _ (stB_end HD.out)).ends
          have HN2 : Hid ((ahead ss i ++ stB (.blk bs toks ls suf)).length + 0 ≤ 140737488355000) := Lib.hid (by
            have h1 := stB_len HD.out
            have h2 := HLr.out
            rw [List.length_append]
            omega)
          have HE1 : Hid (Ends (ahead ss i ++ (bkT bs toks ls ++ sfx (sufO suf)))) := Lib.hid (Ends.app _ (bk_last bs toks ls HD.out.2.2.2.2.2.2.2))
          have HN1 : Hid ((ahead ss i ++ (bkT bs toks ls ++ sfx (sufO suf))).length + 0 ≤ 140737488355000) := Lib.hid (by
            have h1 := stB_len HD.out
            have h2 := HLr.out
            simp only [stB, List.length_append, List.length_cons, List.length_nil] at h1 h2 ⊢
            omega)
          have HQ1 : Hid (ahead ss i ++ (bkT bs toks ls ++ sfx (sufO suf)) ++ 10 :: List.replicate 0 9 = ahead ss i ++ stB (.blk bs toks ls suf)) := Lib.hid (by simp [stB])
          clear hK hcell
          by_cases hlast : i + 1 < n
          · have HQ2 : Hid (ahead ss i ++ stB (.blk bs toks ls suf) ++ 10 :: List.replicate 0 9 = ahead ss (i + 1)) := Lib.hid (by rw [ahead_next ss i _ hs (by have := hn.out; omega)]; rfl)
            have b2 : decide ((i : Int) + 1 < (n : Int)) = true := decide_eq_true (by omega)
            have hm9 := com67 g2 0
            have ht61 := ta67_61
            go_wp2_with (first | (go_at_call 34; (with_reducible refine (blk_at g2 bs toks ls suf HLK HD HBr HPSr HSTr hT HLr).mono ?_); rintro e w5 ⟨rfl, hp5, hb5⟩; have hbV := Lib.hid (HBr.out.trans hb5.out)) | (go_at_call 33; (with_reducible refine (newline_pt hbV hp5 hT HE1 HN1).mono ?_); rintro e w6 ⟨rfl, hp6, hk6⟩; have hp7 : Hid (PS W.heap.size b (ahead ss i ++ stB (.blk bs toks ls suf)) none 0 w6) := Lib.hid (by have := hp6.out; rwa [HQ1.out] at this); have hb7 : Hid (Below W.heap.size _ w6) := Lib.hid (hb5.out.trans hk6.out.1); have hbW := Lib.hid (HBr.out.trans hb7.out); have hA7 := cell_up hbW.out hA2; have hS7 := cell_up hbW.out hg4; clear hp6 hk6) | (go_at_call 75; (with_reducible refine (comment_is _ _ _).mono ?_); rintro e w' ⟨rfl, rfl⟩))
            go_loop [61] (fun v => v = .int .i64 0) (fun v => 0)
            case atStart => exact rfl
            case round =>
              subst hrel
              go_wp2_with (first | (go_at_call 33; (with_reducible refine (newline_pt hbW (Lib.hid (PT.mk hp7.out (List.append_nil _) (fun s h => by simp at h))) hT HE2 HN2).mono ?_); rintro e w9 ⟨rfl, hp9, hk9⟩))
              go_roundg (gk - 1)
              case measure => omega
              case rel => exact ⟨i + 1, by go_num, by omega, by omega, Lib.hid (by have := hp9.out; rwa [HQ2.out] at this), Lib.hid (hbw.out.trans (hb7.out.trans hk9.out.1))⟩
          · have HQ2 : Hid (ahead ss (i + 1) = ahead ss i ++ stB (.blk bs toks ls suf)) := Lib.hid (ahead_last ss i _ hs (by have := hn.out; omega))
            have b2 : decide ((i : Int) + 1 < (n : Int)) = false := decide_eq_false (by omega)
            have hm9 := com67 g2 0
            have ht61 := ta67_61
            go_wp2_with (first | (go_at_call 34; (with_reducible refine (blk_at g2 bs toks ls suf HLK HD HBr HPSr HSTr hT HLr).mono ?_); rintro e w5 ⟨rfl, hp5, hb5⟩; have hbV := Lib.hid (HBr.out.trans hb5.out)) | (go_at_call 33; (with_reducible refine (newline_pt hbV hp5 hT HE1 HN1).mono ?_); rintro e w6 ⟨rfl, hp6, hk6⟩; have hp7 : Hid (PS W.heap.size b (ahead ss i ++ stB (.blk bs toks ls suf)) none 0 w6) := Lib.hid (by have := hp6.out; rwa [HQ1.out] at this); have hb7 : Hid (Below W.heap.size _ w6) := Lib.hid (hb5.out.trans hk6.out.1); have hbW := Lib.hid (HBr.out.trans hb7.out); have hA7 := cell_up hbW.out hA2; have hS7 := cell_up hbW.out hg4; clear hp6 hk6) | (go_at_call 75; (with_reducible refine (comment_is _ _ _).mono ?_); rintro e w' ⟨rfl, rfl⟩))
            go_loop [61] (fun v => v = .int .i64 0) (fun v => 0)
            case atStart => exact rfl
            case round =>
              subst hrel
              go_wp2
              go_roundg (gk - 1)
              case measure => omega
              case rel => exact ⟨i + 1, by go_num, by omega, by omega, Lib.hid (by rw [HQ2.out]; exact hp7.out), Lib.hid (hbw.out.trans hb7.out)⟩
      · have b1 : decide ((i : Int) < (n : Int)) = false := decide_eq_false (by omega)
        obtain rfl : i = n := by omega
        go_wp2
        go_end0
        exact ⟨rfl, Lib.hid (by have := HPSr.out; rwa [hn.out, ahead_all] at this), hbw⟩

end Go.Proofs.YtbifcpokkfiagaaDoor.F
