/- The printer's expr at comments alone. Conditions: the tree lies in memory below the printer's block. -/
import Derived.Test.YtbifcpokkfiagaaDoorFd2
namespace Go.Proofs.YtbifcpokkfiagaaDoor.F
open Go.RowKit Go.Proofs.YtbifcpokkfiagaaDoorW.PrintWords Go.Proofs.YtbifcpokkfiagaaDoor.PFm
set_option linter.unusedVariables false

set_option maxRecDepth 100000 in
set_option maxHeartbeats 8000000 in
theorem comblock_is {W : World} {b : Nat} {l : List UInt8} {A0 As : Option Addr} {c0 ks cs m : Nat} {bs : List ByteArray} {w : World} (g : Nat) (HB : Hid (Below W.heap.size W w)) (h : Hid (PS W.heap.size b l none m w)) (hst : Hid (Start m l)) (hT : Hid (Tab W))
    (n0 : Nat) (hn0 : Hid (n0 = bs.length)) (hg0 : W.cell? ⟨g, 0, none⟩ = some (.slice A0 n0 c0)) (HB0 : Hid (k79.C W A0 n0 (bs.map cBef))) (hbs : Hid (∀ t ∈ bs, Com t.data.toList))
    (hg1 : W.cell? ⟨g, 1, none⟩ = some (.slice As ks cs)) (hks : Hid (ks = 0))
    (hm : m ≤ 100) (hl : Hid (l.length + 4000 * n0 ≤ 140737488350000)) :
    Calls Tryd.prog 34 #[.pointer (some ⟨b, 0, none⟩), .iface 61 (.pointer (some ⟨g, 0, none⟩))] w fun e w' => e = .returned (.tuple #[]) ∧ Hid (PS W.heap.size b (l ++ befB m bs) none m w') ∧ Hid (Below W.heap.size w w') := by
  have hw0 : w.cell? ⟨g, 0, none⟩ = some (.slice A0 n0 c0) := cell_up HB.out hg0
  have hm61 := com61 g 0
  have hn64 : n0 ≤ 140737488350000 := by have := hl.out; omega
  have HS : Hid (Suf W As ks cs none) := Lib.hid hks.out
  rcases Nat.eq_zero_or_pos n0 with z0 | z0
  · subst z0
    have hbe : bs = [] := List.eq_nil_of_length_eq_zero hn0.out.symm
    subst hbe
    have HPS9 : Hid (PS W.heap.size b (l ++ befB m []) none m w) := Lib.hid (by have := h.out; rwa [show l ++ befB m [] = l from List.append_nil l])
    have hbw : Hid (Below W.heap.size w w) := Lib.hid (Below.refl _ _)
    have HLT := hbw
    clear h
    obtain ⟨cv3, hp3, hq3⟩ := HPS9.out
    have hp1 := Lib.hid hp3
    have hq1 : Hid (Pend W.heap.size cv3 none _) := Lib.hid hq3
    have hk1 := hbw
    clear hp3 hq3 HPS9 HLT
    have ht61 := ta61_61
    have ht101 := ta61_101
    have ht102 := ta61_102
    have ht74 := ta61_74
    have ht67 := ta61_67
    go_enter Tryd.func34, Tryd.ntmps34
    go_wp2_with (first | (go_at_call 75; (with_reducible refine (comment_is _ _ _).mono ?_); rintro e w' ⟨rfl, rfl⟩))
    clear hbw ht61 ht101 ht102 ht74 ht67
    have hq1d : Pend W.heap.size cv3 none w.drew := hq1.out
    have hp1d : PB W.heap.size b (l ++ befB m []) cv3 m w.drew := hp1.out.drewN 1
    have hb1 : Below W.heap.size w w.drew := ⟨hk1.out.os, hk1.out.tape, hk1.out.output, hk1.out.size, hk1.out.block⟩
    obtain ⟨pcv, ncv, ccv, pc', nc', cc', w3, hcvE, hr, hp3, hq3, hb3⟩ := append_com hp1d hq1d (HS.out.up (HB.out.trans hb1)) (Or.inr rfl)
    have e3 : w.drew.cell? ⟨b, 3, none⟩ = some (.slice pcv ncv ccv) := hcvE ▸ hp1d.com
    have e7 : w.drew.cell? ⟨g, 1, none⟩ = some (.slice As ks cs) := cell_up (HB.out.trans hb1) hg1
    have c3 : w3.cell? ⟨b, 3, none⟩ = some (.slice pcv ncv ccv) := hcvE ▸ hp3.com
    have f3 : w3.frozen? ⟨b, 3, none⟩ = false := by
      obtain ⟨_, _, _, _, _, _, _, _, hf, _⟩ := hp3.parts
      exact hf 3
    have HP3 : Hid (PS W.heap.size b (l ++ befB m []) (addO none none) m (w3.setCell ⟨b, 3, none⟩ (.slice pc' nc' cc'))) := Lib.hid ⟨_, hp3.setCom, hq3.set hp3 _⟩
    have HB3 : Hid (Below W.heap.size w (w3.setCell ⟨b, 3, none⟩ (.slice pc' nc' cc'))) := Lib.hid ((hb1.trans hb3).setCell (p := ⟨b, 3, none⟩) hp3.hB _)
    clear hq3 hp3 hb3 hb1 hp1d hq1d hcvE HB hg1 hp1 hq1 hk1 HS
    go_region_law (first | (go_simp; go_at_call 75; (with_reducible refine (comment_is _ _ _).mono ?_); rintro e w' ⟨rfl, rfl⟩) | (with_reducible refine step_append_run rfl (.tmp 150) (.tmp 155) 51 (.slice pcv ncv ccv) (.slice As ks cs) (.slice pc' nc' cc') rfl ?_ ?_ hr ?_; kernel_rfl; kernel_rfl))
    all_goals go_end0
    all_goals exact ⟨rfl, HP3, HB3⟩
  · have b1 : decide ((0 : Int) < (n0 : Int)) = true := decide_eq_true (by omega)
    have b2 : decide (0 < n0) = true := decide_eq_true (by omega)
    obtain ⟨cv, hp, hq⟩ := h.out
    have HP := Lib.hid hp
    have HQ := Lib.hid hq
    obtain ⟨l1, hl1, hend⟩ := hst.out
    have HE1 := Lib.hid hl1
    have HL : Hid (l1.length ≤ l.length) := Lib.hid (by rw [hl1, List.length_append]; omega)
    have HW : Hid (∀ i, l1.length ≤ i → (h : i < l.length) → l[i] = 9 ∨ l[i] = 32) := Lib.hid (by
      intro i h1 h2
      subst hl1
      rw [List.getElem_append_right h1, List.getElem_replicate]
      exact Or.inl rfl)
    have HS1 : Hid (∀ j, j + 1 = l1.length → (h : j < l.length) → l[j] ≠ 9 ∧ l[j] ≠ 32) := Lib.hid (by
      intro j h1 h2
      subst hl1
      rw [List.getElem_append_left (by omega)]
      rcases hend with rfl | ⟨p, rfl⟩
      · simp at h1
      · have : j = p.length := by simpa using h1
        subst this
        simp)
    have HTK1 : Hid (l.take l1.length = l1) := Lib.hid (by rw [hl1, List.take_left])
    have HE10 : Hid (∀ j, j + 1 = l1.length → (h : j < l1.length) → l1[j] = 10) := Lib.hid (by
      intro j h1 h2
      rcases hend with rfl | ⟨p, rfl⟩
      · simp at h1
      · have : j = p.length := by simpa using h1
        subst this
        simp)
    clear hp hq h hl1 hend
    go_enter Tryd.func34, Tryd.ntmps34
    go_wp2_with (first | (go_at_call 75; (with_reducible refine (comment_is _ _ _).mono ?_); rintro e w' ⟨rfl, rfl⟩) | (go_at_call 41; (with_reducible refine (trim_is HP l1.length HL HW HS1).mono ?_); rintro e w1 ⟨rfl, hp1, hk1⟩; rw [HTK1.out] at hp1) | (go_at_call 42; (with_reducible refine (indent_is hp1 HE10).mono ?_); rintro e w2 ⟨rfl, hp2, hk2'⟩; have hk2 := thenOk hk1 hk2'; clear hk2'))
    clear hp1 hk1
    go_loopg [5] m (fun kq v5 w' => ∃ k : Nat, v5 = .int .i64 (k : Int) ∧ k ≤ m ∧ m ≤ kq + k ∧ Hid (PB W.heap.size b (l1 ++ List.replicate k 9) cv m w') ∧ Hid (Ok W.heap.size b w w'))
    case atStart => exact ⟨0, rfl, by omega, by omega, by simpa using hp2, hk2⟩
    case round =>
      clear hp2 hk2
      obtain ⟨k, rfl, hk, hq, hp5, hk5⟩ := hrel
      obtain ⟨p5, c5, lr5, g0, g1, g2, g3, g4, gf, gR, gc⟩ := hp5.out.parts
      clear g0 g1 g2 g3 gf gR gc
      by_cases hlt : k < m
      · have b3 : decide ((k : Int) < (m : Int)) = true := decide_eq_true (by omega)
        have HL2 : Hid ((l1 ++ List.replicate k 9).length + (⟨#[9]⟩ : ByteArray).size ≤ 140737488355328) := Lib.hid (by
          have h1 : (⟨#[9]⟩ : ByteArray).size = 1 := rfl
          have := hl.out
          have h2 := congrArg List.length HE1.out
          rw [List.length_append] at h2
          rw [h1, List.length_append, List.length_replicate]
          omega)
        go_wp2_with (first | (go_at_call 31; (with_reducible refine (write_is hp5 ⟨#[9]⟩ HL2).mono ?_); rintro e w6 ⟨rfl, hp6, hk6⟩))
        go_roundg (gk - 1)
        case measure => omega
        case rel => exact ⟨k + 1, by go_num, by omega, by omega, (by rw [List.replicate_succ', ← List.append_assoc]; exact hp6), thenOk hk5 hk6⟩
      · have b3 : decide ((k : Int) < (m : Int)) = false := decide_eq_false (by omega)
        obtain rfl : k = m := by omega
        rw [← HE1.out] at hp5
        have HPS : Hid (PS W.heap.size b l none k wr) := Lib.hid ⟨cv, hp5.out, HQ.out.ok HP.out hk5.out⟩
        have HBW : Hid (Below W.heap.size w wr) := Lib.hid hk5.out.1
        go_wp2
        clear hp5 hk5 g4
        go_loopg [47] n0 (fun kq v47 w' => ∃ i : Nat, v47 = .int .i64 (i : Int) ∧ i ≤ n0 ∧ n0 ≤ kq + i ∧ Hid (PS W.heap.size b (l ++ befB k (bs.take i)) none k w') ∧ Hid (Below W.heap.size w w'))
        case atStart => exact ⟨0, rfl, by omega, by omega, by simpa [befB] using HPS, HBW⟩
        case round =>
          clear HPS HBW
          obtain ⟨i, rfl, hi, hq2, hps, hbw⟩ := hrel
          by_cases hlt2 : i < n0
          · have b4 : decide ((i : Int) < (n0 : Int)) = true := decide_eq_true (by omega)
            have HC : k79.C wr A0 n0 (bs.map cBef) := Kd.C_below HB0.out (HB.out.trans hbw.out)
            obtain ⟨ad, e, d0, d1, d2, d3, d4⟩ := at_T79 HC (i : Int) (by omega) (by omega)
            have hil : i < bs.length := by have := hn0.out; omega
            obtain ⟨t, htE⟩ : ∃ t, t = bs[i]'hil := ⟨_, rfl⟩
            have hget : bs[i]? = some t := by rw [htE, List.getElem?_eq_getElem hil]
            have hrd : rd_T79 (bs.map cBef) (i : Int) = cBef t := by
              unfold rd_T79
              rw [Int.toNat_natCast, List.getD_eq_getElem?_getD, List.getElem?_map, hget]
              rfl
            rw [hrd, Int.toNat_natCast] at d0 d1 d2 d3 d4
            simp only [cBef, z64] at d0 d1 d2 d3 d4
            have HCt : Hid (Com t.data.toList) := Lib.hid (hbs.out t (List.mem_of_getElem? hget))
            clear HC htE hrd
            subst e
            obtain ⟨cv2, hpA, hqA⟩ := hps.out
            have HPA := Lib.hid hpA
            have HQA := Lib.hid hqA
            have hqlen : (befB k (bs.take i)).length ≤ (2001 + k) * i := by
              have := befB_len k (bs.take i) (fun t ht => hbs.out t (List.mem_of_mem_take ht))
              rw [List.length_take, Nat.min_eq_left (by omega)] at this
              exact this
            have hql2 : (2001 + k) * i ≤ 2101 * i := Nat.mul_le_mul_right _ (by omega)
            have HLB : Hid ((l ++ befB k (bs.take i)).length + t.size ≤ 140737488355328) := Lib.hid (by
              have h1 := hl.out
              have h2 := HCt.out.len
              rw [List.length_append, Lib.size_eq]
              omega)
            have HLN : Hid ((l ++ befB k (bs.take i) ++ t.data.toList ++ sfx none).length + k ≤ 140737488355000) := Lib.hid (by
              have h1 := hl.out
              have h2 := HCt.out.len
              rw [List.length_append, List.length_append, List.length_append]
              simp only [sfx, List.length_nil]
              omega)
            have HEN : Hid (Ends (l ++ befB k (bs.take i) ++ t.data.toList ++ sfx none)) := Lib.hid (by
              obtain ⟨p, c, e, hc⟩ := HCt.out.tl
              refine Or.inl ⟨l ++ befB k (bs.take i) ++ p, c, by rw [e]; simp [sfx], ?_, ?_, ?_⟩ <;> (rintro rfl; revert hc; decide))
            have HEQ : Hid (l ++ befB k (bs.take i) ++ t.data.toList ++ sfx none ++ 10 :: List.replicate k 9 = l ++ befB k (bs.take (i + 1))) := Lib.hid (by rw [befB_step k bs i t hget]; simp [sfx])
            clear hpA hqA hps hqlen hql2
            go_wp2
            obtain ⟨ob, hob⟩ : ∃ ob, ob = Obj.cells #[.int .i64 0, .int .i64 0, .int .i64 0, .string t, .bool false] 79 := ⟨_, rfl⟩
            have hb : Below wr.heap.size wr (wr.alloc ob) := (Below.refl _ _).alloc (Nat.le_refl _) _
            have hd3 : (wr.alloc ob).cell? ⟨wr.heap.size, 3, none⟩ = some (.string t) := by rw [hob, World.cell?_alloc_mark]; rfl
            have hp5 : Hid (PB W.heap.size b (l ++ befB k (bs.take i)) cv2 k (wr.alloc ob).drew) := Lib.hid ((HPA.out.old hb).drewN 1)
            have hk5 : Hid (Ok W.heap.size b wr (wr.alloc ob).drew) := Lib.hid ((Ok.old (B := W.heap.size) (b := b) HPA.out.le hb).drewN 1)
            have HT5 : Hid (Tab (wr.alloc ob).drew) := Lib.hid (hT.out.below (HB.out.trans (hbw.out.trans hk5.out.1)))
            rw [← hob]
            clear hob hb d0 d1 d2 d3 d4
            generalize wr.alloc ob = w5 at *
            generalize wr.heap.size = gb at *
            go_region_with (first | (go_at_call 32; (with_reducible refine (tsp_is t _ HT5 HCt).mono ?_); rintro e w6 ⟨rfl, hb6⟩; have hp6 := Lib.hid (hp5.out.old hb6); have hk6 := thenOk hk5 (Lib.hid (Ok.old (B := W.heap.size) (b := b) hp5.out.le hb6)); clear hb6) | (go_at_call 31; (with_reducible refine (write_is hp6 t HLB).mono ?_); rintro e w7 ⟨rfl, hp7, hk7⟩; have hps7 : Hid (PS W.heap.size b (l ++ befB k (bs.take i) ++ t.data.toList) none k w7) := Lib.hid ⟨cv2, hp7.out, HQA.out.ok HPA.out (hk6.out.trans hk7.out)⟩; have hbw7 : Hid (Below W.heap.size w w7) := Lib.hid (hbw.out.trans (hk6.out.trans hk7.out).1)))
            all_goals go_wp2_with (first | (go_at_call 33; (with_reducible refine (newline_is (Lib.hid (HB.out.trans hbw7.out)) hps7 hT (Lib.hid (fun s h => by simp at h)) HEN HLN).mono ?_); rintro e w8 ⟨rfl, hp8, hk8⟩; rw [HEQ.out] at hp8))
            all_goals (go_roundg (gk - 1))
            case measure => omega
            case rel => exact ⟨i + 1, by go_num, by omega, by omega, hp8, Lib.hid (hbw7.out.trans hk8.out.1)⟩
          · have b4 : decide ((i : Int) < (n0 : Int)) = false := decide_eq_false (by omega)
            obtain rfl : i = n0 := by omega
            have HPS9 : Hid (PS W.heap.size b (l ++ befB k bs) none k wr) := Lib.hid (by have := hps.out; rw [hn0.out, List.take_length] at this; exact this)
            have hbl : (befB k bs).length ≤ (2001 + k) * i := by
              have := befB_len k bs hbs.out
              rw [← hn0.out] at this
              exact this
            have hql2 : (2001 + k) * i ≤ 2101 * i := Nat.mul_le_mul_right _ (by omega)
            have HLT : Hid ((l ++ befB k bs).length + 51 * 0 ≤ 140737488355328) := Lib.hid (by
              have h1 := hl.out
              rw [List.length_append]
              omega)
            clear hbl hql2 hps
            obtain ⟨cv3, hp3, hq3⟩ := HPS9.out
            have hp1 := Lib.hid hp3
            have hq1 : Hid (Pend W.heap.size cv3 none _) := Lib.hid hq3
            have hk1 := hbw
            clear hp3 hq3 HPS9 HLT
            have ht61 := ta61_61
            have ht101 := ta61_101
            have ht102 := ta61_102
            have ht74 := ta61_74
            have ht67 := ta61_67
            go_wp2
            clear hbw ht61 ht101 ht102 ht74 ht67
            have hq1d : Pend W.heap.size cv3 none wr.drew := hq1.out
            have hp1d : PB W.heap.size b (l ++ befB k bs) cv3 k wr.drew := hp1.out.drewN 1
            have hb1 : Below W.heap.size w wr.drew := ⟨hk1.out.os, hk1.out.tape, hk1.out.output, hk1.out.size, hk1.out.block⟩
            obtain ⟨pcv, ncv, ccv, pc', nc', cc', w3, hcvE, hr, hp3, hq3, hb3⟩ := append_com hp1d hq1d (HS.out.up (HB.out.trans hb1)) (Or.inr rfl)
            have e3 : wr.drew.cell? ⟨b, 3, none⟩ = some (.slice pcv ncv ccv) := hcvE ▸ hp1d.com
            have e7 : wr.drew.cell? ⟨g, 1, none⟩ = some (.slice As ks cs) := cell_up (HB.out.trans hb1) hg1
            have c3 : w3.cell? ⟨b, 3, none⟩ = some (.slice pcv ncv ccv) := hcvE ▸ hp3.com
            have f3 : w3.frozen? ⟨b, 3, none⟩ = false := by
              obtain ⟨_, _, _, _, _, _, _, _, hf, _⟩ := hp3.parts
              exact hf 3
            have HP3 : Hid (PS W.heap.size b (l ++ befB k bs) (addO none none) k (w3.setCell ⟨b, 3, none⟩ (.slice pc' nc' cc'))) := Lib.hid ⟨_, hp3.setCom, hq3.set hp3 _⟩
            have HB3 : Hid (Below W.heap.size w (w3.setCell ⟨b, 3, none⟩ (.slice pc' nc' cc'))) := Lib.hid ((hb1.trans hb3).setCell (p := ⟨b, 3, none⟩) hp3.hB _)
            clear hq3 hp3 hb3 hb1 hp1d hq1d hcvE HB hg1 hp1 hq1 hk1 HS
            go_region_law (first | (go_simp; go_at_call 75; (with_reducible refine (comment_is _ _ _).mono ?_); rintro e w' ⟨rfl, rfl⟩) | (with_reducible refine step_append_run rfl (.tmp 150) (.tmp 155) 51 (.slice pcv ncv ccv) (.slice As ks cs) (.slice pc' nc' cc') rfl ?_ ?_ hr ?_; kernel_rfl; kernel_rfl))
            all_goals go_end0
            all_goals exact ⟨rfl, HP3, HB3⟩
end Go.Proofs.YtbifcpokkfiagaaDoor.F
