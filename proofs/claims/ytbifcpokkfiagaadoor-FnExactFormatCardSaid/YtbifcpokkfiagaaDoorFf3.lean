/- impl.syntaxOf: a tree, made. Conditions: the statements lie in memory and are short. -/
import Derived.Test.YtbifcpokkfiagaaDoorFf2
namespace Go.Proofs.YtbifcpokkfiagaaDoor.F
open Go.RowKit Go.Proofs.YtbifcpokkfiagaaDoorW.PrintWords Go.Proofs.YtbifcpokkfiagaaDoorW.PrintLast Go.Proofs.YtbifcpokkfiagaaDoor.PFm
set_option linter.unusedVariables false
set_option linter.unusedSimpArgs false

theorem syn_new (w : World) : SynV w (w.alloc (.cells (fileC (.slice none 0 0)) 60 (0, 0))) w.heap.size (.slice none 0 0) [] :=
  ⟨heap_alloc_new w _, Kd.R_nil _ _ _ _ _, below_allocs w _, Nat.le_refl _⟩

theorem SynV.len {w W : World} {go : Nat} {v : Value} {xs : List StD} (h : SynV w W go v xs) : ∃ Av cv, v = .slice Av xs.length cv := Kd.R_slice h.2.1

theorem st_at {w : World} {A : Option Addr} {n : Nat} {tree : List S30} (h : Kd.C k30 w A n tree) (i : Nat) (hi : i < n) (s : S30) (hs : tree[i]? = some s) : ∃ ad A1 c1 A2 c2 A3 c3, A = some ad ∧ w.cell? (ad.add (i * 5)) = some (.int .i64 s.f0) ∧ w.cell? ⟨(ad.add (i * 5)).block, (ad.add (i * 5)).off + 1, none⟩ = some (.slice A1 s.f1.length c1) ∧ w.cell? ⟨(ad.add (i * 5)).block, (ad.add (i * 5)).off + 2, none⟩ = some (.slice A2 s.f2.length c2) ∧ w.cell? ⟨(ad.add (i * 5)).block, (ad.add (i * 5)).off + 3, none⟩ = some (.slice A3 s.f3.length c3) ∧ w.cell? ⟨(ad.add (i * 5)).block, (ad.add (i * 5)).off + 4, none⟩ = some (.string s.f4) ∧ s.f1.length ≤ c1 ∧ Kd.string.C w A1 s.f1.length s.f1 ∧ s.f2.length ≤ c2 ∧ k35.C w A2 s.f2.length s.f2 ∧ s.f3.length ≤ c3 ∧ Kd.string.C w A3 s.f3.length s.f3 := by
  have h1 := at_T30 h (i : Int) (by omega) (by omega)
  have hr : rd_T30 tree (i : Int) = s := by
    unfold rd_T30
    rw [Int.toNat_natCast, List.getD_eq_getElem?_getD, hs]
    rfl
  rw [hr, Int.toNat_natCast] at h1
  exact h1

theorem l_at {w : World} {A : Option Addr} {n : Nat} {ls : List S35} (h : Kd.C k35 w A n ls) (i : Nat) (hi : i < n) (s : S35) (hs : ls[i]? = some s) : ∃ ad A0 c0 A1 c1, A = some ad ∧ w.cell? (ad.add (i * 3)) = some (.slice A0 s.f0.length c0) ∧ w.cell? ⟨(ad.add (i * 3)).block, (ad.add (i * 3)).off + 1, none⟩ = some (.slice A1 s.f1.length c1) ∧ w.cell? ⟨(ad.add (i * 3)).block, (ad.add (i * 3)).off + 2, none⟩ = some (.string s.f2) ∧ s.f0.length ≤ c0 ∧ Kd.string.C w A0 s.f0.length s.f0 ∧ s.f1.length ≤ c1 ∧ Kd.string.C w A1 s.f1.length s.f1 := by
  have h1 := at_T35 h (i : Int) (by omega) (by omega)
  have hr : rd_T35 ls (i : Int) = s := by
    unfold rd_T35
    rw [Int.toNat_natCast, List.getD_eq_getElem?_getD, hs]
    rfl
  rw [hr, Int.toNat_natCast] at h1
  exact h1

theorem stOf_line {s : S30} (h2 : s.f0 ≠ 2) (h1 : s.f0 ≠ 1) : stOf s = .line ⟨s.f3, s.f4, s.f1⟩ := by unfold stOf; rw [if_neg h2, if_neg h1]
theorem stOf_com {s : S30} (h2 : s.f0 = 2) : stOf s = .com s.f3 := by unfold stOf; rw [if_pos h2]
theorem stOf_blk {s : S30} (h1 : s.f0 = 1) : stOf s = .blk s.f3 s.f1 (s.f2.map lnOf) s.f4 := by unfold stOf; rw [if_neg (by omega), if_pos h1]

theorem map_step {α β : Type} (f : α → β) (xs : List α) (k : Nat) (t : α) (h : xs[k]? = some t) : (xs.take (k + 1)).map f = (xs.take k).map f ++ [f t] := by
  rw [List.take_add_one, h, Option.toList_some, List.map_append, List.map_singleton]

theorem com_mk {w W : World} {B0 B1 B2 : Option Addr} {e0 e1 e2 : Nat} {bs : List ByteArray} (hb : Below w.heap.size w W) (h0 : Hid (k79.R 79 W w.heap.size (fun _ => True) (.slice B0 (bs.map cBef).length e0) (bs.map cBef))) (h1 : Hid (k79.R 79 W w.heap.size (fun _ => True) (.slice B1 (sufL ⟨#[]⟩).length e1) (sufL ⟨#[]⟩))) (h2 : Hid (k79.R 79 W w.heap.size (fun _ => True) (.slice B2 ([] : List S79).length e2) [])) :
    StM (W.alloc (.cells #[.slice B0 bs.length e0, .slice B1 (sufL ⟨#[]⟩).length e1, .slice B2 0 e2, .int .i64 0, .int .i64 0, .int .i64 0] 66 (0, 0))) w.heap.size (fun _ => True) W.heap.size (.com bs) := by
  have q0 := h0.out
  have q1 := h1.out
  rw [List.length_map] at q0
  rw [sufL_nil] at q1 ⊢
  exact com_end hb q0 q1 h2.out

theorem sg_tok {w W w3 : World} {gs b2 : Nat} {x0 x1 x2 x3 x4 v : Value} {ys : List ByteArray} (hb : Hid (Below w.heap.size w w3)) (HO : Kd.string.R 9 W b2 (fun _ => True) v ys) (hg : Hid (W.grownBy w3 v.ownBlock)) (h : Sg w gs x0 x1 x2 x3 x4 W) : Sg w gs x0 x1 x2 x3 x4 w3 :=
  sg_of hb.out (blk_grown h.1.2 hg.out (Kd.R_ne HO h.1.2 (by decide)))

set_option maxRecDepth 100000 in
set_option maxHeartbeats 16000000 in
theorem syn_is {w : World} {A : Option Addr} {c : Nat} {tree : List S30} (n : Nat) (hn : Hid (n = tree.length)) (HT : Hid (k30.C w A n tree)) (hsm : Hid (∀ s ∈ tree, Small s)) (hn50 : n ≤ 50) :
    Calls Tryd.prog 14 #[.slice A n c] w fun e w' => ∃ go v, e = .returned (ptrV go) ∧ Hid (SynV w w' go v (tree.map stOf)) := by
  have HS0 := Lib.hid (syn_new w)
  go_enter Tryd.func14, Tryd.ntmps14
  go_wp2
  generalize w.alloc _ = w1 at *
  go_loopg [13] n (fun kq v13 w' => ∃ (i : Nat) (v : Value), v13 = .int .i64 (i : Int) ∧ i ≤ n ∧ n ≤ kq + i ∧ Hid (SynV w w' w.heap.size v ((tree.take i).map stOf)))
  case atStart => exact ⟨0, _, rfl, by omega, by omega, by simpa using HS0⟩
  case round =>
    clear HS0
    obtain ⟨i, v, rfl, hi, hq, HS⟩ := hrel
    by_cases hlt : i < n
    · have b1 : decide ((i : Int) < (n : Int)) = true := decide_eq_true (by omega)
      have hil : i < tree.length := by have := hn.out; omega
      obtain ⟨s, hs⟩ : ∃ s, tree[i]? = some s := ⟨_, List.getElem?_eq_getElem hil⟩
      have HSm := Lib.hid (hsm.out s (List.mem_of_getElem? hs))
      have HEQ := Lib.hid (map_step stOf tree i s hs)
      obtain ⟨ad, A1, c1, A2, c2, A3, c3, rfl, d0, d1, d2, d3, d4, l1, k1, l2, k2, l3, k3⟩ := st_at HT.out i hlt s hs
      have hbr := HS.out.2.2.1
      replace d0 := cell_upA hbr d0
      replace d1 := cell_upA hbr d1
      replace d2 := cell_upA hbr d2
      replace d3 := cell_upA hbr d3
      replace d4 := cell_upA hbr d4
      have K1 := Lib.hid k1
      have K2 := Lib.hid k2
      have K3 := Lib.hid k3
      obtain ⟨Av, cv, hv⟩ := HS.out.len
      have hvl : ((tree.take i).map stOf).length = i := by rw [List.length_map, List.length_take]; omega
      rw [hvl] at hv
      subst hv
      obtain ⟨f0, hf0⟩ : ∃ f0, f0 = s.f0 := ⟨_, rfl⟩
      obtain ⟨n1, hn1⟩ : ∃ n1, n1 = s.f1.length := ⟨_, rfl⟩
      obtain ⟨n2, hn2⟩ : ∃ n2, n2 = s.f2.length := ⟨_, rfl⟩
      obtain ⟨n3, hn3⟩ : ∃ n3, n3 = s.f3.length := ⟨_, rfl⟩
      obtain ⟨sf, hsf⟩ : ∃ sf, sf = s.f4 := ⟨_, rfl⟩
      rw [← hf0] at d0
      rw [← hn1] at d1 l1 K1
      rw [← hn2] at d2 l2 K2
      rw [← hn3] at d3 l3 K3
      rw [← hsf] at d4
      have N1 := Lib.hid hn1
      have N2 := Lib.hid hn2
      have N3 := Lib.hid hn3
      have NF := Lib.hid hsf
      have N0 := Lib.hid hf0
      have b10 : n1 ≤ 10 := by rw [hn1]; exact HSm.out.tk
      have b20 : n2 ≤ 20 := by rw [hn2]; exact HSm.out.ls
      have b30 : n3 ≤ 10 := by rw [hn3]; exact HSm.out.bf
      clear k1 k2 k3 hbr hil hvl hf0 hn1 hn2 hn3 hsf
      by_cases hk2 : f0 = 2
      · subst hk2
        have e2 : ((2 : Int) == 2) = true := rfl
        have HW : Hid (stOf s = .com s.f3) := Lib.hid (stOf_com N0.out.symm)
        go_wp2
        obtain ⟨ob, hob⟩ : ∃ ob, ob = Obj.cells #[.int .i64 2, .slice A1 n1 c1, .slice A2 n2 c2, .slice A3 n3 c3, .string sf] 30 := ⟨_, rfl⟩
        have hb : Below wr.heap.size wr (wr.alloc ob) := (Below.refl _ _).alloc (Nat.le_refl _) _
        have hgb : (wr.alloc ob).heap[wr.heap.size]? = some (.cells #[.int .i64 2, .slice A1 n1 c1, .slice A2 n2 c2, .slice A3 n3 c3, .string sf] 30 (0, 0)) := by rw [hob]; exact heap_alloc_new wr _
        have HSA : Hid (SynV w (wr.alloc ob) w.heap.size (.slice Av i cv) ((tree.take i).map stOf)) := Lib.hid (HS.out.up hb)
        have HG : Hid (Sg w wr.heap.size (.int .i64 2) (.slice A1 n1 c1) (.slice A2 n2 c2) (.slice A3 n3 c3) (.string sf) (wr.alloc ob)) := Lib.hid (sg_of HSA.out.2.2.1 hgb)
        have hgs : w.heap.size < wr.heap.size := World.block_lt_of_cell? wr _ HS.out.cell
        rw [← hob]
        clear hob hb d0 d1 d2 d3 d4 HS hgb
        generalize wr.alloc ob = wA at *
        generalize wr.heap.size = gs at *
        have hbd : Hid (Below w.heap.size w wA.drew) := Lib.hid (below_drew HG.out.1.1)
        refine start_ (n := 16) (S := fun w' => w'.cell? ⟨w.heap.size, 4, none⟩ = some (.slice Av i cv) ∧ w'.cell? ⟨gs, 3, none⟩ = some (.slice A3 n3 c3)) (ds := [12, 15]) #[false, false, false, false, false, false, false, false, false, false, false, false, false, false, false, false] (by kernel_rfl) rfl rfl ⟨HSA.out.cell, HG.out.2.2.2.1⟩ (fun hHeld => ?_)
        refine pure_ (i := 0) (N := some 39) (v := ?_) (a' := ?_) #[true, false, false, false, false, false, false, false, false, false, false, false, false, false, false, false] rfl rfl (by kernel_rfl) (fun _ _ _ h => h) (Or.inl ⟨by rfl, ?_⟩) ?_ ?_
        rotate_left
        · intro w'
          go_simp
          with_reducible rfl
        rotate_left
        · simp only [Act.put, List.setIfInBounds_toArray, List.set_cons_zero, List.set_cons_succ, i64_w, i32_w]
          rfl
        refine pure_ (i := 1) (N := some 40) (v := ?_) (a' := ?_) #[true, true, false, false, false, false, false, false, false, false, false, false, false, false, false, false] rfl rfl (by kernel_rfl) (fun _ _ _ h => h) (Or.inl ⟨by rfl, ?_⟩) ?_ ?_
        rotate_left
        · intro w'
          go_simp
          with_reducible rfl
        rotate_left
        · simp only [Act.put, List.setIfInBounds_toArray, List.set_cons_zero, List.set_cons_succ, i64_w, i32_w]
          rfl
        refine pure_ (i := 2) (N := some 41) (v := ?_) (a' := ?_) #[true, true, true, false, false, false, false, false, false, false, false, false, false, false, false, false] rfl rfl (by kernel_rfl) (fun _ _ _ h => h) (Or.inl ⟨by rfl, ?_⟩) ?_ ?_
        rotate_left
        · intro w'
          go_simp
          with_reducible rfl
        rotate_left
        · simp only [Act.put, List.setIfInBounds_toArray, List.set_cons_zero, List.set_cons_succ, i64_w, i32_w]
          rfl
        refine pure_ (i := 3) (N := some 42) (v := ?_) (a' := ?_) #[true, true, true, true, false, false, false, false, false, false, false, false, false, false, false, false] rfl rfl (by kernel_rfl) (fun _ _ _ h => h) (Or.inl ⟨by rfl, ?_⟩) ?_ ?_
        rotate_left
        · intro w'
          go_simp
          with_reducible rfl
        rotate_left
        · simp only [Act.put, List.setIfInBounds_toArray, List.set_cons_zero, List.set_cons_succ, i64_w, i32_w]
          rfl
        refine pure_ (i := 5) (N := some 44) (v := ?_) (a' := ?_) #[true, true, true, true, false, true, false, false, false, false, false, false, false, false, false, false] rfl rfl (by kernel_rfl) (fun _ _ _ h => h) (Or.inl ⟨by rfl, ?_⟩) ?_ ?_
        rotate_left
        · intro w'
          go_simp
          with_reducible rfl
        rotate_left
        · simp only [Act.put, List.setIfInBounds_toArray, List.set_cons_zero, List.set_cons_succ, i64_w, i32_w]
          rfl
        refine take_ (i := 4) (N := some 43) (v := ?_) (a' := ?_) #[true, true, true, true, true, true, false, false, false, false, false, false, false, false, false, false] rfl rfl (by kernel_rfl) (fun _ _ _ h => h) (Or.inl ⟨by rfl, ?_⟩) hHeld ?_ ?_
        rotate_left
        · rintro w' ⟨s0, s1⟩
          go_simp
          with_reducible rfl
        rotate_left
        · simp only [Act.put, List.setIfInBounds_toArray, List.set_cons_zero, List.set_cons_succ, i64_w, i32_w]
          rfl
        refine take_ (i := 6) (N := some 45) (v := ?_) (a' := ?_) #[true, true, true, true, true, true, true, false, false, false, false, false, false, false, false, false] rfl rfl (by kernel_rfl) (fun _ _ _ h => h) (Or.inl ⟨by rfl, ?_⟩) hHeld ?_ ?_
        rotate_left
        · rintro w' ⟨s0, s1⟩
          go_simp
          with_reducible rfl
        rotate_left
        · simp only [Act.put, List.setIfInBounds_toArray, List.set_cons_zero, List.set_cons_succ, i64_w, i32_w]
          rfl
        refine one_ (i := 7) (N := some 46) #[true, true, true, true, true, true, true, true, false, false, false, false, false, false, false, false] rfl rfl (by kernel_rfl) (by decide) (fun K hK => ?_)
        refine goes_ Tryd.func25 (by kernel_rfl) rfl #[.slice A3 n3 c3, .string ⟨#[]⟩] (by rfl) rfl rfl (by simp only [List.map_toArray, List.map_cons, List.map_nil]; rfl) ?_
        with_reducible refine (both_at (w0 := w) hbd.out K3 N3 l3 (by omega)).mono ?_
        rintro e w2 ⟨v0, v1, v2, rfl, hr0, hr1, hr2, hbl⟩
        refine ⟨_, rfl, ?_⟩
        have HSW := Lib.hid (HSA.out.up (W1 := w2) (undrew hbl))
        have HG2 := Lib.hid (sg_below (undrew hbl) HG.out)
        have hb2 := HSW.out.2.2.1
        obtain ⟨B0, e0, rfl⟩ := Kd.R_slice hr0.out
        obtain ⟨B1, e1, rfl⟩ := Kd.R_slice hr1.out
        obtain ⟨B2, e2, rfl⟩ := Kd.R_slice hr2.out
        refine hK.out _ _ ⟨HSW.out.cell, HG2.out.2.2.2.1⟩ (fun hHeld => ?_)
        clear hK K
        refine norm_ (a' := ?_) ?_ ?_
        rotate_left
        · show Act.put _ (some 46) _ = _
          simp only [Act.put, List.setIfInBounds_toArray, List.set_cons_zero, List.set_cons_succ, i64_w, i32_w]
          rfl
        refine pure_ (i := 8) (N := some 47) (v := ?_) (a' := ?_) #[true, true, true, true, true, true, true, true, true, false, false, false, false, false, false, false] rfl rfl (by kernel_rfl) (fun _ _ _ h => h) (Or.inl ⟨by rfl, ?_⟩) ?_ ?_
        rotate_left
        · intro w'
          go_simp
          with_reducible rfl
        rotate_left
        · simp only [Act.put, List.setIfInBounds_toArray, List.set_cons_zero, List.set_cons_succ, i64_w, i32_w]
          rfl
        refine one_ (i := 9) (N := some 48) #[true, true, true, true, true, true, true, true, true, true, false, false, false, false, false, false] rfl rfl (by kernel_rfl) (by decide) (fun K hK => ?_)
        refine value_ (w1 := ?_) (v := ?_) (by rfl) rfl ?_ ?_
        rotate_left 2
        · go_simp
          constructor
          · rfl
          · rfl
        refine hK.out _ _ ⟨(HSW.out.up (below_allocs w2 _)).cell, (sg_below (below_allocs w2 _) HG2.out).2.2.2.1⟩ (fun hHeld => ?_)
        clear hK K
        refine norm_ (a' := ?_) ?_ ?_
        rotate_left
        · show Act.put _ (some 48) _ = _
          simp only [Act.put, List.setIfInBounds_toArray, List.set_cons_zero, List.set_cons_succ, i64_w, i32_w]
          rfl
        refine pure_ (i := 10) (N := some 49) (v := ?_) (a' := ?_) #[true, true, true, true, true, true, true, true, true, true, true, false, false, false, false, false] rfl rfl (by kernel_rfl) (fun _ _ _ h => h) (Or.inl ⟨by rfl, ?_⟩) ?_ ?_
        rotate_left
        · intro w'
          go_simp
          with_reducible rfl
        rotate_left
        · simp only [Act.put, List.setIfInBounds_toArray, List.set_cons_zero, List.set_cons_succ, i64_w, i32_w]
          rfl
        refine one_ (i := 11) (N := some 50) #[true, true, true, true, true, true, true, true, true, true, true, true, false, false, false, false] rfl rfl (by kernel_rfl) (by decide) (fun K hK => ?_)
        refine value_ (w1 := ?_) (v := ?_) (by rfl) rfl ?_ ?_
        rotate_left 2
        · go_simp
          constructor
          · rfl
          · rfl
        refine hK.out _ _ ⟨((HSW.out.up (below_allocs w2 _)).up (below_allocs _ _)).cell, (sg_below (below_allocs _ _) (sg_below (below_allocs w2 _) HG2.out)).2.2.2.1⟩ (fun hHeld => ?_)
        clear hK K
        refine norm_ (a' := ?_) ?_ ?_
        rotate_left
        · show Act.put _ (some 50) _ = _
          simp only [Act.put, List.setIfInBounds_toArray, List.set_cons_zero, List.set_cons_succ, i64_w, i32_w]
          rfl
        refine last_ (i := 12) (N := some 51) #[true, true, true, true, true, true, true, true, true, true, true, true, true, false, false, false] rfl rfl (by kernel_rfl) (by decide) (fun K hK => ?_)
        refine step_ex (w0 := w) (by rfl) _ _ (by rfl) w.heap.size (.slice Av i cv) _ (.com s.f3) w2.heap.size (by rfl) (by show Value.slice (some ⟨w2.heap.size + 1, 0, none⟩) 1 1 = _; rw [alloc_size]) (com_mk (W := w2) hb2 hr0 hr1 hr2) (HSW.out.up (below_allocs w2 _)) i (by rw [List.length_map, List.length_take]; have := hn.out; omega) (by omega) ?_
        intro v1 w3 hc3 hf3 hS3 hb3 hg3 hv3
        obtain ⟨B4, e4, rfl⟩ := hv3
        refine hK.out _ _ ?_
        clear hK K
        refine norm_ (a' := ?_) ?_ ?_
        rotate_left
        · show Act.put _ (some 51) _ = _
          simp only [Act.put, List.setIfInBounds_toArray, List.set_cons_zero, List.set_cons_succ, i64_w, i32_w]
          rfl
        refine pure_ (i := 13) (N := some 52) (v := ?_) (a' := ?_) #[true, true, true, true, true, true, true, true, true, true, true, true, true, true, false, false] rfl rfl (by kernel_rfl) (fun _ _ _ h => h) (Or.inl ⟨by rfl, ?_⟩) ?_ ?_
        rotate_left
        · intro w'
          go_simp
          with_reducible rfl
        rotate_left
        · simp only [Act.put, List.setIfInBounds_toArray, List.set_cons_zero, List.set_cons_succ, i64_w, i32_w]
          rfl
        refine pure_ (i := 14) (N := some 53) (v := ?_) (a' := ?_) #[true, true, true, true, true, true, true, true, true, true, true, true, true, true, true, false] rfl rfl (by kernel_rfl) (fun _ _ _ h => h) (Or.inl ⟨by rfl, ?_⟩) ?_ ?_
        rotate_left
        · intro w'
          go_simp
          with_reducible rfl
        rotate_left
        · simp only [Act.put, List.setIfInBounds_toArray, List.set_cons_zero, List.set_cons_succ, i64_w, i32_w]
          rfl
        refine last_ (i := 15) (N := none) #[true, true, true, true, true, true, true, true, true, true, true, true, true, true, true, true] rfl rfl (by kernel_rfl) (by decide) (fun K hK => ?_)
        refine skip_ (w1 := ?_) (by rfl) rfl ?_ ?_
        rotate_left
        · go_simp
          rfl
        refine hK.out _ _ ?_
        clear hK K
        refine done_ (by kernel_rfl) ?_
        clear hc3 hf3 HG HSA HSW HG2 hr0 hr1 hr2 hb2
        go_wp2
        go_roundg (gk - 1)
        case measure => omega
        case rel => exact ⟨i + 1, _, by go_num, by omega, by omega, by rw [HEQ.out, HW.out]; exact hS3⟩
      · by_cases hk1 : f0 = 1
        · subst hk1
          have e2 : ((1 : Int) == 2) = false := by decide
          have e1 : ((1 : Int) == 1) = true := rfl
          have HW : Hid (stOf s = .blk s.f3 s.f1 (s.f2.map lnOf) sf) := Lib.hid (by rw [NF.out]; exact stOf_blk N0.out.symm)
          clear hk2
          go_wp2
          obtain ⟨ob, hob⟩ : ∃ ob, ob = Obj.cells #[.int .i64 1, .slice A1 n1 c1, .slice A2 n2 c2, .slice A3 n3 c3, .string sf] 30 := ⟨_, rfl⟩
          have hb : Below wr.heap.size wr (wr.alloc ob) := (Below.refl _ _).alloc (Nat.le_refl _) _
          have hgb : (wr.alloc ob).heap[wr.heap.size]? = some (.cells #[.int .i64 1, .slice A1 n1 c1, .slice A2 n2 c2, .slice A3 n3 c3, .string sf] 30 (0, 0)) := by rw [hob]; exact heap_alloc_new wr _
          have HSA : Hid (SynV w (wr.alloc ob) w.heap.size (.slice Av i cv) ((tree.take i).map stOf)) := Lib.hid (HS.out.up hb)
          have HG : Hid (Sg w wr.heap.size (.int .i64 1) (.slice A1 n1 c1) (.slice A2 n2 c2) (.slice A3 n3 c3) (.string sf) (wr.alloc ob)) := Lib.hid (sg_of HSA.out.2.2.1 hgb)
          have hgs : w.heap.size < wr.heap.size := World.block_lt_of_cell? wr _ HS.out.cell
          rw [← hob]
          clear hob hb d0 d1 d2 d3 d4 HS hgb
          generalize wr.alloc ob = wA at *
          generalize wr.heap.size = gs at *
          have KA1 := Lib.hid (Kd.C_below K1.out HSA.out.2.2.1)
          have KA3 := Lib.hid (Kd.C_below K3.out HSA.out.2.2.1)
          have HGA := Lib.hid (sg_of (Below.refl wA.heap.size wA) HG.out.1.2)
          go_region_held3 (fun w' => (Below wA.heap.size wA w' ∧ w'.heap[gs]? = some (.cells #[.int .i64 1, .slice A1 n1 c1, .slice A2 n2 c2, .slice A3 n3 c3, .string sf] 30 (0, 0))) ∧ w'.cell? ⟨gs, 1, none⟩ = some (.slice A1 n1 c1) ∧ w'.cell? ⟨gs, 2, none⟩ = some (.slice A2 n2 c2) ∧ w'.cell? ⟨gs, 3, none⟩ = some (.slice A3 n3 c3) ∧ w'.cell? ⟨gs, 4, none⟩ = some (.string sf))
            (first | exact sg_tok hb3 (r_empty w2 wA.heap.size hs2.out) hg3 (by assumption) | exact sg_tok hb3 (Kd.R_below (by apply Kd.R_drew; exact r_empty wA wA.heap.size (Nat.le_refl _)) hbl) hg3 (by assumption) | exact sg_below hbl (by assumption) | exact sg_below (below_allocs _ _) (by assumption) | exact sg_below (below_drews _) HGA.out | go_keep)
            (first
              | (go_at_call 25; (with_reducible refine (both_at (w0 := wA) (by exact (‹(Below wA.heap.size wA _ ∧ _) ∧ _›).1.1) KA3 N3 l3 (by omega)).mono ?_); rintro e w2 ⟨v0, v1, v2, rfl, hr0, hr1, hr2, hbl⟩; have hs2 : Hid (wA.heap.size ≤ w2.heap.size) := Lib.hid (Nat.le_trans (by first | exact Nat.le_refl _ | exact (below_allocs wA.drew _).size) hbl.size); obtain ⟨B0, e0, rfl⟩ := Kd.R_slice hr0.out; obtain ⟨B1, e1, rfl⟩ := Kd.R_slice hr1.out; obtain ⟨B2, e2, rfl⟩ := Kd.R_slice hr2.out)
              | (refine step_toks (w0 := wA) (by rfl) _ _ (by rfl) _ A1 n1 c1 s.f1 (by rfl) (by rfl) (by first | exact r_empty _ _ hs2.out | exact Kd.R_below (by apply Kd.R_drew; exact r_empty wA wA.heap.size (Nat.le_refl _)) hbl) KA1.out (by exact (‹(Below wA.heap.size wA _ ∧ _) ∧ _›).1.1) (by omega) ?_; intro vt w3 ht3 hb3 hg3; obtain ⟨B3, e3, rfl⟩ := Kd.R_slice ht3.out))
          · have q0 := carry79 (Kd.R_below hr0.out (below_allocs _ _)) (r_empty w2 wA.heap.size hs2.out) hg3.out
            have q1 := carry79 (Kd.R_below hr1.out (below_allocs _ _)) (r_empty w2 wA.heap.size hs2.out) hg3.out
            have q2 := carry79 (Kd.R_below hr2.out (below_allocs _ _)) (r_empty w2 wA.heap.size hs2.out) hg3.out
            rw [List.length_map] at q0
            have HBV := Lib.hid (blk_new0 hb3.out q0 (by rw [← sufL_nil]; exact q1) q2 ht3.out)
            have HSy := Lib.hid (HSA.out.up HBV.out.2.1)
            have HGB := Lib.hid (sg_below HBV.out.2.1 HGA.out)
            clear q0 q1 q2 hr0 hr1 hr2 hg3 ht3
            have hgB : wA.heap.size ≤ w3.heap.size := hb3.out.size
            have hgsA : gs < wA.heap.size := blk_lt HG.out.1.2
            have hgsB : gs ≠ w3.heap.size := by omega
            have hgBs : w3.heap.size ≠ gs := by omega
            have hgoB : w.heap.size ≠ w3.heap.size := by omega
            have hgBo : w3.heap.size ≠ w.heap.size := by omega
            clear hb3
            show Exit.then _ _ _ _ (w3.alloc (.cells (blkC (.slice B0 s.f3.length e0) (.slice B1 (sufL ⟨#[]⟩).length e1) (.slice B2 ([] : List S79).length e2) (.slice B3 s.f1.length e3) (.slice none 0 0) (.slice none 0 0) (.slice none 0 0) (.slice none 0 0)) 73 (0, 0)))
            generalize Obj.cells (blkC (.slice B0 s.f3.length e0) (.slice B1 (sufL ⟨#[]⟩).length e1) (.slice B2 ([] : List S79).length e2) (.slice B3 s.f1.length e3) (.slice none 0 0) (.slice none 0 0) (.slice none 0 0) (.slice none 0 0)) 73 (0, 0) = X at *
            generalize w3.alloc X = wB at *
            generalize w3.heap.size = gB at *
            obtain ⟨gko, hgko⟩ : ∃ gko, gko = gk := ⟨_, rfl⟩
            have g4B := HGB.out.2.2.2.2
            have hBW := HBV.out.2.1
            go_wp2_with (first | (go_at_call 25; (with_reducible refine (both_nil (w0 := wA) hBW).mono ?_); rintro e w4 ⟨v0, v1, v2, rfl, hr0, hr1, hr2, hbl4⟩; have HBV4 := Lib.hid (HBV.out.up hbl4); have HGB4 := Lib.hid (sg_below hbl4 HGB.out); obtain ⟨x14, x15, x16, hx14, hx15, hx16⟩ := HBV4.out.cellx; have f14 := HBV4.out.frozen 14; have f15 := HBV4.out.frozen 15; have f16 := HBV4.out.frozen 16; have g2B := HGB4.out.2.2.1; obtain ⟨P0, q0, rfl⟩ := Kd.R_slice hr0.out; obtain ⟨P1, q1, rfl⟩ := Kd.R_slice hr1.out; obtain ⟨P2, q2, rfl⟩ := Kd.R_slice hr2.out; have HBV5 := Lib.hid (HBV4.out.par (xa := .slice P2 0 q2) hr0.out hr1.out); clear hbl4 hBW))
            go_loopg [75] n2 (fun kq v75 w' => ∃ (j : Nat) (vl : Value), v75 = .int .i64 (j : Int) ∧ j ≤ n2 ∧ n2 ≤ kq + j ∧ Hid (BlkV wA w' gB s.f3 s.f1 vl ((s.f2.take j).map lnOf) sf))
            case atStart => exact ⟨0, _, rfl, by omega, by omega, HBV5⟩
            case round =>
              clear HBV5 hx14 hx15 hx16 f14 f15 f16 g2B g4B HBV4 HGB4 hr0 hr1 hr2 HBV HSy HGB
              obtain ⟨j, vl, rfl, hj, hjq, HBJ⟩ := hrel
              obtain ⟨Al, cl, hvl⟩ := HBJ.out.len
              have hvn : ((s.f2.take j).map lnOf).length = j := by rw [List.length_map, List.length_take]; have := N2.out; omega
              rw [hvn] at hvl
              subst hvl
              by_cases hjl : j < n2
              · have b3 : decide ((j : Int) < (n2 : Int)) = true := decide_eq_true (by omega)
                have hjl2 : j < s.f2.length := by have := N2.out; omega
                obtain ⟨l, hll⟩ : ∃ l, s.f2[j]? = some l := ⟨_, List.getElem?_eq_getElem hjl2⟩
                have HEL := Lib.hid (map_step lnOf s.f2 j l hll)
                have hlm := List.mem_of_getElem? hll
                have hb0 := HSm.out.lt l hlm
                have hb1 := HSm.out.lb l hlm
                obtain ⟨adl, L0, k0, L1, k1, rfl, m0, m1, m2, t0, p0, t1, p1⟩ := l_at K2.out j hjl l hll
                have hbw : Below w.heap.size w wr := HSA.out.2.2.1.trans (HBJ.out.2.1.mono HSA.out.2.2.1.size)
                replace m0 := cell_upA hbw m0
                replace m1 := cell_upA hbw m1
                replace m2 := cell_upA hbw m2
                have KL0 := Lib.hid (Kd.C_below p0 HSA.out.2.2.1)
                have KL1 := Lib.hid (Kd.C_below p1 HSA.out.2.2.1)
                obtain ⟨a0, ha0⟩ : ∃ a0, a0 = l.f0.length := ⟨_, rfl⟩
                obtain ⟨a1, ha1⟩ : ∃ a1, a1 = l.f1.length := ⟨_, rfl⟩
                rw [← ha0] at m0 t0 KL0 hb0
                rw [← ha1] at m1 t1 KL1 hb1
                have NL1 := Lib.hid ha1
                clear hbw p0 p1 hjl2 hlm ha0 ha1 hll hvn
                go_wp2
                obtain ⟨ob, hob⟩ : ∃ ob, ob = Obj.cells #[.slice L0 a0 k0, .slice L1 a1 k1, .string l.f2] 35 := ⟨_, rfl⟩
                have hb : Below wr.heap.size wr (wr.alloc ob) := (Below.refl _ _).alloc (Nat.le_refl _) _
                have hgb : (wr.alloc ob).heap[wr.heap.size]? = some (.cells #[.slice L0 a0 k0, .slice L1 a1 k1, .string l.f2] 35 (0, 0)) := by rw [hob]; exact heap_alloc_new wr _
                have HBK := Lib.hid (HBJ.out.up hb)
                have HL := Lib.hid (sl_of HBK.out.2.1 hgb)
                have hgj : gB < wr.heap.size := World.block_lt_of_cell? wr _ HBJ.out.cell
                rw [← hob]
                clear hob hb m0 m1 m2 HBJ hgb
                generalize wr.alloc ob = wJ at *
                generalize wr.heap.size = gj at *
                have hbd : Hid (Below wA.heap.size wA wJ.drew) := Lib.hid (below_drew HL.out.1.1)
                refine start_ (n := 12) (S := fun w' => w'.cell? ⟨gB, 13, none⟩ = some (.slice Al j cl) ∧ w'.cell? ⟨gj, 0, none⟩ = some (.slice L0 a0 k0) ∧ w'.cell? ⟨gj, 1, none⟩ = some (.slice L1 a1 k1) ∧ w'.cell? ⟨gj, 2, none⟩ = some (.string l.f2)) (ds := [8, 11]) #[false, false, false, false, false, false, false, false, false, false, false, false] (by kernel_rfl) rfl rfl ⟨HBK.out.cell, HL.out.2.1, HL.out.2.2.1, HL.out.2.2.2⟩ (fun hHeld => ?_)
                refine pure_ (i := 0) (N := some 79) (v := ?_) (a' := ?_) #[true, false, false, false, false, false, false, false, false, false, false, false] rfl rfl (by kernel_rfl) (fun _ _ _ h => h) (Or.inl ⟨by rfl, ?_⟩) ?_ ?_
                rotate_left
                · intro w'
                  go_simp
                  with_reducible rfl
                rotate_left
                · simp only [Act.put, List.setIfInBounds_toArray, List.set_cons_zero, List.set_cons_succ, i64_w, i32_w]
                  rfl
                refine pure_ (i := 1) (N := some 80) (v := ?_) (a' := ?_) #[true, true, false, false, false, false, false, false, false, false, false, false] rfl rfl (by kernel_rfl) (fun _ _ _ h => h) (Or.inl ⟨by rfl, ?_⟩) ?_ ?_
                rotate_left
                · intro w'
                  go_simp
                  with_reducible rfl
                rotate_left
                · simp only [Act.put, List.setIfInBounds_toArray, List.set_cons_zero, List.set_cons_succ, i64_w, i32_w]
                  rfl
                refine pure_ (i := 2) (N := some 81) (v := ?_) (a' := ?_) #[true, true, true, false, false, false, false, false, false, false, false, false] rfl rfl (by kernel_rfl) (fun _ _ _ h => h) (Or.inl ⟨by rfl, ?_⟩) ?_ ?_
                rotate_left
                · intro w'
                  go_simp
                  with_reducible rfl
                rotate_left
                · simp only [Act.put, List.setIfInBounds_toArray, List.set_cons_zero, List.set_cons_succ, i64_w, i32_w]
                  rfl
                refine pure_ (i := 3) (N := some 82) (v := ?_) (a' := ?_) #[true, true, true, true, false, false, false, false, false, false, false, false] rfl rfl (by kernel_rfl) (fun _ _ _ h => h) (Or.inl ⟨by rfl, ?_⟩) ?_ ?_
                rotate_left
                · intro w'
                  go_simp
                  with_reducible rfl
                rotate_left
                · simp only [Act.put, List.setIfInBounds_toArray, List.set_cons_zero, List.set_cons_succ, i64_w, i32_w]
                  rfl
                refine take_ (i := 4) (N := some 83) (v := ?_) (a' := ?_) #[true, true, true, true, true, false, false, false, false, false, false, false] rfl rfl (by kernel_rfl) (fun _ _ _ h => h) (Or.inl ⟨by rfl, ?_⟩) hHeld ?_ ?_
                rotate_left
                · rintro w' ⟨s0, s1, s2, s3⟩
                  go_simp
                  with_reducible rfl
                rotate_left
                · simp only [Act.put, List.setIfInBounds_toArray, List.set_cons_zero, List.set_cons_succ, i64_w, i32_w]
                  rfl
                refine take_ (i := 5) (N := some 84) (v := ?_) (a' := ?_) #[true, true, true, true, true, true, false, false, false, false, false, false] rfl rfl (by kernel_rfl) (fun _ _ _ h => h) (Or.inl ⟨by rfl, ?_⟩) hHeld ?_ ?_
                rotate_left
                · rintro w' ⟨s0, s1, s2, s3⟩
                  go_simp
                  with_reducible rfl
                rotate_left
                · simp only [Act.put, List.setIfInBounds_toArray, List.set_cons_zero, List.set_cons_succ, i64_w, i32_w]
                  rfl
                refine one_ (i := 6) (N := some 85) #[true, true, true, true, true, true, true, false, false, false, false, false] rfl rfl (by kernel_rfl) (by decide) (fun K hK => ?_)
                refine goes_ Tryd.func26 (by kernel_rfl) rfl #[.agg #[.slice L0 a0 k0, .slice L1 a1 k1, .string l.f2], .bool true] (by rfl) rfl rfl (by simp only [List.map_toArray, List.map_cons, List.map_nil]; rfl) ?_
                with_reducible refine (lineOf_at (w0 := wA) hbd.out a0 a1 NL1 KL0 KL1 t0 t1 (by omega) (by omega)).mono ?_
                rintro e w2 ⟨gl, rfl, hln, hbl⟩
                refine ⟨_, rfl, ?_⟩
                have HBW := Lib.hid (HBK.out.up (W1 := w2) (undrew hbl))
                have HL2 := Lib.hid (sl_below (undrew hbl) HL.out)
                refine hK.out _ _ ⟨HBW.out.cell, HL2.out.2.1, HL2.out.2.2.1, HL2.out.2.2.2⟩ (fun hHeld => ?_)
                clear hK K
                refine norm_ (a' := ?_) ?_ ?_
                rotate_left
                · show Act.put _ (some 85) _ = _
                  simp only [Act.put, List.setIfInBounds_toArray, List.set_cons_zero, List.set_cons_succ, i64_w, i32_w]
                  rfl
                refine one_ (i := 7) (N := some 86) #[true, true, true, true, true, true, true, true, false, false, false, false] rfl rfl (by kernel_rfl) (by decide) (fun K hK => ?_)
                refine value_ (w1 := ?_) (v := ?_) (by rfl) rfl ?_ ?_
                rotate_left 2
                · go_simp
                  constructor
                  · rfl
                  · rfl
                refine hK.out _ _ ⟨(HBW.out.up (below_allocs w2 _)).cell, (sl_below (below_allocs w2 _) HL2.out).2.1, (sl_below (below_allocs w2 _) HL2.out).2.2.1, (sl_below (below_allocs w2 _) HL2.out).2.2.2⟩ (fun hHeld => ?_)
                clear hK K
                refine norm_ (a' := ?_) ?_ ?_
                rotate_left
                · show Act.put _ (some 86) _ = _
                  simp only [Act.put, List.setIfInBounds_toArray, List.set_cons_zero, List.set_cons_succ, i64_w, i32_w]
                  rfl
                refine last_ (i := 8) (N := some 87) #[true, true, true, true, true, true, true, true, true, false, false, false] rfl rfl (by kernel_rfl) (by decide) (fun K hK => ?_)
                refine step_ln (w0 := wA) (by rfl) _ _ (by rfl) gB (.slice Al j cl) _ (lnOf l) gl (by rfl) (by rfl) hln.out HBW.out j (by rw [List.length_map, List.length_take]; have := N2.out; omega) (by omega) ?_
                intro v1 w3 hc3 hf3 hS3 hb3 hg3 hv3
                obtain ⟨B5, e5, rfl⟩ := hv3
                refine hK.out _ _ ?_
                clear hK K
                refine norm_ (a' := ?_) ?_ ?_
                rotate_left
                · show Act.put _ (some 87) _ = _
                  simp only [Act.put, List.setIfInBounds_toArray, List.set_cons_zero, List.set_cons_succ, i64_w, i32_w]
                  rfl
                refine pure_ (i := 9) (N := some 88) (v := ?_) (a' := ?_) #[true, true, true, true, true, true, true, true, true, true, false, false] rfl rfl (by kernel_rfl) (fun _ _ _ h => h) (Or.inl ⟨by rfl, ?_⟩) ?_ ?_
                rotate_left
                · intro w'
                  go_simp
                  with_reducible rfl
                rotate_left
                · simp only [Act.put, List.setIfInBounds_toArray, List.set_cons_zero, List.set_cons_succ, i64_w, i32_w]
                  rfl
                refine pure_ (i := 10) (N := some 89) (v := ?_) (a' := ?_) #[true, true, true, true, true, true, true, true, true, true, true, false] rfl rfl (by kernel_rfl) (fun _ _ _ h => h) (Or.inl ⟨by rfl, ?_⟩) ?_ ?_
                rotate_left
                · intro w'
                  go_simp
                  with_reducible rfl
                rotate_left
                · simp only [Act.put, List.setIfInBounds_toArray, List.set_cons_zero, List.set_cons_succ, i64_w, i32_w]
                  rfl
                refine last_ (i := 11) (N := none) #[true, true, true, true, true, true, true, true, true, true, true, true] rfl rfl (by kernel_rfl) (by decide) (fun K hK => ?_)
                refine skip_ (w1 := ?_) (by rfl) rfl ?_ ?_
                rotate_left
                · go_simp
                  rfl
                refine hK.out _ _ ?_
                clear hK K
                refine done_ (by kernel_rfl) ?_
                clear hc3 hf3 HL HBK HBW HL2
                go_wp2
                go_roundg (gk - 1)
                case measure => omega
                case rel => exact ⟨j + 1, _, by go_num, by omega, by omega, by rw [HEL.out]; exact hS3⟩
              · have b3 : decide ((j : Int) < (n2 : Int)) = false := decide_eq_false (by omega)
                obtain rfl : j = n2 := by omega
                have HBD : Hid (StM wr w.heap.size (fun _ => True) gB (.blk s.f3 s.f1 (s.f2.map lnOf) sf)) := Lib.hid (by
                  have h1 := HBJ.out.done
                  rw [N2.out, List.take_length] at h1
                  exact StM.lower HSA.out.2.2.1.size h1)
                have HSE := Lib.hid (HSA.out.up HBJ.out.2.1)
                have c4e := HSE.out.cell
                clear hvn
                go_wp2_with (first | (at_builtin; refine wl_ex (w0 := w) (by rfl) _ _ (by rfl) w.heap.size (.slice Av i cv) _ (.blk s.f3 s.f1 (s.f2.map lnOf) sf) gB (by rfl) (by rfl) HBD.out HSE.out i (by rw [List.length_map, List.length_take]; have := hn.out; omega) (by omega) ?_; intro v1 w3 hc3 hf3 hS3 hb3 hv3; obtain ⟨B4, e4, rfl⟩ := hv3))
                go_roundg (gko - 1)
                case measure => omega
                case rel => exact ⟨i + 1, _, by go_num, by omega, by omega, by rw [HEQ.out, HW.out]; exact hS3⟩
          · have hre : Kd.string.R 9 w2 wA.heap.size (fun _ => True) (.slice (some ⟨wA.heap.size, 0, none⟩) 0 0) [] := Kd.R_below (by apply Kd.R_drew; exact r_empty wA wA.heap.size (Nat.le_refl _)) hbl
            have q0 := carry79 hr0.out hre hg3.out
            have q1 := carry79 hr1.out hre hg3.out
            have q2 := carry79 hr2.out hre hg3.out
            rw [List.length_map] at q0
            have HBV := Lib.hid (blk_new0 hb3.out q0 (by rw [← sufL_nil]; exact q1) q2 ht3.out)
            have HSy := Lib.hid (HSA.out.up HBV.out.2.1)
            have HGB := Lib.hid (sg_below HBV.out.2.1 HGA.out)
            clear q0 q1 q2 hr0 hr1 hr2 hg3 ht3
            have hgB : wA.heap.size ≤ w3.heap.size := hb3.out.size
            have hgsA : gs < wA.heap.size := blk_lt HG.out.1.2
            have hgsB : gs ≠ w3.heap.size := by omega
            have hgBs : w3.heap.size ≠ gs := by omega
            have hgoB : w.heap.size ≠ w3.heap.size := by omega
            have hgBo : w3.heap.size ≠ w.heap.size := by omega
            clear hb3
            show Exit.then _ _ _ _ (w3.alloc (.cells (blkC (.slice B0 s.f3.length e0) (.slice B1 (sufL ⟨#[]⟩).length e1) (.slice B2 ([] : List S79).length e2) (.slice B3 s.f1.length e3) (.slice none 0 0) (.slice none 0 0) (.slice none 0 0) (.slice none 0 0)) 73 (0, 0)))
            generalize Obj.cells (blkC (.slice B0 s.f3.length e0) (.slice B1 (sufL ⟨#[]⟩).length e1) (.slice B2 ([] : List S79).length e2) (.slice B3 s.f1.length e3) (.slice none 0 0) (.slice none 0 0) (.slice none 0 0) (.slice none 0 0)) 73 (0, 0) = X at *
            generalize w3.alloc X = wB at *
            generalize w3.heap.size = gB at *
            obtain ⟨gko, hgko⟩ : ∃ gko, gko = gk := ⟨_, rfl⟩
            have g4B := HGB.out.2.2.2.2
            have hBW := HBV.out.2.1
            go_wp2_with (first | (go_at_call 25; (with_reducible refine (both_nil (w0 := wA) hBW).mono ?_); rintro e w4 ⟨v0, v1, v2, rfl, hr0, hr1, hr2, hbl4⟩; have HBV4 := Lib.hid (HBV.out.up hbl4); have HGB4 := Lib.hid (sg_below hbl4 HGB.out); obtain ⟨x14, x15, x16, hx14, hx15, hx16⟩ := HBV4.out.cellx; have f14 := HBV4.out.frozen 14; have f15 := HBV4.out.frozen 15; have f16 := HBV4.out.frozen 16; have g2B := HGB4.out.2.2.1; obtain ⟨P0, q0, rfl⟩ := Kd.R_slice hr0.out; obtain ⟨P1, q1, rfl⟩ := Kd.R_slice hr1.out; obtain ⟨P2, q2, rfl⟩ := Kd.R_slice hr2.out; have HBV5 := Lib.hid (HBV4.out.par (xa := .slice P2 0 q2) hr0.out hr1.out); clear hbl4 hBW))
            go_loopg [75] n2 (fun kq v75 w' => ∃ (j : Nat) (vl : Value), v75 = .int .i64 (j : Int) ∧ j ≤ n2 ∧ n2 ≤ kq + j ∧ Hid (BlkV wA w' gB s.f3 s.f1 vl ((s.f2.take j).map lnOf) sf))
            case atStart => exact ⟨0, _, rfl, by omega, by omega, HBV5⟩
            case round =>
              clear HBV5 hx14 hx15 hx16 f14 f15 f16 g2B g4B HBV4 HGB4 hr0 hr1 hr2 HBV HSy HGB
              obtain ⟨j, vl, rfl, hj, hjq, HBJ⟩ := hrel
              obtain ⟨Al, cl, hvl⟩ := HBJ.out.len
              have hvn : ((s.f2.take j).map lnOf).length = j := by rw [List.length_map, List.length_take]; have := N2.out; omega
              rw [hvn] at hvl
              subst hvl
              by_cases hjl : j < n2
              · have b3 : decide ((j : Int) < (n2 : Int)) = true := decide_eq_true (by omega)
                have hjl2 : j < s.f2.length := by have := N2.out; omega
                obtain ⟨l, hll⟩ : ∃ l, s.f2[j]? = some l := ⟨_, List.getElem?_eq_getElem hjl2⟩
                have HEL := Lib.hid (map_step lnOf s.f2 j l hll)
                have hlm := List.mem_of_getElem? hll
                have hb0 := HSm.out.lt l hlm
                have hb1 := HSm.out.lb l hlm
                obtain ⟨adl, L0, k0, L1, k1, rfl, m0, m1, m2, t0, p0, t1, p1⟩ := l_at K2.out j hjl l hll
                have hbw : Below w.heap.size w wr := HSA.out.2.2.1.trans (HBJ.out.2.1.mono HSA.out.2.2.1.size)
                replace m0 := cell_upA hbw m0
                replace m1 := cell_upA hbw m1
                replace m2 := cell_upA hbw m2
                have KL0 := Lib.hid (Kd.C_below p0 HSA.out.2.2.1)
                have KL1 := Lib.hid (Kd.C_below p1 HSA.out.2.2.1)
                obtain ⟨a0, ha0⟩ : ∃ a0, a0 = l.f0.length := ⟨_, rfl⟩
                obtain ⟨a1, ha1⟩ : ∃ a1, a1 = l.f1.length := ⟨_, rfl⟩
                rw [← ha0] at m0 t0 KL0 hb0
                rw [← ha1] at m1 t1 KL1 hb1
                have NL1 := Lib.hid ha1
                clear hbw p0 p1 hjl2 hlm ha0 ha1 hll hvn
                go_wp2
                obtain ⟨ob, hob⟩ : ∃ ob, ob = Obj.cells #[.slice L0 a0 k0, .slice L1 a1 k1, .string l.f2] 35 := ⟨_, rfl⟩
                have hb : Below wr.heap.size wr (wr.alloc ob) := (Below.refl _ _).alloc (Nat.le_refl _) _
                have hgb : (wr.alloc ob).heap[wr.heap.size]? = some (.cells #[.slice L0 a0 k0, .slice L1 a1 k1, .string l.f2] 35 (0, 0)) := by rw [hob]; exact heap_alloc_new wr _
                have HBK := Lib.hid (HBJ.out.up hb)
                have HL := Lib.hid (sl_of HBK.out.2.1 hgb)
                have hgj : gB < wr.heap.size := World.block_lt_of_cell? wr _ HBJ.out.cell
                rw [← hob]
                clear hob hb m0 m1 m2 HBJ hgb
                generalize wr.alloc ob = wJ at *
                generalize wr.heap.size = gj at *
                have hbd : Hid (Below wA.heap.size wA wJ.drew) := Lib.hid (below_drew HL.out.1.1)
                refine start_ (n := 12) (S := fun w' => w'.cell? ⟨gB, 13, none⟩ = some (.slice Al j cl) ∧ w'.cell? ⟨gj, 0, none⟩ = some (.slice L0 a0 k0) ∧ w'.cell? ⟨gj, 1, none⟩ = some (.slice L1 a1 k1) ∧ w'.cell? ⟨gj, 2, none⟩ = some (.string l.f2)) (ds := [8, 11]) #[false, false, false, false, false, false, false, false, false, false, false, false] (by kernel_rfl) rfl rfl ⟨HBK.out.cell, HL.out.2.1, HL.out.2.2.1, HL.out.2.2.2⟩ (fun hHeld => ?_)
                refine pure_ (i := 0) (N := some 79) (v := ?_) (a' := ?_) #[true, false, false, false, false, false, false, false, false, false, false, false] rfl rfl (by kernel_rfl) (fun _ _ _ h => h) (Or.inl ⟨by rfl, ?_⟩) ?_ ?_
                rotate_left
                · intro w'
                  go_simp
                  with_reducible rfl
                rotate_left
                · simp only [Act.put, List.setIfInBounds_toArray, List.set_cons_zero, List.set_cons_succ, i64_w, i32_w]
                  rfl
                refine pure_ (i := 1) (N := some 80) (v := ?_) (a' := ?_) #[true, true, false, false, false, false, false, false, false, false, false, false] rfl rfl (by kernel_rfl) (fun _ _ _ h => h) (Or.inl ⟨by rfl, ?_⟩) ?_ ?_
                rotate_left
                · intro w'
                  go_simp
                  with_reducible rfl
                rotate_left
                · simp only [Act.put, List.setIfInBounds_toArray, List.set_cons_zero, List.set_cons_succ, i64_w, i32_w]
                  rfl
                refine pure_ (i := 2) (N := some 81) (v := ?_) (a' := ?_) #[true, true, true, false, false, false, false, false, false, false, false, false] rfl rfl (by kernel_rfl) (fun _ _ _ h => h) (Or.inl ⟨by rfl, ?_⟩) ?_ ?_
                rotate_left
                · intro w'
                  go_simp
                  with_reducible rfl
                rotate_left
                · simp only [Act.put, List.setIfInBounds_toArray, List.set_cons_zero, List.set_cons_succ, i64_w, i32_w]
                  rfl
                refine pure_ (i := 3) (N := some 82) (v := ?_) (a' := ?_) #[true, true, true, true, false, false, false, false, false, false, false, false] rfl rfl (by kernel_rfl) (fun _ _ _ h => h) (Or.inl ⟨by rfl, ?_⟩) ?_ ?_
                rotate_left
                · intro w'
                  go_simp
                  with_reducible rfl
                rotate_left
                · simp only [Act.put, List.setIfInBounds_toArray, List.set_cons_zero, List.set_cons_succ, i64_w, i32_w]
                  rfl
                refine take_ (i := 4) (N := some 83) (v := ?_) (a' := ?_) #[true, true, true, true, true, false, false, false, false, false, false, false] rfl rfl (by kernel_rfl) (fun _ _ _ h => h) (Or.inl ⟨by rfl, ?_⟩) hHeld ?_ ?_
                rotate_left
                · rintro w' ⟨s0, s1, s2, s3⟩
                  go_simp
                  with_reducible rfl
                rotate_left
                · simp only [Act.put, List.setIfInBounds_toArray, List.set_cons_zero, List.set_cons_succ, i64_w, i32_w]
                  rfl
                refine take_ (i := 5) (N := some 84) (v := ?_) (a' := ?_) #[true, true, true, true, true, true, false, false, false, false, false, false] rfl rfl (by kernel_rfl) (fun _ _ _ h => h) (Or.inl ⟨by rfl, ?_⟩) hHeld ?_ ?_
                rotate_left
                · rintro w' ⟨s0, s1, s2, s3⟩
                  go_simp
                  with_reducible rfl
                rotate_left
                · simp only [Act.put, List.setIfInBounds_toArray, List.set_cons_zero, List.set_cons_succ, i64_w, i32_w]
                  rfl
                refine one_ (i := 6) (N := some 85) #[true, true, true, true, true, true, true, false, false, false, false, false] rfl rfl (by kernel_rfl) (by decide) (fun K hK => ?_)
                refine goes_ Tryd.func26 (by kernel_rfl) rfl #[.agg #[.slice L0 a0 k0, .slice L1 a1 k1, .string l.f2], .bool true] (by rfl) rfl rfl (by simp only [List.map_toArray, List.map_cons, List.map_nil]; rfl) ?_
                with_reducible refine (lineOf_at (w0 := wA) hbd.out a0 a1 NL1 KL0 KL1 t0 t1 (by omega) (by omega)).mono ?_
                rintro e w2 ⟨gl, rfl, hln, hbl⟩
                refine ⟨_, rfl, ?_⟩
                have HBW := Lib.hid (HBK.out.up (W1 := w2) (undrew hbl))
                have HL2 := Lib.hid (sl_below (undrew hbl) HL.out)
                refine hK.out _ _ ⟨HBW.out.cell, HL2.out.2.1, HL2.out.2.2.1, HL2.out.2.2.2⟩ (fun hHeld => ?_)
                clear hK K
                refine norm_ (a' := ?_) ?_ ?_
                rotate_left
                · show Act.put _ (some 85) _ = _
                  simp only [Act.put, List.setIfInBounds_toArray, List.set_cons_zero, List.set_cons_succ, i64_w, i32_w]
                  rfl
                refine one_ (i := 7) (N := some 86) #[true, true, true, true, true, true, true, true, false, false, false, false] rfl rfl (by kernel_rfl) (by decide) (fun K hK => ?_)
                refine value_ (w1 := ?_) (v := ?_) (by rfl) rfl ?_ ?_
                rotate_left 2
                · go_simp
                  constructor
                  · rfl
                  · rfl
                refine hK.out _ _ ⟨(HBW.out.up (below_allocs w2 _)).cell, (sl_below (below_allocs w2 _) HL2.out).2.1, (sl_below (below_allocs w2 _) HL2.out).2.2.1, (sl_below (below_allocs w2 _) HL2.out).2.2.2⟩ (fun hHeld => ?_)
                clear hK K
                refine norm_ (a' := ?_) ?_ ?_
                rotate_left
                · show Act.put _ (some 86) _ = _
                  simp only [Act.put, List.setIfInBounds_toArray, List.set_cons_zero, List.set_cons_succ, i64_w, i32_w]
                  rfl
                refine last_ (i := 8) (N := some 87) #[true, true, true, true, true, true, true, true, true, false, false, false] rfl rfl (by kernel_rfl) (by decide) (fun K hK => ?_)
                refine step_ln (w0 := wA) (by rfl) _ _ (by rfl) gB (.slice Al j cl) _ (lnOf l) gl (by rfl) (by rfl) hln.out HBW.out j (by rw [List.length_map, List.length_take]; have := N2.out; omega) (by omega) ?_
                intro v1 w3 hc3 hf3 hS3 hb3 hg3 hv3
                obtain ⟨B5, e5, rfl⟩ := hv3
                refine hK.out _ _ ?_
                clear hK K
                refine norm_ (a' := ?_) ?_ ?_
                rotate_left
                · show Act.put _ (some 87) _ = _
                  simp only [Act.put, List.setIfInBounds_toArray, List.set_cons_zero, List.set_cons_succ, i64_w, i32_w]
                  rfl
                refine pure_ (i := 9) (N := some 88) (v := ?_) (a' := ?_) #[true, true, true, true, true, true, true, true, true, true, false, false] rfl rfl (by kernel_rfl) (fun _ _ _ h => h) (Or.inl ⟨by rfl, ?_⟩) ?_ ?_
                rotate_left
                · intro w'
                  go_simp
                  with_reducible rfl
                rotate_left
                · simp only [Act.put, List.setIfInBounds_toArray, List.set_cons_zero, List.set_cons_succ, i64_w, i32_w]
                  rfl
                refine pure_ (i := 10) (N := some 89) (v := ?_) (a' := ?_) #[true, true, true, true, true, true, true, true, true, true, true, false] rfl rfl (by kernel_rfl) (fun _ _ _ h => h) (Or.inl ⟨by rfl, ?_⟩) ?_ ?_
                rotate_left
                · intro w'
                  go_simp
                  with_reducible rfl
                rotate_left
                · simp only [Act.put, List.setIfInBounds_toArray, List.set_cons_zero, List.set_cons_succ, i64_w, i32_w]
                  rfl
                refine last_ (i := 11) (N := none) #[true, true, true, true, true, true, true, true, true, true, true, true] rfl rfl (by kernel_rfl) (by decide) (fun K hK => ?_)
                refine skip_ (w1 := ?_) (by rfl) rfl ?_ ?_
                rotate_left
                · go_simp
                  rfl
                refine hK.out _ _ ?_
                clear hK K
                refine done_ (by kernel_rfl) ?_
                clear hc3 hf3 HL HBK HBW HL2
                go_wp2
                go_roundg (gk - 1)
                case measure => omega
                case rel => exact ⟨j + 1, _, by go_num, by omega, by omega, by rw [HEL.out]; exact hS3⟩
              · have b3 : decide ((j : Int) < (n2 : Int)) = false := decide_eq_false (by omega)
                obtain rfl : j = n2 := by omega
                have HBD : Hid (StM wr w.heap.size (fun _ => True) gB (.blk s.f3 s.f1 (s.f2.map lnOf) sf)) := Lib.hid (by
                  have h1 := HBJ.out.done
                  rw [N2.out, List.take_length] at h1
                  exact StM.lower HSA.out.2.2.1.size h1)
                have HSE := Lib.hid (HSA.out.up HBJ.out.2.1)
                have c4e := HSE.out.cell
                clear hvn
                go_wp2_with (first | (at_builtin; refine wl_ex (w0 := w) (by rfl) _ _ (by rfl) w.heap.size (.slice Av i cv) _ (.blk s.f3 s.f1 (s.f2.map lnOf) sf) gB (by rfl) (by rfl) HBD.out HSE.out i (by rw [List.length_map, List.length_take]; have := hn.out; omega) (by omega) ?_; intro v1 w3 hc3 hf3 hS3 hb3 hv3; obtain ⟨B4, e4, rfl⟩ := hv3))
                go_roundg (gko - 1)
                case measure => omega
                case rel => exact ⟨i + 1, _, by go_num, by omega, by omega, by rw [HEQ.out, HW.out]; exact hS3⟩
        · have e2 : (f0 == 2) = false := by rw [beq_eq_false_iff_ne]; exact hk2
          have e1 : (f0 == 1) = false := by rw [beq_eq_false_iff_ne]; exact hk1
          have HW : Hid (stOf s = .line ⟨s.f3, sf, s.f1⟩) := Lib.hid (by rw [NF.out]; exact stOf_line (by rw [← N0.out]; exact hk2) (by rw [← N0.out]; exact hk1))
          clear hk1 hk2
          go_wp2
          obtain ⟨ob, hob⟩ : ∃ ob, ob = Obj.cells #[.int .i64 f0, .slice A1 n1 c1, .slice A2 n2 c2, .slice A3 n3 c3, .string sf] 30 := ⟨_, rfl⟩
          have hb : Below wr.heap.size wr (wr.alloc ob) := (Below.refl _ _).alloc (Nat.le_refl _) _
          have hgb : (wr.alloc ob).heap[wr.heap.size]? = some (.cells #[.int .i64 f0, .slice A1 n1 c1, .slice A2 n2 c2, .slice A3 n3 c3, .string sf] 30 (0, 0)) := by rw [hob]; exact heap_alloc_new wr _
          have HSA : Hid (SynV w (wr.alloc ob) w.heap.size (.slice Av i cv) ((tree.take i).map stOf)) := Lib.hid (HS.out.up hb)
          have HG : Hid (Sg w wr.heap.size (.int .i64 f0) (.slice A1 n1 c1) (.slice A2 n2 c2) (.slice A3 n3 c3) (.string sf) (wr.alloc ob)) := Lib.hid (sg_of HSA.out.2.2.1 hgb)
          have hgs : w.heap.size < wr.heap.size := World.block_lt_of_cell? wr _ HS.out.cell
          rw [← hob]
          clear hob hb d0 d1 d2 d3 d4 HS hgb
          generalize wr.alloc ob = wA at *
          generalize wr.heap.size = gs at *
          have hbd : Hid (Below w.heap.size w wA.drew) := Lib.hid (below_drew HG.out.1.1)
          refine start_ (n := 19) (S := fun w' => w'.cell? ⟨w.heap.size, 4, none⟩ = some (.slice Av i cv) ∧ w'.cell? ⟨gs, 1, none⟩ = some (.slice A1 n1 c1) ∧ w'.cell? ⟨gs, 3, none⟩ = some (.slice A3 n3 c3) ∧ w'.cell? ⟨gs, 4, none⟩ = some (.string sf)) (ds := [15, 18]) #[false, false, false, false, false, false, false, false, false, false, false, false, false, false, false, false, false, false, false] (by kernel_rfl) rfl rfl ⟨HSA.out.cell, HG.out.2.1, HG.out.2.2.2.1, HG.out.2.2.2.2⟩ (fun hHeld => ?_)
          refine pure_ (i := 0) (N := some 19) (v := ?_) (a' := ?_) #[true, false, false, false, false, false, false, false, false, false, false, false, false, false, false, false, false, false, false] rfl rfl (by kernel_rfl) (fun _ _ _ h => h) (Or.inl ⟨by rfl, ?_⟩) ?_ ?_
          rotate_left
          · intro w'
            go_simp
            with_reducible rfl
          rotate_left
          · simp only [Act.put, List.setIfInBounds_toArray, List.set_cons_zero, List.set_cons_succ, i64_w, i32_w]
            rfl
          refine pure_ (i := 1) (N := some 20) (v := ?_) (a' := ?_) #[true, true, false, false, false, false, false, false, false, false, false, false, false, false, false, false, false, false, false] rfl rfl (by kernel_rfl) (fun _ _ _ h => h) (Or.inl ⟨by rfl, ?_⟩) ?_ ?_
          rotate_left
          · intro w'
            go_simp
            with_reducible rfl
          rotate_left
          · simp only [Act.put, List.setIfInBounds_toArray, List.set_cons_zero, List.set_cons_succ, i64_w, i32_w]
            rfl
          refine pure_ (i := 2) (N := some 21) (v := ?_) (a' := ?_) #[true, true, true, false, false, false, false, false, false, false, false, false, false, false, false, false, false, false, false] rfl rfl (by kernel_rfl) (fun _ _ _ h => h) (Or.inl ⟨by rfl, ?_⟩) ?_ ?_
          rotate_left
          · intro w'
            go_simp
            with_reducible rfl
          rotate_left
          · simp only [Act.put, List.setIfInBounds_toArray, List.set_cons_zero, List.set_cons_succ, i64_w, i32_w]
            rfl
          refine pure_ (i := 3) (N := some 22) (v := ?_) (a' := ?_) #[true, true, true, true, false, false, false, false, false, false, false, false, false, false, false, false, false, false, false] rfl rfl (by kernel_rfl) (fun _ _ _ h => h) (Or.inl ⟨by rfl, ?_⟩) ?_ ?_
          rotate_left
          · intro w'
            go_simp
            with_reducible rfl
          rotate_left
          · simp only [Act.put, List.setIfInBounds_toArray, List.set_cons_zero, List.set_cons_succ, i64_w, i32_w]
            rfl
          refine pure_ (i := 5) (N := some 24) (v := ?_) (a' := ?_) #[true, true, true, true, false, true, false, false, false, false, false, false, false, false, false, false, false, false, false] rfl rfl (by kernel_rfl) (fun _ _ _ h => h) (Or.inl ⟨by rfl, ?_⟩) ?_ ?_
          rotate_left
          · intro w'
            go_simp
            with_reducible rfl
          rotate_left
          · simp only [Act.put, List.setIfInBounds_toArray, List.set_cons_zero, List.set_cons_succ, i64_w, i32_w]
            rfl
          refine pure_ (i := 7) (N := some 26) (v := ?_) (a' := ?_) #[true, true, true, true, false, true, false, true, false, false, false, false, false, false, false, false, false, false, false] rfl rfl (by kernel_rfl) (fun _ _ _ h => h) (Or.inl ⟨by rfl, ?_⟩) ?_ ?_
          rotate_left
          · intro w'
            go_simp
            with_reducible rfl
          rotate_left
          · simp only [Act.put, List.setIfInBounds_toArray, List.set_cons_zero, List.set_cons_succ, i64_w, i32_w]
            rfl
          refine pure_ (i := 9) (N := some 28) (v := ?_) (a' := ?_) #[true, true, true, true, false, true, false, true, false, true, false, false, false, false, false, false, false, false, false] rfl rfl (by kernel_rfl) (fun _ _ _ h => h) (Or.inl ⟨by rfl, ?_⟩) ?_ ?_
          rotate_left
          · intro w'
            go_simp
            with_reducible rfl
          rotate_left
          · simp only [Act.put, List.setIfInBounds_toArray, List.set_cons_zero, List.set_cons_succ, i64_w, i32_w]
            rfl
          refine take_ (i := 4) (N := some 23) (v := ?_) (a' := ?_) #[true, true, true, true, true, true, false, true, false, true, false, false, false, false, false, false, false, false, false] rfl rfl (by kernel_rfl) (fun _ _ _ h => h) (Or.inl ⟨by rfl, ?_⟩) hHeld ?_ ?_
          rotate_left
          · rintro w' ⟨s0, s1, s2, s3⟩
            go_simp
            with_reducible rfl
          rotate_left
          · simp only [Act.put, List.setIfInBounds_toArray, List.set_cons_zero, List.set_cons_succ, i64_w, i32_w]
            rfl
          refine take_ (i := 6) (N := some 25) (v := ?_) (a' := ?_) #[true, true, true, true, true, true, true, true, false, true, false, false, false, false, false, false, false, false, false] rfl rfl (by kernel_rfl) (fun _ _ _ h => h) (Or.inl ⟨by rfl, ?_⟩) hHeld ?_ ?_
          rotate_left
          · rintro w' ⟨s0, s1, s2, s3⟩
            go_simp
            with_reducible rfl
          rotate_left
          · simp only [Act.put, List.setIfInBounds_toArray, List.set_cons_zero, List.set_cons_succ, i64_w, i32_w]
            rfl
          refine take_ (i := 8) (N := some 27) (v := ?_) (a' := ?_) #[true, true, true, true, true, true, true, true, true, true, false, false, false, false, false, false, false, false, false] rfl rfl (by kernel_rfl) (fun _ _ _ h => h) (Or.inl ⟨by rfl, ?_⟩) hHeld ?_ ?_
          rotate_left
          · rintro w' ⟨s0, s1, s2, s3⟩
            go_simp
            with_reducible rfl
          rotate_left
          · simp only [Act.put, List.setIfInBounds_toArray, List.set_cons_zero, List.set_cons_succ, i64_w, i32_w]
            rfl
          refine take_ (i := 10) (N := some 29) (v := ?_) (a' := ?_) #[true, true, true, true, true, true, true, true, true, true, true, false, false, false, false, false, false, false, false] rfl rfl (by kernel_rfl) (fun _ _ _ h => h) (Or.inl ⟨by rfl, ?_⟩) hHeld ?_ ?_
          rotate_left
          · rintro w' ⟨s0, s1, s2, s3⟩
            go_simp
            with_reducible rfl
          rotate_left
          · simp only [Act.put, List.setIfInBounds_toArray, List.set_cons_zero, List.set_cons_succ, i64_w, i32_w]
            rfl
          refine pure_ (i := 11) (N := some 30) (v := ?_) (a' := ?_) #[true, true, true, true, true, true, true, true, true, true, true, true, false, false, false, false, false, false, false] rfl rfl (by kernel_rfl) (fun _ _ _ h => h) (Or.inl ⟨by rfl, ?_⟩) ?_ ?_
          rotate_left
          · intro w'
            go_simp
            with_reducible rfl
          rotate_left
          · simp only [Act.put, List.setIfInBounds_toArray, List.set_cons_zero, List.set_cons_succ, i64_w, i32_w]
            rfl
          refine one_ (i := 12) (N := some 31) #[true, true, true, true, true, true, true, true, true, true, true, true, true, false, false, false, false, false, false] rfl rfl (by kernel_rfl) (by decide) (fun K hK => ?_)
          refine goes_ Tryd.func26 (by kernel_rfl) rfl #[.agg #[.slice A1 n1 c1, .slice A3 n3 c3, .string sf], .bool false] (by rfl) rfl rfl (by simp only [List.map_toArray, List.map_cons, List.map_nil]; rfl) ?_
          with_reducible refine (lineOf_at (w0 := w) hbd.out n1 n3 N3 K1 K3 l1 l3 (by omega) (by omega)).mono ?_
          rintro e w2 ⟨gl, rfl, hln, hbl⟩
          refine ⟨_, rfl, ?_⟩
          have HSW := Lib.hid (HSA.out.up (W1 := w2) (undrew hbl))
          have HG2 := Lib.hid (sg_below (undrew hbl) HG.out)
          refine hK.out _ _ ⟨HSW.out.cell, HG2.out.2.1, HG2.out.2.2.2.1, HG2.out.2.2.2.2⟩ (fun hHeld => ?_)
          clear hK K
          refine norm_ (a' := ?_) ?_ ?_
          rotate_left
          · show Act.put _ (some 31) _ = _
            simp only [Act.put, List.setIfInBounds_toArray, List.set_cons_zero, List.set_cons_succ, i64_w, i32_w]
            rfl
          refine pure_ (i := 13) (N := some 32) (v := ?_) (a' := ?_) #[true, true, true, true, true, true, true, true, true, true, true, true, true, true, false, false, false, false, false] rfl rfl (by kernel_rfl) (fun _ _ _ h => h) (Or.inl ⟨by rfl, ?_⟩) ?_ ?_
          rotate_left
          · intro w'
            go_simp
            with_reducible rfl
          rotate_left
          · simp only [Act.put, List.setIfInBounds_toArray, List.set_cons_zero, List.set_cons_succ, i64_w, i32_w]
            rfl
          refine one_ (i := 14) (N := some 33) #[true, true, true, true, true, true, true, true, true, true, true, true, true, true, true, false, false, false, false] rfl rfl (by kernel_rfl) (by decide) (fun K hK => ?_)
          refine value_ (w1 := ?_) (v := ?_) (by rfl) rfl ?_ ?_
          rotate_left 2
          · go_simp
            constructor
            · rfl
            · rfl
          refine hK.out _ _ ⟨(HSW.out.up (below_allocs w2 _)).cell, (sg_below (below_allocs w2 _) HG2.out).2.1, (sg_below (below_allocs w2 _) HG2.out).2.2.2.1, (sg_below (below_allocs w2 _) HG2.out).2.2.2.2⟩ (fun hHeld => ?_)
          clear hK K
          refine norm_ (a' := ?_) ?_ ?_
          rotate_left
          · show Act.put _ (some 33) _ = _
            simp only [Act.put, List.setIfInBounds_toArray, List.set_cons_zero, List.set_cons_succ, i64_w, i32_w]
            rfl
          refine last_ (i := 15) (N := some 34) #[true, true, true, true, true, true, true, true, true, true, true, true, true, true, true, true, false, false, false] rfl rfl (by kernel_rfl) (by decide) (fun K hK => ?_)
          refine step_ex (w0 := w) (by rfl) _ _ (by rfl) w.heap.size (.slice Av i cv) _ (.line ⟨s.f3, sf, s.f1⟩) gl (by rfl) (by rfl) hln.out HSW.out i (by rw [List.length_map, List.length_take]; have := hn.out; omega) (by omega) ?_
          intro v1 w3 hc3 hf3 hS3 hb3 hg3 hv3
          obtain ⟨B1, e1, rfl⟩ := hv3
          refine hK.out _ _ ?_
          clear hK K
          refine norm_ (a' := ?_) ?_ ?_
          rotate_left
          · show Act.put _ (some 34) _ = _
            simp only [Act.put, List.setIfInBounds_toArray, List.set_cons_zero, List.set_cons_succ, i64_w, i32_w]
            rfl
          refine pure_ (i := 16) (N := some 35) (v := ?_) (a' := ?_) #[true, true, true, true, true, true, true, true, true, true, true, true, true, true, true, true, true, false, false] rfl rfl (by kernel_rfl) (fun _ _ _ h => h) (Or.inl ⟨by rfl, ?_⟩) ?_ ?_
          rotate_left
          · intro w'
            go_simp
            with_reducible rfl
          rotate_left
          · simp only [Act.put, List.setIfInBounds_toArray, List.set_cons_zero, List.set_cons_succ, i64_w, i32_w]
            rfl
          refine pure_ (i := 17) (N := some 36) (v := ?_) (a' := ?_) #[true, true, true, true, true, true, true, true, true, true, true, true, true, true, true, true, true, true, false] rfl rfl (by kernel_rfl) (fun _ _ _ h => h) (Or.inl ⟨by rfl, ?_⟩) ?_ ?_
          rotate_left
          · intro w'
            go_simp
            with_reducible rfl
          rotate_left
          · simp only [Act.put, List.setIfInBounds_toArray, List.set_cons_zero, List.set_cons_succ, i64_w, i32_w]
            rfl
          refine last_ (i := 18) (N := none) #[true, true, true, true, true, true, true, true, true, true, true, true, true, true, true, true, true, true, true] rfl rfl (by kernel_rfl) (by decide) (fun K hK => ?_)
          refine skip_ (w1 := ?_) (by rfl) rfl ?_ ?_
          rotate_left
          · go_simp
            rfl
          refine hK.out _ _ ?_
          clear hK K
          refine done_ (by kernel_rfl) ?_
          clear hc3 hf3 HG HSA HSW HG2
          go_wp2
          go_roundg (gk - 1)
          case measure => omega
          case rel => exact ⟨i + 1, _, by go_num, by omega, by omega, by rw [HEQ.out, HW.out]; exact hS3⟩
    · have b1 : decide ((i : Int) < (n : Int)) = false := decide_eq_false (by omega)
      obtain rfl : i = n := by omega
      go_wp2
      go_ret
      exact ⟨_, v, rfl, Lib.hid (by have := HS.out; rwa [hn.out, List.take_length] at this)⟩

end Go.Proofs.YtbifcpokkfiagaaDoor.F
