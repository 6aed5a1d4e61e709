import Derived.Test.YtbifcpokkfiagaaDoorPFmx0
import Derived.Test.YtbifcpokkfiagaaDoorPFmx2
import Derived.Test.YtbifcpokkfiagaaDoorPFmx3
namespace Go.Proofs.YtbifcpokkfiagaaDoor.PFm
open Go.RowKit Go.Proofs.YtbifcpokkfiagaaDoorW.PrintWords Go.Proofs.YtbifcpokkfiagaaDoorW.PrintLast Go.Proofs.YtbifcpokkfiagaaDoorW.PrintMore
attribute [local go_sem] max2_int min2_int max_two min_two max_three min_three max_four min_four   -- for this text's walks alone
set_option linter.unusedVariables false
set_option linter.unusedSimpArgs false

/-! ### spec_TreeOk: function 5 -/
mutual
def spec_TreeOk.l0 : Nat → List (S30) → List (S30) → Int → Int → Option (Bool)
  | 0, _, _, _, _ => none
  | k + 1, x0, x7, x8, x9 => if x9 < x8 then (if 0 ≤ x9 then (if x9 < (x7.length : Int) then (if ((rd_T30 x7 x9).f0) = 2 then ((spec_commentsOk.f k ((rd_T30 x7 x9).f3)).bind fun t149 => (if t149 = true then (if (((rd_T30 x7 x9).f3).length : Int) = 0 then (some false) else (if ((rd_T30 x7 x9).f4).toList = ([] : List UInt8) then (if (wrap64 ((((rd_T30 x7 x9).f1).length : Int) + (((rd_T30 x7 x9).f2).length : Int))) > 0 then (some false) else (spec_TreeOk.l0 k x0 x7 x8 (wrap64 (x9 + 1)))) else (some false))) else (some false))) else ((spec_LineOk.f k ((rd_T30 x7 x9).f1) ((rd_T30 x7 x9).f3) ((rd_T30 x7 x9).f4)).bind fun t150 => (if t150 = true then (if 0 < (((rd_T30 x7 x9).f1).length : Int) then ((spec_Known.f k (rdOf ByteArray.empty ((rd_T30 x7 x9).f1) 0)).bind fun t152 => (if t152 = true then (spec_TreeOk.j1 k x0 x7 x8 x9 true ((rd_T30 x7 x9).f0) ((rd_T30 x7 x9).f1) ((rd_T30 x7 x9).f2) ((rd_T30 x7 x9).f3) ((rd_T30 x7 x9).f4)) else (if ((rd_T30 x7 x9).f0) = 0 then (if (((rd_T30 x7 x9).f2).length : Int) > 0 then (spec_TreeOk.j1 k x0 x7 x8 x9 true ((rd_T30 x7 x9).f0) ((rd_T30 x7 x9).f1) ((rd_T30 x7 x9).f2) ((rd_T30 x7 x9).f3) ((rd_T30 x7 x9).f4)) else (spec_TreeOk.j1 k x0 x7 x8 x9 (decide ((((rd_T30 x7 x9).f2).length : Int) > 20)) ((rd_T30 x7 x9).f0) ((rd_T30 x7 x9).f1) ((rd_T30 x7 x9).f2) ((rd_T30 x7 x9).f3) ((rd_T30 x7 x9).f4))) else (if ((rd_T30 x7 x9).f0) = 1 then (spec_TreeOk.j1 k x0 x7 x8 x9 (decide ((((rd_T30 x7 x9).f2).length : Int) > 20)) ((rd_T30 x7 x9).f0) ((rd_T30 x7 x9).f1) ((rd_T30 x7 x9).f2) ((rd_T30 x7 x9).f3) ((rd_T30 x7 x9).f4)) else (spec_TreeOk.j1 k x0 x7 x8 x9 true ((rd_T30 x7 x9).f0) ((rd_T30 x7 x9).f1) ((rd_T30 x7 x9).f2) ((rd_T30 x7 x9).f3) ((rd_T30 x7 x9).f4)))))) else (none)) else (spec_TreeOk.j1 k x0 x7 x8 x9 true ((rd_T30 x7 x9).f0) ((rd_T30 x7 x9).f1) ((rd_T30 x7 x9).f2) ((rd_T30 x7 x9).f3) ((rd_T30 x7 x9).f4))))) else (none)) else (none)) else (some (decide ((x0.length : Int) ≤ 50)))
def spec_TreeOk.j1 : Nat → List (S30) → List (S30) → Int → Int → Bool → Int → List ByteArray → List (S35) → List ByteArray → ByteArray → Option (Bool)
  | 0, _, _, _, _, _, _, _, _, _, _ => none
  | k + 1, x0, x7, x8, x9, x83, x149000, x149001, x149002, x149003, x149004 => if x83 = true then (some false) else (spec_TreeOk.l1 k x0 x7 x8 x9 x149002 (x149002.length : Int) 0)
def spec_TreeOk.l1 : Nat → List (S30) → List (S30) → Int → Int → List (S35) → Int → Int → Option (Bool)
  | 0, _, _, _, _, _, _, _ => none
  | k + 1, x0, x7, x8, x9, x85, x86, x87 => if x87 < x86 then (if 0 ≤ x87 then (if x87 < (x85.length : Int) then ((spec_LineOk.f k ((rd_T35 x85 x87).f0) ((rd_T35 x85 x87).f1) ((rd_T35 x85 x87).f2)).bind fun t155 => (if t155 = true then (spec_TreeOk.l1 k x0 x7 x8 x9 x85 x86 (wrap64 (x87 + 1))) else (some false))) else (none)) else (none)) else (spec_TreeOk.l0 k x0 x7 x8 (wrap64 (x9 + 1)))
end
def spec_TreeOk.f (k : Nat) (l0 : List (S30)) : Option (Bool) := spec_TreeOk.l0 k l0 l0 (l0.length : Int) 0
theorem spec_TreeOk.mono_l : ∀ k, (∀ y0 y1 y2 y3, LeO (spec_TreeOk.l0 k y0 y1 y2 y3) (spec_TreeOk.l0 (k + 1) y0 y1 y2 y3)) ∧ (∀ y0 y1 y2 y3 y4 y5 y6 y7 y8 y9, LeO (spec_TreeOk.j1 k y0 y1 y2 y3 y4 y5 y6 y7 y8 y9) (spec_TreeOk.j1 (k + 1) y0 y1 y2 y3 y4 y5 y6 y7 y8 y9)) ∧ (∀ y0 y1 y2 y3 y4 y5 y6, LeO (spec_TreeOk.l1 k y0 y1 y2 y3 y4 y5 y6) (spec_TreeOk.l1 (k + 1) y0 y1 y2 y3 y4 y5 y6))
  | 0 => ⟨fun _ _ _ _ r h => by simp [spec_TreeOk.l0] at h, fun _ _ _ _ _ _ _ _ _ _ r h => by simp [spec_TreeOk.j1] at h, fun _ _ _ _ _ _ _ r h => by simp [spec_TreeOk.l1] at h⟩
  | k + 1 => by
    obtain ⟨ih0, ih1, ih2⟩ := spec_TreeOk.mono_l k
    refine ⟨?_, ?_, ?_⟩
    · intro y0 y1 y2 y3
      unfold spec_TreeOk.l0
      repeat' first
      | (with_reducible exact ih0 _ _ _ _)
      | (with_reducible exact ih1 _ _ _ _ _ _ _ _ _ _)
      | (with_reducible exact ih2 _ _ _ _ _ _ _)
      | (with_reducible exact spec_Known.mono _ _)
      | (with_reducible exact spec_LineOk.mono _ _ _ _)
      | (with_reducible exact spec_commentsOk.mono _ _)
      | (with_reducible exact LeO.refl _)
      | (with_reducible exact LeO.none _)
      | (with_reducible refine LeO.ite ?_ ?_)
      | (with_reducible refine LeO.bind ?_ (fun _ => ?_))
      | exact ih0 _ _ _ _
      | exact ih1 _ _ _ _ _ _ _ _ _ _
      | exact ih2 _ _ _ _ _ _ _
      | exact spec_Known.mono _ _
      | exact spec_LineOk.mono _ _ _ _
      | exact spec_commentsOk.mono _ _
      | exact LeO.none _
      | refine LeO.ite ?_ ?_
      | refine LeO.bind ?_ (fun _ => ?_)
    · intro y0 y1 y2 y3 y4 y5 y6 y7 y8 y9
      unfold spec_TreeOk.j1
      repeat' first
      | (with_reducible exact ih0 _ _ _ _)
      | (with_reducible exact ih1 _ _ _ _ _ _ _ _ _ _)
      | (with_reducible exact ih2 _ _ _ _ _ _ _)
      | (with_reducible exact spec_Known.mono _ _)
      | (with_reducible exact spec_LineOk.mono _ _ _ _)
      | (with_reducible exact spec_commentsOk.mono _ _)
      | (with_reducible exact LeO.refl _)
      | (with_reducible exact LeO.none _)
      | (with_reducible refine LeO.ite ?_ ?_)
      | (with_reducible refine LeO.bind ?_ (fun _ => ?_))
      | exact ih0 _ _ _ _
      | exact ih1 _ _ _ _ _ _ _ _ _ _
      | exact ih2 _ _ _ _ _ _ _
      | exact spec_Known.mono _ _
      | exact spec_LineOk.mono _ _ _ _
      | exact spec_commentsOk.mono _ _
      | exact LeO.none _
      | refine LeO.ite ?_ ?_
      | refine LeO.bind ?_ (fun _ => ?_)
    · intro y0 y1 y2 y3 y4 y5 y6
      unfold spec_TreeOk.l1
      repeat' first
      | (with_reducible exact ih0 _ _ _ _)
      | (with_reducible exact ih1 _ _ _ _ _ _ _ _ _ _)
      | (with_reducible exact ih2 _ _ _ _ _ _ _)
      | (with_reducible exact spec_Known.mono _ _)
      | (with_reducible exact spec_LineOk.mono _ _ _ _)
      | (with_reducible exact spec_commentsOk.mono _ _)
      | (with_reducible exact LeO.refl _)
      | (with_reducible exact LeO.none _)
      | (with_reducible refine LeO.ite ?_ ?_)
      | (with_reducible refine LeO.bind ?_ (fun _ => ?_))
      | exact ih0 _ _ _ _
      | exact ih1 _ _ _ _ _ _ _ _ _ _
      | exact ih2 _ _ _ _ _ _ _
      | exact spec_Known.mono _ _
      | exact spec_LineOk.mono _ _ _ _
      | exact spec_commentsOk.mono _ _
      | exact LeO.none _
      | refine LeO.ite ?_ ?_
      | refine LeO.bind ?_ (fun _ => ?_)
theorem spec_TreeOk.mono : ∀ a0 k, LeO (spec_TreeOk.f k a0) (spec_TreeOk.f (k + 1) a0) := by
  intro a0 k
  obtain ⟨ih0, ih1, ih2⟩ := spec_TreeOk.mono_l k
  unfold spec_TreeOk.f
  repeat' first
      | (with_reducible exact ih0 _ _ _ _)
      | (with_reducible exact ih1 _ _ _ _ _ _ _ _ _ _)
      | (with_reducible exact ih2 _ _ _ _ _ _ _)
      | (with_reducible exact spec_Known.mono _ _)
      | (with_reducible exact spec_LineOk.mono _ _ _ _)
      | (with_reducible exact spec_commentsOk.mono _ _)
      | (with_reducible exact LeO.refl _)
      | (with_reducible exact LeO.none _)
      | (with_reducible refine LeO.ite ?_ ?_)
      | (with_reducible refine LeO.bind ?_ (fun _ => ?_))
      | exact ih0 _ _ _ _
      | exact ih1 _ _ _ _ _ _ _ _ _ _
      | exact ih2 _ _ _ _ _ _ _
      | exact spec_Known.mono _ _
      | exact spec_LineOk.mono _ _ _ _
      | exact spec_commentsOk.mono _ _
      | exact LeO.none _
      | refine LeO.ite ?_ ?_
      | refine LeO.bind ?_ (fun _ => ?_)
set_option maxHeartbeats 8000000 in
set_option maxRecDepth 100000 in
theorem spec_TreeOk.calls (k : Nat) (A0 : Option Addr) (c0 : Nat) (l0 : List (S30)) (r : Bool) (w : World) (hr0 : Kd.C k30 w A0 l0.length l0) (hc0 : l0.length ≤ c0) (h : spec_TreeOk.f k l0 = some r) :
    Calls Tryd.prog 5 #[.slice A0 l0.length c0] w fun e w' => e = .returned (.bool r) ∧ Below w.heap.size w w' := by
  have hu30 := Tryd.underlying30
  have hu35 := Tryd.underlying35
  have HR0 := Aside0.mk hr0
  have HC0 := Aside0.mk hc0
  clear hr0 hc0
  have HB := Aside0.mk (Below.refl w.heap.size w)
  have H : (spec_TreeOk.l0 k l0 l0 (l0.length : Int) 0) = some r := h
  clear h
  have H' := Aside0.mk H
  clear H
  go_enter Tryd.func5, Tryd.ntmps5
  go_wp2
  go_loopg [9] k (fun kq v9 w' => ∃ (x9_1 : Int), v9 = .int .i64 x9_1 ∧ Aside0 (spec_TreeOk.l0 kq l0 l0 (l0.length : Int) x9_1 = some r) ∧ Aside0 (kq ≤ k) ∧ Aside0 (Below w.heap.size w w'))
  case atStart => exact ⟨(0), (by first | rfl | (simp; done) | (simp [*]; done)), H', ⟨Nat.le_refl _⟩, ⟨by repeat (first | (with_reducible first | exact HB.out | apply below_alloc | apply pw_below_drewN | apply below_drew1) | exact HB.out)⟩⟩
  case round =>
    clear H'
    obtain ⟨x9_1, rfl, HA, HK1, HB⟩ := hrel
    cases gk with
    | zero => exact absurd HA.out (by simp [spec_TreeOk.l0])
    | succ k1 =>
      have H := HA.out
      clear HA
      simp only [spec_TreeOk.l0] at H
      by_cases c2 : x9_1 < (l0.length : Int)
      · rw [if_pos c2] at H
        have c2b0 : decide (x9_1 < (l0.length : Int)) = true := decide_eq_true c2
        clear c2
        by_cases c3 : 0 ≤ x9_1
        · rw [if_pos c3] at H
          have c3b0 : decide (0 ≤ x9_1) = true := decide_eq_true c3
          clear c3
          by_cases c4 : x9_1 < (l0.length : Int)
          · rw [if_pos c4] at H
            have c4b0 : decide (x9_1 < (l0.length : Int)) = true := decide_eq_true c4
            clear c4
            by_cases c5 : ((rd_T30 l0 x9_1).f0) = 2
            · rw [if_pos c5] at H
              have c5b0 : (((rd_T30 l0 x9_1).f0) == 2) = true := beq_iff_eq.mpr c5
              have c5b1 : (((rd_T30 l0 x9_1).f0) != 2) = false := bne_eq_false_iff_eq.mpr c5
              clear c5
              replace H := Option.bind_eq_some_iff.mp H
              obtain ⟨t149, A60, H⟩ := H
              replace H : (if t149 = true then (if (((rd_T30 l0 x9_1).f3).length : Int) = 0 then (some false) else (if ((rd_T30 l0 x9_1).f4).toList = ([] : List UInt8) then (if (wrap64 ((((rd_T30 l0 x9_1).f1).length : Int) + (((rd_T30 l0 x9_1).f2).length : Int))) > 0 then (some false) else (spec_TreeOk.l0 k1 l0 l0 (l0.length : Int) (wrap64 (x9_1 + 1)))) else (some false))) else (some false)) = some r := H
              have A6 := Aside0.mk A60
              clear A60
              by_cases c7 : t149 = true
              · subst c7
                have H1 : (if (((rd_T30 l0 x9_1).f3).length : Int) = 0 then (some false) else (if ((rd_T30 l0 x9_1).f4).toList = ([] : List UInt8) then (if (wrap64 ((((rd_T30 l0 x9_1).f1).length : Int) + (((rd_T30 l0 x9_1).f2).length : Int))) > 0 then (some false) else (spec_TreeOk.l0 k1 l0 l0 (l0.length : Int) (wrap64 (x9_1 + 1)))) else (some false))) = some r := by rw [if_pos rfl] at H; exact H
                clear H
                have H := H1
                clear H1
                by_cases c8 : (((rd_T30 l0 x9_1).f3).length : Int) = 0
                · rw [if_pos c8] at H
                  have c8b0 : ((((rd_T30 l0 x9_1).f3).length : Int) == 0) = true := beq_iff_eq.mpr c8
                  have c8b1 : ((((rd_T30 l0 x9_1).f3).length : Int) != 0) = false := bne_eq_false_iff_eq.mpr c8
                  clear c8
                  obtain rfl := Option.some.inj H
                  have p147 : 0 ≤ (x9_1 : Int) := of_decide_eq_true (by first | (with_reducible assumption) | assumption)
                  have q147 : x9_1 < (l0.length : Int) := of_decide_eq_true (by first | (with_reducible assumption) | assumption)
                  obtain ⟨ad147, A147_1, c147_1, A147_2, c147_2, A147_3, c147_3, e147, hx147_0, hx147_1, hx147_2, hx147_3, hx147_4, hl147_1, hi147_1, hl147_2, hi147_2, hl147_3, hi147_3⟩ := at_T30 HR0.out x9_1 p147 q147
                  cases e147
                  replace hx147_0 := (HB.out.cell (World.block_lt_of_cell? w _ hx147_0)).trans hx147_0
                  replace hx147_1 := (HB.out.cell (World.block_lt_of_cell? w _ hx147_1)).trans hx147_1
                  replace hx147_2 := (HB.out.cell (World.block_lt_of_cell? w _ hx147_2)).trans hx147_2
                  replace hx147_3 := (HB.out.cell (World.block_lt_of_cell? w _ hx147_3)).trans hx147_3
                  replace hx147_4 := (HB.out.cell (World.block_lt_of_cell? w _ hx147_4)).trans hx147_4
                  have HR147_1 := Aside0.mk hi147_1
                  have HC147_1 := Aside0.mk hl147_1
                  clear hi147_1 hl147_1
                  have HR147_2 := Aside0.mk hi147_2
                  have HC147_2 := Aside0.mk hl147_2
                  clear hi147_2 hl147_2
                  have HR147_3 := Aside0.mk hi147_3
                  have HC147_3 := Aside0.mk hl147_3
                  clear hi147_3 hl147_3
                  replace p147 := eq_true p147
                  replace q147 := eq_true q147
                  go_wp2_with (first | ((with_reducible refine gate_dst (N := 4) rfl ?_); (try (refine gate_guard (by rfl) ?_; dsimp only)); refine box_event ?hg (N := 4) ?hd (cs := #[.int .i64 0, .slice none 0 0, .slice none 0 0, .slice none 0 0, .string (⟨#[]⟩ : ByteArray)]) (t := 30) ?hr ?_; (case hd => rfl); (case hg => rfl); (case hr => first | (go_simp; done) | (go_simp; rfl)); intro gb148 hg w9 hbox hb; have n0_ := Aside0.mk (below_step (by repeat (first | (with_reducible first | exact HB.out | apply below_alloc | apply pw_below_drewN | apply below_drew1) | exact HB.out)) hb); have n1_ := Aside0.mk (hbox); have n2_ := Aside0.mk ((by rw [hg]; exact (below_size (by repeat (first | (with_reducible first | exact HB.out | apply below_alloc | apply pw_below_drewN | apply below_drew1) | exact HB.out))) : w.heap.size ≤ gb148)); have n3_ := Aside0.mk ((by rw [hg]; exact (below_size (by repeat (first | (with_reducible first | exact HB.out | apply below_alloc | apply pw_below_drewN | apply below_drew1) | exact HB.out))) : w.heap.size ≤ gb148)); clear HB; have HB := n0_; have BK148 := n1_; have GW148 := n2_; have GE148 := n3_; clear n0_ n1_ n2_ n3_; clear hb hbox hg; have hcz10_0 : w9.cell? ⟨gb148, 0, none⟩ = some (.int .i64 0) := (blk_cell BK148.out 0).trans rfl; have hcz10_1 : w9.cell? ⟨gb148, 1, none⟩ = some (.slice none 0 0) := (blk_cell BK148.out 1).trans rfl; have hcz10_2 : w9.cell? ⟨gb148, 2, none⟩ = some (.slice none 0 0) := (blk_cell BK148.out 2).trans rfl; have hcz10_3 : w9.cell? ⟨gb148, 3, none⟩ = some (.slice none 0 0) := (blk_cell BK148.out 3).trans rfl; have hcz10_4 : w9.cell? ⟨gb148, 4, none⟩ = some (.string (⟨#[]⟩ : ByteArray)) := (blk_cell BK148.out 4).trans rfl; have hfz10_0 := blk_frozen BK148.out 0; have hfz10_1 := blk_frozen BK148.out 1; have hfz10_2 := blk_frozen BK148.out 2; have hfz10_3 := blk_frozen BK148.out 3; have hfz10_4 := blk_frozen BK148.out 4) | ((with_reducible refine gate_callee (f := 10) rfl ?_); refine goesL_ (some 18) rfl rfl Tryd.func10 (by kernel_rfl) rfl #[.slice A147_3 ((rd_T30 l0 x9_1).f3).length c147_3] rfl (by (try simp only [List.map_toArray, List.map_cons, List.map_nil]); first | done | rfl | (simp only [List.length_drop, List.length_take]; rfl)) ?_; (with_reducible refine (spec_commentsOk.calls k1 _ _ ((rd_T30 l0 x9_1).f3) true _ ?side1 ?side2 A6.out).mono ?_); (case side1 => exact Kd.C_below HR147_3.out (by repeat (first | (with_reducible first | exact HB.out | apply below_alloc | apply pw_below_drewN | apply below_drew1 | refine below_set ?_ GE148.out) | exact HB.out))); (case side2 => exact HC147_3.out); rintro e w11 ⟨rfl, hb⟩; refine ⟨_, rfl, ?_⟩; have n0_ := Aside0.mk (blk_below (g := gb148) (o := .cells #[.int .i64 ((rd_T30 l0 x9_1).f0), .slice A147_1 ((rd_T30 l0 x9_1).f1).length c147_1, .slice A147_2 ((rd_T30 l0 x9_1).f2).length c147_2, .slice A147_3 ((rd_T30 l0 x9_1).f3).length c147_3, .string ((rd_T30 l0 x9_1).f4)] 30 (0, 0)) (by (with_reducible repeat (first | refine blk_drewN ?_ _ | refine blk_drew ?_ | refine blk_alloc ?_ _)); refine blk_put (cs := #[.int .i64 ((rd_T30 l0 x9_1).f0), .slice A147_1 ((rd_T30 l0 x9_1).f1).length c147_1, .slice A147_2 ((rd_T30 l0 x9_1).f2).length c147_2, .slice A147_3 ((rd_T30 l0 x9_1).f3).length c147_3, .string (⟨#[]⟩ : ByteArray)]) ?_ 4 _ rfl; (with_reducible repeat (first | refine blk_drewN ?_ _ | refine blk_drew ?_ | refine blk_alloc ?_ _)); refine blk_put (cs := #[.int .i64 ((rd_T30 l0 x9_1).f0), .slice A147_1 ((rd_T30 l0 x9_1).f1).length c147_1, .slice A147_2 ((rd_T30 l0 x9_1).f2).length c147_2, .slice none 0 0, .string (⟨#[]⟩ : ByteArray)]) ?_ 3 _ rfl; (with_reducible repeat (first | refine blk_drewN ?_ _ | refine blk_drew ?_ | refine blk_alloc ?_ _)); refine blk_put (cs := #[.int .i64 ((rd_T30 l0 x9_1).f0), .slice A147_1 ((rd_T30 l0 x9_1).f1).length c147_1, .slice none 0 0, .slice none 0 0, .string (⟨#[]⟩ : ByteArray)]) ?_ 2 _ rfl; (with_reducible repeat (first | refine blk_drewN ?_ _ | refine blk_drew ?_ | refine blk_alloc ?_ _)); refine blk_put (cs := #[.int .i64 ((rd_T30 l0 x9_1).f0), .slice none 0 0, .slice none 0 0, .slice none 0 0, .string (⟨#[]⟩ : ByteArray)]) ?_ 1 _ rfl; (with_reducible repeat (first | refine blk_drewN ?_ _ | refine blk_drew ?_ | refine blk_alloc ?_ _)); refine blk_put (cs := #[.int .i64 0, .slice none 0 0, .slice none 0 0, .slice none 0 0, .string (⟨#[]⟩ : ByteArray)]) ?_ 0 _ rfl; (with_reducible repeat (first | refine blk_drewN ?_ _ | refine blk_drew ?_ | refine blk_alloc ?_ _)); exact BK148.out) hb); have n1_ := Aside0.mk (below_step (by repeat (first | (with_reducible first | exact HB.out | apply below_alloc | apply pw_below_drewN | apply below_drew1 | refine below_set ?_ GE148.out) | exact HB.out)) hb); clear BK148; clear HB; have BK148 := n0_; have HB := n1_; clear n0_ n1_; (try clear hb); (try clear hb2); (try clear hk); (try clear hi); have hcz12_0 : w11.cell? ⟨gb148, 0, none⟩ = some (.int .i64 ((rd_T30 l0 x9_1).f0)) := (blk_cell BK148.out 0).trans rfl; have hcz12_1 : w11.cell? ⟨gb148, 1, none⟩ = some (.slice A147_1 ((rd_T30 l0 x9_1).f1).length c147_1) := (blk_cell BK148.out 1).trans rfl; have hcz12_2 : w11.cell? ⟨gb148, 2, none⟩ = some (.slice A147_2 ((rd_T30 l0 x9_1).f2).length c147_2) := (blk_cell BK148.out 2).trans rfl; have hcz12_3 : w11.cell? ⟨gb148, 3, none⟩ = some (.slice A147_3 ((rd_T30 l0 x9_1).f3).length c147_3) := (blk_cell BK148.out 3).trans rfl; have hcz12_4 : w11.cell? ⟨gb148, 4, none⟩ = some (.string ((rd_T30 l0 x9_1).f4)) := (blk_cell BK148.out 4).trans rfl; have hfz12_0 := blk_frozen BK148.out 0; have hfz12_1 := blk_frozen BK148.out 1; have hfz12_2 := blk_frozen BK148.out 2; have hfz12_3 := blk_frozen BK148.out 3; have hfz12_4 := blk_frozen BK148.out 4))
                  go_ret
                  exact ⟨by first | rfl | (simp [errW_none, errW_some] <;> rfl) | (simp [*, errW_none, errW_some] <;> rfl), by repeat (first | (with_reducible first | exact HB.out | apply below_alloc | apply pw_below_drewN | apply below_drew1 | refine below_set ?_ GE148.out) | exact HB.out)⟩
                · rw [if_neg c8] at H
                  have c8b0 : ((((rd_T30 l0 x9_1).f3).length : Int) == 0) = false := beq_eq_false_iff_ne.mpr c8
                  have c8b1 : ((((rd_T30 l0 x9_1).f3).length : Int) != 0) = true := bne_iff_ne.mpr c8
                  have c8b2 : ¬ (((rd_T30 l0 x9_1).f3) = []) := fun h_ => c8 (by rw [h_]; rfl)
                  by_cases c13 : ((rd_T30 l0 x9_1).f4).toList = ([] : List UInt8)
                  · rw [if_pos c13] at H
                    have c13b0 : (((rd_T30 l0 x9_1).f4).toList == ([] : List UInt8)) = true := beq_iff_eq.mpr c13
                    have c13b1 : (((rd_T30 l0 x9_1).f4).toList != ([] : List UInt8)) = false := bne_eq_false_iff_eq.mpr c13
                    clear c13
                    by_cases c14 : (wrap64 ((((rd_T30 l0 x9_1).f1).length : Int) + (((rd_T30 l0 x9_1).f2).length : Int))) > 0
                    · rw [if_pos c14] at H
                      have c14b0 : decide (0 < (wrap64 ((((rd_T30 l0 x9_1).f1).length : Int) + (((rd_T30 l0 x9_1).f2).length : Int)))) = true := decide_eq_true c14
                      clear c14
                      obtain rfl := Option.some.inj H
                      have p147 : 0 ≤ (x9_1 : Int) := of_decide_eq_true (by first | (with_reducible assumption) | assumption)
                      have q147 : x9_1 < (l0.length : Int) := of_decide_eq_true (by first | (with_reducible assumption) | assumption)
                      obtain ⟨ad147, A147_1, c147_1, A147_2, c147_2, A147_3, c147_3, e147, hx147_0, hx147_1, hx147_2, hx147_3, hx147_4, hl147_1, hi147_1, hl147_2, hi147_2, hl147_3, hi147_3⟩ := at_T30 HR0.out x9_1 p147 q147
                      cases e147
                      replace hx147_0 := (HB.out.cell (World.block_lt_of_cell? w _ hx147_0)).trans hx147_0
                      replace hx147_1 := (HB.out.cell (World.block_lt_of_cell? w _ hx147_1)).trans hx147_1
                      replace hx147_2 := (HB.out.cell (World.block_lt_of_cell? w _ hx147_2)).trans hx147_2
                      replace hx147_3 := (HB.out.cell (World.block_lt_of_cell? w _ hx147_3)).trans hx147_3
                      replace hx147_4 := (HB.out.cell (World.block_lt_of_cell? w _ hx147_4)).trans hx147_4
                      have HR147_1 := Aside0.mk hi147_1
                      have HC147_1 := Aside0.mk hl147_1
                      clear hi147_1 hl147_1
                      have HR147_2 := Aside0.mk hi147_2
                      have HC147_2 := Aside0.mk hl147_2
                      clear hi147_2 hl147_2
                      have HR147_3 := Aside0.mk hi147_3
                      have HC147_3 := Aside0.mk hl147_3
                      clear hi147_3 hl147_3
                      replace p147 := eq_true p147
                      replace q147 := eq_true q147
                      go_wp2_with (first | ((with_reducible refine gate_dst (N := 4) rfl ?_); (try (refine gate_guard (by rfl) ?_; dsimp only)); refine box_event ?hg (N := 4) ?hd (cs := #[.int .i64 0, .slice none 0 0, .slice none 0 0, .slice none 0 0, .string (⟨#[]⟩ : ByteArray)]) (t := 30) ?hr ?_; (case hd => rfl); (case hg => rfl); (case hr => first | (go_simp; done) | (go_simp; rfl)); intro gb148 hg w15 hbox hb; have n0_ := Aside0.mk (below_step (by repeat (first | (with_reducible first | exact HB.out | apply below_alloc | apply pw_below_drewN | apply below_drew1) | exact HB.out)) hb); have n1_ := Aside0.mk (hbox); have n2_ := Aside0.mk ((by rw [hg]; exact (below_size (by repeat (first | (with_reducible first | exact HB.out | apply below_alloc | apply pw_below_drewN | apply below_drew1) | exact HB.out))) : w.heap.size ≤ gb148)); have n3_ := Aside0.mk ((by rw [hg]; exact (below_size (by repeat (first | (with_reducible first | exact HB.out | apply below_alloc | apply pw_below_drewN | apply below_drew1) | exact HB.out))) : w.heap.size ≤ gb148)); clear HB; have HB := n0_; have BK148 := n1_; have GW148 := n2_; have GE148 := n3_; clear n0_ n1_ n2_ n3_; clear hb hbox hg; have hcz16_0 : w15.cell? ⟨gb148, 0, none⟩ = some (.int .i64 0) := (blk_cell BK148.out 0).trans rfl; have hcz16_1 : w15.cell? ⟨gb148, 1, none⟩ = some (.slice none 0 0) := (blk_cell BK148.out 1).trans rfl; have hcz16_2 : w15.cell? ⟨gb148, 2, none⟩ = some (.slice none 0 0) := (blk_cell BK148.out 2).trans rfl; have hcz16_3 : w15.cell? ⟨gb148, 3, none⟩ = some (.slice none 0 0) := (blk_cell BK148.out 3).trans rfl; have hcz16_4 : w15.cell? ⟨gb148, 4, none⟩ = some (.string (⟨#[]⟩ : ByteArray)) := (blk_cell BK148.out 4).trans rfl; have hfz16_0 := blk_frozen BK148.out 0; have hfz16_1 := blk_frozen BK148.out 1; have hfz16_2 := blk_frozen BK148.out 2; have hfz16_3 := blk_frozen BK148.out 3; have hfz16_4 := blk_frozen BK148.out 4) | ((with_reducible refine gate_callee (f := 10) rfl ?_); refine goesL_ (some 18) rfl rfl Tryd.func10 (by kernel_rfl) rfl #[.slice A147_3 ((rd_T30 l0 x9_1).f3).length c147_3] rfl (by (try simp only [List.map_toArray, List.map_cons, List.map_nil]); first | done | rfl | (simp only [List.length_drop, List.length_take]; rfl)) ?_; (with_reducible refine (spec_commentsOk.calls k1 _ _ ((rd_T30 l0 x9_1).f3) true _ ?side1 ?side2 A6.out).mono ?_); (case side1 => exact Kd.C_below HR147_3.out (by repeat (first | (with_reducible first | exact HB.out | apply below_alloc | apply pw_below_drewN | apply below_drew1 | refine below_set ?_ GE148.out) | exact HB.out))); (case side2 => exact HC147_3.out); rintro e w17 ⟨rfl, hb⟩; refine ⟨_, rfl, ?_⟩; have n0_ := Aside0.mk (blk_below (g := gb148) (o := .cells #[.int .i64 ((rd_T30 l0 x9_1).f0), .slice A147_1 ((rd_T30 l0 x9_1).f1).length c147_1, .slice A147_2 ((rd_T30 l0 x9_1).f2).length c147_2, .slice A147_3 ((rd_T30 l0 x9_1).f3).length c147_3, .string ((rd_T30 l0 x9_1).f4)] 30 (0, 0)) (by (with_reducible repeat (first | refine blk_drewN ?_ _ | refine blk_drew ?_ | refine blk_alloc ?_ _)); refine blk_put (cs := #[.int .i64 ((rd_T30 l0 x9_1).f0), .slice A147_1 ((rd_T30 l0 x9_1).f1).length c147_1, .slice A147_2 ((rd_T30 l0 x9_1).f2).length c147_2, .slice A147_3 ((rd_T30 l0 x9_1).f3).length c147_3, .string (⟨#[]⟩ : ByteArray)]) ?_ 4 _ rfl; (with_reducible repeat (first | refine blk_drewN ?_ _ | refine blk_drew ?_ | refine blk_alloc ?_ _)); refine blk_put (cs := #[.int .i64 ((rd_T30 l0 x9_1).f0), .slice A147_1 ((rd_T30 l0 x9_1).f1).length c147_1, .slice A147_2 ((rd_T30 l0 x9_1).f2).length c147_2, .slice none 0 0, .string (⟨#[]⟩ : ByteArray)]) ?_ 3 _ rfl; (with_reducible repeat (first | refine blk_drewN ?_ _ | refine blk_drew ?_ | refine blk_alloc ?_ _)); refine blk_put (cs := #[.int .i64 ((rd_T30 l0 x9_1).f0), .slice A147_1 ((rd_T30 l0 x9_1).f1).length c147_1, .slice none 0 0, .slice none 0 0, .string (⟨#[]⟩ : ByteArray)]) ?_ 2 _ rfl; (with_reducible repeat (first | refine blk_drewN ?_ _ | refine blk_drew ?_ | refine blk_alloc ?_ _)); refine blk_put (cs := #[.int .i64 ((rd_T30 l0 x9_1).f0), .slice none 0 0, .slice none 0 0, .slice none 0 0, .string (⟨#[]⟩ : ByteArray)]) ?_ 1 _ rfl; (with_reducible repeat (first | refine blk_drewN ?_ _ | refine blk_drew ?_ | refine blk_alloc ?_ _)); refine blk_put (cs := #[.int .i64 0, .slice none 0 0, .slice none 0 0, .slice none 0 0, .string (⟨#[]⟩ : ByteArray)]) ?_ 0 _ rfl; (with_reducible repeat (first | refine blk_drewN ?_ _ | refine blk_drew ?_ | refine blk_alloc ?_ _)); exact BK148.out) hb); have n1_ := Aside0.mk (below_step (by repeat (first | (with_reducible first | exact HB.out | apply below_alloc | apply pw_below_drewN | apply below_drew1 | refine below_set ?_ GE148.out) | exact HB.out)) hb); clear BK148; clear HB; have BK148 := n0_; have HB := n1_; clear n0_ n1_; (try clear hb); (try clear hb2); (try clear hk); (try clear hi); have hcz18_0 : w17.cell? ⟨gb148, 0, none⟩ = some (.int .i64 ((rd_T30 l0 x9_1).f0)) := (blk_cell BK148.out 0).trans rfl; have hcz18_1 : w17.cell? ⟨gb148, 1, none⟩ = some (.slice A147_1 ((rd_T30 l0 x9_1).f1).length c147_1) := (blk_cell BK148.out 1).trans rfl; have hcz18_2 : w17.cell? ⟨gb148, 2, none⟩ = some (.slice A147_2 ((rd_T30 l0 x9_1).f2).length c147_2) := (blk_cell BK148.out 2).trans rfl; have hcz18_3 : w17.cell? ⟨gb148, 3, none⟩ = some (.slice A147_3 ((rd_T30 l0 x9_1).f3).length c147_3) := (blk_cell BK148.out 3).trans rfl; have hcz18_4 : w17.cell? ⟨gb148, 4, none⟩ = some (.string ((rd_T30 l0 x9_1).f4)) := (blk_cell BK148.out 4).trans rfl; have hfz18_0 := blk_frozen BK148.out 0; have hfz18_1 := blk_frozen BK148.out 1; have hfz18_2 := blk_frozen BK148.out 2; have hfz18_3 := blk_frozen BK148.out 3; have hfz18_4 := blk_frozen BK148.out 4))
                      go_ret
                      exact ⟨by first | rfl | (simp [errW_none, errW_some] <;> rfl) | (simp [*, errW_none, errW_some] <;> rfl), by repeat (first | (with_reducible first | exact HB.out | apply below_alloc | apply pw_below_drewN | apply below_drew1 | refine below_set ?_ GE148.out) | exact HB.out)⟩
                    · rw [if_neg c14] at H
                      have c14b0 : decide (0 < (wrap64 ((((rd_T30 l0 x9_1).f1).length : Int) + (((rd_T30 l0 x9_1).f2).length : Int)))) = false := decide_eq_false c14
                      clear c14
                      have H' := Aside0.mk H
                      clear H
                      have p147 : 0 ≤ (x9_1 : Int) := of_decide_eq_true (by first | (with_reducible assumption) | assumption)
                      have q147 : x9_1 < (l0.length : Int) := of_decide_eq_true (by first | (with_reducible assumption) | assumption)
                      obtain ⟨ad147, A147_1, c147_1, A147_2, c147_2, A147_3, c147_3, e147, hx147_0, hx147_1, hx147_2, hx147_3, hx147_4, hl147_1, hi147_1, hl147_2, hi147_2, hl147_3, hi147_3⟩ := at_T30 HR0.out x9_1 p147 q147
                      cases e147
                      replace hx147_0 := (HB.out.cell (World.block_lt_of_cell? w _ hx147_0)).trans hx147_0
                      replace hx147_1 := (HB.out.cell (World.block_lt_of_cell? w _ hx147_1)).trans hx147_1
                      replace hx147_2 := (HB.out.cell (World.block_lt_of_cell? w _ hx147_2)).trans hx147_2
                      replace hx147_3 := (HB.out.cell (World.block_lt_of_cell? w _ hx147_3)).trans hx147_3
                      replace hx147_4 := (HB.out.cell (World.block_lt_of_cell? w _ hx147_4)).trans hx147_4
                      have HR147_1 := Aside0.mk hi147_1
                      have HC147_1 := Aside0.mk hl147_1
                      clear hi147_1 hl147_1
                      have HR147_2 := Aside0.mk hi147_2
                      have HC147_2 := Aside0.mk hl147_2
                      clear hi147_2 hl147_2
                      have HR147_3 := Aside0.mk hi147_3
                      have HC147_3 := Aside0.mk hl147_3
                      clear hi147_3 hl147_3
                      replace p147 := eq_true p147
                      replace q147 := eq_true q147
                      go_wp2_with (first | ((with_reducible refine gate_dst (N := 4) rfl ?_); (try (refine gate_guard (by rfl) ?_; dsimp only)); refine box_event ?hg (N := 4) ?hd (cs := #[.int .i64 0, .slice none 0 0, .slice none 0 0, .slice none 0 0, .string (⟨#[]⟩ : ByteArray)]) (t := 30) ?hr ?_; (case hd => rfl); (case hg => rfl); (case hr => first | (go_simp; done) | (go_simp; rfl)); intro gb148 hg w19 hbox hb; have n0_ := Aside0.mk (below_step (by repeat (first | (with_reducible first | exact HB.out | apply below_alloc | apply pw_below_drewN | apply below_drew1) | exact HB.out)) hb); have n1_ := Aside0.mk (hbox); have n2_ := Aside0.mk ((by rw [hg]; exact (below_size (by repeat (first | (with_reducible first | exact HB.out | apply below_alloc | apply pw_below_drewN | apply below_drew1) | exact HB.out))) : w.heap.size ≤ gb148)); have n3_ := Aside0.mk ((by rw [hg]; exact (below_size (by repeat (first | (with_reducible first | exact HB.out | apply below_alloc | apply pw_below_drewN | apply below_drew1) | exact HB.out))) : w.heap.size ≤ gb148)); clear HB; have HB := n0_; have BK148 := n1_; have GW148 := n2_; have GE148 := n3_; clear n0_ n1_ n2_ n3_; clear hb hbox hg; have hcz20_0 : w19.cell? ⟨gb148, 0, none⟩ = some (.int .i64 0) := (blk_cell BK148.out 0).trans rfl; have hcz20_1 : w19.cell? ⟨gb148, 1, none⟩ = some (.slice none 0 0) := (blk_cell BK148.out 1).trans rfl; have hcz20_2 : w19.cell? ⟨gb148, 2, none⟩ = some (.slice none 0 0) := (blk_cell BK148.out 2).trans rfl; have hcz20_3 : w19.cell? ⟨gb148, 3, none⟩ = some (.slice none 0 0) := (blk_cell BK148.out 3).trans rfl; have hcz20_4 : w19.cell? ⟨gb148, 4, none⟩ = some (.string (⟨#[]⟩ : ByteArray)) := (blk_cell BK148.out 4).trans rfl; have hfz20_0 := blk_frozen BK148.out 0; have hfz20_1 := blk_frozen BK148.out 1; have hfz20_2 := blk_frozen BK148.out 2; have hfz20_3 := blk_frozen BK148.out 3; have hfz20_4 := blk_frozen BK148.out 4) | ((with_reducible refine gate_callee (f := 10) rfl ?_); refine goesL_ (some 18) rfl rfl Tryd.func10 (by kernel_rfl) rfl #[.slice A147_3 ((rd_T30 l0 x9_1).f3).length c147_3] rfl (by (try simp only [List.map_toArray, List.map_cons, List.map_nil]); first | done | rfl | (simp only [List.length_drop, List.length_take]; rfl)) ?_; (with_reducible refine (spec_commentsOk.calls k1 _ _ ((rd_T30 l0 x9_1).f3) true _ ?side1 ?side2 A6.out).mono ?_); (case side1 => exact Kd.C_below HR147_3.out (by repeat (first | (with_reducible first | exact HB.out | apply below_alloc | apply pw_below_drewN | apply below_drew1 | refine below_set ?_ GE148.out) | exact HB.out))); (case side2 => exact HC147_3.out); rintro e w21 ⟨rfl, hb⟩; refine ⟨_, rfl, ?_⟩; have n0_ := Aside0.mk (blk_below (g := gb148) (o := .cells #[.int .i64 ((rd_T30 l0 x9_1).f0), .slice A147_1 ((rd_T30 l0 x9_1).f1).length c147_1, .slice A147_2 ((rd_T30 l0 x9_1).f2).length c147_2, .slice A147_3 ((rd_T30 l0 x9_1).f3).length c147_3, .string ((rd_T30 l0 x9_1).f4)] 30 (0, 0)) (by (with_reducible repeat (first | refine blk_drewN ?_ _ | refine blk_drew ?_ | refine blk_alloc ?_ _)); refine blk_put (cs := #[.int .i64 ((rd_T30 l0 x9_1).f0), .slice A147_1 ((rd_T30 l0 x9_1).f1).length c147_1, .slice A147_2 ((rd_T30 l0 x9_1).f2).length c147_2, .slice A147_3 ((rd_T30 l0 x9_1).f3).length c147_3, .string (⟨#[]⟩ : ByteArray)]) ?_ 4 _ rfl; (with_reducible repeat (first | refine blk_drewN ?_ _ | refine blk_drew ?_ | refine blk_alloc ?_ _)); refine blk_put (cs := #[.int .i64 ((rd_T30 l0 x9_1).f0), .slice A147_1 ((rd_T30 l0 x9_1).f1).length c147_1, .slice A147_2 ((rd_T30 l0 x9_1).f2).length c147_2, .slice none 0 0, .string (⟨#[]⟩ : ByteArray)]) ?_ 3 _ rfl; (with_reducible repeat (first | refine blk_drewN ?_ _ | refine blk_drew ?_ | refine blk_alloc ?_ _)); refine blk_put (cs := #[.int .i64 ((rd_T30 l0 x9_1).f0), .slice A147_1 ((rd_T30 l0 x9_1).f1).length c147_1, .slice none 0 0, .slice none 0 0, .string (⟨#[]⟩ : ByteArray)]) ?_ 2 _ rfl; (with_reducible repeat (first | refine blk_drewN ?_ _ | refine blk_drew ?_ | refine blk_alloc ?_ _)); refine blk_put (cs := #[.int .i64 ((rd_T30 l0 x9_1).f0), .slice none 0 0, .slice none 0 0, .slice none 0 0, .string (⟨#[]⟩ : ByteArray)]) ?_ 1 _ rfl; (with_reducible repeat (first | refine blk_drewN ?_ _ | refine blk_drew ?_ | refine blk_alloc ?_ _)); refine blk_put (cs := #[.int .i64 0, .slice none 0 0, .slice none 0 0, .slice none 0 0, .string (⟨#[]⟩ : ByteArray)]) ?_ 0 _ rfl; (with_reducible repeat (first | refine blk_drewN ?_ _ | refine blk_drew ?_ | refine blk_alloc ?_ _)); exact BK148.out) hb); have n1_ := Aside0.mk (below_step (by repeat (first | (with_reducible first | exact HB.out | apply below_alloc | apply pw_below_drewN | apply below_drew1 | refine below_set ?_ GE148.out) | exact HB.out)) hb); clear BK148; clear HB; have BK148 := n0_; have HB := n1_; clear n0_ n1_; (try clear hb); (try clear hb2); (try clear hk); (try clear hi); have hcz22_0 : w21.cell? ⟨gb148, 0, none⟩ = some (.int .i64 ((rd_T30 l0 x9_1).f0)) := (blk_cell BK148.out 0).trans rfl; have hcz22_1 : w21.cell? ⟨gb148, 1, none⟩ = some (.slice A147_1 ((rd_T30 l0 x9_1).f1).length c147_1) := (blk_cell BK148.out 1).trans rfl; have hcz22_2 : w21.cell? ⟨gb148, 2, none⟩ = some (.slice A147_2 ((rd_T30 l0 x9_1).f2).length c147_2) := (blk_cell BK148.out 2).trans rfl; have hcz22_3 : w21.cell? ⟨gb148, 3, none⟩ = some (.slice A147_3 ((rd_T30 l0 x9_1).f3).length c147_3) := (blk_cell BK148.out 3).trans rfl; have hcz22_4 : w21.cell? ⟨gb148, 4, none⟩ = some (.string ((rd_T30 l0 x9_1).f4)) := (blk_cell BK148.out 4).trans rfl; have hfz22_0 := blk_frozen BK148.out 0; have hfz22_1 := blk_frozen BK148.out 1; have hfz22_2 := blk_frozen BK148.out 2; have hfz22_3 := blk_frozen BK148.out 3; have hfz22_4 := blk_frozen BK148.out 4))
                      go_roundg k1
                      case measure => have := HK1.out; omega
                      case rel => exact ⟨(wrap64 (x9_1 + 1)), (by first | rfl | (simp; done) | (simp [*]; done)), H', ⟨by have := HK1.out; omega⟩, ⟨by repeat (first | (with_reducible first | exact HB.out | apply below_alloc | apply pw_below_drewN | apply below_drew1 | refine below_set ?_ GE148.out) | exact HB.out)⟩⟩
                  · rw [if_neg c13] at H
                    have c13b0 : (((rd_T30 l0 x9_1).f4).toList == ([] : List UInt8)) = false := beq_eq_false_iff_ne.mpr c13
                    have c13b1 : (((rd_T30 l0 x9_1).f4).toList != ([] : List UInt8)) = true := bne_iff_ne.mpr c13
                    obtain rfl := Option.some.inj H
                    have p147 : 0 ≤ (x9_1 : Int) := of_decide_eq_true (by first | (with_reducible assumption) | assumption)
                    have q147 : x9_1 < (l0.length : Int) := of_decide_eq_true (by first | (with_reducible assumption) | assumption)
                    obtain ⟨ad147, A147_1, c147_1, A147_2, c147_2, A147_3, c147_3, e147, hx147_0, hx147_1, hx147_2, hx147_3, hx147_4, hl147_1, hi147_1, hl147_2, hi147_2, hl147_3, hi147_3⟩ := at_T30 HR0.out x9_1 p147 q147
                    cases e147
                    replace hx147_0 := (HB.out.cell (World.block_lt_of_cell? w _ hx147_0)).trans hx147_0
                    replace hx147_1 := (HB.out.cell (World.block_lt_of_cell? w _ hx147_1)).trans hx147_1
                    replace hx147_2 := (HB.out.cell (World.block_lt_of_cell? w _ hx147_2)).trans hx147_2
                    replace hx147_3 := (HB.out.cell (World.block_lt_of_cell? w _ hx147_3)).trans hx147_3
                    replace hx147_4 := (HB.out.cell (World.block_lt_of_cell? w _ hx147_4)).trans hx147_4
                    have HR147_1 := Aside0.mk hi147_1
                    have HC147_1 := Aside0.mk hl147_1
                    clear hi147_1 hl147_1
                    have HR147_2 := Aside0.mk hi147_2
                    have HC147_2 := Aside0.mk hl147_2
                    clear hi147_2 hl147_2
                    have HR147_3 := Aside0.mk hi147_3
                    have HC147_3 := Aside0.mk hl147_3
                    clear hi147_3 hl147_3
                    replace p147 := eq_true p147
                    replace q147 := eq_true q147
                    go_wp2_with (first | ((with_reducible refine gate_dst (N := 4) rfl ?_); (try (refine gate_guard (by rfl) ?_; dsimp only)); refine box_event ?hg (N := 4) ?hd (cs := #[.int .i64 0, .slice none 0 0, .slice none 0 0, .slice none 0 0, .string (⟨#[]⟩ : ByteArray)]) (t := 30) ?hr ?_; (case hd => rfl); (case hg => rfl); (case hr => first | (go_simp; done) | (go_simp; rfl)); intro gb148 hg w23 hbox hb; have n0_ := Aside0.mk (below_step (by repeat (first | (with_reducible first | exact HB.out | apply below_alloc | apply pw_below_drewN | apply below_drew1) | exact HB.out)) hb); have n1_ := Aside0.mk (hbox); have n2_ := Aside0.mk ((by rw [hg]; exact (below_size (by repeat (first | (with_reducible first | exact HB.out | apply below_alloc | apply pw_below_drewN | apply below_drew1) | exact HB.out))) : w.heap.size ≤ gb148)); have n3_ := Aside0.mk ((by rw [hg]; exact (below_size (by repeat (first | (with_reducible first | exact HB.out | apply below_alloc | apply pw_below_drewN | apply below_drew1) | exact HB.out))) : w.heap.size ≤ gb148)); clear HB; have HB := n0_; have BK148 := n1_; have GW148 := n2_; have GE148 := n3_; clear n0_ n1_ n2_ n3_; clear hb hbox hg; have hcz24_0 : w23.cell? ⟨gb148, 0, none⟩ = some (.int .i64 0) := (blk_cell BK148.out 0).trans rfl; have hcz24_1 : w23.cell? ⟨gb148, 1, none⟩ = some (.slice none 0 0) := (blk_cell BK148.out 1).trans rfl; have hcz24_2 : w23.cell? ⟨gb148, 2, none⟩ = some (.slice none 0 0) := (blk_cell BK148.out 2).trans rfl; have hcz24_3 : w23.cell? ⟨gb148, 3, none⟩ = some (.slice none 0 0) := (blk_cell BK148.out 3).trans rfl; have hcz24_4 : w23.cell? ⟨gb148, 4, none⟩ = some (.string (⟨#[]⟩ : ByteArray)) := (blk_cell BK148.out 4).trans rfl; have hfz24_0 := blk_frozen BK148.out 0; have hfz24_1 := blk_frozen BK148.out 1; have hfz24_2 := blk_frozen BK148.out 2; have hfz24_3 := blk_frozen BK148.out 3; have hfz24_4 := blk_frozen BK148.out 4) | ((with_reducible refine gate_callee (f := 10) rfl ?_); refine goesL_ (some 18) rfl rfl Tryd.func10 (by kernel_rfl) rfl #[.slice A147_3 ((rd_T30 l0 x9_1).f3).length c147_3] rfl (by (try simp only [List.map_toArray, List.map_cons, List.map_nil]); first | done | rfl | (simp only [List.length_drop, List.length_take]; rfl)) ?_; (with_reducible refine (spec_commentsOk.calls k1 _ _ ((rd_T30 l0 x9_1).f3) true _ ?side1 ?side2 A6.out).mono ?_); (case side1 => exact Kd.C_below HR147_3.out (by repeat (first | (with_reducible first | exact HB.out | apply below_alloc | apply pw_below_drewN | apply below_drew1 | refine below_set ?_ GE148.out) | exact HB.out))); (case side2 => exact HC147_3.out); rintro e w25 ⟨rfl, hb⟩; refine ⟨_, rfl, ?_⟩; have n0_ := Aside0.mk (blk_below (g := gb148) (o := .cells #[.int .i64 ((rd_T30 l0 x9_1).f0), .slice A147_1 ((rd_T30 l0 x9_1).f1).length c147_1, .slice A147_2 ((rd_T30 l0 x9_1).f2).length c147_2, .slice A147_3 ((rd_T30 l0 x9_1).f3).length c147_3, .string ((rd_T30 l0 x9_1).f4)] 30 (0, 0)) (by (with_reducible repeat (first | refine blk_drewN ?_ _ | refine blk_drew ?_ | refine blk_alloc ?_ _)); refine blk_put (cs := #[.int .i64 ((rd_T30 l0 x9_1).f0), .slice A147_1 ((rd_T30 l0 x9_1).f1).length c147_1, .slice A147_2 ((rd_T30 l0 x9_1).f2).length c147_2, .slice A147_3 ((rd_T30 l0 x9_1).f3).length c147_3, .string (⟨#[]⟩ : ByteArray)]) ?_ 4 _ rfl; (with_reducible repeat (first | refine blk_drewN ?_ _ | refine blk_drew ?_ | refine blk_alloc ?_ _)); refine blk_put (cs := #[.int .i64 ((rd_T30 l0 x9_1).f0), .slice A147_1 ((rd_T30 l0 x9_1).f1).length c147_1, .slice A147_2 ((rd_T30 l0 x9_1).f2).length c147_2, .slice none 0 0, .string (⟨#[]⟩ : ByteArray)]) ?_ 3 _ rfl; (with_reducible repeat (first | refine blk_drewN ?_ _ | refine blk_drew ?_ | refine blk_alloc ?_ _)); refine blk_put (cs := #[.int .i64 ((rd_T30 l0 x9_1).f0), .slice A147_1 ((rd_T30 l0 x9_1).f1).length c147_1, .slice none 0 0, .slice none 0 0, .string (⟨#[]⟩ : ByteArray)]) ?_ 2 _ rfl; (with_reducible repeat (first | refine blk_drewN ?_ _ | refine blk_drew ?_ | refine blk_alloc ?_ _)); refine blk_put (cs := #[.int .i64 ((rd_T30 l0 x9_1).f0), .slice none 0 0, .slice none 0 0, .slice none 0 0, .string (⟨#[]⟩ : ByteArray)]) ?_ 1 _ rfl; (with_reducible repeat (first | refine blk_drewN ?_ _ | refine blk_drew ?_ | refine blk_alloc ?_ _)); refine blk_put (cs := #[.int .i64 0, .slice none 0 0, .slice none 0 0, .slice none 0 0, .string (⟨#[]⟩ : ByteArray)]) ?_ 0 _ rfl; (with_reducible repeat (first | refine blk_drewN ?_ _ | refine blk_drew ?_ | refine blk_alloc ?_ _)); exact BK148.out) hb); have n1_ := Aside0.mk (below_step (by repeat (first | (with_reducible first | exact HB.out | apply below_alloc | apply pw_below_drewN | apply below_drew1 | refine below_set ?_ GE148.out) | exact HB.out)) hb); clear BK148; clear HB; have BK148 := n0_; have HB := n1_; clear n0_ n1_; (try clear hb); (try clear hb2); (try clear hk); (try clear hi); have hcz26_0 : w25.cell? ⟨gb148, 0, none⟩ = some (.int .i64 ((rd_T30 l0 x9_1).f0)) := (blk_cell BK148.out 0).trans rfl; have hcz26_1 : w25.cell? ⟨gb148, 1, none⟩ = some (.slice A147_1 ((rd_T30 l0 x9_1).f1).length c147_1) := (blk_cell BK148.out 1).trans rfl; have hcz26_2 : w25.cell? ⟨gb148, 2, none⟩ = some (.slice A147_2 ((rd_T30 l0 x9_1).f2).length c147_2) := (blk_cell BK148.out 2).trans rfl; have hcz26_3 : w25.cell? ⟨gb148, 3, none⟩ = some (.slice A147_3 ((rd_T30 l0 x9_1).f3).length c147_3) := (blk_cell BK148.out 3).trans rfl; have hcz26_4 : w25.cell? ⟨gb148, 4, none⟩ = some (.string ((rd_T30 l0 x9_1).f4)) := (blk_cell BK148.out 4).trans rfl; have hfz26_0 := blk_frozen BK148.out 0; have hfz26_1 := blk_frozen BK148.out 1; have hfz26_2 := blk_frozen BK148.out 2; have hfz26_3 := blk_frozen BK148.out 3; have hfz26_4 := blk_frozen BK148.out 4))
                    go_ret
                    exact ⟨by first | rfl | (simp [errW_none, errW_some] <;> rfl) | (simp [*, errW_none, errW_some] <;> rfl), by repeat (first | (with_reducible first | exact HB.out | apply below_alloc | apply pw_below_drewN | apply below_drew1 | refine below_set ?_ GE148.out) | exact HB.out)⟩
              · replace c7 := Bool.eq_false_iff.mpr c7
                subst c7
                have H1 : (some false) = some r := by rw [if_neg (show ¬ (false = true) by decide)] at H; exact H
                clear H
                have H := H1
                clear H1
                obtain rfl := Option.some.inj H
                have p147 : 0 ≤ (x9_1 : Int) := of_decide_eq_true (by first | (with_reducible assumption) | assumption)
                have q147 : x9_1 < (l0.length : Int) := of_decide_eq_true (by first | (with_reducible assumption) | assumption)
                obtain ⟨ad147, A147_1, c147_1, A147_2, c147_2, A147_3, c147_3, e147, hx147_0, hx147_1, hx147_2, hx147_3, hx147_4, hl147_1, hi147_1, hl147_2, hi147_2, hl147_3, hi147_3⟩ := at_T30 HR0.out x9_1 p147 q147
                cases e147
                replace hx147_0 := (HB.out.cell (World.block_lt_of_cell? w _ hx147_0)).trans hx147_0
                replace hx147_1 := (HB.out.cell (World.block_lt_of_cell? w _ hx147_1)).trans hx147_1
                replace hx147_2 := (HB.out.cell (World.block_lt_of_cell? w _ hx147_2)).trans hx147_2
                replace hx147_3 := (HB.out.cell (World.block_lt_of_cell? w _ hx147_3)).trans hx147_3
                replace hx147_4 := (HB.out.cell (World.block_lt_of_cell? w _ hx147_4)).trans hx147_4
                have HR147_1 := Aside0.mk hi147_1
                have HC147_1 := Aside0.mk hl147_1
                clear hi147_1 hl147_1
                have HR147_2 := Aside0.mk hi147_2
                have HC147_2 := Aside0.mk hl147_2
                clear hi147_2 hl147_2
                have HR147_3 := Aside0.mk hi147_3
                have HC147_3 := Aside0.mk hl147_3
                clear hi147_3 hl147_3
                replace p147 := eq_true p147
                replace q147 := eq_true q147
                go_wp2_with (first | ((with_reducible refine gate_dst (N := 4) rfl ?_); (try (refine gate_guard (by rfl) ?_; dsimp only)); refine box_event ?hg (N := 4) ?hd (cs := #[.int .i64 0, .slice none 0 0, .slice none 0 0, .slice none 0 0, .string (⟨#[]⟩ : ByteArray)]) (t := 30) ?hr ?_; (case hd => rfl); (case hg => rfl); (case hr => first | (go_simp; done) | (go_simp; rfl)); intro gb148 hg w27 hbox hb; have n0_ := Aside0.mk (below_step (by repeat (first | (with_reducible first | exact HB.out | apply below_alloc | apply pw_below_drewN | apply below_drew1) | exact HB.out)) hb); have n1_ := Aside0.mk (hbox); have n2_ := Aside0.mk ((by rw [hg]; exact (below_size (by repeat (first | (with_reducible first | exact HB.out | apply below_alloc | apply pw_below_drewN | apply below_drew1) | exact HB.out))) : w.heap.size ≤ gb148)); have n3_ := Aside0.mk ((by rw [hg]; exact (below_size (by repeat (first | (with_reducible first | exact HB.out | apply below_alloc | apply pw_below_drewN | apply below_drew1) | exact HB.out))) : w.heap.size ≤ gb148)); clear HB; have HB := n0_; have BK148 := n1_; have GW148 := n2_; have GE148 := n3_; clear n0_ n1_ n2_ n3_; clear hb hbox hg; have hcz28_0 : w27.cell? ⟨gb148, 0, none⟩ = some (.int .i64 0) := (blk_cell BK148.out 0).trans rfl; have hcz28_1 : w27.cell? ⟨gb148, 1, none⟩ = some (.slice none 0 0) := (blk_cell BK148.out 1).trans rfl; have hcz28_2 : w27.cell? ⟨gb148, 2, none⟩ = some (.slice none 0 0) := (blk_cell BK148.out 2).trans rfl; have hcz28_3 : w27.cell? ⟨gb148, 3, none⟩ = some (.slice none 0 0) := (blk_cell BK148.out 3).trans rfl; have hcz28_4 : w27.cell? ⟨gb148, 4, none⟩ = some (.string (⟨#[]⟩ : ByteArray)) := (blk_cell BK148.out 4).trans rfl; have hfz28_0 := blk_frozen BK148.out 0; have hfz28_1 := blk_frozen BK148.out 1; have hfz28_2 := blk_frozen BK148.out 2; have hfz28_3 := blk_frozen BK148.out 3; have hfz28_4 := blk_frozen BK148.out 4) | ((with_reducible refine gate_callee (f := 10) rfl ?_); refine goesL_ (some 18) rfl rfl Tryd.func10 (by kernel_rfl) rfl #[.slice A147_3 ((rd_T30 l0 x9_1).f3).length c147_3] rfl (by (try simp only [List.map_toArray, List.map_cons, List.map_nil]); first | done | rfl | (simp only [List.length_drop, List.length_take]; rfl)) ?_; (with_reducible refine (spec_commentsOk.calls k1 _ _ ((rd_T30 l0 x9_1).f3) false _ ?side1 ?side2 A6.out).mono ?_); (case side1 => exact Kd.C_below HR147_3.out (by repeat (first | (with_reducible first | exact HB.out | apply below_alloc | apply pw_below_drewN | apply below_drew1 | refine below_set ?_ GE148.out) | exact HB.out))); (case side2 => exact HC147_3.out); rintro e w29 ⟨rfl, hb⟩; refine ⟨_, rfl, ?_⟩; have n0_ := Aside0.mk (blk_below (g := gb148) (o := .cells #[.int .i64 ((rd_T30 l0 x9_1).f0), .slice A147_1 ((rd_T30 l0 x9_1).f1).length c147_1, .slice A147_2 ((rd_T30 l0 x9_1).f2).length c147_2, .slice A147_3 ((rd_T30 l0 x9_1).f3).length c147_3, .string ((rd_T30 l0 x9_1).f4)] 30 (0, 0)) (by (with_reducible repeat (first | refine blk_drewN ?_ _ | refine blk_drew ?_ | refine blk_alloc ?_ _)); refine blk_put (cs := #[.int .i64 ((rd_T30 l0 x9_1).f0), .slice A147_1 ((rd_T30 l0 x9_1).f1).length c147_1, .slice A147_2 ((rd_T30 l0 x9_1).f2).length c147_2, .slice A147_3 ((rd_T30 l0 x9_1).f3).length c147_3, .string (⟨#[]⟩ : ByteArray)]) ?_ 4 _ rfl; (with_reducible repeat (first | refine blk_drewN ?_ _ | refine blk_drew ?_ | refine blk_alloc ?_ _)); refine blk_put (cs := #[.int .i64 ((rd_T30 l0 x9_1).f0), .slice A147_1 ((rd_T30 l0 x9_1).f1).length c147_1, .slice A147_2 ((rd_T30 l0 x9_1).f2).length c147_2, .slice none 0 0, .string (⟨#[]⟩ : ByteArray)]) ?_ 3 _ rfl; (with_reducible repeat (first | refine blk_drewN ?_ _ | refine blk_drew ?_ | refine blk_alloc ?_ _)); refine blk_put (cs := #[.int .i64 ((rd_T30 l0 x9_1).f0), .slice A147_1 ((rd_T30 l0 x9_1).f1).length c147_1, .slice none 0 0, .slice none 0 0, .string (⟨#[]⟩ : ByteArray)]) ?_ 2 _ rfl; (with_reducible repeat (first | refine blk_drewN ?_ _ | refine blk_drew ?_ | refine blk_alloc ?_ _)); refine blk_put (cs := #[.int .i64 ((rd_T30 l0 x9_1).f0), .slice none 0 0, .slice none 0 0, .slice none 0 0, .string (⟨#[]⟩ : ByteArray)]) ?_ 1 _ rfl; (with_reducible repeat (first | refine blk_drewN ?_ _ | refine blk_drew ?_ | refine blk_alloc ?_ _)); refine blk_put (cs := #[.int .i64 0, .slice none 0 0, .slice none 0 0, .slice none 0 0, .string (⟨#[]⟩ : ByteArray)]) ?_ 0 _ rfl; (with_reducible repeat (first | refine blk_drewN ?_ _ | refine blk_drew ?_ | refine blk_alloc ?_ _)); exact BK148.out) hb); have n1_ := Aside0.mk (below_step (by repeat (first | (with_reducible first | exact HB.out | apply below_alloc | apply pw_below_drewN | apply below_drew1 | refine below_set ?_ GE148.out) | exact HB.out)) hb); clear BK148; clear HB; have BK148 := n0_; have HB := n1_; clear n0_ n1_; (try clear hb); (try clear hb2); (try clear hk); (try clear hi)))
                go_ret
                exact ⟨by first | rfl | (simp [errW_none, errW_some] <;> rfl) | (simp [*, errW_none, errW_some] <;> rfl), by repeat (first | (with_reducible first | exact HB.out | apply below_alloc | apply pw_below_drewN | apply below_drew1 | refine below_set ?_ GE148.out) | exact HB.out)⟩
            · rw [if_neg c5] at H
              have c5b0 : (((rd_T30 l0 x9_1).f0) == 2) = false := beq_eq_false_iff_ne.mpr c5
              have c5b1 : (((rd_T30 l0 x9_1).f0) != 2) = true := bne_iff_ne.mpr c5
              have HC30 := Aside0.mk H
              clear H
              have p147 : 0 ≤ (x9_1 : Int) := of_decide_eq_true (by first | (with_reducible assumption) | assumption)
              have q147 : x9_1 < (l0.length : Int) := of_decide_eq_true (by first | (with_reducible assumption) | assumption)
              obtain ⟨ad147, A147_1, c147_1, A147_2, c147_2, A147_3, c147_3, e147, hx147_0, hx147_1, hx147_2, hx147_3, hx147_4, hl147_1, hi147_1, hl147_2, hi147_2, hl147_3, hi147_3⟩ := at_T30 HR0.out x9_1 p147 q147
              cases e147
              replace hx147_0 := (HB.out.cell (World.block_lt_of_cell? w _ hx147_0)).trans hx147_0
              replace hx147_1 := (HB.out.cell (World.block_lt_of_cell? w _ hx147_1)).trans hx147_1
              replace hx147_2 := (HB.out.cell (World.block_lt_of_cell? w _ hx147_2)).trans hx147_2
              replace hx147_3 := (HB.out.cell (World.block_lt_of_cell? w _ hx147_3)).trans hx147_3
              replace hx147_4 := (HB.out.cell (World.block_lt_of_cell? w _ hx147_4)).trans hx147_4
              have HR147_1 := Aside0.mk hi147_1
              have HC147_1 := Aside0.mk hl147_1
              clear hi147_1 hl147_1
              have HR147_2 := Aside0.mk hi147_2
              have HC147_2 := Aside0.mk hl147_2
              clear hi147_2 hl147_2
              have HR147_3 := Aside0.mk hi147_3
              have HC147_3 := Aside0.mk hl147_3
              clear hi147_3 hl147_3
              replace p147 := eq_true p147
              replace q147 := eq_true q147
              go_upto_region 7 with (first | ((with_reducible refine gate_dst (N := 4) rfl ?_); (try (refine gate_guard (by rfl) ?_; dsimp only)); refine box_event ?hg (N := 4) ?hd (cs := #[.int .i64 0, .slice none 0 0, .slice none 0 0, .slice none 0 0, .string (⟨#[]⟩ : ByteArray)]) (t := 30) ?hr ?_; (case hd => rfl); (case hg => rfl); (case hr => first | (go_simp; done) | (go_simp; rfl)); intro gb148 hg w31 hbox hb; have n0_ := Aside0.mk (below_step (by repeat (first | (with_reducible first | exact HB.out | apply below_alloc | apply pw_below_drewN | apply below_drew1) | exact HB.out)) hb); have n1_ := Aside0.mk (hbox); have n2_ := Aside0.mk ((by rw [hg]; exact (below_size (by repeat (first | (with_reducible first | exact HB.out | apply below_alloc | apply pw_below_drewN | apply below_drew1) | exact HB.out))) : w.heap.size ≤ gb148)); have n3_ := Aside0.mk ((by rw [hg]; exact (below_size (by repeat (first | (with_reducible first | exact HB.out | apply below_alloc | apply pw_below_drewN | apply below_drew1) | exact HB.out))) : w.heap.size ≤ gb148)); clear HB; have HB := n0_; have BK148 := n1_; have GW148 := n2_; have GE148 := n3_; clear n0_ n1_ n2_ n3_; clear hb hbox hg; have hcz32_0 : w31.cell? ⟨gb148, 0, none⟩ = some (.int .i64 0) := (blk_cell BK148.out 0).trans rfl; have hcz32_1 : w31.cell? ⟨gb148, 1, none⟩ = some (.slice none 0 0) := (blk_cell BK148.out 1).trans rfl; have hcz32_2 : w31.cell? ⟨gb148, 2, none⟩ = some (.slice none 0 0) := (blk_cell BK148.out 2).trans rfl; have hcz32_3 : w31.cell? ⟨gb148, 3, none⟩ = some (.slice none 0 0) := (blk_cell BK148.out 3).trans rfl; have hcz32_4 : w31.cell? ⟨gb148, 4, none⟩ = some (.string (⟨#[]⟩ : ByteArray)) := (blk_cell BK148.out 4).trans rfl; have hfz32_0 := blk_frozen BK148.out 0; have hfz32_1 := blk_frozen BK148.out 1; have hfz32_2 := blk_frozen BK148.out 2; have hfz32_3 := blk_frozen BK148.out 3; have hfz32_4 := blk_frozen BK148.out 4))
              (try simp only [Act.put, List.setIfInBounds_toArray, List.set_cons_zero, List.set_cons_succ])
              go_cut [83] (fun v83 wc => ∃ (kq : Nat) (x83_29 : Bool), v83 = .bool x83_29 ∧ Aside0 (spec_TreeOk.j1 kq l0 l0 (l0.length : Int) x9_1 x83_29 ((rd_T30 l0 x9_1).f0) ((rd_T30 l0 x9_1).f1) ((rd_T30 l0 x9_1).f2) ((rd_T30 l0 x9_1).f3) ((rd_T30 l0 x9_1).f4) = some r) ∧ Aside0 (kq ≤ k1) ∧ Aside0 (wc.heap[gb148]? = some (.cells #[.int .i64 ((rd_T30 l0 x9_1).f0), (.slice A147_1 ((rd_T30 l0 x9_1).f1).length c147_1), (.slice A147_2 ((rd_T30 l0 x9_1).f2).length c147_2), (.slice A147_3 ((rd_T30 l0 x9_1).f3).length c147_3), .string ((rd_T30 l0 x9_1).f4)] 30 (0, 0))) ∧ Aside0 (Below w.heap.size w wc))
              case first =>
                have H := HC30.out
                clear HC30
                replace H := Option.bind_eq_some_iff.mp H
                obtain ⟨t150, A330, H⟩ := H
                replace H : (if t150 = true then (if 0 < (((rd_T30 l0 x9_1).f1).length : Int) then ((spec_Known.f k1 (rdOf ByteArray.empty ((rd_T30 l0 x9_1).f1) 0)).bind fun t152 => (if t152 = true then (spec_TreeOk.j1 k1 l0 l0 (l0.length : Int) x9_1 true ((rd_T30 l0 x9_1).f0) ((rd_T30 l0 x9_1).f1) ((rd_T30 l0 x9_1).f2) ((rd_T30 l0 x9_1).f3) ((rd_T30 l0 x9_1).f4)) else (if ((rd_T30 l0 x9_1).f0) = 0 then (if (((rd_T30 l0 x9_1).f2).length : Int) > 0 then (spec_TreeOk.j1 k1 l0 l0 (l0.length : Int) x9_1 true ((rd_T30 l0 x9_1).f0) ((rd_T30 l0 x9_1).f1) ((rd_T30 l0 x9_1).f2) ((rd_T30 l0 x9_1).f3) ((rd_T30 l0 x9_1).f4)) else (spec_TreeOk.j1 k1 l0 l0 (l0.length : Int) x9_1 (decide ((((rd_T30 l0 x9_1).f2).length : Int) > 20)) ((rd_T30 l0 x9_1).f0) ((rd_T30 l0 x9_1).f1) ((rd_T30 l0 x9_1).f2) ((rd_T30 l0 x9_1).f3) ((rd_T30 l0 x9_1).f4))) else (if ((rd_T30 l0 x9_1).f0) = 1 then (spec_TreeOk.j1 k1 l0 l0 (l0.length : Int) x9_1 (decide ((((rd_T30 l0 x9_1).f2).length : Int) > 20)) ((rd_T30 l0 x9_1).f0) ((rd_T30 l0 x9_1).f1) ((rd_T30 l0 x9_1).f2) ((rd_T30 l0 x9_1).f3) ((rd_T30 l0 x9_1).f4)) else (spec_TreeOk.j1 k1 l0 l0 (l0.length : Int) x9_1 true ((rd_T30 l0 x9_1).f0) ((rd_T30 l0 x9_1).f1) ((rd_T30 l0 x9_1).f2) ((rd_T30 l0 x9_1).f3) ((rd_T30 l0 x9_1).f4)))))) else (none)) else (spec_TreeOk.j1 k1 l0 l0 (l0.length : Int) x9_1 true ((rd_T30 l0 x9_1).f0) ((rd_T30 l0 x9_1).f1) ((rd_T30 l0 x9_1).f2) ((rd_T30 l0 x9_1).f3) ((rd_T30 l0 x9_1).f4))) = some r := H
                have A33 := Aside0.mk A330
                clear A330
                by_cases c34 : t150 = true
                · subst c34
                  have H1 : (if 0 < (((rd_T30 l0 x9_1).f1).length : Int) then ((spec_Known.f k1 (rdOf ByteArray.empty ((rd_T30 l0 x9_1).f1) 0)).bind fun t152 => (if t152 = true then (spec_TreeOk.j1 k1 l0 l0 (l0.length : Int) x9_1 true ((rd_T30 l0 x9_1).f0) ((rd_T30 l0 x9_1).f1) ((rd_T30 l0 x9_1).f2) ((rd_T30 l0 x9_1).f3) ((rd_T30 l0 x9_1).f4)) else (if ((rd_T30 l0 x9_1).f0) = 0 then (if (((rd_T30 l0 x9_1).f2).length : Int) > 0 then (spec_TreeOk.j1 k1 l0 l0 (l0.length : Int) x9_1 true ((rd_T30 l0 x9_1).f0) ((rd_T30 l0 x9_1).f1) ((rd_T30 l0 x9_1).f2) ((rd_T30 l0 x9_1).f3) ((rd_T30 l0 x9_1).f4)) else (spec_TreeOk.j1 k1 l0 l0 (l0.length : Int) x9_1 (decide ((((rd_T30 l0 x9_1).f2).length : Int) > 20)) ((rd_T30 l0 x9_1).f0) ((rd_T30 l0 x9_1).f1) ((rd_T30 l0 x9_1).f2) ((rd_T30 l0 x9_1).f3) ((rd_T30 l0 x9_1).f4))) else (if ((rd_T30 l0 x9_1).f0) = 1 then (spec_TreeOk.j1 k1 l0 l0 (l0.length : Int) x9_1 (decide ((((rd_T30 l0 x9_1).f2).length : Int) > 20)) ((rd_T30 l0 x9_1).f0) ((rd_T30 l0 x9_1).f1) ((rd_T30 l0 x9_1).f2) ((rd_T30 l0 x9_1).f3) ((rd_T30 l0 x9_1).f4)) else (spec_TreeOk.j1 k1 l0 l0 (l0.length : Int) x9_1 true ((rd_T30 l0 x9_1).f0) ((rd_T30 l0 x9_1).f1) ((rd_T30 l0 x9_1).f2) ((rd_T30 l0 x9_1).f3) ((rd_T30 l0 x9_1).f4)))))) else (none)) = some r := by rw [if_pos rfl] at H; exact H
                  clear H
                  have H := H1
                  clear H1
                  by_cases c35 : 0 < (((rd_T30 l0 x9_1).f1).length : Int)
                  · rw [if_pos c35] at H
                    have c35b0 : decide (0 < (((rd_T30 l0 x9_1).f1).length : Int)) = true := decide_eq_true c35
                    have c35b1 : decide (0 < ((rd_T30 l0 x9_1).f1).length) = true := decide_eq_true (by omega)
                    clear c35
                    (first | rw [c35b0] | (simp only [i64_w, i32_w]; rw [c35b0]) | skip)
                    replace H := Option.bind_eq_some_iff.mp H
                    obtain ⟨t152, A360, H⟩ := H
                    replace H : (if t152 = true then (spec_TreeOk.j1 k1 l0 l0 (l0.length : Int) x9_1 true ((rd_T30 l0 x9_1).f0) ((rd_T30 l0 x9_1).f1) ((rd_T30 l0 x9_1).f2) ((rd_T30 l0 x9_1).f3) ((rd_T30 l0 x9_1).f4)) else (if ((rd_T30 l0 x9_1).f0) = 0 then (if (((rd_T30 l0 x9_1).f2).length : Int) > 0 then (spec_TreeOk.j1 k1 l0 l0 (l0.length : Int) x9_1 true ((rd_T30 l0 x9_1).f0) ((rd_T30 l0 x9_1).f1) ((rd_T30 l0 x9_1).f2) ((rd_T30 l0 x9_1).f3) ((rd_T30 l0 x9_1).f4)) else (spec_TreeOk.j1 k1 l0 l0 (l0.length : Int) x9_1 (decide ((((rd_T30 l0 x9_1).f2).length : Int) > 20)) ((rd_T30 l0 x9_1).f0) ((rd_T30 l0 x9_1).f1) ((rd_T30 l0 x9_1).f2) ((rd_T30 l0 x9_1).f3) ((rd_T30 l0 x9_1).f4))) else (if ((rd_T30 l0 x9_1).f0) = 1 then (spec_TreeOk.j1 k1 l0 l0 (l0.length : Int) x9_1 (decide ((((rd_T30 l0 x9_1).f2).length : Int) > 20)) ((rd_T30 l0 x9_1).f0) ((rd_T30 l0 x9_1).f1) ((rd_T30 l0 x9_1).f2) ((rd_T30 l0 x9_1).f3) ((rd_T30 l0 x9_1).f4)) else (spec_TreeOk.j1 k1 l0 l0 (l0.length : Int) x9_1 true ((rd_T30 l0 x9_1).f0) ((rd_T30 l0 x9_1).f1) ((rd_T30 l0 x9_1).f2) ((rd_T30 l0 x9_1).f3) ((rd_T30 l0 x9_1).f4))))) = some r := H
                    have A36 := Aside0.mk A360
                    clear A360
                    by_cases c37 : t152 = true
                    · subst c37
                      have H1 : (spec_TreeOk.j1 k1 l0 l0 (l0.length : Int) x9_1 true ((rd_T30 l0 x9_1).f0) ((rd_T30 l0 x9_1).f1) ((rd_T30 l0 x9_1).f2) ((rd_T30 l0 x9_1).f3) ((rd_T30 l0 x9_1).f4)) = some r := by rw [if_pos rfl] at H; exact H
                      clear H
                      have H := H1
                      clear H1
                      have H' := Aside0.mk H
                      clear H
                      have hcz38_0 : w31.cell? ⟨gb148, 0, none⟩ = some (.int .i64 0) := (blk_cell BK148.out 0).trans rfl
                      have hcz38_1 : w31.cell? ⟨gb148, 1, none⟩ = some (.slice none 0 0) := (blk_cell BK148.out 1).trans rfl
                      have hcz38_2 : w31.cell? ⟨gb148, 2, none⟩ = some (.slice none 0 0) := (blk_cell BK148.out 2).trans rfl
                      have hcz38_3 : w31.cell? ⟨gb148, 3, none⟩ = some (.slice none 0 0) := (blk_cell BK148.out 3).trans rfl
                      have hcz38_4 : w31.cell? ⟨gb148, 4, none⟩ = some (.string (⟨#[]⟩ : ByteArray)) := (blk_cell BK148.out 4).trans rfl
                      have hfz38_0 := blk_frozen BK148.out 0
                      have hfz38_1 := blk_frozen BK148.out 1
                      have hfz38_2 := blk_frozen BK148.out 2
                      have hfz38_3 := blk_frozen BK148.out 3
                      have hfz38_4 := blk_frozen BK148.out 4
                      go_wp2_with (first | ((with_reducible refine gate_callee (f := 11) rfl ?_); refine goesL_ (some 48) rfl rfl Tryd.func11 (by kernel_rfl) rfl #[.agg #[.slice A147_1 ((rd_T30 l0 x9_1).f1).length c147_1, .slice A147_3 ((rd_T30 l0 x9_1).f3).length c147_3, .string ((rd_T30 l0 x9_1).f4)]] rfl (by (try simp only [List.map_toArray, List.map_cons, List.map_nil]); first | done | rfl | (simp only [List.length_drop, List.length_take]; rfl)) ?_; (with_reducible refine (spec_LineOk.calls k1 _ _ ((rd_T30 l0 x9_1).f1) _ _ ((rd_T30 l0 x9_1).f3) ((rd_T30 l0 x9_1).f4) true _ ?side1 ?side2 ?side3 ?side4 A33.out).mono ?_); (case side1 => exact Kd.C_below HR147_1.out (by repeat (first | (with_reducible first | exact HB.out | apply below_alloc | apply pw_below_drewN | apply below_drew1 | refine below_set ?_ GE148.out) | exact HB.out))); (case side2 => exact HC147_1.out); (case side3 => exact Kd.C_below HR147_3.out (by repeat (first | (with_reducible first | exact HB.out | apply below_alloc | apply pw_below_drewN | apply below_drew1 | refine below_set ?_ GE148.out) | exact HB.out))); (case side4 => exact HC147_3.out); rintro e w39 ⟨rfl, hb⟩; refine ⟨_, rfl, ?_⟩; have n0_ := Aside0.mk (blk_below (g := gb148) (o := .cells #[.int .i64 ((rd_T30 l0 x9_1).f0), .slice A147_1 ((rd_T30 l0 x9_1).f1).length c147_1, .slice A147_2 ((rd_T30 l0 x9_1).f2).length c147_2, .slice A147_3 ((rd_T30 l0 x9_1).f3).length c147_3, .string ((rd_T30 l0 x9_1).f4)] 30 (0, 0)) (by (with_reducible repeat (first | refine blk_drewN ?_ _ | refine blk_drew ?_ | refine blk_alloc ?_ _)); refine blk_put (cs := #[.int .i64 ((rd_T30 l0 x9_1).f0), .slice A147_1 ((rd_T30 l0 x9_1).f1).length c147_1, .slice A147_2 ((rd_T30 l0 x9_1).f2).length c147_2, .slice A147_3 ((rd_T30 l0 x9_1).f3).length c147_3, .string (⟨#[]⟩ : ByteArray)]) ?_ 4 _ rfl; (with_reducible repeat (first | refine blk_drewN ?_ _ | refine blk_drew ?_ | refine blk_alloc ?_ _)); refine blk_put (cs := #[.int .i64 ((rd_T30 l0 x9_1).f0), .slice A147_1 ((rd_T30 l0 x9_1).f1).length c147_1, .slice A147_2 ((rd_T30 l0 x9_1).f2).length c147_2, .slice none 0 0, .string (⟨#[]⟩ : ByteArray)]) ?_ 3 _ rfl; (with_reducible repeat (first | refine blk_drewN ?_ _ | refine blk_drew ?_ | refine blk_alloc ?_ _)); refine blk_put (cs := #[.int .i64 ((rd_T30 l0 x9_1).f0), .slice A147_1 ((rd_T30 l0 x9_1).f1).length c147_1, .slice none 0 0, .slice none 0 0, .string (⟨#[]⟩ : ByteArray)]) ?_ 2 _ rfl; (with_reducible repeat (first | refine blk_drewN ?_ _ | refine blk_drew ?_ | refine blk_alloc ?_ _)); refine blk_put (cs := #[.int .i64 ((rd_T30 l0 x9_1).f0), .slice none 0 0, .slice none 0 0, .slice none 0 0, .string (⟨#[]⟩ : ByteArray)]) ?_ 1 _ rfl; (with_reducible repeat (first | refine blk_drewN ?_ _ | refine blk_drew ?_ | refine blk_alloc ?_ _)); refine blk_put (cs := #[.int .i64 0, .slice none 0 0, .slice none 0 0, .slice none 0 0, .string (⟨#[]⟩ : ByteArray)]) ?_ 0 _ rfl; (with_reducible repeat (first | refine blk_drewN ?_ _ | refine blk_drew ?_ | refine blk_alloc ?_ _)); exact BK148.out) hb); have n1_ := Aside0.mk (below_step (by repeat (first | (with_reducible first | exact HB.out | apply below_alloc | apply pw_below_drewN | apply below_drew1 | refine below_set ?_ GE148.out) | exact HB.out)) hb); clear BK148; clear HB; have BK148 := n0_; have HB := n1_; clear n0_ n1_; (try clear hb); (try clear hb2); (try clear hk); (try clear hi); have hcz40_0 : w39.cell? ⟨gb148, 0, none⟩ = some (.int .i64 ((rd_T30 l0 x9_1).f0)) := (blk_cell BK148.out 0).trans rfl; have hcz40_1 : w39.cell? ⟨gb148, 1, none⟩ = some (.slice A147_1 ((rd_T30 l0 x9_1).f1).length c147_1) := (blk_cell BK148.out 1).trans rfl; have hcz40_2 : w39.cell? ⟨gb148, 2, none⟩ = some (.slice A147_2 ((rd_T30 l0 x9_1).f2).length c147_2) := (blk_cell BK148.out 2).trans rfl; have hcz40_3 : w39.cell? ⟨gb148, 3, none⟩ = some (.slice A147_3 ((rd_T30 l0 x9_1).f3).length c147_3) := (blk_cell BK148.out 3).trans rfl; have hcz40_4 : w39.cell? ⟨gb148, 4, none⟩ = some (.string ((rd_T30 l0 x9_1).f4)) := (blk_cell BK148.out 4).trans rfl; have hfz40_0 := blk_frozen BK148.out 0; have hfz40_1 := blk_frozen BK148.out 1; have hfz40_2 := blk_frozen BK148.out 2; have hfz40_3 := blk_frozen BK148.out 3; have hfz40_4 := blk_frozen BK148.out 4; have p151 : 0 ≤ (0 : Int) := (by omega); have q151 : 0 < (((rd_T30 l0 x9_1).f1).length : Int) := of_decide_eq_true (by first | (with_reducible assumption) | assumption); obtain ⟨ad151, e151, hx151_0⟩ := Kd.at_string HR147_1.out 0 p151 q151; cases e151; have qi151 : (0 < ((rd_T30 l0 x9_1).f1).length) = True := eq_true (by omega); (try rw [show ((0 : Int)).toNat = 0 from rfl] at hx151_0); (try rw [Addr.add_zero'] at hx151_0); replace hx151_0 := (HB.out.cell (World.block_lt_of_cell? w _ hx151_0)).trans hx151_0; replace p151 := eq_true p151; replace q151 := eq_true q151) | (go_at_call 12; (with_reducible refine (spec_Known.calls k1 (rdOf ByteArray.empty ((rd_T30 l0 x9_1).f1) 0) true _ A36.out).mono ?_); rintro e w41 ⟨rfl, hb⟩; have n0_ := Aside0.mk (blk_below (g := gb148) (o := .cells #[.int .i64 ((rd_T30 l0 x9_1).f0), .slice (some ad151) ((rd_T30 l0 x9_1).f1).length c147_1, .slice A147_2 ((rd_T30 l0 x9_1).f2).length c147_2, .slice A147_3 ((rd_T30 l0 x9_1).f3).length c147_3, .string ((rd_T30 l0 x9_1).f4)] 30 (0, 0)) (by (with_reducible repeat (first | refine blk_drewN ?_ _ | refine blk_drew ?_ | refine blk_alloc ?_ _)); exact BK148.out) hb); have n1_ := Aside0.mk (below_step (by repeat (first | (with_reducible first | exact HB.out | apply below_alloc | apply pw_below_drewN | apply below_drew1 | refine below_set ?_ GE148.out) | exact HB.out)) hb); clear BK148; clear HB; have BK148 := n0_; have HB := n1_; clear n0_ n1_; (try clear hb); (try clear hb2); (try clear hk); (try clear hi)))
                      go_meet
                      case rel => exact ⟨_, (true), (by first | rfl | (simp; done) | (simp [*]; done)), H', ⟨by have := HK1.out; first | omega | exact Nat.le_refl _⟩, ⟨by (with_reducible repeat (first | refine blk_drewN ?_ _ | refine blk_drew ?_ | refine blk_alloc ?_ _)); exact BK148.out⟩, ⟨by repeat (first | (with_reducible first | exact HB.out | apply below_alloc | apply pw_below_drewN | apply below_drew1 | refine below_set ?_ GE148.out) | exact HB.out)⟩⟩
                    · replace c37 := Bool.eq_false_iff.mpr c37
                      subst c37
                      have H1 : (if ((rd_T30 l0 x9_1).f0) = 0 then (if (((rd_T30 l0 x9_1).f2).length : Int) > 0 then (spec_TreeOk.j1 k1 l0 l0 (l0.length : Int) x9_1 true ((rd_T30 l0 x9_1).f0) ((rd_T30 l0 x9_1).f1) ((rd_T30 l0 x9_1).f2) ((rd_T30 l0 x9_1).f3) ((rd_T30 l0 x9_1).f4)) else (spec_TreeOk.j1 k1 l0 l0 (l0.length : Int) x9_1 (decide ((((rd_T30 l0 x9_1).f2).length : Int) > 20)) ((rd_T30 l0 x9_1).f0) ((rd_T30 l0 x9_1).f1) ((rd_T30 l0 x9_1).f2) ((rd_T30 l0 x9_1).f3) ((rd_T30 l0 x9_1).f4))) else (if ((rd_T30 l0 x9_1).f0) = 1 then (spec_TreeOk.j1 k1 l0 l0 (l0.length : Int) x9_1 (decide ((((rd_T30 l0 x9_1).f2).length : Int) > 20)) ((rd_T30 l0 x9_1).f0) ((rd_T30 l0 x9_1).f1) ((rd_T30 l0 x9_1).f2) ((rd_T30 l0 x9_1).f3) ((rd_T30 l0 x9_1).f4)) else (spec_TreeOk.j1 k1 l0 l0 (l0.length : Int) x9_1 true ((rd_T30 l0 x9_1).f0) ((rd_T30 l0 x9_1).f1) ((rd_T30 l0 x9_1).f2) ((rd_T30 l0 x9_1).f3) ((rd_T30 l0 x9_1).f4)))) = some r := by rw [if_neg (show ¬ (false = true) by decide)] at H; exact H
                      clear H
                      have H := H1
                      clear H1
                      by_cases c42 : ((rd_T30 l0 x9_1).f0) = 0
                      · rw [if_pos c42] at H
                        have c42b0 : (((rd_T30 l0 x9_1).f0) == 0) = true := beq_iff_eq.mpr c42
                        have c42b1 : (((rd_T30 l0 x9_1).f0) != 0) = false := bne_eq_false_iff_eq.mpr c42
                        clear c42
                        by_cases c43 : (((rd_T30 l0 x9_1).f2).length : Int) > 0
                        · rw [if_pos c43] at H
                          have c43b0 : decide (0 < (((rd_T30 l0 x9_1).f2).length : Int)) = true := decide_eq_true c43
                          have c43b1 : decide (0 < ((rd_T30 l0 x9_1).f2).length) = true := decide_eq_true (by omega)
                          clear c43
                          have H' := Aside0.mk H
                          clear H
                          have hcz44_0 : w31.cell? ⟨gb148, 0, none⟩ = some (.int .i64 0) := (blk_cell BK148.out 0).trans rfl
                          have hcz44_1 : w31.cell? ⟨gb148, 1, none⟩ = some (.slice none 0 0) := (blk_cell BK148.out 1).trans rfl
                          have hcz44_2 : w31.cell? ⟨gb148, 2, none⟩ = some (.slice none 0 0) := (blk_cell BK148.out 2).trans rfl
                          have hcz44_3 : w31.cell? ⟨gb148, 3, none⟩ = some (.slice none 0 0) := (blk_cell BK148.out 3).trans rfl
                          have hcz44_4 : w31.cell? ⟨gb148, 4, none⟩ = some (.string (⟨#[]⟩ : ByteArray)) := (blk_cell BK148.out 4).trans rfl
                          have hfz44_0 := blk_frozen BK148.out 0
                          have hfz44_1 := blk_frozen BK148.out 1
                          have hfz44_2 := blk_frozen BK148.out 2
                          have hfz44_3 := blk_frozen BK148.out 3
                          have hfz44_4 := blk_frozen BK148.out 4
                          go_wp2_with (first | ((with_reducible refine gate_callee (f := 11) rfl ?_); refine goesL_ (some 48) rfl rfl Tryd.func11 (by kernel_rfl) rfl #[.agg #[.slice A147_1 ((rd_T30 l0 x9_1).f1).length c147_1, .slice A147_3 ((rd_T30 l0 x9_1).f3).length c147_3, .string ((rd_T30 l0 x9_1).f4)]] rfl (by (try simp only [List.map_toArray, List.map_cons, List.map_nil]); first | done | rfl | (simp only [List.length_drop, List.length_take]; rfl)) ?_; (with_reducible refine (spec_LineOk.calls k1 _ _ ((rd_T30 l0 x9_1).f1) _ _ ((rd_T30 l0 x9_1).f3) ((rd_T30 l0 x9_1).f4) true _ ?side1 ?side2 ?side3 ?side4 A33.out).mono ?_); (case side1 => exact Kd.C_below HR147_1.out (by repeat (first | (with_reducible first | exact HB.out | apply below_alloc | apply pw_below_drewN | apply below_drew1 | refine below_set ?_ GE148.out) | exact HB.out))); (case side2 => exact HC147_1.out); (case side3 => exact Kd.C_below HR147_3.out (by repeat (first | (with_reducible first | exact HB.out | apply below_alloc | apply pw_below_drewN | apply below_drew1 | refine below_set ?_ GE148.out) | exact HB.out))); (case side4 => exact HC147_3.out); rintro e w45 ⟨rfl, hb⟩; refine ⟨_, rfl, ?_⟩; have n0_ := Aside0.mk (blk_below (g := gb148) (o := .cells #[.int .i64 ((rd_T30 l0 x9_1).f0), .slice A147_1 ((rd_T30 l0 x9_1).f1).length c147_1, .slice A147_2 ((rd_T30 l0 x9_1).f2).length c147_2, .slice A147_3 ((rd_T30 l0 x9_1).f3).length c147_3, .string ((rd_T30 l0 x9_1).f4)] 30 (0, 0)) (by (with_reducible repeat (first | refine blk_drewN ?_ _ | refine blk_drew ?_ | refine blk_alloc ?_ _)); refine blk_put (cs := #[.int .i64 ((rd_T30 l0 x9_1).f0), .slice A147_1 ((rd_T30 l0 x9_1).f1).length c147_1, .slice A147_2 ((rd_T30 l0 x9_1).f2).length c147_2, .slice A147_3 ((rd_T30 l0 x9_1).f3).length c147_3, .string (⟨#[]⟩ : ByteArray)]) ?_ 4 _ rfl; (with_reducible repeat (first | refine blk_drewN ?_ _ | refine blk_drew ?_ | refine blk_alloc ?_ _)); refine blk_put (cs := #[.int .i64 ((rd_T30 l0 x9_1).f0), .slice A147_1 ((rd_T30 l0 x9_1).f1).length c147_1, .slice A147_2 ((rd_T30 l0 x9_1).f2).length c147_2, .slice none 0 0, .string (⟨#[]⟩ : ByteArray)]) ?_ 3 _ rfl; (with_reducible repeat (first | refine blk_drewN ?_ _ | refine blk_drew ?_ | refine blk_alloc ?_ _)); refine blk_put (cs := #[.int .i64 ((rd_T30 l0 x9_1).f0), .slice A147_1 ((rd_T30 l0 x9_1).f1).length c147_1, .slice none 0 0, .slice none 0 0, .string (⟨#[]⟩ : ByteArray)]) ?_ 2 _ rfl; (with_reducible repeat (first | refine blk_drewN ?_ _ | refine blk_drew ?_ | refine blk_alloc ?_ _)); refine blk_put (cs := #[.int .i64 ((rd_T30 l0 x9_1).f0), .slice none 0 0, .slice none 0 0, .slice none 0 0, .string (⟨#[]⟩ : ByteArray)]) ?_ 1 _ rfl; (with_reducible repeat (first | refine blk_drewN ?_ _ | refine blk_drew ?_ | refine blk_alloc ?_ _)); refine blk_put (cs := #[.int .i64 0, .slice none 0 0, .slice none 0 0, .slice none 0 0, .string (⟨#[]⟩ : ByteArray)]) ?_ 0 _ rfl; (with_reducible repeat (first | refine blk_drewN ?_ _ | refine blk_drew ?_ | refine blk_alloc ?_ _)); exact BK148.out) hb); have n1_ := Aside0.mk (below_step (by repeat (first | (with_reducible first | exact HB.out | apply below_alloc | apply pw_below_drewN | apply below_drew1 | refine below_set ?_ GE148.out) | exact HB.out)) hb); clear BK148; clear HB; have BK148 := n0_; have HB := n1_; clear n0_ n1_; (try clear hb); (try clear hb2); (try clear hk); (try clear hi); have hcz46_0 : w45.cell? ⟨gb148, 0, none⟩ = some (.int .i64 ((rd_T30 l0 x9_1).f0)) := (blk_cell BK148.out 0).trans rfl; have hcz46_1 : w45.cell? ⟨gb148, 1, none⟩ = some (.slice A147_1 ((rd_T30 l0 x9_1).f1).length c147_1) := (blk_cell BK148.out 1).trans rfl; have hcz46_2 : w45.cell? ⟨gb148, 2, none⟩ = some (.slice A147_2 ((rd_T30 l0 x9_1).f2).length c147_2) := (blk_cell BK148.out 2).trans rfl; have hcz46_3 : w45.cell? ⟨gb148, 3, none⟩ = some (.slice A147_3 ((rd_T30 l0 x9_1).f3).length c147_3) := (blk_cell BK148.out 3).trans rfl; have hcz46_4 : w45.cell? ⟨gb148, 4, none⟩ = some (.string ((rd_T30 l0 x9_1).f4)) := (blk_cell BK148.out 4).trans rfl; have hfz46_0 := blk_frozen BK148.out 0; have hfz46_1 := blk_frozen BK148.out 1; have hfz46_2 := blk_frozen BK148.out 2; have hfz46_3 := blk_frozen BK148.out 3; have hfz46_4 := blk_frozen BK148.out 4; have p151 : 0 ≤ (0 : Int) := (by omega); have q151 : 0 < (((rd_T30 l0 x9_1).f1).length : Int) := of_decide_eq_true (by first | (with_reducible assumption) | assumption); obtain ⟨ad151, e151, hx151_0⟩ := Kd.at_string HR147_1.out 0 p151 q151; cases e151; have qi151 : (0 < ((rd_T30 l0 x9_1).f1).length) = True := eq_true (by omega); (try rw [show ((0 : Int)).toNat = 0 from rfl] at hx151_0); (try rw [Addr.add_zero'] at hx151_0); replace hx151_0 := (HB.out.cell (World.block_lt_of_cell? w _ hx151_0)).trans hx151_0; replace p151 := eq_true p151; replace q151 := eq_true q151) | (go_at_call 12; (with_reducible refine (spec_Known.calls k1 (rdOf ByteArray.empty ((rd_T30 l0 x9_1).f1) 0) false _ A36.out).mono ?_); rintro e w47 ⟨rfl, hb⟩; have n0_ := Aside0.mk (blk_below (g := gb148) (o := .cells #[.int .i64 ((rd_T30 l0 x9_1).f0), .slice (some ad151) ((rd_T30 l0 x9_1).f1).length c147_1, .slice A147_2 ((rd_T30 l0 x9_1).f2).length c147_2, .slice A147_3 ((rd_T30 l0 x9_1).f3).length c147_3, .string ((rd_T30 l0 x9_1).f4)] 30 (0, 0)) (by (with_reducible repeat (first | refine blk_drewN ?_ _ | refine blk_drew ?_ | refine blk_alloc ?_ _)); exact BK148.out) hb); have n1_ := Aside0.mk (below_step (by repeat (first | (with_reducible first | exact HB.out | apply below_alloc | apply pw_below_drewN | apply below_drew1 | refine below_set ?_ GE148.out) | exact HB.out)) hb); clear BK148; clear HB; have BK148 := n0_; have HB := n1_; clear n0_ n1_; (try clear hb); (try clear hb2); (try clear hk); (try clear hi); have hcz48_0 : w47.cell? ⟨gb148, 0, none⟩ = some (.int .i64 ((rd_T30 l0 x9_1).f0)) := (blk_cell BK148.out 0).trans rfl; have hcz48_1 : w47.cell? ⟨gb148, 1, none⟩ = some (.slice (some ad151) ((rd_T30 l0 x9_1).f1).length c147_1) := (blk_cell BK148.out 1).trans rfl; have hcz48_2 : w47.cell? ⟨gb148, 2, none⟩ = some (.slice A147_2 ((rd_T30 l0 x9_1).f2).length c147_2) := (blk_cell BK148.out 2).trans rfl; have hcz48_3 : w47.cell? ⟨gb148, 3, none⟩ = some (.slice A147_3 ((rd_T30 l0 x9_1).f3).length c147_3) := (blk_cell BK148.out 3).trans rfl; have hcz48_4 : w47.cell? ⟨gb148, 4, none⟩ = some (.string ((rd_T30 l0 x9_1).f4)) := (blk_cell BK148.out 4).trans rfl; have hfz48_0 := blk_frozen BK148.out 0; have hfz48_1 := blk_frozen BK148.out 1; have hfz48_2 := blk_frozen BK148.out 2; have hfz48_3 := blk_frozen BK148.out 3; have hfz48_4 := blk_frozen BK148.out 4))
                          go_meet
                          case rel => exact ⟨_, (true), (by first | rfl | (simp; done) | (simp [*]; done)), H', ⟨by have := HK1.out; first | omega | exact Nat.le_refl _⟩, ⟨by (with_reducible repeat (first | refine blk_drewN ?_ _ | refine blk_drew ?_ | refine blk_alloc ?_ _)); exact BK148.out⟩, ⟨by repeat (first | (with_reducible first | exact HB.out | apply below_alloc | apply pw_below_drewN | apply below_drew1 | refine below_set ?_ GE148.out) | exact HB.out)⟩⟩
                        · rw [if_neg c43] at H
                          have c43b0 : decide (0 < (((rd_T30 l0 x9_1).f2).length : Int)) = false := decide_eq_false c43
                          have c43b1 : decide (0 < ((rd_T30 l0 x9_1).f2).length) = false := decide_eq_false (by omega)
                          clear c43
                          have H' := Aside0.mk H
                          clear H
                          have hcz49_0 : w31.cell? ⟨gb148, 0, none⟩ = some (.int .i64 0) := (blk_cell BK148.out 0).trans rfl
                          have hcz49_1 : w31.cell? ⟨gb148, 1, none⟩ = some (.slice none 0 0) := (blk_cell BK148.out 1).trans rfl
                          have hcz49_2 : w31.cell? ⟨gb148, 2, none⟩ = some (.slice none 0 0) := (blk_cell BK148.out 2).trans rfl
                          have hcz49_3 : w31.cell? ⟨gb148, 3, none⟩ = some (.slice none 0 0) := (blk_cell BK148.out 3).trans rfl
                          have hcz49_4 : w31.cell? ⟨gb148, 4, none⟩ = some (.string (⟨#[]⟩ : ByteArray)) := (blk_cell BK148.out 4).trans rfl
                          have hfz49_0 := blk_frozen BK148.out 0
                          have hfz49_1 := blk_frozen BK148.out 1
                          have hfz49_2 := blk_frozen BK148.out 2
                          have hfz49_3 := blk_frozen BK148.out 3
                          have hfz49_4 := blk_frozen BK148.out 4
                          go_wp2_with (first | ((with_reducible refine gate_callee (f := 11) rfl ?_); refine goesL_ (some 48) rfl rfl Tryd.func11 (by kernel_rfl) rfl #[.agg #[.slice A147_1 ((rd_T30 l0 x9_1).f1).length c147_1, .slice A147_3 ((rd_T30 l0 x9_1).f3).length c147_3, .string ((rd_T30 l0 x9_1).f4)]] rfl (by (try simp only [List.map_toArray, List.map_cons, List.map_nil]); first | done | rfl | (simp only [List.length_drop, List.length_take]; rfl)) ?_; (with_reducible refine (spec_LineOk.calls k1 _ _ ((rd_T30 l0 x9_1).f1) _ _ ((rd_T30 l0 x9_1).f3) ((rd_T30 l0 x9_1).f4) true _ ?side1 ?side2 ?side3 ?side4 A33.out).mono ?_); (case side1 => exact Kd.C_below HR147_1.out (by repeat (first | (with_reducible first | exact HB.out | apply below_alloc | apply pw_below_drewN | apply below_drew1 | refine below_set ?_ GE148.out) | exact HB.out))); (case side2 => exact HC147_1.out); (case side3 => exact Kd.C_below HR147_3.out (by repeat (first | (with_reducible first | exact HB.out | apply below_alloc | apply pw_below_drewN | apply below_drew1 | refine below_set ?_ GE148.out) | exact HB.out))); (case side4 => exact HC147_3.out); rintro e w50 ⟨rfl, hb⟩; refine ⟨_, rfl, ?_⟩; have n0_ := Aside0.mk (blk_below (g := gb148) (o := .cells #[.int .i64 ((rd_T30 l0 x9_1).f0), .slice A147_1 ((rd_T30 l0 x9_1).f1).length c147_1, .slice A147_2 ((rd_T30 l0 x9_1).f2).length c147_2, .slice A147_3 ((rd_T30 l0 x9_1).f3).length c147_3, .string ((rd_T30 l0 x9_1).f4)] 30 (0, 0)) (by (with_reducible repeat (first | refine blk_drewN ?_ _ | refine blk_drew ?_ | refine blk_alloc ?_ _)); refine blk_put (cs := #[.int .i64 ((rd_T30 l0 x9_1).f0), .slice A147_1 ((rd_T30 l0 x9_1).f1).length c147_1, .slice A147_2 ((rd_T30 l0 x9_1).f2).length c147_2, .slice A147_3 ((rd_T30 l0 x9_1).f3).length c147_3, .string (⟨#[]⟩ : ByteArray)]) ?_ 4 _ rfl; (with_reducible repeat (first | refine blk_drewN ?_ _ | refine blk_drew ?_ | refine blk_alloc ?_ _)); refine blk_put (cs := #[.int .i64 ((rd_T30 l0 x9_1).f0), .slice A147_1 ((rd_T30 l0 x9_1).f1).length c147_1, .slice A147_2 ((rd_T30 l0 x9_1).f2).length c147_2, .slice none 0 0, .string (⟨#[]⟩ : ByteArray)]) ?_ 3 _ rfl; (with_reducible repeat (first | refine blk_drewN ?_ _ | refine blk_drew ?_ | refine blk_alloc ?_ _)); refine blk_put (cs := #[.int .i64 ((rd_T30 l0 x9_1).f0), .slice A147_1 ((rd_T30 l0 x9_1).f1).length c147_1, .slice none 0 0, .slice none 0 0, .string (⟨#[]⟩ : ByteArray)]) ?_ 2 _ rfl; (with_reducible repeat (first | refine blk_drewN ?_ _ | refine blk_drew ?_ | refine blk_alloc ?_ _)); refine blk_put (cs := #[.int .i64 ((rd_T30 l0 x9_1).f0), .slice none 0 0, .slice none 0 0, .slice none 0 0, .string (⟨#[]⟩ : ByteArray)]) ?_ 1 _ rfl; (with_reducible repeat (first | refine blk_drewN ?_ _ | refine blk_drew ?_ | refine blk_alloc ?_ _)); refine blk_put (cs := #[.int .i64 0, .slice none 0 0, .slice none 0 0, .slice none 0 0, .string (⟨#[]⟩ : ByteArray)]) ?_ 0 _ rfl; (with_reducible repeat (first | refine blk_drewN ?_ _ | refine blk_drew ?_ | refine blk_alloc ?_ _)); exact BK148.out) hb); have n1_ := Aside0.mk (below_step (by repeat (first | (with_reducible first | exact HB.out | apply below_alloc | apply pw_below_drewN | apply below_drew1 | refine below_set ?_ GE148.out) | exact HB.out)) hb); clear BK148; clear HB; have BK148 := n0_; have HB := n1_; clear n0_ n1_; (try clear hb); (try clear hb2); (try clear hk); (try clear hi); have hcz51_0 : w50.cell? ⟨gb148, 0, none⟩ = some (.int .i64 ((rd_T30 l0 x9_1).f0)) := (blk_cell BK148.out 0).trans rfl; have hcz51_1 : w50.cell? ⟨gb148, 1, none⟩ = some (.slice A147_1 ((rd_T30 l0 x9_1).f1).length c147_1) := (blk_cell BK148.out 1).trans rfl; have hcz51_2 : w50.cell? ⟨gb148, 2, none⟩ = some (.slice A147_2 ((rd_T30 l0 x9_1).f2).length c147_2) := (blk_cell BK148.out 2).trans rfl; have hcz51_3 : w50.cell? ⟨gb148, 3, none⟩ = some (.slice A147_3 ((rd_T30 l0 x9_1).f3).length c147_3) := (blk_cell BK148.out 3).trans rfl; have hcz51_4 : w50.cell? ⟨gb148, 4, none⟩ = some (.string ((rd_T30 l0 x9_1).f4)) := (blk_cell BK148.out 4).trans rfl; have hfz51_0 := blk_frozen BK148.out 0; have hfz51_1 := blk_frozen BK148.out 1; have hfz51_2 := blk_frozen BK148.out 2; have hfz51_3 := blk_frozen BK148.out 3; have hfz51_4 := blk_frozen BK148.out 4; have p151 : 0 ≤ (0 : Int) := (by omega); have q151 : 0 < (((rd_T30 l0 x9_1).f1).length : Int) := of_decide_eq_true (by first | (with_reducible assumption) | assumption); obtain ⟨ad151, e151, hx151_0⟩ := Kd.at_string HR147_1.out 0 p151 q151; cases e151; have qi151 : (0 < ((rd_T30 l0 x9_1).f1).length) = True := eq_true (by omega); (try rw [show ((0 : Int)).toNat = 0 from rfl] at hx151_0); (try rw [Addr.add_zero'] at hx151_0); replace hx151_0 := (HB.out.cell (World.block_lt_of_cell? w _ hx151_0)).trans hx151_0; replace p151 := eq_true p151; replace q151 := eq_true q151) | (go_at_call 12; (with_reducible refine (spec_Known.calls k1 (rdOf ByteArray.empty ((rd_T30 l0 x9_1).f1) 0) false _ A36.out).mono ?_); rintro e w52 ⟨rfl, hb⟩; have n0_ := Aside0.mk (blk_below (g := gb148) (o := .cells #[.int .i64 ((rd_T30 l0 x9_1).f0), .slice (some ad151) ((rd_T30 l0 x9_1).f1).length c147_1, .slice A147_2 ((rd_T30 l0 x9_1).f2).length c147_2, .slice A147_3 ((rd_T30 l0 x9_1).f3).length c147_3, .string ((rd_T30 l0 x9_1).f4)] 30 (0, 0)) (by (with_reducible repeat (first | refine blk_drewN ?_ _ | refine blk_drew ?_ | refine blk_alloc ?_ _)); exact BK148.out) hb); have n1_ := Aside0.mk (below_step (by repeat (first | (with_reducible first | exact HB.out | apply below_alloc | apply pw_below_drewN | apply below_drew1 | refine below_set ?_ GE148.out) | exact HB.out)) hb); clear BK148; clear HB; have BK148 := n0_; have HB := n1_; clear n0_ n1_; (try clear hb); (try clear hb2); (try clear hk); (try clear hi); have hcz53_0 : w52.cell? ⟨gb148, 0, none⟩ = some (.int .i64 ((rd_T30 l0 x9_1).f0)) := (blk_cell BK148.out 0).trans rfl; have hcz53_1 : w52.cell? ⟨gb148, 1, none⟩ = some (.slice (some ad151) ((rd_T30 l0 x9_1).f1).length c147_1) := (blk_cell BK148.out 1).trans rfl; have hcz53_2 : w52.cell? ⟨gb148, 2, none⟩ = some (.slice A147_2 ((rd_T30 l0 x9_1).f2).length c147_2) := (blk_cell BK148.out 2).trans rfl; have hcz53_3 : w52.cell? ⟨gb148, 3, none⟩ = some (.slice A147_3 ((rd_T30 l0 x9_1).f3).length c147_3) := (blk_cell BK148.out 3).trans rfl; have hcz53_4 : w52.cell? ⟨gb148, 4, none⟩ = some (.string ((rd_T30 l0 x9_1).f4)) := (blk_cell BK148.out 4).trans rfl; have hfz53_0 := blk_frozen BK148.out 0; have hfz53_1 := blk_frozen BK148.out 1; have hfz53_2 := blk_frozen BK148.out 2; have hfz53_3 := blk_frozen BK148.out 3; have hfz53_4 := blk_frozen BK148.out 4))
                          go_meet
                          case rel => exact ⟨_, (decide ((((rd_T30 l0 x9_1).f2).length : Int) > 20)), (by first | rfl | (simp; done) | (simp [*]; done)), H', ⟨by have := HK1.out; first | omega | exact Nat.le_refl _⟩, ⟨by (with_reducible repeat (first | refine blk_drewN ?_ _ | refine blk_drew ?_ | refine blk_alloc ?_ _)); exact BK148.out⟩, ⟨by repeat (first | (with_reducible first | exact HB.out | apply below_alloc | apply pw_below_drewN | apply below_drew1 | refine below_set ?_ GE148.out) | exact HB.out)⟩⟩
                      · rw [if_neg c42] at H
                        have c42b0 : (((rd_T30 l0 x9_1).f0) == 0) = false := beq_eq_false_iff_ne.mpr c42
                        have c42b1 : (((rd_T30 l0 x9_1).f0) != 0) = true := bne_iff_ne.mpr c42
                        by_cases c54 : ((rd_T30 l0 x9_1).f0) = 1
                        · rw [if_pos c54] at H
                          have c54b0 : (((rd_T30 l0 x9_1).f0) == 1) = true := beq_iff_eq.mpr c54
                          have c54b1 : (((rd_T30 l0 x9_1).f0) != 1) = false := bne_eq_false_iff_eq.mpr c54
                          clear c54
                          have H' := Aside0.mk H
                          clear H
                          have hcz55_0 : w31.cell? ⟨gb148, 0, none⟩ = some (.int .i64 0) := (blk_cell BK148.out 0).trans rfl
                          have hcz55_1 : w31.cell? ⟨gb148, 1, none⟩ = some (.slice none 0 0) := (blk_cell BK148.out 1).trans rfl
                          have hcz55_2 : w31.cell? ⟨gb148, 2, none⟩ = some (.slice none 0 0) := (blk_cell BK148.out 2).trans rfl
                          have hcz55_3 : w31.cell? ⟨gb148, 3, none⟩ = some (.slice none 0 0) := (blk_cell BK148.out 3).trans rfl
                          have hcz55_4 : w31.cell? ⟨gb148, 4, none⟩ = some (.string (⟨#[]⟩ : ByteArray)) := (blk_cell BK148.out 4).trans rfl
                          have hfz55_0 := blk_frozen BK148.out 0
                          have hfz55_1 := blk_frozen BK148.out 1
                          have hfz55_2 := blk_frozen BK148.out 2
                          have hfz55_3 := blk_frozen BK148.out 3
                          have hfz55_4 := blk_frozen BK148.out 4
                          go_wp2_with (first | ((with_reducible refine gate_callee (f := 11) rfl ?_); refine goesL_ (some 48) rfl rfl Tryd.func11 (by kernel_rfl) rfl #[.agg #[.slice A147_1 ((rd_T30 l0 x9_1).f1).length c147_1, .slice A147_3 ((rd_T30 l0 x9_1).f3).length c147_3, .string ((rd_T30 l0 x9_1).f4)]] rfl (by (try simp only [List.map_toArray, List.map_cons, List.map_nil]); first | done | rfl | (simp only [List.length_drop, List.length_take]; rfl)) ?_; (with_reducible refine (spec_LineOk.calls k1 _ _ ((rd_T30 l0 x9_1).f1) _ _ ((rd_T30 l0 x9_1).f3) ((rd_T30 l0 x9_1).f4) true _ ?side1 ?side2 ?side3 ?side4 A33.out).mono ?_); (case side1 => exact Kd.C_below HR147_1.out (by repeat (first | (with_reducible first | exact HB.out | apply below_alloc | apply pw_below_drewN | apply below_drew1 | refine below_set ?_ GE148.out) | exact HB.out))); (case side2 => exact HC147_1.out); (case side3 => exact Kd.C_below HR147_3.out (by repeat (first | (with_reducible first | exact HB.out | apply below_alloc | apply pw_below_drewN | apply below_drew1 | refine below_set ?_ GE148.out) | exact HB.out))); (case side4 => exact HC147_3.out); rintro e w56 ⟨rfl, hb⟩; refine ⟨_, rfl, ?_⟩; have n0_ := Aside0.mk (blk_below (g := gb148) (o := .cells #[.int .i64 ((rd_T30 l0 x9_1).f0), .slice A147_1 ((rd_T30 l0 x9_1).f1).length c147_1, .slice A147_2 ((rd_T30 l0 x9_1).f2).length c147_2, .slice A147_3 ((rd_T30 l0 x9_1).f3).length c147_3, .string ((rd_T30 l0 x9_1).f4)] 30 (0, 0)) (by (with_reducible repeat (first | refine blk_drewN ?_ _ | refine blk_drew ?_ | refine blk_alloc ?_ _)); refine blk_put (cs := #[.int .i64 ((rd_T30 l0 x9_1).f0), .slice A147_1 ((rd_T30 l0 x9_1).f1).length c147_1, .slice A147_2 ((rd_T30 l0 x9_1).f2).length c147_2, .slice A147_3 ((rd_T30 l0 x9_1).f3).length c147_3, .string (⟨#[]⟩ : ByteArray)]) ?_ 4 _ rfl; (with_reducible repeat (first | refine blk_drewN ?_ _ | refine blk_drew ?_ | refine blk_alloc ?_ _)); refine blk_put (cs := #[.int .i64 ((rd_T30 l0 x9_1).f0), .slice A147_1 ((rd_T30 l0 x9_1).f1).length c147_1, .slice A147_2 ((rd_T30 l0 x9_1).f2).length c147_2, .slice none 0 0, .string (⟨#[]⟩ : ByteArray)]) ?_ 3 _ rfl; (with_reducible repeat (first | refine blk_drewN ?_ _ | refine blk_drew ?_ | refine blk_alloc ?_ _)); refine blk_put (cs := #[.int .i64 ((rd_T30 l0 x9_1).f0), .slice A147_1 ((rd_T30 l0 x9_1).f1).length c147_1, .slice none 0 0, .slice none 0 0, .string (⟨#[]⟩ : ByteArray)]) ?_ 2 _ rfl; (with_reducible repeat (first | refine blk_drewN ?_ _ | refine blk_drew ?_ | refine blk_alloc ?_ _)); refine blk_put (cs := #[.int .i64 ((rd_T30 l0 x9_1).f0), .slice none 0 0, .slice none 0 0, .slice none 0 0, .string (⟨#[]⟩ : ByteArray)]) ?_ 1 _ rfl; (with_reducible repeat (first | refine blk_drewN ?_ _ | refine blk_drew ?_ | refine blk_alloc ?_ _)); refine blk_put (cs := #[.int .i64 0, .slice none 0 0, .slice none 0 0, .slice none 0 0, .string (⟨#[]⟩ : ByteArray)]) ?_ 0 _ rfl; (with_reducible repeat (first | refine blk_drewN ?_ _ | refine blk_drew ?_ | refine blk_alloc ?_ _)); exact BK148.out) hb); have n1_ := Aside0.mk (below_step (by repeat (first | (with_reducible first | exact HB.out | apply below_alloc | apply pw_below_drewN | apply below_drew1 | refine below_set ?_ GE148.out) | exact HB.out)) hb); clear BK148; clear HB; have BK148 := n0_; have HB := n1_; clear n0_ n1_; (try clear hb); (try clear hb2); (try clear hk); (try clear hi); have hcz57_0 : w56.cell? ⟨gb148, 0, none⟩ = some (.int .i64 ((rd_T30 l0 x9_1).f0)) := (blk_cell BK148.out 0).trans rfl; have hcz57_1 : w56.cell? ⟨gb148, 1, none⟩ = some (.slice A147_1 ((rd_T30 l0 x9_1).f1).length c147_1) := (blk_cell BK148.out 1).trans rfl; have hcz57_2 : w56.cell? ⟨gb148, 2, none⟩ = some (.slice A147_2 ((rd_T30 l0 x9_1).f2).length c147_2) := (blk_cell BK148.out 2).trans rfl; have hcz57_3 : w56.cell? ⟨gb148, 3, none⟩ = some (.slice A147_3 ((rd_T30 l0 x9_1).f3).length c147_3) := (blk_cell BK148.out 3).trans rfl; have hcz57_4 : w56.cell? ⟨gb148, 4, none⟩ = some (.string ((rd_T30 l0 x9_1).f4)) := (blk_cell BK148.out 4).trans rfl; have hfz57_0 := blk_frozen BK148.out 0; have hfz57_1 := blk_frozen BK148.out 1; have hfz57_2 := blk_frozen BK148.out 2; have hfz57_3 := blk_frozen BK148.out 3; have hfz57_4 := blk_frozen BK148.out 4; have p151 : 0 ≤ (0 : Int) := (by omega); have q151 : 0 < (((rd_T30 l0 x9_1).f1).length : Int) := of_decide_eq_true (by first | (with_reducible assumption) | assumption); obtain ⟨ad151, e151, hx151_0⟩ := Kd.at_string HR147_1.out 0 p151 q151; cases e151; have qi151 : (0 < ((rd_T30 l0 x9_1).f1).length) = True := eq_true (by omega); (try rw [show ((0 : Int)).toNat = 0 from rfl] at hx151_0); (try rw [Addr.add_zero'] at hx151_0); replace hx151_0 := (HB.out.cell (World.block_lt_of_cell? w _ hx151_0)).trans hx151_0; replace p151 := eq_true p151; replace q151 := eq_true q151) | (go_at_call 12; (with_reducible refine (spec_Known.calls k1 (rdOf ByteArray.empty ((rd_T30 l0 x9_1).f1) 0) false _ A36.out).mono ?_); rintro e w58 ⟨rfl, hb⟩; have n0_ := Aside0.mk (blk_below (g := gb148) (o := .cells #[.int .i64 ((rd_T30 l0 x9_1).f0), .slice (some ad151) ((rd_T30 l0 x9_1).f1).length c147_1, .slice A147_2 ((rd_T30 l0 x9_1).f2).length c147_2, .slice A147_3 ((rd_T30 l0 x9_1).f3).length c147_3, .string ((rd_T30 l0 x9_1).f4)] 30 (0, 0)) (by (with_reducible repeat (first | refine blk_drewN ?_ _ | refine blk_drew ?_ | refine blk_alloc ?_ _)); exact BK148.out) hb); have n1_ := Aside0.mk (below_step (by repeat (first | (with_reducible first | exact HB.out | apply below_alloc | apply pw_below_drewN | apply below_drew1 | refine below_set ?_ GE148.out) | exact HB.out)) hb); clear BK148; clear HB; have BK148 := n0_; have HB := n1_; clear n0_ n1_; (try clear hb); (try clear hb2); (try clear hk); (try clear hi); have hcz59_0 : w58.cell? ⟨gb148, 0, none⟩ = some (.int .i64 ((rd_T30 l0 x9_1).f0)) := (blk_cell BK148.out 0).trans rfl; have hcz59_1 : w58.cell? ⟨gb148, 1, none⟩ = some (.slice (some ad151) ((rd_T30 l0 x9_1).f1).length c147_1) := (blk_cell BK148.out 1).trans rfl; have hcz59_2 : w58.cell? ⟨gb148, 2, none⟩ = some (.slice A147_2 ((rd_T30 l0 x9_1).f2).length c147_2) := (blk_cell BK148.out 2).trans rfl; have hcz59_3 : w58.cell? ⟨gb148, 3, none⟩ = some (.slice A147_3 ((rd_T30 l0 x9_1).f3).length c147_3) := (blk_cell BK148.out 3).trans rfl; have hcz59_4 : w58.cell? ⟨gb148, 4, none⟩ = some (.string ((rd_T30 l0 x9_1).f4)) := (blk_cell BK148.out 4).trans rfl; have hfz59_0 := blk_frozen BK148.out 0; have hfz59_1 := blk_frozen BK148.out 1; have hfz59_2 := blk_frozen BK148.out 2; have hfz59_3 := blk_frozen BK148.out 3; have hfz59_4 := blk_frozen BK148.out 4))
                          go_meet
                          case rel => exact ⟨_, (decide ((((rd_T30 l0 x9_1).f2).length : Int) > 20)), (by first | rfl | (simp; done) | (simp [*]; done)), H', ⟨by have := HK1.out; first | omega | exact Nat.le_refl _⟩, ⟨by (with_reducible repeat (first | refine blk_drewN ?_ _ | refine blk_drew ?_ | refine blk_alloc ?_ _)); exact BK148.out⟩, ⟨by repeat (first | (with_reducible first | exact HB.out | apply below_alloc | apply pw_below_drewN | apply below_drew1 | refine below_set ?_ GE148.out) | exact HB.out)⟩⟩
                        · rw [if_neg c54] at H
                          have c54b0 : (((rd_T30 l0 x9_1).f0) == 1) = false := beq_eq_false_iff_ne.mpr c54
                          have c54b1 : (((rd_T30 l0 x9_1).f0) != 1) = true := bne_iff_ne.mpr c54
                          have H' := Aside0.mk H
                          clear H
                          have hcz60_0 : w31.cell? ⟨gb148, 0, none⟩ = some (.int .i64 0) := (blk_cell BK148.out 0).trans rfl
                          have hcz60_1 : w31.cell? ⟨gb148, 1, none⟩ = some (.slice none 0 0) := (blk_cell BK148.out 1).trans rfl
                          have hcz60_2 : w31.cell? ⟨gb148, 2, none⟩ = some (.slice none 0 0) := (blk_cell BK148.out 2).trans rfl
                          have hcz60_3 : w31.cell? ⟨gb148, 3, none⟩ = some (.slice none 0 0) := (blk_cell BK148.out 3).trans rfl
                          have hcz60_4 : w31.cell? ⟨gb148, 4, none⟩ = some (.string (⟨#[]⟩ : ByteArray)) := (blk_cell BK148.out 4).trans rfl
                          have hfz60_0 := blk_frozen BK148.out 0
                          have hfz60_1 := blk_frozen BK148.out 1
                          have hfz60_2 := blk_frozen BK148.out 2
                          have hfz60_3 := blk_frozen BK148.out 3
                          have hfz60_4 := blk_frozen BK148.out 4
                          go_wp2_with (first | ((with_reducible refine gate_callee (f := 11) rfl ?_); refine goesL_ (some 48) rfl rfl Tryd.func11 (by kernel_rfl) rfl #[.agg #[.slice A147_1 ((rd_T30 l0 x9_1).f1).length c147_1, .slice A147_3 ((rd_T30 l0 x9_1).f3).length c147_3, .string ((rd_T30 l0 x9_1).f4)]] rfl (by (try simp only [List.map_toArray, List.map_cons, List.map_nil]); first | done | rfl | (simp only [List.length_drop, List.length_take]; rfl)) ?_; (with_reducible refine (spec_LineOk.calls k1 _ _ ((rd_T30 l0 x9_1).f1) _ _ ((rd_T30 l0 x9_1).f3) ((rd_T30 l0 x9_1).f4) true _ ?side1 ?side2 ?side3 ?side4 A33.out).mono ?_); (case side1 => exact Kd.C_below HR147_1.out (by repeat (first | (with_reducible first | exact HB.out | apply below_alloc | apply pw_below_drewN | apply below_drew1 | refine below_set ?_ GE148.out) | exact HB.out))); (case side2 => exact HC147_1.out); (case side3 => exact Kd.C_below HR147_3.out (by repeat (first | (with_reducible first | exact HB.out | apply below_alloc | apply pw_below_drewN | apply below_drew1 | refine below_set ?_ GE148.out) | exact HB.out))); (case side4 => exact HC147_3.out); rintro e w61 ⟨rfl, hb⟩; refine ⟨_, rfl, ?_⟩; have n0_ := Aside0.mk (blk_below (g := gb148) (o := .cells #[.int .i64 ((rd_T30 l0 x9_1).f0), .slice A147_1 ((rd_T30 l0 x9_1).f1).length c147_1, .slice A147_2 ((rd_T30 l0 x9_1).f2).length c147_2, .slice A147_3 ((rd_T30 l0 x9_1).f3).length c147_3, .string ((rd_T30 l0 x9_1).f4)] 30 (0, 0)) (by (with_reducible repeat (first | refine blk_drewN ?_ _ | refine blk_drew ?_ | refine blk_alloc ?_ _)); refine blk_put (cs := #[.int .i64 ((rd_T30 l0 x9_1).f0), .slice A147_1 ((rd_T30 l0 x9_1).f1).length c147_1, .slice A147_2 ((rd_T30 l0 x9_1).f2).length c147_2, .slice A147_3 ((rd_T30 l0 x9_1).f3).length c147_3, .string (⟨#[]⟩ : ByteArray)]) ?_ 4 _ rfl; (with_reducible repeat (first | refine blk_drewN ?_ _ | refine blk_drew ?_ | refine blk_alloc ?_ _)); refine blk_put (cs := #[.int .i64 ((rd_T30 l0 x9_1).f0), .slice A147_1 ((rd_T30 l0 x9_1).f1).length c147_1, .slice A147_2 ((rd_T30 l0 x9_1).f2).length c147_2, .slice none 0 0, .string (⟨#[]⟩ : ByteArray)]) ?_ 3 _ rfl; (with_reducible repeat (first | refine blk_drewN ?_ _ | refine blk_drew ?_ | refine blk_alloc ?_ _)); refine blk_put (cs := #[.int .i64 ((rd_T30 l0 x9_1).f0), .slice A147_1 ((rd_T30 l0 x9_1).f1).length c147_1, .slice none 0 0, .slice none 0 0, .string (⟨#[]⟩ : ByteArray)]) ?_ 2 _ rfl; (with_reducible repeat (first | refine blk_drewN ?_ _ | refine blk_drew ?_ | refine blk_alloc ?_ _)); refine blk_put (cs := #[.int .i64 ((rd_T30 l0 x9_1).f0), .slice none 0 0, .slice none 0 0, .slice none 0 0, .string (⟨#[]⟩ : ByteArray)]) ?_ 1 _ rfl; (with_reducible repeat (first | refine blk_drewN ?_ _ | refine blk_drew ?_ | refine blk_alloc ?_ _)); refine blk_put (cs := #[.int .i64 0, .slice none 0 0, .slice none 0 0, .slice none 0 0, .string (⟨#[]⟩ : ByteArray)]) ?_ 0 _ rfl; (with_reducible repeat (first | refine blk_drewN ?_ _ | refine blk_drew ?_ | refine blk_alloc ?_ _)); exact BK148.out) hb); have n1_ := Aside0.mk (below_step (by repeat (first | (with_reducible first | exact HB.out | apply below_alloc | apply pw_below_drewN | apply below_drew1 | refine below_set ?_ GE148.out) | exact HB.out)) hb); clear BK148; clear HB; have BK148 := n0_; have HB := n1_; clear n0_ n1_; (try clear hb); (try clear hb2); (try clear hk); (try clear hi); have hcz62_0 : w61.cell? ⟨gb148, 0, none⟩ = some (.int .i64 ((rd_T30 l0 x9_1).f0)) := (blk_cell BK148.out 0).trans rfl; have hcz62_1 : w61.cell? ⟨gb148, 1, none⟩ = some (.slice A147_1 ((rd_T30 l0 x9_1).f1).length c147_1) := (blk_cell BK148.out 1).trans rfl; have hcz62_2 : w61.cell? ⟨gb148, 2, none⟩ = some (.slice A147_2 ((rd_T30 l0 x9_1).f2).length c147_2) := (blk_cell BK148.out 2).trans rfl; have hcz62_3 : w61.cell? ⟨gb148, 3, none⟩ = some (.slice A147_3 ((rd_T30 l0 x9_1).f3).length c147_3) := (blk_cell BK148.out 3).trans rfl; have hcz62_4 : w61.cell? ⟨gb148, 4, none⟩ = some (.string ((rd_T30 l0 x9_1).f4)) := (blk_cell BK148.out 4).trans rfl; have hfz62_0 := blk_frozen BK148.out 0; have hfz62_1 := blk_frozen BK148.out 1; have hfz62_2 := blk_frozen BK148.out 2; have hfz62_3 := blk_frozen BK148.out 3; have hfz62_4 := blk_frozen BK148.out 4; have p151 : 0 ≤ (0 : Int) := (by omega); have q151 : 0 < (((rd_T30 l0 x9_1).f1).length : Int) := of_decide_eq_true (by first | (with_reducible assumption) | assumption); obtain ⟨ad151, e151, hx151_0⟩ := Kd.at_string HR147_1.out 0 p151 q151; cases e151; have qi151 : (0 < ((rd_T30 l0 x9_1).f1).length) = True := eq_true (by omega); (try rw [show ((0 : Int)).toNat = 0 from rfl] at hx151_0); (try rw [Addr.add_zero'] at hx151_0); replace hx151_0 := (HB.out.cell (World.block_lt_of_cell? w _ hx151_0)).trans hx151_0; replace p151 := eq_true p151; replace q151 := eq_true q151) | (go_at_call 12; (with_reducible refine (spec_Known.calls k1 (rdOf ByteArray.empty ((rd_T30 l0 x9_1).f1) 0) false _ A36.out).mono ?_); rintro e w63 ⟨rfl, hb⟩; have n0_ := Aside0.mk (blk_below (g := gb148) (o := .cells #[.int .i64 ((rd_T30 l0 x9_1).f0), .slice (some ad151) ((rd_T30 l0 x9_1).f1).length c147_1, .slice A147_2 ((rd_T30 l0 x9_1).f2).length c147_2, .slice A147_3 ((rd_T30 l0 x9_1).f3).length c147_3, .string ((rd_T30 l0 x9_1).f4)] 30 (0, 0)) (by (with_reducible repeat (first | refine blk_drewN ?_ _ | refine blk_drew ?_ | refine blk_alloc ?_ _)); exact BK148.out) hb); have n1_ := Aside0.mk (below_step (by repeat (first | (with_reducible first | exact HB.out | apply below_alloc | apply pw_below_drewN | apply below_drew1 | refine below_set ?_ GE148.out) | exact HB.out)) hb); clear BK148; clear HB; have BK148 := n0_; have HB := n1_; clear n0_ n1_; (try clear hb); (try clear hb2); (try clear hk); (try clear hi); have hcz64_0 : w63.cell? ⟨gb148, 0, none⟩ = some (.int .i64 ((rd_T30 l0 x9_1).f0)) := (blk_cell BK148.out 0).trans rfl; have hcz64_1 : w63.cell? ⟨gb148, 1, none⟩ = some (.slice (some ad151) ((rd_T30 l0 x9_1).f1).length c147_1) := (blk_cell BK148.out 1).trans rfl; have hcz64_2 : w63.cell? ⟨gb148, 2, none⟩ = some (.slice A147_2 ((rd_T30 l0 x9_1).f2).length c147_2) := (blk_cell BK148.out 2).trans rfl; have hcz64_3 : w63.cell? ⟨gb148, 3, none⟩ = some (.slice A147_3 ((rd_T30 l0 x9_1).f3).length c147_3) := (blk_cell BK148.out 3).trans rfl; have hcz64_4 : w63.cell? ⟨gb148, 4, none⟩ = some (.string ((rd_T30 l0 x9_1).f4)) := (blk_cell BK148.out 4).trans rfl; have hfz64_0 := blk_frozen BK148.out 0; have hfz64_1 := blk_frozen BK148.out 1; have hfz64_2 := blk_frozen BK148.out 2; have hfz64_3 := blk_frozen BK148.out 3; have hfz64_4 := blk_frozen BK148.out 4))
                          go_meet
                          case rel => exact ⟨_, (true), (by first | rfl | (simp; done) | (simp [*]; done)), H', ⟨by have := HK1.out; first | omega | exact Nat.le_refl _⟩, ⟨by (with_reducible repeat (first | refine blk_drewN ?_ _ | refine blk_drew ?_ | refine blk_alloc ?_ _)); exact BK148.out⟩, ⟨by repeat (first | (with_reducible first | exact HB.out | apply below_alloc | apply pw_below_drewN | apply below_drew1 | refine below_set ?_ GE148.out) | exact HB.out)⟩⟩
                  · rw [if_neg c35] at H
                    exact absurd H (by simp)
                · replace c34 := Bool.eq_false_iff.mpr c34
                  subst c34
                  have H1 : (spec_TreeOk.j1 k1 l0 l0 (l0.length : Int) x9_1 true ((rd_T30 l0 x9_1).f0) ((rd_T30 l0 x9_1).f1) ((rd_T30 l0 x9_1).f2) ((rd_T30 l0 x9_1).f3) ((rd_T30 l0 x9_1).f4)) = some r := by rw [if_neg (show ¬ (false = true) by decide)] at H; exact H
                  clear H
                  have H := H1
                  clear H1
                  have H' := Aside0.mk H
                  clear H
                  have hcz65_0 : w31.cell? ⟨gb148, 0, none⟩ = some (.int .i64 0) := (blk_cell BK148.out 0).trans rfl
                  have hcz65_1 : w31.cell? ⟨gb148, 1, none⟩ = some (.slice none 0 0) := (blk_cell BK148.out 1).trans rfl
                  have hcz65_2 : w31.cell? ⟨gb148, 2, none⟩ = some (.slice none 0 0) := (blk_cell BK148.out 2).trans rfl
                  have hcz65_3 : w31.cell? ⟨gb148, 3, none⟩ = some (.slice none 0 0) := (blk_cell BK148.out 3).trans rfl
                  have hcz65_4 : w31.cell? ⟨gb148, 4, none⟩ = some (.string (⟨#[]⟩ : ByteArray)) := (blk_cell BK148.out 4).trans rfl
                  have hfz65_0 := blk_frozen BK148.out 0
                  have hfz65_1 := blk_frozen BK148.out 1
                  have hfz65_2 := blk_frozen BK148.out 2
                  have hfz65_3 := blk_frozen BK148.out 3
                  have hfz65_4 := blk_frozen BK148.out 4
                  go_wp2_with (first | ((with_reducible refine gate_callee (f := 11) rfl ?_); refine goesL_ (some 48) rfl rfl Tryd.func11 (by kernel_rfl) rfl #[.agg #[.slice A147_1 ((rd_T30 l0 x9_1).f1).length c147_1, .slice A147_3 ((rd_T30 l0 x9_1).f3).length c147_3, .string ((rd_T30 l0 x9_1).f4)]] rfl (by (try simp only [List.map_toArray, List.map_cons, List.map_nil]); first | done | rfl | (simp only [List.length_drop, List.length_take]; rfl)) ?_; (with_reducible refine (spec_LineOk.calls k1 _ _ ((rd_T30 l0 x9_1).f1) _ _ ((rd_T30 l0 x9_1).f3) ((rd_T30 l0 x9_1).f4) false _ ?side1 ?side2 ?side3 ?side4 A33.out).mono ?_); (case side1 => exact Kd.C_below HR147_1.out (by repeat (first | (with_reducible first | exact HB.out | apply below_alloc | apply pw_below_drewN | apply below_drew1 | refine below_set ?_ GE148.out) | exact HB.out))); (case side2 => exact HC147_1.out); (case side3 => exact Kd.C_below HR147_3.out (by repeat (first | (with_reducible first | exact HB.out | apply below_alloc | apply pw_below_drewN | apply below_drew1 | refine below_set ?_ GE148.out) | exact HB.out))); (case side4 => exact HC147_3.out); rintro e w66 ⟨rfl, hb⟩; refine ⟨_, rfl, ?_⟩; have n0_ := Aside0.mk (blk_below (g := gb148) (o := .cells #[.int .i64 ((rd_T30 l0 x9_1).f0), .slice A147_1 ((rd_T30 l0 x9_1).f1).length c147_1, .slice A147_2 ((rd_T30 l0 x9_1).f2).length c147_2, .slice A147_3 ((rd_T30 l0 x9_1).f3).length c147_3, .string ((rd_T30 l0 x9_1).f4)] 30 (0, 0)) (by (with_reducible repeat (first | refine blk_drewN ?_ _ | refine blk_drew ?_ | refine blk_alloc ?_ _)); refine blk_put (cs := #[.int .i64 ((rd_T30 l0 x9_1).f0), .slice A147_1 ((rd_T30 l0 x9_1).f1).length c147_1, .slice A147_2 ((rd_T30 l0 x9_1).f2).length c147_2, .slice A147_3 ((rd_T30 l0 x9_1).f3).length c147_3, .string (⟨#[]⟩ : ByteArray)]) ?_ 4 _ rfl; (with_reducible repeat (first | refine blk_drewN ?_ _ | refine blk_drew ?_ | refine blk_alloc ?_ _)); refine blk_put (cs := #[.int .i64 ((rd_T30 l0 x9_1).f0), .slice A147_1 ((rd_T30 l0 x9_1).f1).length c147_1, .slice A147_2 ((rd_T30 l0 x9_1).f2).length c147_2, .slice none 0 0, .string (⟨#[]⟩ : ByteArray)]) ?_ 3 _ rfl; (with_reducible repeat (first | refine blk_drewN ?_ _ | refine blk_drew ?_ | refine blk_alloc ?_ _)); refine blk_put (cs := #[.int .i64 ((rd_T30 l0 x9_1).f0), .slice A147_1 ((rd_T30 l0 x9_1).f1).length c147_1, .slice none 0 0, .slice none 0 0, .string (⟨#[]⟩ : ByteArray)]) ?_ 2 _ rfl; (with_reducible repeat (first | refine blk_drewN ?_ _ | refine blk_drew ?_ | refine blk_alloc ?_ _)); refine blk_put (cs := #[.int .i64 ((rd_T30 l0 x9_1).f0), .slice none 0 0, .slice none 0 0, .slice none 0 0, .string (⟨#[]⟩ : ByteArray)]) ?_ 1 _ rfl; (with_reducible repeat (first | refine blk_drewN ?_ _ | refine blk_drew ?_ | refine blk_alloc ?_ _)); refine blk_put (cs := #[.int .i64 0, .slice none 0 0, .slice none 0 0, .slice none 0 0, .string (⟨#[]⟩ : ByteArray)]) ?_ 0 _ rfl; (with_reducible repeat (first | refine blk_drewN ?_ _ | refine blk_drew ?_ | refine blk_alloc ?_ _)); exact BK148.out) hb); have n1_ := Aside0.mk (below_step (by repeat (first | (with_reducible first | exact HB.out | apply below_alloc | apply pw_below_drewN | apply below_drew1 | refine below_set ?_ GE148.out) | exact HB.out)) hb); clear BK148; clear HB; have BK148 := n0_; have HB := n1_; clear n0_ n1_; (try clear hb); (try clear hb2); (try clear hk); (try clear hi)))
                  go_meet
                  case rel => exact ⟨_, (true), (by first | rfl | (simp; done) | (simp [*]; done)), H', ⟨by have := HK1.out; first | omega | exact Nat.le_refl _⟩, ⟨by (with_reducible repeat (first | refine blk_drewN ?_ _ | refine blk_drew ?_ | refine blk_alloc ?_ _)); exact BK148.out⟩, ⟨by repeat (first | (with_reducible first | exact HB.out | apply below_alloc | apply pw_below_drewN | apply below_drew1 | refine below_set ?_ GE148.out) | exact HB.out)⟩⟩
              case rest =>
                clear HC30
                try clear c1
                try clear p1
                try clear q1
                try clear hx1
                try clear qi1
                try clear c2
                try clear c2b0
                try clear p2
                try clear c3
                try clear c3b0
                try clear c4
                try clear c4b0
                try clear c5
                try clear c5b0
                try clear c5b1
                try clear p6
                try clear c7
                try clear c8
                try clear c8b0
                try clear c8b1
                try clear c8b2
                try clear c10
                try clear c11
                try clear c13
                try clear c13b0
                try clear c13b1
                try clear c14
                try clear c14b0
                try clear p14
                try clear q14
                try clear hx14
                try clear p15
                try clear q15
                try clear hx15
                try clear qi15
                try clear c34
                try clear c35
                try clear c35b0
                try clear c35b1
                try clear c37
                try clear c42
                try clear c42b0
                try clear c42b1
                try clear c43
                try clear c43b0
                try clear c43b1
                try clear c54
                try clear c54b0
                try clear c54b1
                try clear p64
                try clear hcz10_0
                try clear hcz10_1
                try clear hcz10_2
                try clear hcz10_3
                try clear hcz10_4
                try clear hcz12_0
                try clear hcz12_1
                try clear hcz12_2
                try clear hcz12_3
                try clear hcz12_4
                try clear hcz16_0
                try clear hcz16_1
                try clear hcz16_2
                try clear hcz16_3
                try clear hcz16_4
                try clear hcz18_0
                try clear hcz18_1
                try clear hcz18_2
                try clear hcz18_3
                try clear hcz18_4
                try clear hcz20_0
                try clear hcz20_1
                try clear hcz20_2
                try clear hcz20_3
                try clear hcz20_4
                try clear hcz22_0
                try clear hcz22_1
                try clear hcz22_2
                try clear hcz22_3
                try clear hcz22_4
                try clear hcz24_0
                try clear hcz24_1
                try clear hcz24_2
                try clear hcz24_3
                try clear hcz24_4
                try clear hcz26_0
                try clear hcz26_1
                try clear hcz26_2
                try clear hcz26_3
                try clear hcz26_4
                try clear hcz28_0
                try clear hcz28_1
                try clear hcz28_2
                try clear hcz28_3
                try clear hcz28_4
                try clear hcz32_0
                try clear hcz32_1
                try clear hcz32_2
                try clear hcz32_3
                try clear hcz32_4
                try clear hcz38_0
                try clear hcz38_1
                try clear hcz38_2
                try clear hcz38_3
                try clear hcz38_4
                try clear hcz40_0
                try clear hcz40_1
                try clear hcz40_2
                try clear hcz40_3
                try clear hcz40_4
                try clear hcz44_0
                try clear hcz44_1
                try clear hcz44_2
                try clear hcz44_3
                try clear hcz44_4
                try clear hcz46_0
                try clear hcz46_1
                try clear hcz46_2
                try clear hcz46_3
                try clear hcz46_4
                try clear hcz48_0
                try clear hcz48_1
                try clear hcz48_2
                try clear hcz48_3
                try clear hcz48_4
                try clear hcz49_0
                try clear hcz49_1
                try clear hcz49_2
                try clear hcz49_3
                try clear hcz49_4
                try clear hcz51_0
                try clear hcz51_1
                try clear hcz51_2
                try clear hcz51_3
                try clear hcz51_4
                try clear hcz53_0
                try clear hcz53_1
                try clear hcz53_2
                try clear hcz53_3
                try clear hcz53_4
                try clear hcz55_0
                try clear hcz55_1
                try clear hcz55_2
                try clear hcz55_3
                try clear hcz55_4
                try clear hcz57_0
                try clear hcz57_1
                try clear hcz57_2
                try clear hcz57_3
                try clear hcz57_4
                try clear hcz59_0
                try clear hcz59_1
                try clear hcz59_2
                try clear hcz59_3
                try clear hcz59_4
                try clear hcz60_0
                try clear hcz60_1
                try clear hcz60_2
                try clear hcz60_3
                try clear hcz60_4
                try clear hcz62_0
                try clear hcz62_1
                try clear hcz62_2
                try clear hcz62_3
                try clear hcz62_4
                try clear hcz64_0
                try clear hcz64_1
                try clear hcz64_2
                try clear hcz64_3
                try clear hcz64_4
                try clear hcz65_0
                try clear hcz65_1
                try clear hcz65_2
                try clear hcz65_3
                try clear hcz65_4
                try clear hfz10_0
                try clear hfz10_1
                try clear hfz10_2
                try clear hfz10_3
                try clear hfz10_4
                try clear hfz12_0
                try clear hfz12_1
                try clear hfz12_2
                try clear hfz12_3
                try clear hfz12_4
                try clear hfz16_0
                try clear hfz16_1
                try clear hfz16_2
                try clear hfz16_3
                try clear hfz16_4
                try clear hfz18_0
                try clear hfz18_1
                try clear hfz18_2
                try clear hfz18_3
                try clear hfz18_4
                try clear hfz20_0
                try clear hfz20_1
                try clear hfz20_2
                try clear hfz20_3
                try clear hfz20_4
                try clear hfz22_0
                try clear hfz22_1
                try clear hfz22_2
                try clear hfz22_3
                try clear hfz22_4
                try clear hfz24_0
                try clear hfz24_1
                try clear hfz24_2
                try clear hfz24_3
                try clear hfz24_4
                try clear hfz26_0
                try clear hfz26_1
                try clear hfz26_2
                try clear hfz26_3
                try clear hfz26_4
                try clear hfz28_0
                try clear hfz28_1
                try clear hfz28_2
                try clear hfz28_3
                try clear hfz28_4
                try clear hfz32_0
                try clear hfz32_1
                try clear hfz32_2
                try clear hfz32_3
                try clear hfz32_4
                try clear hfz38_0
                try clear hfz38_1
                try clear hfz38_2
                try clear hfz38_3
                try clear hfz38_4
                try clear hfz40_0
                try clear hfz40_1
                try clear hfz40_2
                try clear hfz40_3
                try clear hfz40_4
                try clear hfz44_0
                try clear hfz44_1
                try clear hfz44_2
                try clear hfz44_3
                try clear hfz44_4
                try clear hfz46_0
                try clear hfz46_1
                try clear hfz46_2
                try clear hfz46_3
                try clear hfz46_4
                try clear hfz48_0
                try clear hfz48_1
                try clear hfz48_2
                try clear hfz48_3
                try clear hfz48_4
                try clear hfz49_0
                try clear hfz49_1
                try clear hfz49_2
                try clear hfz49_3
                try clear hfz49_4
                try clear hfz51_0
                try clear hfz51_1
                try clear hfz51_2
                try clear hfz51_3
                try clear hfz51_4
                try clear hfz53_0
                try clear hfz53_1
                try clear hfz53_2
                try clear hfz53_3
                try clear hfz53_4
                try clear hfz55_0
                try clear hfz55_1
                try clear hfz55_2
                try clear hfz55_3
                try clear hfz55_4
                try clear hfz57_0
                try clear hfz57_1
                try clear hfz57_2
                try clear hfz57_3
                try clear hfz57_4
                try clear hfz59_0
                try clear hfz59_1
                try clear hfz59_2
                try clear hfz59_3
                try clear hfz59_4
                try clear hfz60_0
                try clear hfz60_1
                try clear hfz60_2
                try clear hfz60_3
                try clear hfz60_4
                try clear hfz62_0
                try clear hfz62_1
                try clear hfz62_2
                try clear hfz62_3
                try clear hfz62_4
                try clear hfz64_0
                try clear hfz64_1
                try clear hfz64_2
                try clear hfz64_3
                try clear hfz64_4
                try clear hfz65_0
                try clear hfz65_1
                try clear hfz65_2
                try clear hfz65_3
                try clear hfz65_4
                try clear hx147_0
                try clear hx147_1
                try clear hx147_2
                try clear hx147_3
                try clear hx147_4
                try clear hx151_0
                try clear p147
                try clear p151
                try clear q147
                try clear q151
                obtain ⟨kq, x83_29, rfl, HA, HJ29, BK148, HB⟩ := hcut
                cases kq with
                | zero => exact absurd HA.out (by simp [spec_TreeOk.j1])
                | succ kj29 =>
                  have H := HA.out
                  clear HA
                  simp only [spec_TreeOk.j1] at H
                  by_cases c67 : x83_29 = true
                  · subst c67
                    have H1 : (some false) = some r := by rw [if_pos rfl] at H; exact H
                    clear H
                    have H := H1
                    clear H1
                    obtain rfl := Option.some.inj H
                    go_wp2
                    go_ret
                    exact ⟨by first | rfl | (simp [errW_none, errW_some] <;> rfl) | (simp [*, errW_none, errW_some] <;> rfl), by repeat (first | (with_reducible first | exact HB.out | apply below_alloc | apply pw_below_drewN | apply below_drew1 | refine below_set ?_ GE148.out) | exact HB.out)⟩
                  · replace c67 := Bool.eq_false_iff.mpr c67
                    subst c67
                    have H1 : (spec_TreeOk.l1 kj29 l0 l0 (l0.length : Int) x9_1 ((rd_T30 l0 x9_1).f2) (((rd_T30 l0 x9_1).f2).length : Int) 0) = some r := by rw [if_neg (show ¬ (false = true) by decide)] at H; exact H
                    clear H
                    have H := H1
                    clear H1
                    have H' := Aside0.mk H
                    clear H
                    have hcz68_0 : wc.cell? ⟨gb148, 0, none⟩ = some (.int .i64 ((rd_T30 l0 x9_1).f0)) := (blk_cell BK148.out 0).trans rfl
                    have hcz68_1 : wc.cell? ⟨gb148, 1, none⟩ = some (.slice A147_1 ((rd_T30 l0 x9_1).f1).length c147_1) := (blk_cell BK148.out 1).trans rfl
                    have hcz68_2 : wc.cell? ⟨gb148, 2, none⟩ = some (.slice A147_2 ((rd_T30 l0 x9_1).f2).length c147_2) := (blk_cell BK148.out 2).trans rfl
                    have hcz68_3 : wc.cell? ⟨gb148, 3, none⟩ = some (.slice A147_3 ((rd_T30 l0 x9_1).f3).length c147_3) := (blk_cell BK148.out 3).trans rfl
                    have hcz68_4 : wc.cell? ⟨gb148, 4, none⟩ = some (.string ((rd_T30 l0 x9_1).f4)) := (blk_cell BK148.out 4).trans rfl
                    have hfz68_0 := blk_frozen BK148.out 0
                    have hfz68_1 := blk_frozen BK148.out 1
                    have hfz68_2 := blk_frozen BK148.out 2
                    have hfz68_3 := blk_frozen BK148.out 3
                    have hfz68_4 := blk_frozen BK148.out 4
                    go_wp2
                    go_loopg [87] kj29 (fun kq v87 w' => ∃ (x87_3 : Int), v87 = .int .i64 x87_3 ∧ Aside0 (spec_TreeOk.l1 kq l0 l0 (l0.length : Int) x9_1 ((rd_T30 l0 x9_1).f2) (((rd_T30 l0 x9_1).f2).length : Int) x87_3 = some r) ∧ Aside0 (kq ≤ kj29) ∧ Aside0 (w'.heap[gb148]? = some (.cells #[.int .i64 ((rd_T30 l0 x9_1).f0), (.slice A147_1 ((rd_T30 l0 x9_1).f1).length c147_1), (.slice A147_2 ((rd_T30 l0 x9_1).f2).length c147_2), (.slice A147_3 ((rd_T30 l0 x9_1).f3).length c147_3), .string ((rd_T30 l0 x9_1).f4)] 30 (0, 0))) ∧ Aside0 (Below w.heap.size w w'))
                    case atStart => exact ⟨(0), (by first | rfl | (simp; done) | (simp [*]; done)), H', ⟨Nat.le_refl _⟩, ⟨by (with_reducible repeat (first | refine blk_drewN ?_ _ | refine blk_drew ?_ | refine blk_alloc ?_ _)); exact BK148.out⟩, ⟨by repeat (first | (with_reducible first | exact HB.out | apply below_alloc | apply pw_below_drewN | apply below_drew1 | refine below_set ?_ GE148.out) | exact HB.out)⟩⟩
                    case round =>
                      clear H'
                      try clear c1
                      try clear p1
                      try clear q1
                      try clear hx1
                      try clear qi1
                      try clear c2
                      try clear c2b0
                      try clear p2
                      try clear c3
                      try clear c3b0
                      try clear c4
                      try clear c4b0
                      try clear c5
                      try clear c5b0
                      try clear c5b1
                      try clear c6
                      try clear p6
                      try clear c7
                      try clear c8
                      try clear c8b0
                      try clear c8b1
                      try clear c8b2
                      try clear c10
                      try clear c11
                      try clear c13
                      try clear c13b0
                      try clear c13b1
                      try clear c14
                      try clear c14b0
                      try clear p14
                      try clear q14
                      try clear hx14
                      try clear p15
                      try clear q15
                      try clear hx15
                      try clear qi15
                      try clear c34
                      try clear c35
                      try clear c35b0
                      try clear c35b1
                      try clear c37
                      try clear c42
                      try clear c42b0
                      try clear c42b1
                      try clear c43
                      try clear c43b0
                      try clear c43b1
                      try clear c54
                      try clear c54b0
                      try clear c54b1
                      try clear p64
                      try clear c67
                      try clear hcz10_0
                      try clear hcz10_1
                      try clear hcz10_2
                      try clear hcz10_3
                      try clear hcz10_4
                      try clear hcz12_0
                      try clear hcz12_1
                      try clear hcz12_2
                      try clear hcz12_3
                      try clear hcz12_4
                      try clear hcz16_0
                      try clear hcz16_1
                      try clear hcz16_2
                      try clear hcz16_3
                      try clear hcz16_4
                      try clear hcz18_0
                      try clear hcz18_1
                      try clear hcz18_2
                      try clear hcz18_3
                      try clear hcz18_4
                      try clear hcz20_0
                      try clear hcz20_1
                      try clear hcz20_2
                      try clear hcz20_3
                      try clear hcz20_4
                      try clear hcz22_0
                      try clear hcz22_1
                      try clear hcz22_2
                      try clear hcz22_3
                      try clear hcz22_4
                      try clear hcz24_0
                      try clear hcz24_1
                      try clear hcz24_2
                      try clear hcz24_3
                      try clear hcz24_4
                      try clear hcz26_0
                      try clear hcz26_1
                      try clear hcz26_2
                      try clear hcz26_3
                      try clear hcz26_4
                      try clear hcz28_0
                      try clear hcz28_1
                      try clear hcz28_2
                      try clear hcz28_3
                      try clear hcz28_4
                      try clear hcz32_0
                      try clear hcz32_1
                      try clear hcz32_2
                      try clear hcz32_3
                      try clear hcz32_4
                      try clear hcz38_0
                      try clear hcz38_1
                      try clear hcz38_2
                      try clear hcz38_3
                      try clear hcz38_4
                      try clear hcz40_0
                      try clear hcz40_1
                      try clear hcz40_2
                      try clear hcz40_3
                      try clear hcz40_4
                      try clear hcz44_0
                      try clear hcz44_1
                      try clear hcz44_2
                      try clear hcz44_3
                      try clear hcz44_4
                      try clear hcz46_0
                      try clear hcz46_1
                      try clear hcz46_2
                      try clear hcz46_3
                      try clear hcz46_4
                      try clear hcz48_0
                      try clear hcz48_1
                      try clear hcz48_2
                      try clear hcz48_3
                      try clear hcz48_4
                      try clear hcz49_0
                      try clear hcz49_1
                      try clear hcz49_2
                      try clear hcz49_3
                      try clear hcz49_4
                      try clear hcz51_0
                      try clear hcz51_1
                      try clear hcz51_2
                      try clear hcz51_3
                      try clear hcz51_4
                      try clear hcz53_0
                      try clear hcz53_1
                      try clear hcz53_2
                      try clear hcz53_3
                      try clear hcz53_4
                      try clear hcz55_0
                      try clear hcz55_1
                      try clear hcz55_2
                      try clear hcz55_3
                      try clear hcz55_4
                      try clear hcz57_0
                      try clear hcz57_1
                      try clear hcz57_2
                      try clear hcz57_3
                      try clear hcz57_4
                      try clear hcz59_0
                      try clear hcz59_1
                      try clear hcz59_2
                      try clear hcz59_3
                      try clear hcz59_4
                      try clear hcz60_0
                      try clear hcz60_1
                      try clear hcz60_2
                      try clear hcz60_3
                      try clear hcz60_4
                      try clear hcz62_0
                      try clear hcz62_1
                      try clear hcz62_2
                      try clear hcz62_3
                      try clear hcz62_4
                      try clear hcz64_0
                      try clear hcz64_1
                      try clear hcz64_2
                      try clear hcz64_3
                      try clear hcz64_4
                      try clear hcz65_0
                      try clear hcz65_1
                      try clear hcz65_2
                      try clear hcz65_3
                      try clear hcz65_4
                      try clear hcz68_0
                      try clear hcz68_1
                      try clear hcz68_2
                      try clear hcz68_3
                      try clear hcz68_4
                      try clear hfz10_0
                      try clear hfz10_1
                      try clear hfz10_2
                      try clear hfz10_3
                      try clear hfz10_4
                      try clear hfz12_0
                      try clear hfz12_1
                      try clear hfz12_2
                      try clear hfz12_3
                      try clear hfz12_4
                      try clear hfz16_0
                      try clear hfz16_1
                      try clear hfz16_2
                      try clear hfz16_3
                      try clear hfz16_4
                      try clear hfz18_0
                      try clear hfz18_1
                      try clear hfz18_2
                      try clear hfz18_3
                      try clear hfz18_4
                      try clear hfz20_0
                      try clear hfz20_1
                      try clear hfz20_2
                      try clear hfz20_3
                      try clear hfz20_4
                      try clear hfz22_0
                      try clear hfz22_1
                      try clear hfz22_2
                      try clear hfz22_3
                      try clear hfz22_4
                      try clear hfz24_0
                      try clear hfz24_1
                      try clear hfz24_2
                      try clear hfz24_3
                      try clear hfz24_4
                      try clear hfz26_0
                      try clear hfz26_1
                      try clear hfz26_2
                      try clear hfz26_3
                      try clear hfz26_4
                      try clear hfz28_0
                      try clear hfz28_1
                      try clear hfz28_2
                      try clear hfz28_3
                      try clear hfz28_4
                      try clear hfz32_0
                      try clear hfz32_1
                      try clear hfz32_2
                      try clear hfz32_3
                      try clear hfz32_4
                      try clear hfz38_0
                      try clear hfz38_1
                      try clear hfz38_2
                      try clear hfz38_3
                      try clear hfz38_4
                      try clear hfz40_0
                      try clear hfz40_1
                      try clear hfz40_2
                      try clear hfz40_3
                      try clear hfz40_4
                      try clear hfz44_0
                      try clear hfz44_1
                      try clear hfz44_2
                      try clear hfz44_3
                      try clear hfz44_4
                      try clear hfz46_0
                      try clear hfz46_1
                      try clear hfz46_2
                      try clear hfz46_3
                      try clear hfz46_4
                      try clear hfz48_0
                      try clear hfz48_1
                      try clear hfz48_2
                      try clear hfz48_3
                      try clear hfz48_4
                      try clear hfz49_0
                      try clear hfz49_1
                      try clear hfz49_2
                      try clear hfz49_3
                      try clear hfz49_4
                      try clear hfz51_0
                      try clear hfz51_1
                      try clear hfz51_2
                      try clear hfz51_3
                      try clear hfz51_4
                      try clear hfz53_0
                      try clear hfz53_1
                      try clear hfz53_2
                      try clear hfz53_3
                      try clear hfz53_4
                      try clear hfz55_0
                      try clear hfz55_1
                      try clear hfz55_2
                      try clear hfz55_3
                      try clear hfz55_4
                      try clear hfz57_0
                      try clear hfz57_1
                      try clear hfz57_2
                      try clear hfz57_3
                      try clear hfz57_4
                      try clear hfz59_0
                      try clear hfz59_1
                      try clear hfz59_2
                      try clear hfz59_3
                      try clear hfz59_4
                      try clear hfz60_0
                      try clear hfz60_1
                      try clear hfz60_2
                      try clear hfz60_3
                      try clear hfz60_4
                      try clear hfz62_0
                      try clear hfz62_1
                      try clear hfz62_2
                      try clear hfz62_3
                      try clear hfz62_4
                      try clear hfz64_0
                      try clear hfz64_1
                      try clear hfz64_2
                      try clear hfz64_3
                      try clear hfz64_4
                      try clear hfz65_0
                      try clear hfz65_1
                      try clear hfz65_2
                      try clear hfz65_3
                      try clear hfz65_4
                      try clear hfz68_0
                      try clear hfz68_1
                      try clear hfz68_2
                      try clear hfz68_3
                      try clear hfz68_4
                      try clear hx147_0
                      try clear hx147_1
                      try clear hx147_2
                      try clear hx147_3
                      try clear hx147_4
                      try clear hx151_0
                      try clear p1
                      try clear p14
                      try clear p147
                      try clear p15
                      try clear p151
                      try clear p2
                      try clear p6
                      try clear p64
                      try clear q1
                      try clear q14
                      try clear q147
                      try clear q15
                      try clear q151
                      obtain ⟨x87_3, rfl, HA, HK3, BK148, HB⟩ := hrel
                      cases gk with
                      | zero => exact absurd HA.out (by simp [spec_TreeOk.l1])
                      | succ k3 =>
                        have H := HA.out
                        clear HA
                        simp only [spec_TreeOk.l1] at H
                        by_cases c69 : x87_3 < (((rd_T30 l0 x9_1).f2).length : Int)
                        · rw [if_pos c69] at H
                          have c69b0 : decide (x87_3 < (((rd_T30 l0 x9_1).f2).length : Int)) = true := decide_eq_true c69
                          clear c69
                          by_cases c70 : 0 ≤ x87_3
                          · rw [if_pos c70] at H
                            have c70b0 : decide (0 ≤ x87_3) = true := decide_eq_true c70
                            clear c70
                            by_cases c71 : x87_3 < (((rd_T30 l0 x9_1).f2).length : Int)
                            · rw [if_pos c71] at H
                              have c71b0 : decide (x87_3 < (((rd_T30 l0 x9_1).f2).length : Int)) = true := decide_eq_true c71
                              clear c71
                              replace H := Option.bind_eq_some_iff.mp H
                              obtain ⟨t155, A720, H⟩ := H
                              replace H : (if t155 = true then (spec_TreeOk.l1 k3 l0 l0 (l0.length : Int) x9_1 ((rd_T30 l0 x9_1).f2) (((rd_T30 l0 x9_1).f2).length : Int) (wrap64 (x87_3 + 1))) else (some false)) = some r := H
                              have A72 := Aside0.mk A720
                              clear A720
                              by_cases c73 : t155 = true
                              · subst c73
                                have H1 : (spec_TreeOk.l1 k3 l0 l0 (l0.length : Int) x9_1 ((rd_T30 l0 x9_1).f2) (((rd_T30 l0 x9_1).f2).length : Int) (wrap64 (x87_3 + 1))) = some r := by rw [if_pos rfl] at H; exact H
                                clear H
                                have H := H1
                                clear H1
                                have H' := Aside0.mk H
                                clear H
                                have p153 : 0 ≤ (x87_3 : Int) := of_decide_eq_true (by first | (with_reducible assumption) | assumption)
                                have q153 : x87_3 < (((rd_T30 l0 x9_1).f2).length : Int) := of_decide_eq_true (by first | (with_reducible assumption) | assumption)
                                obtain ⟨ad153, A153_0, c153_0, A153_1, c153_1, e153, hx153_0, hx153_1, hx153_2, hl153_0, hi153_0, hl153_1, hi153_1⟩ := at_T35 HR147_2.out x87_3 p153 q153
                                cases e153
                                replace hx153_0 := (HB.out.cell (World.block_lt_of_cell? w _ hx153_0)).trans hx153_0
                                replace hx153_1 := (HB.out.cell (World.block_lt_of_cell? w _ hx153_1)).trans hx153_1
                                replace hx153_2 := (HB.out.cell (World.block_lt_of_cell? w _ hx153_2)).trans hx153_2
                                have HR153_0 := Aside0.mk hi153_0
                                have HC153_0 := Aside0.mk hl153_0
                                clear hi153_0 hl153_0
                                have HR153_1 := Aside0.mk hi153_1
                                have HC153_1 := Aside0.mk hl153_1
                                clear hi153_1 hl153_1
                                replace p153 := eq_true p153
                                replace q153 := eq_true q153
                                go_wp2_with (first | ((with_reducible refine gate_dst (N := 6) rfl ?_); (try (refine gate_guard (by rfl) ?_; dsimp only)); refine box_event ?hg (N := 6) ?hd (cs := #[.slice none 0 0, .slice none 0 0, .string (⟨#[]⟩ : ByteArray)]) (t := 35) ?hr ?_; (case hd => rfl); (case hg => rfl); (case hr => first | (go_simp; done) | (go_simp; rfl)); intro gb154 hg w74 hbox hb; have n0_ := Aside0.mk (blk_below (g := gb148) (o := .cells #[.int .i64 ((rd_T30 l0 x9_1).f0), .slice A147_1 ((rd_T30 l0 x9_1).f1).length c147_1, .slice (some ad153) ((rd_T30 l0 x9_1).f2).length c147_2, .slice A147_3 ((rd_T30 l0 x9_1).f3).length c147_3, .string ((rd_T30 l0 x9_1).f4)] 30 (0, 0)) (by (with_reducible repeat (first | refine blk_drewN ?_ _ | refine blk_drew ?_ | refine blk_alloc ?_ _)); exact BK148.out) hb); have n1_ := Aside0.mk (below_step (by repeat (first | (with_reducible first | exact HB.out | apply below_alloc | apply pw_below_drewN | apply below_drew1 | refine below_set ?_ GE148.out) | exact HB.out)) hb); have n2_ := Aside0.mk (hbox); have n3_ := Aside0.mk ((by rw [hg]; exact (below_size (by repeat (first | (with_reducible first | exact HB.out | apply below_alloc | apply pw_below_drewN | apply below_drew1 | refine below_set ?_ GE148.out) | exact HB.out))) : w.heap.size ≤ gb154)); have n4_ := Aside0.mk ((by rw [hg]; exact (below_size (by repeat (first | (with_reducible first | exact HB.out | apply below_alloc | apply pw_below_drewN | apply below_drew1 | refine below_set ?_ GE148.out) | exact HB.out))) : w.heap.size ≤ gb154)); have n5_ := Aside0.mk ((by rw [hg]; exact Nat.ne_of_lt (blk_lt (g := gb148) (o := .cells #[.int .i64 ((rd_T30 l0 x9_1).f0), .slice A147_1 ((rd_T30 l0 x9_1).f1).length c147_1, .slice (some ad153) ((rd_T30 l0 x9_1).f2).length c147_2, .slice A147_3 ((rd_T30 l0 x9_1).f3).length c147_3, .string ((rd_T30 l0 x9_1).f4)] 30 (0, 0)) (by (with_reducible repeat (first | refine blk_drewN ?_ _ | refine blk_drew ?_ | refine blk_alloc ?_ _)); exact BK148.out)) : gb148 ≠ gb154)); have n6_ := Aside0.mk ((by rw [hg]; exact Nat.ne_of_gt (blk_lt (g := gb148) (o := .cells #[.int .i64 ((rd_T30 l0 x9_1).f0), .slice A147_1 ((rd_T30 l0 x9_1).f1).length c147_1, .slice (some ad153) ((rd_T30 l0 x9_1).f2).length c147_2, .slice A147_3 ((rd_T30 l0 x9_1).f3).length c147_3, .string ((rd_T30 l0 x9_1).f4)] 30 (0, 0)) (by (with_reducible repeat (first | refine blk_drewN ?_ _ | refine blk_drew ?_ | refine blk_alloc ?_ _)); exact BK148.out)) : gb154 ≠ gb148)); clear BK148; clear HB; have BK148 := n0_; have HB := n1_; have BK154 := n2_; have GW154 := n3_; have GE154 := n4_; have NB148_154 := n5_; have NB154_148 := n6_; clear n0_ n1_ n2_ n3_ n4_ n5_ n6_; clear hb hbox hg; have hnb75 := NB154_148.out; have hnc75 := NB148_154.out; have hcz76_0 : w74.cell? ⟨gb154, 0, none⟩ = some (.slice none 0 0) := (blk_cell BK154.out 0).trans rfl; have hcz76_1 : w74.cell? ⟨gb154, 1, none⟩ = some (.slice none 0 0) := (blk_cell BK154.out 1).trans rfl; have hcz76_2 : w74.cell? ⟨gb154, 2, none⟩ = some (.string (⟨#[]⟩ : ByteArray)) := (blk_cell BK154.out 2).trans rfl; have hfz76_0 := blk_frozen BK154.out 0; have hfz76_1 := blk_frozen BK154.out 1; have hfz76_2 := blk_frozen BK154.out 2) | ((with_reducible refine gate_callee (f := 11) rfl ?_); refine goesL_ (some 92) rfl rfl Tryd.func11 (by kernel_rfl) rfl #[.agg #[.slice A153_0 ((rd_T35 ((rd_T30 l0 x9_1).f2) x87_3).f0).length c153_0, .slice A153_1 ((rd_T35 ((rd_T30 l0 x9_1).f2) x87_3).f1).length c153_1, .string ((rd_T35 ((rd_T30 l0 x9_1).f2) x87_3).f2)]] rfl (by (try simp only [List.map_toArray, List.map_cons, List.map_nil]); first | done | rfl | (simp only [List.length_drop, List.length_take]; rfl)) ?_; (with_reducible refine (spec_LineOk.calls k3 _ _ ((rd_T35 ((rd_T30 l0 x9_1).f2) x87_3).f0) _ _ ((rd_T35 ((rd_T30 l0 x9_1).f2) x87_3).f1) ((rd_T35 ((rd_T30 l0 x9_1).f2) x87_3).f2) true _ ?side1 ?side2 ?side3 ?side4 A72.out).mono ?_); (case side1 => exact Kd.C_below HR153_0.out (by repeat (first | (with_reducible first | exact HB.out | apply below_alloc | apply pw_below_drewN | apply below_drew1 | refine below_set ?_ GE148.out | refine below_set ?_ GE154.out) | exact HB.out))); (case side2 => exact HC153_0.out); (case side3 => exact Kd.C_below HR153_1.out (by repeat (first | (with_reducible first | exact HB.out | apply below_alloc | apply pw_below_drewN | apply below_drew1 | refine below_set ?_ GE148.out | refine below_set ?_ GE154.out) | exact HB.out))); (case side4 => exact HC153_1.out); rintro e w77 ⟨rfl, hb⟩; refine ⟨_, rfl, ?_⟩; have n0_ := Aside0.mk (blk_below (g := gb148) (o := .cells #[.int .i64 ((rd_T30 l0 x9_1).f0), .slice A147_1 ((rd_T30 l0 x9_1).f1).length c147_1, .slice (some ad153) ((rd_T30 l0 x9_1).f2).length c147_2, .slice A147_3 ((rd_T30 l0 x9_1).f3).length c147_3, .string ((rd_T30 l0 x9_1).f4)] 30 (0, 0)) (by (with_reducible repeat (first | refine blk_drewN ?_ _ | refine blk_drew ?_ | refine blk_alloc ?_ _)); refine blk_far ?_ NB148_154.out _; (with_reducible repeat (first | refine blk_drewN ?_ _ | refine blk_drew ?_ | refine blk_alloc ?_ _)); refine blk_far ?_ NB148_154.out _; (with_reducible repeat (first | refine blk_drewN ?_ _ | refine blk_drew ?_ | refine blk_alloc ?_ _)); refine blk_far ?_ NB148_154.out _; (with_reducible repeat (first | refine blk_drewN ?_ _ | refine blk_drew ?_ | refine blk_alloc ?_ _)); exact BK148.out) hb); have n1_ := Aside0.mk (blk_below (g := gb154) (o := .cells #[.slice A153_0 ((rd_T35 ((rd_T30 l0 x9_1).f2) x87_3).f0).length c153_0, .slice A153_1 ((rd_T35 ((rd_T30 l0 x9_1).f2) x87_3).f1).length c153_1, .string ((rd_T35 ((rd_T30 l0 x9_1).f2) x87_3).f2)] 35 (0, 0)) (by (with_reducible repeat (first | refine blk_drewN ?_ _ | refine blk_drew ?_ | refine blk_alloc ?_ _)); refine blk_put (cs := #[.slice A153_0 ((rd_T35 ((rd_T30 l0 x9_1).f2) x87_3).f0).length c153_0, .slice A153_1 ((rd_T35 ((rd_T30 l0 x9_1).f2) x87_3).f1).length c153_1, .string (⟨#[]⟩ : ByteArray)]) ?_ 2 _ rfl; (with_reducible repeat (first | refine blk_drewN ?_ _ | refine blk_drew ?_ | refine blk_alloc ?_ _)); refine blk_put (cs := #[.slice A153_0 ((rd_T35 ((rd_T30 l0 x9_1).f2) x87_3).f0).length c153_0, .slice none 0 0, .string (⟨#[]⟩ : ByteArray)]) ?_ 1 _ rfl; (with_reducible repeat (first | refine blk_drewN ?_ _ | refine blk_drew ?_ | refine blk_alloc ?_ _)); refine blk_put (cs := #[.slice none 0 0, .slice none 0 0, .string (⟨#[]⟩ : ByteArray)]) ?_ 0 _ rfl; (with_reducible repeat (first | refine blk_drewN ?_ _ | refine blk_drew ?_ | refine blk_alloc ?_ _)); exact BK154.out) hb); have n2_ := Aside0.mk (below_step (by repeat (first | (with_reducible first | exact HB.out | apply below_alloc | apply pw_below_drewN | apply below_drew1 | refine below_set ?_ GE148.out | refine below_set ?_ GE154.out) | exact HB.out)) hb); clear BK148; clear BK154; clear HB; have BK148 := n0_; have BK154 := n1_; have HB := n2_; clear n0_ n1_ n2_; (try clear hb); (try clear hb2); (try clear hk); (try clear hi)))
                                go_roundg k3
                                case measure => have := HK1.out; have := HJ29.out; have := HK3.out; omega
                                case rel => exact ⟨(wrap64 (x87_3 + 1)), (by first | rfl | (simp; done) | (simp [*]; done)), H', ⟨by have := HK1.out; have := HJ29.out; have := HK3.out; omega⟩, ⟨by (with_reducible repeat (first | refine blk_drewN ?_ _ | refine blk_drew ?_ | refine blk_alloc ?_ _)); exact BK148.out⟩, ⟨by repeat (first | (with_reducible first | exact HB.out | apply below_alloc | apply pw_below_drewN | apply below_drew1 | refine below_set ?_ GE148.out | refine below_set ?_ GE154.out) | exact HB.out)⟩⟩
                              · replace c73 := Bool.eq_false_iff.mpr c73
                                subst c73
                                have H1 : (some false) = some r := by rw [if_neg (show ¬ (false = true) by decide)] at H; exact H
                                clear H
                                have H := H1
                                clear H1
                                obtain rfl := Option.some.inj H
                                have p153 : 0 ≤ (x87_3 : Int) := of_decide_eq_true (by first | (with_reducible assumption) | assumption)
                                have q153 : x87_3 < (((rd_T30 l0 x9_1).f2).length : Int) := of_decide_eq_true (by first | (with_reducible assumption) | assumption)
                                obtain ⟨ad153, A153_0, c153_0, A153_1, c153_1, e153, hx153_0, hx153_1, hx153_2, hl153_0, hi153_0, hl153_1, hi153_1⟩ := at_T35 HR147_2.out x87_3 p153 q153
                                cases e153
                                replace hx153_0 := (HB.out.cell (World.block_lt_of_cell? w _ hx153_0)).trans hx153_0
                                replace hx153_1 := (HB.out.cell (World.block_lt_of_cell? w _ hx153_1)).trans hx153_1
                                replace hx153_2 := (HB.out.cell (World.block_lt_of_cell? w _ hx153_2)).trans hx153_2
                                have HR153_0 := Aside0.mk hi153_0
                                have HC153_0 := Aside0.mk hl153_0
                                clear hi153_0 hl153_0
                                have HR153_1 := Aside0.mk hi153_1
                                have HC153_1 := Aside0.mk hl153_1
                                clear hi153_1 hl153_1
                                replace p153 := eq_true p153
                                replace q153 := eq_true q153
                                go_wp2_with (first | ((with_reducible refine gate_dst (N := 6) rfl ?_); (try (refine gate_guard (by rfl) ?_; dsimp only)); refine box_event ?hg (N := 6) ?hd (cs := #[.slice none 0 0, .slice none 0 0, .string (⟨#[]⟩ : ByteArray)]) (t := 35) ?hr ?_; (case hd => rfl); (case hg => rfl); (case hr => first | (go_simp; done) | (go_simp; rfl)); intro gb154 hg w78 hbox hb; have n0_ := Aside0.mk (blk_below (g := gb148) (o := .cells #[.int .i64 ((rd_T30 l0 x9_1).f0), .slice A147_1 ((rd_T30 l0 x9_1).f1).length c147_1, .slice (some ad153) ((rd_T30 l0 x9_1).f2).length c147_2, .slice A147_3 ((rd_T30 l0 x9_1).f3).length c147_3, .string ((rd_T30 l0 x9_1).f4)] 30 (0, 0)) (by (with_reducible repeat (first | refine blk_drewN ?_ _ | refine blk_drew ?_ | refine blk_alloc ?_ _)); exact BK148.out) hb); have n1_ := Aside0.mk (below_step (by repeat (first | (with_reducible first | exact HB.out | apply below_alloc | apply pw_below_drewN | apply below_drew1 | refine below_set ?_ GE148.out) | exact HB.out)) hb); have n2_ := Aside0.mk (hbox); have n3_ := Aside0.mk ((by rw [hg]; exact (below_size (by repeat (first | (with_reducible first | exact HB.out | apply below_alloc | apply pw_below_drewN | apply below_drew1 | refine below_set ?_ GE148.out) | exact HB.out))) : w.heap.size ≤ gb154)); have n4_ := Aside0.mk ((by rw [hg]; exact (below_size (by repeat (first | (with_reducible first | exact HB.out | apply below_alloc | apply pw_below_drewN | apply below_drew1 | refine below_set ?_ GE148.out) | exact HB.out))) : w.heap.size ≤ gb154)); have n5_ := Aside0.mk ((by rw [hg]; exact Nat.ne_of_lt (blk_lt (g := gb148) (o := .cells #[.int .i64 ((rd_T30 l0 x9_1).f0), .slice A147_1 ((rd_T30 l0 x9_1).f1).length c147_1, .slice (some ad153) ((rd_T30 l0 x9_1).f2).length c147_2, .slice A147_3 ((rd_T30 l0 x9_1).f3).length c147_3, .string ((rd_T30 l0 x9_1).f4)] 30 (0, 0)) (by (with_reducible repeat (first | refine blk_drewN ?_ _ | refine blk_drew ?_ | refine blk_alloc ?_ _)); exact BK148.out)) : gb148 ≠ gb154)); have n6_ := Aside0.mk ((by rw [hg]; exact Nat.ne_of_gt (blk_lt (g := gb148) (o := .cells #[.int .i64 ((rd_T30 l0 x9_1).f0), .slice A147_1 ((rd_T30 l0 x9_1).f1).length c147_1, .slice (some ad153) ((rd_T30 l0 x9_1).f2).length c147_2, .slice A147_3 ((rd_T30 l0 x9_1).f3).length c147_3, .string ((rd_T30 l0 x9_1).f4)] 30 (0, 0)) (by (with_reducible repeat (first | refine blk_drewN ?_ _ | refine blk_drew ?_ | refine blk_alloc ?_ _)); exact BK148.out)) : gb154 ≠ gb148)); clear BK148; clear HB; have BK148 := n0_; have HB := n1_; have BK154 := n2_; have GW154 := n3_; have GE154 := n4_; have NB148_154 := n5_; have NB154_148 := n6_; clear n0_ n1_ n2_ n3_ n4_ n5_ n6_; clear hb hbox hg; have hnb79 := NB154_148.out; have hnc79 := NB148_154.out; have hcz80_0 : w78.cell? ⟨gb154, 0, none⟩ = some (.slice none 0 0) := (blk_cell BK154.out 0).trans rfl; have hcz80_1 : w78.cell? ⟨gb154, 1, none⟩ = some (.slice none 0 0) := (blk_cell BK154.out 1).trans rfl; have hcz80_2 : w78.cell? ⟨gb154, 2, none⟩ = some (.string (⟨#[]⟩ : ByteArray)) := (blk_cell BK154.out 2).trans rfl; have hfz80_0 := blk_frozen BK154.out 0; have hfz80_1 := blk_frozen BK154.out 1; have hfz80_2 := blk_frozen BK154.out 2) | ((with_reducible refine gate_callee (f := 11) rfl ?_); refine goesL_ (some 92) rfl rfl Tryd.func11 (by kernel_rfl) rfl #[.agg #[.slice A153_0 ((rd_T35 ((rd_T30 l0 x9_1).f2) x87_3).f0).length c153_0, .slice A153_1 ((rd_T35 ((rd_T30 l0 x9_1).f2) x87_3).f1).length c153_1, .string ((rd_T35 ((rd_T30 l0 x9_1).f2) x87_3).f2)]] rfl (by (try simp only [List.map_toArray, List.map_cons, List.map_nil]); first | done | rfl | (simp only [List.length_drop, List.length_take]; rfl)) ?_; (with_reducible refine (spec_LineOk.calls k3 _ _ ((rd_T35 ((rd_T30 l0 x9_1).f2) x87_3).f0) _ _ ((rd_T35 ((rd_T30 l0 x9_1).f2) x87_3).f1) ((rd_T35 ((rd_T30 l0 x9_1).f2) x87_3).f2) false _ ?side1 ?side2 ?side3 ?side4 A72.out).mono ?_); (case side1 => exact Kd.C_below HR153_0.out (by repeat (first | (with_reducible first | exact HB.out | apply below_alloc | apply pw_below_drewN | apply below_drew1 | refine below_set ?_ GE148.out | refine below_set ?_ GE154.out) | exact HB.out))); (case side2 => exact HC153_0.out); (case side3 => exact Kd.C_below HR153_1.out (by repeat (first | (with_reducible first | exact HB.out | apply below_alloc | apply pw_below_drewN | apply below_drew1 | refine below_set ?_ GE148.out | refine below_set ?_ GE154.out) | exact HB.out))); (case side4 => exact HC153_1.out); rintro e w81 ⟨rfl, hb⟩; refine ⟨_, rfl, ?_⟩; have n0_ := Aside0.mk (blk_below (g := gb148) (o := .cells #[.int .i64 ((rd_T30 l0 x9_1).f0), .slice A147_1 ((rd_T30 l0 x9_1).f1).length c147_1, .slice (some ad153) ((rd_T30 l0 x9_1).f2).length c147_2, .slice A147_3 ((rd_T30 l0 x9_1).f3).length c147_3, .string ((rd_T30 l0 x9_1).f4)] 30 (0, 0)) (by (with_reducible repeat (first | refine blk_drewN ?_ _ | refine blk_drew ?_ | refine blk_alloc ?_ _)); refine blk_far ?_ NB148_154.out _; (with_reducible repeat (first | refine blk_drewN ?_ _ | refine blk_drew ?_ | refine blk_alloc ?_ _)); refine blk_far ?_ NB148_154.out _; (with_reducible repeat (first | refine blk_drewN ?_ _ | refine blk_drew ?_ | refine blk_alloc ?_ _)); refine blk_far ?_ NB148_154.out _; (with_reducible repeat (first | refine blk_drewN ?_ _ | refine blk_drew ?_ | refine blk_alloc ?_ _)); exact BK148.out) hb); have n1_ := Aside0.mk (blk_below (g := gb154) (o := .cells #[.slice A153_0 ((rd_T35 ((rd_T30 l0 x9_1).f2) x87_3).f0).length c153_0, .slice A153_1 ((rd_T35 ((rd_T30 l0 x9_1).f2) x87_3).f1).length c153_1, .string ((rd_T35 ((rd_T30 l0 x9_1).f2) x87_3).f2)] 35 (0, 0)) (by (with_reducible repeat (first | refine blk_drewN ?_ _ | refine blk_drew ?_ | refine blk_alloc ?_ _)); refine blk_put (cs := #[.slice A153_0 ((rd_T35 ((rd_T30 l0 x9_1).f2) x87_3).f0).length c153_0, .slice A153_1 ((rd_T35 ((rd_T30 l0 x9_1).f2) x87_3).f1).length c153_1, .string (⟨#[]⟩ : ByteArray)]) ?_ 2 _ rfl; (with_reducible repeat (first | refine blk_drewN ?_ _ | refine blk_drew ?_ | refine blk_alloc ?_ _)); refine blk_put (cs := #[.slice A153_0 ((rd_T35 ((rd_T30 l0 x9_1).f2) x87_3).f0).length c153_0, .slice none 0 0, .string (⟨#[]⟩ : ByteArray)]) ?_ 1 _ rfl; (with_reducible repeat (first | refine blk_drewN ?_ _ | refine blk_drew ?_ | refine blk_alloc ?_ _)); refine blk_put (cs := #[.slice none 0 0, .slice none 0 0, .string (⟨#[]⟩ : ByteArray)]) ?_ 0 _ rfl; (with_reducible repeat (first | refine blk_drewN ?_ _ | refine blk_drew ?_ | refine blk_alloc ?_ _)); exact BK154.out) hb); have n2_ := Aside0.mk (below_step (by repeat (first | (with_reducible first | exact HB.out | apply below_alloc | apply pw_below_drewN | apply below_drew1 | refine below_set ?_ GE148.out | refine below_set ?_ GE154.out) | exact HB.out)) hb); clear BK148; clear BK154; clear HB; have BK148 := n0_; have BK154 := n1_; have HB := n2_; clear n0_ n1_ n2_; (try clear hb); (try clear hb2); (try clear hk); (try clear hi)))
                                go_ret
                                exact ⟨by first | rfl | (simp [errW_none, errW_some] <;> rfl) | (simp [*, errW_none, errW_some] <;> rfl), by repeat (first | (with_reducible first | exact HB.out | apply below_alloc | apply pw_below_drewN | apply below_drew1 | refine below_set ?_ GE148.out | refine below_set ?_ GE154.out) | exact HB.out)⟩
                            · rw [if_neg c71] at H
                              exact absurd H (by simp)
                          · rw [if_neg c70] at H
                            exact absurd H (by simp)
                        · rw [if_neg c69] at H
                          have c69b0 : decide (x87_3 < (((rd_T30 l0 x9_1).f2).length : Int)) = false := decide_eq_false c69
                          clear c69
                          have H' := Aside0.mk H
                          clear H
                          go_wp2
                          go_roundg k3
                          case measure => have := HK1.out; have := HJ29.out; have := HK3.out; omega
                          case rel => exact ⟨(wrap64 (x9_1 + 1)), (by first | rfl | (simp; done) | (simp [*]; done)), H', ⟨by have := HK1.out; have := HJ29.out; have := HK3.out; omega⟩, ⟨by repeat (first | (with_reducible first | exact HB.out | apply below_alloc | apply pw_below_drewN | apply below_drew1 | refine below_set ?_ GE148.out) | exact HB.out)⟩⟩
          · rw [if_neg c4] at H
            exact absurd H (by simp)
        · rw [if_neg c3] at H
          exact absurd H (by simp)
      · rw [if_neg c2] at H
        have c2b0 : decide (x9_1 < (l0.length : Int)) = false := decide_eq_false c2
        clear c2
        obtain rfl := Option.some.inj H
        go_wp2
        go_ret
        exact ⟨by first | rfl | (simp [errW_none, errW_some] <;> rfl) | (simp [*, errW_none, errW_some] <;> rfl), by repeat (first | (with_reducible first | exact HB.out | apply below_alloc | apply pw_below_drewN | apply below_drew1) | exact HB.out)⟩

end Go.Proofs.YtbifcpokkfiagaaDoor.PFm
