/- Functions of the program and their contracts, as the print writes them, cut to what this claim uses. -/
import Derived.Test.YtlnmchehnhgfnaaDoorZPContx0
namespace Go.Proofs.YtlnmchehnhgfnaaDoor.PCont
open Go.RowKit Go.Proofs.YtlnmchehnhgfnaaDoorW.PrintWords Go.Proofs.YtlnmchehnhgfnaaDoorW.PrintLast Go.Proofs.YtlnmchehnhgfnaaDoorW.PrintMore
attribute [local go_sem] max2_int min2_int max_two min_two max_three min_three max_four min_four max_six   -- for this text's walks alone
set_option linter.unusedVariables false
set_option linter.unusedSimpArgs false
def spec_RequireText.f (a0_0 : ByteArray) (a0_1 : ByteArray) (a0_2 : Bool) : Option (ByteArray) := if a0_2 = true then (if a0_0.size + 1 ≤ 9223372036854775807 then (if (a0_0 ++ (⟨#[32]⟩ : ByteArray)).size + a0_1.size ≤ 9223372036854775807 then (if ((a0_0 ++ (⟨#[32]⟩ : ByteArray)) ++ a0_1).size + 12 ≤ 9223372036854775807 then (some (((a0_0 ++ (⟨#[32]⟩ : ByteArray)) ++ a0_1) ++ (⟨#[32, 47, 47, 32, 105, 110, 100, 105, 114, 101, 99, 116]⟩ : ByteArray))) else (none)) else (none)) else (none)) else (if a0_0.size + 1 ≤ 9223372036854775807 then (if (a0_0 ++ (⟨#[32]⟩ : ByteArray)).size + a0_1.size ≤ 9223372036854775807 then (some ((a0_0 ++ (⟨#[32]⟩ : ByteArray)) ++ a0_1)) else (none)) else (none))
set_option maxHeartbeats 8000000 in
set_option maxRecDepth 100000 in
theorem spec_RequireText.calls (a0_0 : ByteArray) (a0_1 : ByteArray) (a0_2 : Bool) (r : ByteArray) (w : World) (h : spec_RequireText.f a0_0 a0_1 a0_2 = some r) :
  Calls Tryd.prog 31 #[.agg #[.string a0_0, .string a0_1, .bool a0_2]] w fun e w' => e = .returned (.string r) ∧ Below w.heap.size w w' := by
 have hu46 := Tryd.underlying46
 have HB := Aside0.mk (Below.refl w.heap.size w)
 have H : (if a0_2 = true then (if a0_0.size + 1 ≤ 9223372036854775807 then (if (a0_0 ++ (⟨#[32]⟩ : ByteArray)).size + a0_1.size ≤ 9223372036854775807 then (if ((a0_0 ++ (⟨#[32]⟩ : ByteArray)) ++ a0_1).size + 12 ≤ 9223372036854775807 then (some (((a0_0 ++ (⟨#[32]⟩ : ByteArray)) ++ a0_1) ++ (⟨#[32, 47, 47, 32, 105, 110, 100, 105, 114, 101, 99, 116]⟩ : ByteArray))) else (none)) else (none)) else (none)) else (if a0_0.size + 1 ≤ 9223372036854775807 then (if (a0_0 ++ (⟨#[32]⟩ : ByteArray)).size + a0_1.size ≤ 9223372036854775807 then (some ((a0_0 ++ (⟨#[32]⟩ : ByteArray)) ++ a0_1)) else (none)) else (none))) = some r := h
 clear h
 by_cases c2 : a0_2 = true
 ·
  subst c2
  have H1 : (if a0_0.size + 1 ≤ 9223372036854775807 then (if (a0_0 ++ (⟨#[32]⟩ : ByteArray)).size + a0_1.size ≤ 9223372036854775807 then (if ((a0_0 ++ (⟨#[32]⟩ : ByteArray)) ++ a0_1).size + 12 ≤ 9223372036854775807 then (some (((a0_0 ++ (⟨#[32]⟩ : ByteArray)) ++ a0_1) ++ (⟨#[32, 47, 47, 32, 105, 110, 100, 105, 114, 101, 99, 116]⟩ : ByteArray))) else (none)) else (none)) else (none)) = some r := by rw [if_pos rfl] at H; exact H
  clear H
  have H := H1
  clear H1
  by_cases c3 : a0_0.size + 1 ≤ 9223372036854775807
  ·
   rw [if_pos c3] at H
   have c3b0 := eq_true c3
   have c3b1 : decide (a0_0.size + 1 ≤ 9223372036854775807) = true := decide_eq_true c3
   try have c3b2 : (9223372036854775807 < a0_0.size + 1) = False := eq_false (Nat.not_lt.2 c3)
   by_cases c4 : (a0_0 ++ (⟨#[32]⟩ : ByteArray)).size + a0_1.size ≤ 9223372036854775807
   ·
    rw [if_pos c4] at H
    have c4b0 := eq_true c4
    have c4b1 : decide ((a0_0 ++ (⟨#[32]⟩ : ByteArray)).size + a0_1.size ≤ 9223372036854775807) = true := decide_eq_true c4
    try have c4b2 : (9223372036854775807 < (a0_0 ++ (⟨#[32]⟩ : ByteArray)).size + a0_1.size) = False := eq_false (Nat.not_lt.2 c4)
    try have c4b3 : (9223372036854775807 < a0_0.size + 1 + a0_1.size) = False := eq_false (Nat.not_lt.2 (by have h_ := c4; simp only [ByteArray.size_append] at h_; exact h_))
    by_cases c5 : ((a0_0 ++ (⟨#[32]⟩ : ByteArray)) ++ a0_1).size + 12 ≤ 9223372036854775807
    ·
     rw [if_pos c5] at H
     have c5b0 := eq_true c5
     have c5b1 : decide (((a0_0 ++ (⟨#[32]⟩ : ByteArray)) ++ a0_1).size + 12 ≤ 9223372036854775807) = true := decide_eq_true c5
     try have c5b2 : (9223372036854775807 < ((a0_0 ++ (⟨#[32]⟩ : ByteArray)) ++ a0_1).size + 12) = False := eq_false (Nat.not_lt.2 c5)
     try have c5b3 : (9223372036854775807 < a0_0.size + 1 + a0_1.size + 12) = False := eq_false (Nat.not_lt.2 (by have h_ := c5; simp only [ByteArray.size_append] at h_; exact h_))
     obtain rfl := Option.some.inj H
     go_enter Tryd.func31, Tryd.ntmps31
     go_wp2_with (first | ((with_reducible refine gate_dst (N := 1) rfl ?_); refine box_event ?hg (N := 1) ?hd (cs := #[.string a0_0, .string a0_1, .bool true]) (t := 46) ?hr ?_; (case hd => rfl); (case hg => rfl); (case hr => first | (go_simp; done) | (go_simp; rfl)); intro gb250 hg w6 hbox hb; have n0_ := Aside0.mk (below_step (by repeat (first | (with_reducible first | exact HB.out | apply below_alloc | apply pw_below_drewN | apply below_drew1) | exact HB.out)) hb); have n1_ := Aside0.mk (hbox); have n2_ := Aside0.mk ((by rw [hg]; exact (below_size (by repeat (first | (with_reducible first | exact HB.out | apply below_alloc | apply pw_below_drewN | apply below_drew1) | exact HB.out))) : w.heap.size ≤ gb250)); have n3_ := Aside0.mk ((by rw [hg]; exact (below_size (by repeat (first | (with_reducible first | exact HB.out | apply below_alloc | apply pw_below_drewN | apply below_drew1) | exact HB.out))) : w.heap.size ≤ gb250)); clear HB; have HB := n0_; have BK250 := n1_; have GW250 := n2_; have GE250 := n3_; clear n0_ n1_ n2_ n3_; clear hb hbox hg; have hcz7_0 : w6.cell? ⟨gb250, 0, none⟩ = some (.string a0_0) := (blk_cell BK250.out 0).trans rfl; have hcz7_1 : w6.cell? ⟨gb250, 1, none⟩ = some (.string a0_1) := (blk_cell BK250.out 1).trans rfl; have hcz7_2 : w6.cell? ⟨gb250, 2, none⟩ = some (.bool true) := (blk_cell BK250.out 2).trans rfl; have hfz7_0 := blk_frozen BK250.out 0; have hfz7_1 := blk_frozen BK250.out 1; have hfz7_2 := blk_frozen BK250.out 2))
     go_ret
     exact ⟨by first | rfl | (simp [errW_none, errW_some] <;> rfl) | (simp [*, errW_none, errW_some] <;> rfl), by repeat (first | (with_reducible first | exact HB.out | apply below_alloc | apply pw_below_drewN | apply below_drew1 | refine below_set ?_ GE250.out) | exact HB.out)⟩
    ·
     rw [if_neg c5] at H
     exact absurd H (by simp)
   ·
    rw [if_neg c4] at H
    exact absurd H (by simp)
  ·
   rw [if_neg c3] at H
   exact absurd H (by simp)
 ·
  replace c2 := Bool.eq_false_iff.mpr c2
  subst c2
  have H1 : (if a0_0.size + 1 ≤ 9223372036854775807 then (if (a0_0 ++ (⟨#[32]⟩ : ByteArray)).size + a0_1.size ≤ 9223372036854775807 then (some ((a0_0 ++ (⟨#[32]⟩ : ByteArray)) ++ a0_1)) else (none)) else (none)) = some r := by rw [if_neg (show ¬ (false = true) by decide)] at H; exact H
  clear H
  have H := H1
  clear H1
  by_cases c8 : a0_0.size + 1 ≤ 9223372036854775807
  ·
   rw [if_pos c8] at H
   have c8b0 := eq_true c8
   have c8b1 : decide (a0_0.size + 1 ≤ 9223372036854775807) = true := decide_eq_true c8
   try have c8b2 : (9223372036854775807 < a0_0.size + 1) = False := eq_false (Nat.not_lt.2 c8)
   by_cases c9 : (a0_0 ++ (⟨#[32]⟩ : ByteArray)).size + a0_1.size ≤ 9223372036854775807
   ·
    rw [if_pos c9] at H
    have c9b0 := eq_true c9
    have c9b1 : decide ((a0_0 ++ (⟨#[32]⟩ : ByteArray)).size + a0_1.size ≤ 9223372036854775807) = true := decide_eq_true c9
    try have c9b2 : (9223372036854775807 < (a0_0 ++ (⟨#[32]⟩ : ByteArray)).size + a0_1.size) = False := eq_false (Nat.not_lt.2 c9)
    try have c9b3 : (9223372036854775807 < a0_0.size + 1 + a0_1.size) = False := eq_false (Nat.not_lt.2 (by have h_ := c9; simp only [ByteArray.size_append] at h_; exact h_))
    obtain rfl := Option.some.inj H
    go_enter Tryd.func31, Tryd.ntmps31
    go_wp2_with (first | ((with_reducible refine gate_dst (N := 1) rfl ?_); refine box_event ?hg (N := 1) ?hd (cs := #[.string a0_0, .string a0_1, .bool false]) (t := 46) ?hr ?_; (case hd => rfl); (case hg => rfl); (case hr => first | (go_simp; done) | (go_simp; rfl)); intro gb250 hg w10 hbox hb; have n0_ := Aside0.mk (below_step (by repeat (first | (with_reducible first | exact HB.out | apply below_alloc | apply pw_below_drewN | apply below_drew1) | exact HB.out)) hb); have n1_ := Aside0.mk (hbox); have n2_ := Aside0.mk ((by rw [hg]; exact (below_size (by repeat (first | (with_reducible first | exact HB.out | apply below_alloc | apply pw_below_drewN | apply below_drew1) | exact HB.out))) : w.heap.size ≤ gb250)); have n3_ := Aside0.mk ((by rw [hg]; exact (below_size (by repeat (first | (with_reducible first | exact HB.out | apply below_alloc | apply pw_below_drewN | apply below_drew1) | exact HB.out))) : w.heap.size ≤ gb250)); clear HB; have HB := n0_; have BK250 := n1_; have GW250 := n2_; have GE250 := n3_; clear n0_ n1_ n2_ n3_; clear hb hbox hg; have hcz11_0 : w10.cell? ⟨gb250, 0, none⟩ = some (.string a0_0) := (blk_cell BK250.out 0).trans rfl; have hcz11_1 : w10.cell? ⟨gb250, 1, none⟩ = some (.string a0_1) := (blk_cell BK250.out 1).trans rfl; have hcz11_2 : w10.cell? ⟨gb250, 2, none⟩ = some (.bool false) := (blk_cell BK250.out 2).trans rfl; have hfz11_0 := blk_frozen BK250.out 0; have hfz11_1 := blk_frozen BK250.out 1; have hfz11_2 := blk_frozen BK250.out 2))
    go_ret
    exact ⟨by first | rfl | (simp [errW_none, errW_some] <;> rfl) | (simp [*, errW_none, errW_some] <;> rfl), by repeat (first | (with_reducible first | exact HB.out | apply below_alloc | apply pw_below_drewN | apply below_drew1 | refine below_set ?_ GE250.out) | exact HB.out)⟩
   ·
    rw [if_neg c9] at H
    exact absurd H (by simp)
  ·
   rw [if_neg c8] at H
   exact absurd H (by simp)
def spec_VersionText.f (a0_0 : ByteArray) (a0_1 : ByteArray) : Option (ByteArray) := if a0_1.toList = ([] : List UInt8) then (some a0_0) else (if a0_0.size + 1 ≤ 9223372036854775807 then (if (a0_0 ++ (⟨#[32]⟩ : ByteArray)).size + a0_1.size ≤ 9223372036854775807 then (some ((a0_0 ++ (⟨#[32]⟩ : ByteArray)) ++ a0_1)) else (none)) else (none))
set_option maxHeartbeats 8000000 in
set_option maxRecDepth 100000 in
theorem spec_VersionText.calls (a0_0 : ByteArray) (a0_1 : ByteArray) (r : ByteArray) (w : World) (h : spec_VersionText.f a0_0 a0_1 = some r) :
  Calls Tryd.prog 32 #[.agg #[.string a0_0, .string a0_1]] w fun e w' => e = .returned (.string r) ∧ Below w.heap.size w w' := by
 have hu48 := Tryd.underlying48
 have HB := Aside0.mk (Below.refl w.heap.size w)
 have H : (if a0_1.toList = ([] : List UInt8) then (some a0_0) else (if a0_0.size + 1 ≤ 9223372036854775807 then (if (a0_0 ++ (⟨#[32]⟩ : ByteArray)).size + a0_1.size ≤ 9223372036854775807 then (some ((a0_0 ++ (⟨#[32]⟩ : ByteArray)) ++ a0_1)) else (none)) else (none))) = some r := h
 clear h
 by_cases c2 : a0_1.toList = ([] : List UInt8)
 ·
  rw [if_pos c2] at H
  have c2b0 : (a0_1.toList == ([] : List UInt8)) = true := beq_iff_eq.mpr c2
  have c2b1 : (a0_1.toList != ([] : List UInt8)) = false := bne_eq_false_iff_eq.mpr c2
  clear c2
  obtain rfl := Option.some.inj H
  go_enter Tryd.func32, Tryd.ntmps32
  go_wp2_with (first | ((with_reducible refine gate_dst (N := 1) rfl ?_); refine box_event ?hg (N := 1) ?hd (cs := #[.string a0_0, .string a0_1]) (t := 48) ?hr ?_; (case hd => rfl); (case hg => rfl); (case hr => first | (go_simp; done) | (go_simp; rfl)); intro gb251 hg w3 hbox hb; have n0_ := Aside0.mk (below_step (by repeat (first | (with_reducible first | exact HB.out | apply below_alloc | apply pw_below_drewN | apply below_drew1) | exact HB.out)) hb); have n1_ := Aside0.mk (hbox); have n2_ := Aside0.mk ((by rw [hg]; exact (below_size (by repeat (first | (with_reducible first | exact HB.out | apply below_alloc | apply pw_below_drewN | apply below_drew1) | exact HB.out))) : w.heap.size ≤ gb251)); have n3_ := Aside0.mk ((by rw [hg]; exact (below_size (by repeat (first | (with_reducible first | exact HB.out | apply below_alloc | apply pw_below_drewN | apply below_drew1) | exact HB.out))) : w.heap.size ≤ gb251)); clear HB; have HB := n0_; have BK251 := n1_; have GW251 := n2_; have GE251 := n3_; clear n0_ n1_ n2_ n3_; clear hb hbox hg; have hcz4_0 : w3.cell? ⟨gb251, 0, none⟩ = some (.string a0_0) := (blk_cell BK251.out 0).trans rfl; have hcz4_1 : w3.cell? ⟨gb251, 1, none⟩ = some (.string a0_1) := (blk_cell BK251.out 1).trans rfl; have hfz4_0 := blk_frozen BK251.out 0; have hfz4_1 := blk_frozen BK251.out 1))
  go_ret
  exact ⟨by first | rfl | (simp [errW_none, errW_some] <;> rfl) | (simp [*, errW_none, errW_some] <;> rfl), by repeat (first | (with_reducible first | exact HB.out | apply below_alloc | apply pw_below_drewN | apply below_drew1 | refine below_set ?_ GE251.out) | exact HB.out)⟩
 ·
  rw [if_neg c2] at H
  have c2b0 : (a0_1.toList == ([] : List UInt8)) = false := beq_eq_false_iff_ne.mpr c2
  have c2b1 : (a0_1.toList != ([] : List UInt8)) = true := bne_iff_ne.mpr c2
  by_cases c5 : a0_0.size + 1 ≤ 9223372036854775807
  ·
   rw [if_pos c5] at H
   have c5b0 := eq_true c5
   have c5b1 : decide (a0_0.size + 1 ≤ 9223372036854775807) = true := decide_eq_true c5
   try have c5b2 : (9223372036854775807 < a0_0.size + 1) = False := eq_false (Nat.not_lt.2 c5)
   by_cases c6 : (a0_0 ++ (⟨#[32]⟩ : ByteArray)).size + a0_1.size ≤ 9223372036854775807
   ·
    rw [if_pos c6] at H
    have c6b0 := eq_true c6
    have c6b1 : decide ((a0_0 ++ (⟨#[32]⟩ : ByteArray)).size + a0_1.size ≤ 9223372036854775807) = true := decide_eq_true c6
    try have c6b2 : (9223372036854775807 < (a0_0 ++ (⟨#[32]⟩ : ByteArray)).size + a0_1.size) = False := eq_false (Nat.not_lt.2 c6)
    try have c6b3 : (9223372036854775807 < a0_0.size + 1 + a0_1.size) = False := eq_false (Nat.not_lt.2 (by have h_ := c6; simp only [ByteArray.size_append] at h_; exact h_))
    obtain rfl := Option.some.inj H
    go_enter Tryd.func32, Tryd.ntmps32
    go_wp2_with (first | ((with_reducible refine gate_dst (N := 1) rfl ?_); refine box_event ?hg (N := 1) ?hd (cs := #[.string a0_0, .string a0_1]) (t := 48) ?hr ?_; (case hd => rfl); (case hg => rfl); (case hr => first | (go_simp; done) | (go_simp; rfl)); intro gb251 hg w7 hbox hb; have n0_ := Aside0.mk (below_step (by repeat (first | (with_reducible first | exact HB.out | apply below_alloc | apply pw_below_drewN | apply below_drew1) | exact HB.out)) hb); have n1_ := Aside0.mk (hbox); have n2_ := Aside0.mk ((by rw [hg]; exact (below_size (by repeat (first | (with_reducible first | exact HB.out | apply below_alloc | apply pw_below_drewN | apply below_drew1) | exact HB.out))) : w.heap.size ≤ gb251)); have n3_ := Aside0.mk ((by rw [hg]; exact (below_size (by repeat (first | (with_reducible first | exact HB.out | apply below_alloc | apply pw_below_drewN | apply below_drew1) | exact HB.out))) : w.heap.size ≤ gb251)); clear HB; have HB := n0_; have BK251 := n1_; have GW251 := n2_; have GE251 := n3_; clear n0_ n1_ n2_ n3_; clear hb hbox hg; have hcz8_0 : w7.cell? ⟨gb251, 0, none⟩ = some (.string a0_0) := (blk_cell BK251.out 0).trans rfl; have hcz8_1 : w7.cell? ⟨gb251, 1, none⟩ = some (.string a0_1) := (blk_cell BK251.out 1).trans rfl; have hfz8_0 := blk_frozen BK251.out 0; have hfz8_1 := blk_frozen BK251.out 1))
    go_ret
    exact ⟨by first | rfl | (simp [errW_none, errW_some] <;> rfl) | (simp [*, errW_none, errW_some] <;> rfl), by repeat (first | (with_reducible first | exact HB.out | apply below_alloc | apply pw_below_drewN | apply below_drew1 | refine below_set ?_ GE251.out) | exact HB.out)⟩
   ·
    rw [if_neg c6] at H
    exact absurd H (by simp)
  ·
   rw [if_neg c5] at H
   exact absurd H (by simp)
def spec_RetractText.f (a0_0 : ByteArray) (a0_1 : ByteArray) (a0_2 : ByteArray) : Option (ByteArray) := if a0_0.toList = a0_1.toList then (some a0_0) else (if 1 + a0_0.size ≤ 9223372036854775807 then (if ((⟨#[91]⟩ : ByteArray) ++ a0_0).size + 2 ≤ 9223372036854775807 then (if (((⟨#[91]⟩ : ByteArray) ++ a0_0) ++ (⟨#[44, 32]⟩ : ByteArray)).size + a0_1.size ≤ 9223372036854775807 then (if ((((⟨#[91]⟩ : ByteArray) ++ a0_0) ++ (⟨#[44, 32]⟩ : ByteArray)) ++ a0_1).size + 1 ≤ 9223372036854775807 then (some (((((⟨#[91]⟩ : ByteArray) ++ a0_0) ++ (⟨#[44, 32]⟩ : ByteArray)) ++ a0_1) ++ (⟨#[93]⟩ : ByteArray))) else (none)) else (none)) else (none)) else (none))
set_option maxHeartbeats 8000000 in
set_option maxRecDepth 100000 in
theorem spec_RetractText.calls (a0_0 : ByteArray) (a0_1 : ByteArray) (a0_2 : ByteArray) (r : ByteArray) (w : World) (h : spec_RetractText.f a0_0 a0_1 a0_2 = some r) :
  Calls Tryd.prog 33 #[.agg #[.string a0_0, .string a0_1, .string a0_2]] w fun e w' => e = .returned (.string r) ∧ Below w.heap.size w w' := by
 have hu53 := Tryd.underlying53
 have HB := Aside0.mk (Below.refl w.heap.size w)
 have H : (if a0_0.toList = a0_1.toList then (some a0_0) else (if 1 + a0_0.size ≤ 9223372036854775807 then (if ((⟨#[91]⟩ : ByteArray) ++ a0_0).size + 2 ≤ 9223372036854775807 then (if (((⟨#[91]⟩ : ByteArray) ++ a0_0) ++ (⟨#[44, 32]⟩ : ByteArray)).size + a0_1.size ≤ 9223372036854775807 then (if ((((⟨#[91]⟩ : ByteArray) ++ a0_0) ++ (⟨#[44, 32]⟩ : ByteArray)) ++ a0_1).size + 1 ≤ 9223372036854775807 then (some (((((⟨#[91]⟩ : ByteArray) ++ a0_0) ++ (⟨#[44, 32]⟩ : ByteArray)) ++ a0_1) ++ (⟨#[93]⟩ : ByteArray))) else (none)) else (none)) else (none)) else (none))) = some r := h
 clear h
 by_cases c2 : a0_0.toList = a0_1.toList
 ·
  rw [if_pos c2] at H
  have c2b0 : (a0_0.toList == a0_1.toList) = true := beq_iff_eq.mpr c2
  have c2b1 : (a0_0.toList != a0_1.toList) = false := bne_eq_false_iff_eq.mpr c2
  clear c2
  obtain rfl := Option.some.inj H
  go_enter Tryd.func33, Tryd.ntmps33
  go_wp2_with (first | ((with_reducible refine gate_dst (N := 1) rfl ?_); refine box_event ?hg (N := 1) ?hd (cs := #[.string a0_0, .string a0_1, .string a0_2]) (t := 53) ?hr ?_; (case hd => rfl); (case hg => rfl); (case hr => first | (go_simp; done) | (go_simp; rfl)); intro gb252 hg w3 hbox hb; have n0_ := Aside0.mk (below_step (by repeat (first | (with_reducible first | exact HB.out | apply below_alloc | apply pw_below_drewN | apply below_drew1) | exact HB.out)) hb); have n1_ := Aside0.mk (hbox); have n2_ := Aside0.mk ((by rw [hg]; exact (below_size (by repeat (first | (with_reducible first | exact HB.out | apply below_alloc | apply pw_below_drewN | apply below_drew1) | exact HB.out))) : w.heap.size ≤ gb252)); have n3_ := Aside0.mk ((by rw [hg]; exact (below_size (by repeat (first | (with_reducible first | exact HB.out | apply below_alloc | apply pw_below_drewN | apply below_drew1) | exact HB.out))) : w.heap.size ≤ gb252)); clear HB; have HB := n0_; have BK252 := n1_; have GW252 := n2_; have GE252 := n3_; clear n0_ n1_ n2_ n3_; clear hb hbox hg; have hcz4_0 : w3.cell? ⟨gb252, 0, none⟩ = some (.string a0_0) := (blk_cell BK252.out 0).trans rfl; have hcz4_1 : w3.cell? ⟨gb252, 1, none⟩ = some (.string a0_1) := (blk_cell BK252.out 1).trans rfl; have hcz4_2 : w3.cell? ⟨gb252, 2, none⟩ = some (.string a0_2) := (blk_cell BK252.out 2).trans rfl; have hfz4_0 := blk_frozen BK252.out 0; have hfz4_1 := blk_frozen BK252.out 1; have hfz4_2 := blk_frozen BK252.out 2))
  go_ret
  exact ⟨by first | rfl | (simp [errW_none, errW_some] <;> rfl) | (simp [*, errW_none, errW_some] <;> rfl), by repeat (first | (with_reducible first | exact HB.out | apply below_alloc | apply pw_below_drewN | apply below_drew1 | refine below_set ?_ GE252.out) | exact HB.out)⟩
 ·
  rw [if_neg c2] at H
  have c2b0 : (a0_0.toList == a0_1.toList) = false := beq_eq_false_iff_ne.mpr c2
  have c2b1 : (a0_0.toList != a0_1.toList) = true := bne_iff_ne.mpr c2
  by_cases c5 : 1 + a0_0.size ≤ 9223372036854775807
  ·
   rw [if_pos c5] at H
   have c5b0 := eq_true c5
   have c5b1 : decide (1 + a0_0.size ≤ 9223372036854775807) = true := decide_eq_true c5
   try have c5b2 : (9223372036854775807 < 1 + a0_0.size) = False := eq_false (Nat.not_lt.2 c5)
   by_cases c6 : ((⟨#[91]⟩ : ByteArray) ++ a0_0).size + 2 ≤ 9223372036854775807
   ·
    rw [if_pos c6] at H
    have c6b0 := eq_true c6
    have c6b1 : decide (((⟨#[91]⟩ : ByteArray) ++ a0_0).size + 2 ≤ 9223372036854775807) = true := decide_eq_true c6
    try have c6b2 : (9223372036854775807 < ((⟨#[91]⟩ : ByteArray) ++ a0_0).size + 2) = False := eq_false (Nat.not_lt.2 c6)
    try have c6b3 : (9223372036854775807 < 1 + a0_0.size + 2) = False := eq_false (Nat.not_lt.2 (by have h_ := c6; simp only [ByteArray.size_append] at h_; exact h_))
    by_cases c7 : (((⟨#[91]⟩ : ByteArray) ++ a0_0) ++ (⟨#[44, 32]⟩ : ByteArray)).size + a0_1.size ≤ 9223372036854775807
    ·
     rw [if_pos c7] at H
     have c7b0 := eq_true c7
     have c7b1 : decide ((((⟨#[91]⟩ : ByteArray) ++ a0_0) ++ (⟨#[44, 32]⟩ : ByteArray)).size + a0_1.size ≤ 9223372036854775807) = true := decide_eq_true c7
     try have c7b2 : (9223372036854775807 < (((⟨#[91]⟩ : ByteArray) ++ a0_0) ++ (⟨#[44, 32]⟩ : ByteArray)).size + a0_1.size) = False := eq_false (Nat.not_lt.2 c7)
     try have c7b3 : (9223372036854775807 < 1 + a0_0.size + 2 + a0_1.size) = False := eq_false (Nat.not_lt.2 (by have h_ := c7; simp only [ByteArray.size_append] at h_; exact h_))
     by_cases c8 : ((((⟨#[91]⟩ : ByteArray) ++ a0_0) ++ (⟨#[44, 32]⟩ : ByteArray)) ++ a0_1).size + 1 ≤ 9223372036854775807
     ·
      rw [if_pos c8] at H
      have c8b0 := eq_true c8
      have c8b1 : decide (((((⟨#[91]⟩ : ByteArray) ++ a0_0) ++ (⟨#[44, 32]⟩ : ByteArray)) ++ a0_1).size + 1 ≤ 9223372036854775807) = true := decide_eq_true c8
      try have c8b2 : (9223372036854775807 < ((((⟨#[91]⟩ : ByteArray) ++ a0_0) ++ (⟨#[44, 32]⟩ : ByteArray)) ++ a0_1).size + 1) = False := eq_false (Nat.not_lt.2 c8)
      try have c8b3 : (9223372036854775807 < 1 + a0_0.size + 2 + a0_1.size + 1) = False := eq_false (Nat.not_lt.2 (by have h_ := c8; simp only [ByteArray.size_append] at h_; exact h_))
      obtain rfl := Option.some.inj H
      go_enter Tryd.func33, Tryd.ntmps33
      go_wp2_with (first | ((with_reducible refine gate_dst (N := 1) rfl ?_); refine box_event ?hg (N := 1) ?hd (cs := #[.string a0_0, .string a0_1, .string a0_2]) (t := 53) ?hr ?_; (case hd => rfl); (case hg => rfl); (case hr => first | (go_simp; done) | (go_simp; rfl)); intro gb252 hg w9 hbox hb; have n0_ := Aside0.mk (below_step (by repeat (first | (with_reducible first | exact HB.out | apply below_alloc | apply pw_below_drewN | apply below_drew1) | exact HB.out)) hb); have n1_ := Aside0.mk (hbox); have n2_ := Aside0.mk ((by rw [hg]; exact (below_size (by repeat (first | (with_reducible first | exact HB.out | apply below_alloc | apply pw_below_drewN | apply below_drew1) | exact HB.out))) : w.heap.size ≤ gb252)); have n3_ := Aside0.mk ((by rw [hg]; exact (below_size (by repeat (first | (with_reducible first | exact HB.out | apply below_alloc | apply pw_below_drewN | apply below_drew1) | exact HB.out))) : w.heap.size ≤ gb252)); clear HB; have HB := n0_; have BK252 := n1_; have GW252 := n2_; have GE252 := n3_; clear n0_ n1_ n2_ n3_; clear hb hbox hg; have hcz10_0 : w9.cell? ⟨gb252, 0, none⟩ = some (.string a0_0) := (blk_cell BK252.out 0).trans rfl; have hcz10_1 : w9.cell? ⟨gb252, 1, none⟩ = some (.string a0_1) := (blk_cell BK252.out 1).trans rfl; have hcz10_2 : w9.cell? ⟨gb252, 2, none⟩ = some (.string a0_2) := (blk_cell BK252.out 2).trans rfl; have hfz10_0 := blk_frozen BK252.out 0; have hfz10_1 := blk_frozen BK252.out 1; have hfz10_2 := blk_frozen BK252.out 2))
      go_ret
      exact ⟨by first | rfl | (simp [errW_none, errW_some] <;> rfl) | (simp [*, errW_none, errW_some] <;> rfl), by repeat (first | (with_reducible first | exact HB.out | apply below_alloc | apply pw_below_drewN | apply below_drew1 | refine below_set ?_ GE252.out) | exact HB.out)⟩
     ·
      rw [if_neg c8] at H
      exact absurd H (by simp)
    ·
     rw [if_neg c7] at H
     exact absurd H (by simp)
   ·
    rw [if_neg c6] at H
    exact absurd H (by simp)
  ·
   rw [if_neg c5] at H
   exact absurd H (by simp)
end Go.Proofs.YtlnmchehnhgfnaaDoor.PCont
