/- Functions of the program and their contracts, as the print writes them, cut to what this claim uses. -/
import Derived.Test.YtlnmchehnhgfnaaDoorZPContx0
import Derived.Test.YtlnmchehnhgfnaaDoorZPContx1
namespace Go.Proofs.YtlnmchehnhgfnaaDoor.PCont
open Go.RowKit Go.Proofs.YtlnmchehnhgfnaaDoorW.PrintWords Go.Proofs.YtlnmchehnhgfnaaDoorW.PrintLast Go.Proofs.YtlnmchehnhgfnaaDoorW.PrintMore
attribute [local go_sem] max2_int min2_int max_two min_two max_three min_three max_four min_four max_six   -- for this text's walks alone
set_option linter.unusedVariables false
set_option linter.unusedSimpArgs false
def laws_zzFits1.f (k : Nat) (a0_0 : ByteArray) (a0_1 : ByteArray) (a0_2 : ByteArray) (l0_3 : List (S46)) (l0_4 : List (S48)) (l0_5 : List (S50)) (l0_6 : List (S53)) (l0_7 : List ByteArray) (l0_8 : List ByteArray) : Option (Bool) := if (a0_0.size : Int) > 2147483647 then (some false) else (if (a0_1.size : Int) > 2147483647 then (some false) else (if (a0_2.size : Int) > 2147483647 then (some false) else ((laws_zzFits2.f k l0_3).bind fun t121 => (if t121 = true then ((laws_zzFits4.f k l0_4).bind fun t122 => (if t122 = true then ((laws_zzFits6.f k l0_5).bind fun t123 => (if t123 = true then ((laws_zzFits8.f k l0_6).bind fun t124 => (if t124 = true then ((laws_zzFits10.f k l0_7).bind fun t125 => (if t125 = true then ((laws_zzFits10.f k l0_8).bind fun t126 => (if t126 = true then (some true) else (some false))) else (some false))) else (some false))) else (some false))) else (some false))) else (some false)))))
set_option maxHeartbeats 8000000 in
set_option maxRecDepth 100000 in
theorem laws_zzFits1.calls (k : Nat) (a0_0 : ByteArray) (a0_1 : ByteArray) (a0_2 : ByteArray) (A0_3 : Option Addr) (c0_3 : Nat) (l0_3 : List (S46)) (A0_4 : Option Addr) (c0_4 : Nat) (l0_4 : List (S48)) (A0_5 : Option Addr) (c0_5 : Nat) (l0_5 : List (S50)) (A0_6 : Option Addr) (c0_6 : Nat) (l0_6 : List (S53)) (A0_7 : Option Addr) (c0_7 : Nat) (l0_7 : List ByteArray) (A0_8 : Option Addr) (c0_8 : Nat) (l0_8 : List ByteArray) (r : Bool) (w : World) (hr0_3 : Kd.C k46 w A0_3 l0_3.length l0_3) (hc0_3 : l0_3.length ≤ c0_3) (hr0_4 : Kd.C k48 w A0_4 l0_4.length l0_4) (hc0_4 : l0_4.length ≤ c0_4) (hr0_5 : Kd.C k50 w A0_5 l0_5.length l0_5) (hc0_5 : l0_5.length ≤ c0_5) (hr0_6 : Kd.C k53 w A0_6 l0_6.length l0_6) (hc0_6 : l0_6.length ≤ c0_6) (hr0_7 : Kd.C Kd.string w A0_7 l0_7.length l0_7) (hc0_7 : l0_7.length ≤ c0_7) (hr0_8 : Kd.C Kd.string w A0_8 l0_8.length l0_8) (hc0_8 : l0_8.length ≤ c0_8) (h : laws_zzFits1.f k a0_0 a0_1 a0_2 l0_3 l0_4 l0_5 l0_6 l0_7 l0_8 = some r) :
  Calls Tryd.prog 10 #[.agg #[.string a0_0, .string a0_1, .string a0_2, .slice A0_3 l0_3.length c0_3, .slice A0_4 l0_4.length c0_4, .slice A0_5 l0_5.length c0_5, .slice A0_6 l0_6.length c0_6, .slice A0_7 l0_7.length c0_7, .slice A0_8 l0_8.length c0_8]] w fun e w' => e = .returned (.bool r) ∧ Below w.heap.size w w' := by
 have hu32 := Tryd.underlying32
 have HR0_3 := Aside0.mk hr0_3
 have HC0_3 := Aside0.mk hc0_3
 clear hr0_3 hc0_3
 have HR0_4 := Aside0.mk hr0_4
 have HC0_4 := Aside0.mk hc0_4
 clear hr0_4 hc0_4
 have HR0_5 := Aside0.mk hr0_5
 have HC0_5 := Aside0.mk hc0_5
 clear hr0_5 hc0_5
 have HR0_6 := Aside0.mk hr0_6
 have HC0_6 := Aside0.mk hc0_6
 clear hr0_6 hc0_6
 have HR0_7 := Aside0.mk hr0_7
 have HC0_7 := Aside0.mk hc0_7
 clear hr0_7 hc0_7
 have HR0_8 := Aside0.mk hr0_8
 have HC0_8 := Aside0.mk hc0_8
 clear hr0_8 hc0_8
 have HB := Aside0.mk (Below.refl w.heap.size w)
 have H : (if (a0_0.size : Int) > 2147483647 then (some false) else (if (a0_1.size : Int) > 2147483647 then (some false) else (if (a0_2.size : Int) > 2147483647 then (some false) else ((laws_zzFits2.f k l0_3).bind fun t121 => (if t121 = true then ((laws_zzFits4.f k l0_4).bind fun t122 => (if t122 = true then ((laws_zzFits6.f k l0_5).bind fun t123 => (if t123 = true then ((laws_zzFits8.f k l0_6).bind fun t124 => (if t124 = true then ((laws_zzFits10.f k l0_7).bind fun t125 => (if t125 = true then ((laws_zzFits10.f k l0_8).bind fun t126 => (if t126 = true then (some true) else (some false))) else (some false))) else (some false))) else (some false))) else (some false))) else (some false)))))) = some r := h
 clear h
 by_cases c2 : (a0_0.size : Int) > 2147483647
 ·
  rw [if_pos c2] at H
  have c2b0 : decide (2147483647 < (a0_0.size : Int)) = true := decide_eq_true c2
  have c2b1 : decide (2147483647 < a0_0.size) = true := decide_eq_true (by omega)
  clear c2
  obtain rfl := Option.some.inj H
  go_enter Tryd.func10, Tryd.ntmps10
  go_wp2_with (first | ((with_reducible refine gate_dst (N := 1) rfl ?_); refine box_event ?hg (N := 1) ?hd (cs := #[.string a0_0, .string a0_1, .string a0_2, .slice A0_3 l0_3.length c0_3, .slice A0_4 l0_4.length c0_4, .slice A0_5 l0_5.length c0_5, .slice A0_6 l0_6.length c0_6, .slice A0_7 l0_7.length c0_7, .slice A0_8 l0_8.length c0_8]) (t := 32) ?hr ?_; (case hd => rfl); (case hg => rfl); (case hr => first | (go_simp; done) | (go_simp; rfl)); intro gb120 hg w3 hbox hb; have n0_ := Aside0.mk (below_step (by repeat (first | (with_reducible first | exact HB.out | apply below_alloc | apply pw_below_drewN | apply below_drew1) | exact HB.out)) hb); have n1_ := Aside0.mk (hbox); have n2_ := Aside0.mk ((by rw [hg]; exact (below_size (by repeat (first | (with_reducible first | exact HB.out | apply below_alloc | apply pw_below_drewN | apply below_drew1) | exact HB.out))) : w.heap.size ≤ gb120)); have n3_ := Aside0.mk ((by rw [hg]; exact (below_size (by repeat (first | (with_reducible first | exact HB.out | apply below_alloc | apply pw_below_drewN | apply below_drew1) | exact HB.out))) : w.heap.size ≤ gb120)); clear HB; have HB := n0_; have BK120 := n1_; have GW120 := n2_; have GE120 := n3_; clear n0_ n1_ n2_ n3_; clear hb hbox hg; have hcz4_0 : w3.cell? ⟨gb120, 0, none⟩ = some (.string a0_0) := (blk_cell BK120.out 0).trans rfl; have hcz4_1 : w3.cell? ⟨gb120, 1, none⟩ = some (.string a0_1) := (blk_cell BK120.out 1).trans rfl; have hcz4_2 : w3.cell? ⟨gb120, 2, none⟩ = some (.string a0_2) := (blk_cell BK120.out 2).trans rfl; have hcz4_3 : w3.cell? ⟨gb120, 3, none⟩ = some (.slice A0_3 l0_3.length c0_3) := (blk_cell BK120.out 3).trans rfl; have hcz4_4 : w3.cell? ⟨gb120, 4, none⟩ = some (.slice A0_4 l0_4.length c0_4) := (blk_cell BK120.out 4).trans rfl; have hcz4_5 : w3.cell? ⟨gb120, 5, none⟩ = some (.slice A0_5 l0_5.length c0_5) := (blk_cell BK120.out 5).trans rfl; have hcz4_6 : w3.cell? ⟨gb120, 6, none⟩ = some (.slice A0_6 l0_6.length c0_6) := (blk_cell BK120.out 6).trans rfl; have hcz4_7 : w3.cell? ⟨gb120, 7, none⟩ = some (.slice A0_7 l0_7.length c0_7) := (blk_cell BK120.out 7).trans rfl; have hcz4_8 : w3.cell? ⟨gb120, 8, none⟩ = some (.slice A0_8 l0_8.length c0_8) := (blk_cell BK120.out 8).trans rfl; have hfz4_0 := blk_frozen BK120.out 0; have hfz4_1 := blk_frozen BK120.out 1; have hfz4_2 := blk_frozen BK120.out 2; have hfz4_3 := blk_frozen BK120.out 3; have hfz4_4 := blk_frozen BK120.out 4; have hfz4_5 := blk_frozen BK120.out 5; have hfz4_6 := blk_frozen BK120.out 6; have hfz4_7 := blk_frozen BK120.out 7; have hfz4_8 := blk_frozen BK120.out 8))
  go_ret
  exact ⟨by first | rfl | (simp [errW_none, errW_some] <;> rfl) | (simp [*, errW_none, errW_some] <;> rfl), by repeat (first | (with_reducible first | exact HB.out | apply below_alloc | apply pw_below_drewN | apply below_drew1 | refine below_set ?_ GE120.out) | exact HB.out)⟩
 ·
  rw [if_neg c2] at H
  have c2b0 : decide (2147483647 < (a0_0.size : Int)) = false := decide_eq_false c2
  have c2b1 : decide (2147483647 < a0_0.size) = false := decide_eq_false (by omega)
  clear c2
  by_cases c5 : (a0_1.size : Int) > 2147483647
  ·
   rw [if_pos c5] at H
   have c5b0 : decide (2147483647 < (a0_1.size : Int)) = true := decide_eq_true c5
   have c5b1 : decide (2147483647 < a0_1.size) = true := decide_eq_true (by omega)
   clear c5
   obtain rfl := Option.some.inj H
   go_enter Tryd.func10, Tryd.ntmps10
   go_wp2_with (first | ((with_reducible refine gate_dst (N := 1) rfl ?_); refine box_event ?hg (N := 1) ?hd (cs := #[.string a0_0, .string a0_1, .string a0_2, .slice A0_3 l0_3.length c0_3, .slice A0_4 l0_4.length c0_4, .slice A0_5 l0_5.length c0_5, .slice A0_6 l0_6.length c0_6, .slice A0_7 l0_7.length c0_7, .slice A0_8 l0_8.length c0_8]) (t := 32) ?hr ?_; (case hd => rfl); (case hg => rfl); (case hr => first | (go_simp; done) | (go_simp; rfl)); intro gb120 hg w6 hbox hb; have n0_ := Aside0.mk (below_step (by repeat (first | (with_reducible first | exact HB.out | apply below_alloc | apply pw_below_drewN | apply below_drew1) | exact HB.out)) hb); have n1_ := Aside0.mk (hbox); have n2_ := Aside0.mk ((by rw [hg]; exact (below_size (by repeat (first | (with_reducible first | exact HB.out | apply below_alloc | apply pw_below_drewN | apply below_drew1) | exact HB.out))) : w.heap.size ≤ gb120)); have n3_ := Aside0.mk ((by rw [hg]; exact (below_size (by repeat (first | (with_reducible first | exact HB.out | apply below_alloc | apply pw_below_drewN | apply below_drew1) | exact HB.out))) : w.heap.size ≤ gb120)); clear HB; have HB := n0_; have BK120 := n1_; have GW120 := n2_; have GE120 := n3_; clear n0_ n1_ n2_ n3_; clear hb hbox hg; have hcz7_0 : w6.cell? ⟨gb120, 0, none⟩ = some (.string a0_0) := (blk_cell BK120.out 0).trans rfl; have hcz7_1 : w6.cell? ⟨gb120, 1, none⟩ = some (.string a0_1) := (blk_cell BK120.out 1).trans rfl; have hcz7_2 : w6.cell? ⟨gb120, 2, none⟩ = some (.string a0_2) := (blk_cell BK120.out 2).trans rfl; have hcz7_3 : w6.cell? ⟨gb120, 3, none⟩ = some (.slice A0_3 l0_3.length c0_3) := (blk_cell BK120.out 3).trans rfl; have hcz7_4 : w6.cell? ⟨gb120, 4, none⟩ = some (.slice A0_4 l0_4.length c0_4) := (blk_cell BK120.out 4).trans rfl; have hcz7_5 : w6.cell? ⟨gb120, 5, none⟩ = some (.slice A0_5 l0_5.length c0_5) := (blk_cell BK120.out 5).trans rfl; have hcz7_6 : w6.cell? ⟨gb120, 6, none⟩ = some (.slice A0_6 l0_6.length c0_6) := (blk_cell BK120.out 6).trans rfl; have hcz7_7 : w6.cell? ⟨gb120, 7, none⟩ = some (.slice A0_7 l0_7.length c0_7) := (blk_cell BK120.out 7).trans rfl; have hcz7_8 : w6.cell? ⟨gb120, 8, none⟩ = some (.slice A0_8 l0_8.length c0_8) := (blk_cell BK120.out 8).trans rfl; have hfz7_0 := blk_frozen BK120.out 0; have hfz7_1 := blk_frozen BK120.out 1; have hfz7_2 := blk_frozen BK120.out 2; have hfz7_3 := blk_frozen BK120.out 3; have hfz7_4 := blk_frozen BK120.out 4; have hfz7_5 := blk_frozen BK120.out 5; have hfz7_6 := blk_frozen BK120.out 6; have hfz7_7 := blk_frozen BK120.out 7; have hfz7_8 := blk_frozen BK120.out 8))
   go_ret
   exact ⟨by first | rfl | (simp [errW_none, errW_some] <;> rfl) | (simp [*, errW_none, errW_some] <;> rfl), by repeat (first | (with_reducible first | exact HB.out | apply below_alloc | apply pw_below_drewN | apply below_drew1 | refine below_set ?_ GE120.out) | exact HB.out)⟩
  ·
   rw [if_neg c5] at H
   have c5b0 : decide (2147483647 < (a0_1.size : Int)) = false := decide_eq_false c5
   have c5b1 : decide (2147483647 < a0_1.size) = false := decide_eq_false (by omega)
   clear c5
   by_cases c8 : (a0_2.size : Int) > 2147483647
   ·
    rw [if_pos c8] at H
    have c8b0 : decide (2147483647 < (a0_2.size : Int)) = true := decide_eq_true c8
    have c8b1 : decide (2147483647 < a0_2.size) = true := decide_eq_true (by omega)
    clear c8
    obtain rfl := Option.some.inj H
    go_enter Tryd.func10, Tryd.ntmps10
    go_wp2_with (first | ((with_reducible refine gate_dst (N := 1) rfl ?_); refine box_event ?hg (N := 1) ?hd (cs := #[.string a0_0, .string a0_1, .string a0_2, .slice A0_3 l0_3.length c0_3, .slice A0_4 l0_4.length c0_4, .slice A0_5 l0_5.length c0_5, .slice A0_6 l0_6.length c0_6, .slice A0_7 l0_7.length c0_7, .slice A0_8 l0_8.length c0_8]) (t := 32) ?hr ?_; (case hd => rfl); (case hg => rfl); (case hr => first | (go_simp; done) | (go_simp; rfl)); intro gb120 hg w9 hbox hb; have n0_ := Aside0.mk (below_step (by repeat (first | (with_reducible first | exact HB.out | apply below_alloc | apply pw_below_drewN | apply below_drew1) | exact HB.out)) hb); have n1_ := Aside0.mk (hbox); have n2_ := Aside0.mk ((by rw [hg]; exact (below_size (by repeat (first | (with_reducible first | exact HB.out | apply below_alloc | apply pw_below_drewN | apply below_drew1) | exact HB.out))) : w.heap.size ≤ gb120)); have n3_ := Aside0.mk ((by rw [hg]; exact (below_size (by repeat (first | (with_reducible first | exact HB.out | apply below_alloc | apply pw_below_drewN | apply below_drew1) | exact HB.out))) : w.heap.size ≤ gb120)); clear HB; have HB := n0_; have BK120 := n1_; have GW120 := n2_; have GE120 := n3_; clear n0_ n1_ n2_ n3_; clear hb hbox hg; have hcz10_0 : w9.cell? ⟨gb120, 0, none⟩ = some (.string a0_0) := (blk_cell BK120.out 0).trans rfl; have hcz10_1 : w9.cell? ⟨gb120, 1, none⟩ = some (.string a0_1) := (blk_cell BK120.out 1).trans rfl; have hcz10_2 : w9.cell? ⟨gb120, 2, none⟩ = some (.string a0_2) := (blk_cell BK120.out 2).trans rfl; have hcz10_3 : w9.cell? ⟨gb120, 3, none⟩ = some (.slice A0_3 l0_3.length c0_3) := (blk_cell BK120.out 3).trans rfl; have hcz10_4 : w9.cell? ⟨gb120, 4, none⟩ = some (.slice A0_4 l0_4.length c0_4) := (blk_cell BK120.out 4).trans rfl; have hcz10_5 : w9.cell? ⟨gb120, 5, none⟩ = some (.slice A0_5 l0_5.length c0_5) := (blk_cell BK120.out 5).trans rfl; have hcz10_6 : w9.cell? ⟨gb120, 6, none⟩ = some (.slice A0_6 l0_6.length c0_6) := (blk_cell BK120.out 6).trans rfl; have hcz10_7 : w9.cell? ⟨gb120, 7, none⟩ = some (.slice A0_7 l0_7.length c0_7) := (blk_cell BK120.out 7).trans rfl; have hcz10_8 : w9.cell? ⟨gb120, 8, none⟩ = some (.slice A0_8 l0_8.length c0_8) := (blk_cell BK120.out 8).trans rfl; have hfz10_0 := blk_frozen BK120.out 0; have hfz10_1 := blk_frozen BK120.out 1; have hfz10_2 := blk_frozen BK120.out 2; have hfz10_3 := blk_frozen BK120.out 3; have hfz10_4 := blk_frozen BK120.out 4; have hfz10_5 := blk_frozen BK120.out 5; have hfz10_6 := blk_frozen BK120.out 6; have hfz10_7 := blk_frozen BK120.out 7; have hfz10_8 := blk_frozen BK120.out 8))
    go_ret
    exact ⟨by first | rfl | (simp [errW_none, errW_some] <;> rfl) | (simp [*, errW_none, errW_some] <;> rfl), by repeat (first | (with_reducible first | exact HB.out | apply below_alloc | apply pw_below_drewN | apply below_drew1 | refine below_set ?_ GE120.out) | exact HB.out)⟩
   ·
    rw [if_neg c8] at H
    have c8b0 : decide (2147483647 < (a0_2.size : Int)) = false := decide_eq_false c8
    have c8b1 : decide (2147483647 < a0_2.size) = false := decide_eq_false (by omega)
    clear c8
    replace H := Option.bind_eq_some_iff.mp H
    obtain ⟨t121, A110, H⟩ := H
    replace H : (if t121 = true then ((laws_zzFits4.f k l0_4).bind fun t122 => (if t122 = true then ((laws_zzFits6.f k l0_5).bind fun t123 => (if t123 = true then ((laws_zzFits8.f k l0_6).bind fun t124 => (if t124 = true then ((laws_zzFits10.f k l0_7).bind fun t125 => (if t125 = true then ((laws_zzFits10.f k l0_8).bind fun t126 => (if t126 = true then (some true) else (some false))) else (some false))) else (some false))) else (some false))) else (some false))) else (some false)) = some r := H
    have A11 := Aside0.mk A110
    clear A110
    by_cases c12 : t121 = true
    ·
     subst c12
     have H1 : ((laws_zzFits4.f k l0_4).bind fun t122 => (if t122 = true then ((laws_zzFits6.f k l0_5).bind fun t123 => (if t123 = true then ((laws_zzFits8.f k l0_6).bind fun t124 => (if t124 = true then ((laws_zzFits10.f k l0_7).bind fun t125 => (if t125 = true then ((laws_zzFits10.f k l0_8).bind fun t126 => (if t126 = true then (some true) else (some false))) else (some false))) else (some false))) else (some false))) else (some false))) = some r := by rw [if_pos rfl] at H; exact H
     clear H
     have H := H1
     clear H1
     replace H := Option.bind_eq_some_iff.mp H
     obtain ⟨t122, A130, H⟩ := H
     replace H : (if t122 = true then ((laws_zzFits6.f k l0_5).bind fun t123 => (if t123 = true then ((laws_zzFits8.f k l0_6).bind fun t124 => (if t124 = true then ((laws_zzFits10.f k l0_7).bind fun t125 => (if t125 = true then ((laws_zzFits10.f k l0_8).bind fun t126 => (if t126 = true then (some true) else (some false))) else (some false))) else (some false))) else (some false))) else (some false)) = some r := H
     have A13 := Aside0.mk A130
     clear A130
     by_cases c14 : t122 = true
     ·
      subst c14
      have H1 : ((laws_zzFits6.f k l0_5).bind fun t123 => (if t123 = true then ((laws_zzFits8.f k l0_6).bind fun t124 => (if t124 = true then ((laws_zzFits10.f k l0_7).bind fun t125 => (if t125 = true then ((laws_zzFits10.f k l0_8).bind fun t126 => (if t126 = true then (some true) else (some false))) else (some false))) else (some false))) else (some false))) = some r := by rw [if_pos rfl] at H; exact H
      clear H
      have H := H1
      clear H1
      replace H := Option.bind_eq_some_iff.mp H
      obtain ⟨t123, A150, H⟩ := H
      replace H : (if t123 = true then ((laws_zzFits8.f k l0_6).bind fun t124 => (if t124 = true then ((laws_zzFits10.f k l0_7).bind fun t125 => (if t125 = true then ((laws_zzFits10.f k l0_8).bind fun t126 => (if t126 = true then (some true) else (some false))) else (some false))) else (some false))) else (some false)) = some r := H
      have A15 := Aside0.mk A150
      clear A150
      by_cases c16 : t123 = true
      ·
       subst c16
       have H1 : ((laws_zzFits8.f k l0_6).bind fun t124 => (if t124 = true then ((laws_zzFits10.f k l0_7).bind fun t125 => (if t125 = true then ((laws_zzFits10.f k l0_8).bind fun t126 => (if t126 = true then (some true) else (some false))) else (some false))) else (some false))) = some r := by rw [if_pos rfl] at H; exact H
       clear H
       have H := H1
       clear H1
       replace H := Option.bind_eq_some_iff.mp H
       obtain ⟨t124, A170, H⟩ := H
       replace H : (if t124 = true then ((laws_zzFits10.f k l0_7).bind fun t125 => (if t125 = true then ((laws_zzFits10.f k l0_8).bind fun t126 => (if t126 = true then (some true) else (some false))) else (some false))) else (some false)) = some r := H
       have A17 := Aside0.mk A170
       clear A170
       by_cases c18 : t124 = true
       ·
        subst c18
        have H1 : ((laws_zzFits10.f k l0_7).bind fun t125 => (if t125 = true then ((laws_zzFits10.f k l0_8).bind fun t126 => (if t126 = true then (some true) else (some false))) else (some false))) = some r := by rw [if_pos rfl] at H; exact H
        clear H
        have H := H1
        clear H1
        replace H := Option.bind_eq_some_iff.mp H
        obtain ⟨t125, A190, H⟩ := H
        replace H : (if t125 = true then ((laws_zzFits10.f k l0_8).bind fun t126 => (if t126 = true then (some true) else (some false))) else (some false)) = some r := H
        have A19 := Aside0.mk A190
        clear A190
        by_cases c20 : t125 = true
        ·
         subst c20
         have H1 : ((laws_zzFits10.f k l0_8).bind fun t126 => (if t126 = true then (some true) else (some false))) = some r := by rw [if_pos rfl] at H; exact H
         clear H
         have H := H1
         clear H1
         replace H := Option.bind_eq_some_iff.mp H
         obtain ⟨t126, A210, H⟩ := H
         replace H : (if t126 = true then (some true) else (some false)) = some r := H
         have A21 := Aside0.mk A210
         clear A210
         by_cases c22 : t126 = true
         ·
          subst c22
          have H1 : (some true) = some r := by rw [if_pos rfl] at H; exact H
          clear H
          have H := H1
          clear H1
          obtain rfl := Option.some.inj H
          go_enter Tryd.func10, Tryd.ntmps10
          go_wp2_with (first | ((with_reducible refine gate_dst (N := 1) rfl ?_); refine box_event ?hg (N := 1) ?hd (cs := #[.string a0_0, .string a0_1, .string a0_2, .slice A0_3 l0_3.length c0_3, .slice A0_4 l0_4.length c0_4, .slice A0_5 l0_5.length c0_5, .slice A0_6 l0_6.length c0_6, .slice A0_7 l0_7.length c0_7, .slice A0_8 l0_8.length c0_8]) (t := 32) ?hr ?_; (case hd => rfl); (case hg => rfl); (case hr => first | (go_simp; done) | (go_simp; rfl)); intro gb120 hg w23 hbox hb; have n0_ := Aside0.mk (below_step (by repeat (first | (with_reducible first | exact HB.out | apply below_alloc | apply pw_below_drewN | apply below_drew1) | exact HB.out)) hb); have n1_ := Aside0.mk (hbox); have n2_ := Aside0.mk ((by rw [hg]; exact (below_size (by repeat (first | (with_reducible first | exact HB.out | apply below_alloc | apply pw_below_drewN | apply below_drew1) | exact HB.out))) : w.heap.size ≤ gb120)); have n3_ := Aside0.mk ((by rw [hg]; exact (below_size (by repeat (first | (with_reducible first | exact HB.out | apply below_alloc | apply pw_below_drewN | apply below_drew1) | exact HB.out))) : w.heap.size ≤ gb120)); clear HB; have HB := n0_; have BK120 := n1_; have GW120 := n2_; have GE120 := n3_; clear n0_ n1_ n2_ n3_; clear hb hbox hg; have hcz24_0 : w23.cell? ⟨gb120, 0, none⟩ = some (.string a0_0) := (blk_cell BK120.out 0).trans rfl; have hcz24_1 : w23.cell? ⟨gb120, 1, none⟩ = some (.string a0_1) := (blk_cell BK120.out 1).trans rfl; have hcz24_2 : w23.cell? ⟨gb120, 2, none⟩ = some (.string a0_2) := (blk_cell BK120.out 2).trans rfl; have hcz24_3 : w23.cell? ⟨gb120, 3, none⟩ = some (.slice A0_3 l0_3.length c0_3) := (blk_cell BK120.out 3).trans rfl; have hcz24_4 : w23.cell? ⟨gb120, 4, none⟩ = some (.slice A0_4 l0_4.length c0_4) := (blk_cell BK120.out 4).trans rfl; have hcz24_5 : w23.cell? ⟨gb120, 5, none⟩ = some (.slice A0_5 l0_5.length c0_5) := (blk_cell BK120.out 5).trans rfl; have hcz24_6 : w23.cell? ⟨gb120, 6, none⟩ = some (.slice A0_6 l0_6.length c0_6) := (blk_cell BK120.out 6).trans rfl; have hcz24_7 : w23.cell? ⟨gb120, 7, none⟩ = some (.slice A0_7 l0_7.length c0_7) := (blk_cell BK120.out 7).trans rfl; have hcz24_8 : w23.cell? ⟨gb120, 8, none⟩ = some (.slice A0_8 l0_8.length c0_8) := (blk_cell BK120.out 8).trans rfl; have hfz24_0 := blk_frozen BK120.out 0; have hfz24_1 := blk_frozen BK120.out 1; have hfz24_2 := blk_frozen BK120.out 2; have hfz24_3 := blk_frozen BK120.out 3; have hfz24_4 := blk_frozen BK120.out 4; have hfz24_5 := blk_frozen BK120.out 5; have hfz24_6 := blk_frozen BK120.out 6; have hfz24_7 := blk_frozen BK120.out 7; have hfz24_8 := blk_frozen BK120.out 8) | ((with_reducible refine gate_callee (f := 19) rfl ?_); refine goesL_ (some 17) rfl rfl Tryd.func19 (by kernel_rfl) rfl #[.slice A0_3 l0_3.length c0_3] rfl (by (try simp only [List.map_toArray, List.map_cons, List.map_nil]); first | done | rfl | (simp only [List.length_drop, List.length_take]; rfl)) ?_; (with_reducible refine (laws_zzFits2.calls k _ _ l0_3 true _ ?side1 ?side2 A11.out).mono ?_); (case side1 => repeat (first | exact (Kd.C_below HR0_3.out HB.out) | (with_reducible refine Kd.C_alloc ?_ _) | (with_reducible refine Kd.C_drewN ?_ _) | (with_reducible refine Kd.C_drew ?_))); (case side2 => exact HC0_3.out); rintro e w25 ⟨rfl, hb⟩; refine ⟨_, rfl, ?_⟩; have n0_ := Aside0.mk (blk_below (g := gb120) (o := .cells #[.string a0_0, .string a0_1, .string a0_2, .slice A0_3 l0_3.length c0_3, .slice A0_4 l0_4.length c0_4, .slice A0_5 l0_5.length c0_5, .slice A0_6 l0_6.length c0_6, .slice A0_7 l0_7.length c0_7, .slice A0_8 l0_8.length c0_8] 32 (0, 0)) (by (with_reducible repeat (first | refine blk_drewN ?_ _ | refine blk_drew ?_ | refine blk_alloc ?_ _)); exact BK120.out) hb); have n1_ := Aside0.mk (below_step (by repeat (first | (with_reducible first | exact HB.out | apply below_alloc | apply pw_below_drewN | apply below_drew1 | refine below_set ?_ GE120.out) | exact HB.out)) hb); clear BK120; clear HB; have BK120 := n0_; have HB := n1_; clear n0_ n1_; (try clear hb); (try clear hb2); (try clear hk); (try clear hi); have hcz26_0 : w25.cell? ⟨gb120, 0, none⟩ = some (.string a0_0) := (blk_cell BK120.out 0).trans rfl; have hcz26_1 : w25.cell? ⟨gb120, 1, none⟩ = some (.string a0_1) := (blk_cell BK120.out 1).trans rfl; have hcz26_2 : w25.cell? ⟨gb120, 2, none⟩ = some (.string a0_2) := (blk_cell BK120.out 2).trans rfl; have hcz26_3 : w25.cell? ⟨gb120, 3, none⟩ = some (.slice A0_3 l0_3.length c0_3) := (blk_cell BK120.out 3).trans rfl; have hcz26_4 : w25.cell? ⟨gb120, 4, none⟩ = some (.slice A0_4 l0_4.length c0_4) := (blk_cell BK120.out 4).trans rfl; have hcz26_5 : w25.cell? ⟨gb120, 5, none⟩ = some (.slice A0_5 l0_5.length c0_5) := (blk_cell BK120.out 5).trans rfl; have hcz26_6 : w25.cell? ⟨gb120, 6, none⟩ = some (.slice A0_6 l0_6.length c0_6) := (blk_cell BK120.out 6).trans rfl; have hcz26_7 : w25.cell? ⟨gb120, 7, none⟩ = some (.slice A0_7 l0_7.length c0_7) := (blk_cell BK120.out 7).trans rfl; have hcz26_8 : w25.cell? ⟨gb120, 8, none⟩ = some (.slice A0_8 l0_8.length c0_8) := (blk_cell BK120.out 8).trans rfl; have hfz26_0 := blk_frozen BK120.out 0; have hfz26_1 := blk_frozen BK120.out 1; have hfz26_2 := blk_frozen BK120.out 2; have hfz26_3 := blk_frozen BK120.out 3; have hfz26_4 := blk_frozen BK120.out 4; have hfz26_5 := blk_frozen BK120.out 5; have hfz26_6 := blk_frozen BK120.out 6; have hfz26_7 := blk_frozen BK120.out 7; have hfz26_8 := blk_frozen BK120.out 8) | ((with_reducible refine gate_callee (f := 20) rfl ?_); refine goesL_ (some 21) rfl rfl Tryd.func20 (by kernel_rfl) rfl #[.slice A0_4 l0_4.length c0_4] rfl (by (try simp only [List.map_toArray, List.map_cons, List.map_nil]); first | done | rfl | (simp only [List.length_drop, List.length_take]; rfl)) ?_; (with_reducible refine (laws_zzFits4.calls k _ _ l0_4 true _ ?side1 ?side2 A13.out).mono ?_); (case side1 => repeat (first | exact (Kd.C_below HR0_4.out HB.out) | (with_reducible refine Kd.C_alloc ?_ _) | (with_reducible refine Kd.C_drewN ?_ _) | (with_reducible refine Kd.C_drew ?_))); (case side2 => exact HC0_4.out); rintro e w27 ⟨rfl, hb⟩; refine ⟨_, rfl, ?_⟩; have n0_ := Aside0.mk (blk_below (g := gb120) (o := .cells #[.string a0_0, .string a0_1, .string a0_2, .slice A0_3 l0_3.length c0_3, .slice A0_4 l0_4.length c0_4, .slice A0_5 l0_5.length c0_5, .slice A0_6 l0_6.length c0_6, .slice A0_7 l0_7.length c0_7, .slice A0_8 l0_8.length c0_8] 32 (0, 0)) (by (with_reducible repeat (first | refine blk_drewN ?_ _ | refine blk_drew ?_ | refine blk_alloc ?_ _)); exact BK120.out) hb); have n1_ := Aside0.mk (below_step (by repeat (first | (with_reducible first | exact HB.out | apply below_alloc | apply pw_below_drewN | apply below_drew1 | refine below_set ?_ GE120.out) | exact HB.out)) hb); clear BK120; clear HB; have BK120 := n0_; have HB := n1_; clear n0_ n1_; (try clear hb); (try clear hb2); (try clear hk); (try clear hi); have hcz28_0 : w27.cell? ⟨gb120, 0, none⟩ = some (.string a0_0) := (blk_cell BK120.out 0).trans rfl; have hcz28_1 : w27.cell? ⟨gb120, 1, none⟩ = some (.string a0_1) := (blk_cell BK120.out 1).trans rfl; have hcz28_2 : w27.cell? ⟨gb120, 2, none⟩ = some (.string a0_2) := (blk_cell BK120.out 2).trans rfl; have hcz28_3 : w27.cell? ⟨gb120, 3, none⟩ = some (.slice A0_3 l0_3.length c0_3) := (blk_cell BK120.out 3).trans rfl; have hcz28_4 : w27.cell? ⟨gb120, 4, none⟩ = some (.slice A0_4 l0_4.length c0_4) := (blk_cell BK120.out 4).trans rfl; have hcz28_5 : w27.cell? ⟨gb120, 5, none⟩ = some (.slice A0_5 l0_5.length c0_5) := (blk_cell BK120.out 5).trans rfl; have hcz28_6 : w27.cell? ⟨gb120, 6, none⟩ = some (.slice A0_6 l0_6.length c0_6) := (blk_cell BK120.out 6).trans rfl; have hcz28_7 : w27.cell? ⟨gb120, 7, none⟩ = some (.slice A0_7 l0_7.length c0_7) := (blk_cell BK120.out 7).trans rfl; have hcz28_8 : w27.cell? ⟨gb120, 8, none⟩ = some (.slice A0_8 l0_8.length c0_8) := (blk_cell BK120.out 8).trans rfl; have hfz28_0 := blk_frozen BK120.out 0; have hfz28_1 := blk_frozen BK120.out 1; have hfz28_2 := blk_frozen BK120.out 2; have hfz28_3 := blk_frozen BK120.out 3; have hfz28_4 := blk_frozen BK120.out 4; have hfz28_5 := blk_frozen BK120.out 5; have hfz28_6 := blk_frozen BK120.out 6; have hfz28_7 := blk_frozen BK120.out 7; have hfz28_8 := blk_frozen BK120.out 8) | ((with_reducible refine gate_callee (f := 21) rfl ?_); refine goesL_ (some 25) rfl rfl Tryd.func21 (by kernel_rfl) rfl #[.slice A0_5 l0_5.length c0_5] rfl (by (try simp only [List.map_toArray, List.map_cons, List.map_nil]); first | done | rfl | (simp only [List.length_drop, List.length_take]; rfl)) ?_; (with_reducible refine (laws_zzFits6.calls k _ _ l0_5 true _ ?side1 ?side2 A15.out).mono ?_); (case side1 => repeat (first | exact (Kd.C_below HR0_5.out HB.out) | (with_reducible refine Kd.C_alloc ?_ _) | (with_reducible refine Kd.C_drewN ?_ _) | (with_reducible refine Kd.C_drew ?_))); (case side2 => exact HC0_5.out); rintro e w29 ⟨rfl, hb⟩; refine ⟨_, rfl, ?_⟩; have n0_ := Aside0.mk (blk_below (g := gb120) (o := .cells #[.string a0_0, .string a0_1, .string a0_2, .slice A0_3 l0_3.length c0_3, .slice A0_4 l0_4.length c0_4, .slice A0_5 l0_5.length c0_5, .slice A0_6 l0_6.length c0_6, .slice A0_7 l0_7.length c0_7, .slice A0_8 l0_8.length c0_8] 32 (0, 0)) (by (with_reducible repeat (first | refine blk_drewN ?_ _ | refine blk_drew ?_ | refine blk_alloc ?_ _)); exact BK120.out) hb); have n1_ := Aside0.mk (below_step (by repeat (first | (with_reducible first | exact HB.out | apply below_alloc | apply pw_below_drewN | apply below_drew1 | refine below_set ?_ GE120.out) | exact HB.out)) hb); clear BK120; clear HB; have BK120 := n0_; have HB := n1_; clear n0_ n1_; (try clear hb); (try clear hb2); (try clear hk); (try clear hi); have hcz30_0 : w29.cell? ⟨gb120, 0, none⟩ = some (.string a0_0) := (blk_cell BK120.out 0).trans rfl; have hcz30_1 : w29.cell? ⟨gb120, 1, none⟩ = some (.string a0_1) := (blk_cell BK120.out 1).trans rfl; have hcz30_2 : w29.cell? ⟨gb120, 2, none⟩ = some (.string a0_2) := (blk_cell BK120.out 2).trans rfl; have hcz30_3 : w29.cell? ⟨gb120, 3, none⟩ = some (.slice A0_3 l0_3.length c0_3) := (blk_cell BK120.out 3).trans rfl; have hcz30_4 : w29.cell? ⟨gb120, 4, none⟩ = some (.slice A0_4 l0_4.length c0_4) := (blk_cell BK120.out 4).trans rfl; have hcz30_5 : w29.cell? ⟨gb120, 5, none⟩ = some (.slice A0_5 l0_5.length c0_5) := (blk_cell BK120.out 5).trans rfl; have hcz30_6 : w29.cell? ⟨gb120, 6, none⟩ = some (.slice A0_6 l0_6.length c0_6) := (blk_cell BK120.out 6).trans rfl; have hcz30_7 : w29.cell? ⟨gb120, 7, none⟩ = some (.slice A0_7 l0_7.length c0_7) := (blk_cell BK120.out 7).trans rfl; have hcz30_8 : w29.cell? ⟨gb120, 8, none⟩ = some (.slice A0_8 l0_8.length c0_8) := (blk_cell BK120.out 8).trans rfl; have hfz30_0 := blk_frozen BK120.out 0; have hfz30_1 := blk_frozen BK120.out 1; have hfz30_2 := blk_frozen BK120.out 2; have hfz30_3 := blk_frozen BK120.out 3; have hfz30_4 := blk_frozen BK120.out 4; have hfz30_5 := blk_frozen BK120.out 5; have hfz30_6 := blk_frozen BK120.out 6; have hfz30_7 := blk_frozen BK120.out 7; have hfz30_8 := blk_frozen BK120.out 8) | ((with_reducible refine gate_callee (f := 22) rfl ?_); refine goesL_ (some 29) rfl rfl Tryd.func22 (by kernel_rfl) rfl #[.slice A0_6 l0_6.length c0_6] rfl (by (try simp only [List.map_toArray, List.map_cons, List.map_nil]); first | done | rfl | (simp only [List.length_drop, List.length_take]; rfl)) ?_; (with_reducible refine (laws_zzFits8.calls k _ _ l0_6 true _ ?side1 ?side2 A17.out).mono ?_); (case side1 => repeat (first | exact (Kd.C_below HR0_6.out HB.out) | (with_reducible refine Kd.C_alloc ?_ _) | (with_reducible refine Kd.C_drewN ?_ _) | (with_reducible refine Kd.C_drew ?_))); (case side2 => exact HC0_6.out); rintro e w31 ⟨rfl, hb⟩; refine ⟨_, rfl, ?_⟩; have n0_ := Aside0.mk (blk_below (g := gb120) (o := .cells #[.string a0_0, .string a0_1, .string a0_2, .slice A0_3 l0_3.length c0_3, .slice A0_4 l0_4.length c0_4, .slice A0_5 l0_5.length c0_5, .slice A0_6 l0_6.length c0_6, .slice A0_7 l0_7.length c0_7, .slice A0_8 l0_8.length c0_8] 32 (0, 0)) (by (with_reducible repeat (first | refine blk_drewN ?_ _ | refine blk_drew ?_ | refine blk_alloc ?_ _)); exact BK120.out) hb); have n1_ := Aside0.mk (below_step (by repeat (first | (with_reducible first | exact HB.out | apply below_alloc | apply pw_below_drewN | apply below_drew1 | refine below_set ?_ GE120.out) | exact HB.out)) hb); clear BK120; clear HB; have BK120 := n0_; have HB := n1_; clear n0_ n1_; (try clear hb); (try clear hb2); (try clear hk); (try clear hi); have hcz32_0 : w31.cell? ⟨gb120, 0, none⟩ = some (.string a0_0) := (blk_cell BK120.out 0).trans rfl; have hcz32_1 : w31.cell? ⟨gb120, 1, none⟩ = some (.string a0_1) := (blk_cell BK120.out 1).trans rfl; have hcz32_2 : w31.cell? ⟨gb120, 2, none⟩ = some (.string a0_2) := (blk_cell BK120.out 2).trans rfl; have hcz32_3 : w31.cell? ⟨gb120, 3, none⟩ = some (.slice A0_3 l0_3.length c0_3) := (blk_cell BK120.out 3).trans rfl; have hcz32_4 : w31.cell? ⟨gb120, 4, none⟩ = some (.slice A0_4 l0_4.length c0_4) := (blk_cell BK120.out 4).trans rfl; have hcz32_5 : w31.cell? ⟨gb120, 5, none⟩ = some (.slice A0_5 l0_5.length c0_5) := (blk_cell BK120.out 5).trans rfl; have hcz32_6 : w31.cell? ⟨gb120, 6, none⟩ = some (.slice A0_6 l0_6.length c0_6) := (blk_cell BK120.out 6).trans rfl; have hcz32_7 : w31.cell? ⟨gb120, 7, none⟩ = some (.slice A0_7 l0_7.length c0_7) := (blk_cell BK120.out 7).trans rfl; have hcz32_8 : w31.cell? ⟨gb120, 8, none⟩ = some (.slice A0_8 l0_8.length c0_8) := (blk_cell BK120.out 8).trans rfl; have hfz32_0 := blk_frozen BK120.out 0; have hfz32_1 := blk_frozen BK120.out 1; have hfz32_2 := blk_frozen BK120.out 2; have hfz32_3 := blk_frozen BK120.out 3; have hfz32_4 := blk_frozen BK120.out 4; have hfz32_5 := blk_frozen BK120.out 5; have hfz32_6 := blk_frozen BK120.out 6; have hfz32_7 := blk_frozen BK120.out 7; have hfz32_8 := blk_frozen BK120.out 8) | ((with_reducible refine gate_callee (f := 23) rfl ?_); refine goesL_ (some 33) rfl rfl Tryd.func23 (by kernel_rfl) rfl #[.slice A0_7 l0_7.length c0_7] rfl (by (try simp only [List.map_toArray, List.map_cons, List.map_nil]); first | done | rfl | (simp only [List.length_drop, List.length_take]; rfl)) ?_; (with_reducible refine (laws_zzFits10.calls k _ _ l0_7 true _ ?side1 ?side2 A19.out).mono ?_); (case side1 => repeat (first | exact (Kd.C_below HR0_7.out HB.out) | (with_reducible refine Kd.C_alloc ?_ _) | (with_reducible refine Kd.C_drewN ?_ _) | (with_reducible refine Kd.C_drew ?_))); (case side2 => exact HC0_7.out); rintro e w' ⟨rfl, ⟨nd, rfl⟩⟩; refine ⟨_, rfl, ?_⟩) | ((with_reducible refine gate_callee (f := 23) rfl ?_); refine goesL_ (some 37) rfl rfl Tryd.func23 (by kernel_rfl) rfl #[.slice A0_8 l0_8.length c0_8] rfl (by (try simp only [List.map_toArray, List.map_cons, List.map_nil]); first | done | rfl | (simp only [List.length_drop, List.length_take]; rfl)) ?_; (with_reducible refine (laws_zzFits10.calls k _ _ l0_8 true _ ?side1 ?side2 A21.out).mono ?_); (case side1 => repeat (first | exact (Kd.C_below HR0_8.out (by repeat (first | (with_reducible first | exact HB.out | apply below_alloc | apply pw_below_drewN | apply below_drew1 | refine below_set ?_ GE120.out) | exact HB.out))) | (with_reducible refine Kd.C_alloc ?_ _) | (with_reducible refine Kd.C_drewN ?_ _) | (with_reducible refine Kd.C_drew ?_))); (case side2 => exact HC0_8.out); rintro e w' ⟨rfl, ⟨nd, rfl⟩⟩; refine ⟨_, rfl, ?_⟩))
          go_ret
          exact ⟨by first | rfl | (simp [errW_none, errW_some] <;> rfl) | (simp [*, errW_none, errW_some] <;> rfl), by repeat (first | (with_reducible first | exact HB.out | apply below_alloc | apply pw_below_drewN | apply below_drew1 | refine below_set ?_ GE120.out) | exact HB.out)⟩
         ·
          replace c22 := Bool.eq_false_iff.mpr c22
          subst c22
          have H1 : (some false) = some r := by rw [if_neg (show ¬ (false = true) by decide)] at H; exact H
          clear H
          have H := H1
          clear H1
          obtain rfl := Option.some.inj H
          go_enter Tryd.func10, Tryd.ntmps10
          go_wp2_with (first | ((with_reducible refine gate_dst (N := 1) rfl ?_); refine box_event ?hg (N := 1) ?hd (cs := #[.string a0_0, .string a0_1, .string a0_2, .slice A0_3 l0_3.length c0_3, .slice A0_4 l0_4.length c0_4, .slice A0_5 l0_5.length c0_5, .slice A0_6 l0_6.length c0_6, .slice A0_7 l0_7.length c0_7, .slice A0_8 l0_8.length c0_8]) (t := 32) ?hr ?_; (case hd => rfl); (case hg => rfl); (case hr => first | (go_simp; done) | (go_simp; rfl)); intro gb120 hg w33 hbox hb; have n0_ := Aside0.mk (below_step (by repeat (first | (with_reducible first | exact HB.out | apply below_alloc | apply pw_below_drewN | apply below_drew1) | exact HB.out)) hb); have n1_ := Aside0.mk (hbox); have n2_ := Aside0.mk ((by rw [hg]; exact (below_size (by repeat (first | (with_reducible first | exact HB.out | apply below_alloc | apply pw_below_drewN | apply below_drew1) | exact HB.out))) : w.heap.size ≤ gb120)); have n3_ := Aside0.mk ((by rw [hg]; exact (below_size (by repeat (first | (with_reducible first | exact HB.out | apply below_alloc | apply pw_below_drewN | apply below_drew1) | exact HB.out))) : w.heap.size ≤ gb120)); clear HB; have HB := n0_; have BK120 := n1_; have GW120 := n2_; have GE120 := n3_; clear n0_ n1_ n2_ n3_; clear hb hbox hg; have hcz34_0 : w33.cell? ⟨gb120, 0, none⟩ = some (.string a0_0) := (blk_cell BK120.out 0).trans rfl; have hcz34_1 : w33.cell? ⟨gb120, 1, none⟩ = some (.string a0_1) := (blk_cell BK120.out 1).trans rfl; have hcz34_2 : w33.cell? ⟨gb120, 2, none⟩ = some (.string a0_2) := (blk_cell BK120.out 2).trans rfl; have hcz34_3 : w33.cell? ⟨gb120, 3, none⟩ = some (.slice A0_3 l0_3.length c0_3) := (blk_cell BK120.out 3).trans rfl; have hcz34_4 : w33.cell? ⟨gb120, 4, none⟩ = some (.slice A0_4 l0_4.length c0_4) := (blk_cell BK120.out 4).trans rfl; have hcz34_5 : w33.cell? ⟨gb120, 5, none⟩ = some (.slice A0_5 l0_5.length c0_5) := (blk_cell BK120.out 5).trans rfl; have hcz34_6 : w33.cell? ⟨gb120, 6, none⟩ = some (.slice A0_6 l0_6.length c0_6) := (blk_cell BK120.out 6).trans rfl; have hcz34_7 : w33.cell? ⟨gb120, 7, none⟩ = some (.slice A0_7 l0_7.length c0_7) := (blk_cell BK120.out 7).trans rfl; have hcz34_8 : w33.cell? ⟨gb120, 8, none⟩ = some (.slice A0_8 l0_8.length c0_8) := (blk_cell BK120.out 8).trans rfl; have hfz34_0 := blk_frozen BK120.out 0; have hfz34_1 := blk_frozen BK120.out 1; have hfz34_2 := blk_frozen BK120.out 2; have hfz34_3 := blk_frozen BK120.out 3; have hfz34_4 := blk_frozen BK120.out 4; have hfz34_5 := blk_frozen BK120.out 5; have hfz34_6 := blk_frozen BK120.out 6; have hfz34_7 := blk_frozen BK120.out 7; have hfz34_8 := blk_frozen BK120.out 8) | ((with_reducible refine gate_callee (f := 19) rfl ?_); refine goesL_ (some 17) rfl rfl Tryd.func19 (by kernel_rfl) rfl #[.slice A0_3 l0_3.length c0_3] rfl (by (try simp only [List.map_toArray, List.map_cons, List.map_nil]); first | done | rfl | (simp only [List.length_drop, List.length_take]; rfl)) ?_; (with_reducible refine (laws_zzFits2.calls k _ _ l0_3 true _ ?side1 ?side2 A11.out).mono ?_); (case side1 => repeat (first | exact (Kd.C_below HR0_3.out HB.out) | (with_reducible refine Kd.C_alloc ?_ _) | (with_reducible refine Kd.C_drewN ?_ _) | (with_reducible refine Kd.C_drew ?_))); (case side2 => exact HC0_3.out); rintro e w35 ⟨rfl, hb⟩; refine ⟨_, rfl, ?_⟩; have n0_ := Aside0.mk (blk_below (g := gb120) (o := .cells #[.string a0_0, .string a0_1, .string a0_2, .slice A0_3 l0_3.length c0_3, .slice A0_4 l0_4.length c0_4, .slice A0_5 l0_5.length c0_5, .slice A0_6 l0_6.length c0_6, .slice A0_7 l0_7.length c0_7, .slice A0_8 l0_8.length c0_8] 32 (0, 0)) (by (with_reducible repeat (first | refine blk_drewN ?_ _ | refine blk_drew ?_ | refine blk_alloc ?_ _)); exact BK120.out) hb); have n1_ := Aside0.mk (below_step (by repeat (first | (with_reducible first | exact HB.out | apply below_alloc | apply pw_below_drewN | apply below_drew1 | refine below_set ?_ GE120.out) | exact HB.out)) hb); clear BK120; clear HB; have BK120 := n0_; have HB := n1_; clear n0_ n1_; (try clear hb); (try clear hb2); (try clear hk); (try clear hi); have hcz36_0 : w35.cell? ⟨gb120, 0, none⟩ = some (.string a0_0) := (blk_cell BK120.out 0).trans rfl; have hcz36_1 : w35.cell? ⟨gb120, 1, none⟩ = some (.string a0_1) := (blk_cell BK120.out 1).trans rfl; have hcz36_2 : w35.cell? ⟨gb120, 2, none⟩ = some (.string a0_2) := (blk_cell BK120.out 2).trans rfl; have hcz36_3 : w35.cell? ⟨gb120, 3, none⟩ = some (.slice A0_3 l0_3.length c0_3) := (blk_cell BK120.out 3).trans rfl; have hcz36_4 : w35.cell? ⟨gb120, 4, none⟩ = some (.slice A0_4 l0_4.length c0_4) := (blk_cell BK120.out 4).trans rfl; have hcz36_5 : w35.cell? ⟨gb120, 5, none⟩ = some (.slice A0_5 l0_5.length c0_5) := (blk_cell BK120.out 5).trans rfl; have hcz36_6 : w35.cell? ⟨gb120, 6, none⟩ = some (.slice A0_6 l0_6.length c0_6) := (blk_cell BK120.out 6).trans rfl; have hcz36_7 : w35.cell? ⟨gb120, 7, none⟩ = some (.slice A0_7 l0_7.length c0_7) := (blk_cell BK120.out 7).trans rfl; have hcz36_8 : w35.cell? ⟨gb120, 8, none⟩ = some (.slice A0_8 l0_8.length c0_8) := (blk_cell BK120.out 8).trans rfl; have hfz36_0 := blk_frozen BK120.out 0; have hfz36_1 := blk_frozen BK120.out 1; have hfz36_2 := blk_frozen BK120.out 2; have hfz36_3 := blk_frozen BK120.out 3; have hfz36_4 := blk_frozen BK120.out 4; have hfz36_5 := blk_frozen BK120.out 5; have hfz36_6 := blk_frozen BK120.out 6; have hfz36_7 := blk_frozen BK120.out 7; have hfz36_8 := blk_frozen BK120.out 8) | ((with_reducible refine gate_callee (f := 20) rfl ?_); refine goesL_ (some 21) rfl rfl Tryd.func20 (by kernel_rfl) rfl #[.slice A0_4 l0_4.length c0_4] rfl (by (try simp only [List.map_toArray, List.map_cons, List.map_nil]); first | done | rfl | (simp only [List.length_drop, List.length_take]; rfl)) ?_; (with_reducible refine (laws_zzFits4.calls k _ _ l0_4 true _ ?side1 ?side2 A13.out).mono ?_); (case side1 => repeat (first | exact (Kd.C_below HR0_4.out HB.out) | (with_reducible refine Kd.C_alloc ?_ _) | (with_reducible refine Kd.C_drewN ?_ _) | (with_reducible refine Kd.C_drew ?_))); (case side2 => exact HC0_4.out); rintro e w37 ⟨rfl, hb⟩; refine ⟨_, rfl, ?_⟩; have n0_ := Aside0.mk (blk_below (g := gb120) (o := .cells #[.string a0_0, .string a0_1, .string a0_2, .slice A0_3 l0_3.length c0_3, .slice A0_4 l0_4.length c0_4, .slice A0_5 l0_5.length c0_5, .slice A0_6 l0_6.length c0_6, .slice A0_7 l0_7.length c0_7, .slice A0_8 l0_8.length c0_8] 32 (0, 0)) (by (with_reducible repeat (first | refine blk_drewN ?_ _ | refine blk_drew ?_ | refine blk_alloc ?_ _)); exact BK120.out) hb); have n1_ := Aside0.mk (below_step (by repeat (first | (with_reducible first | exact HB.out | apply below_alloc | apply pw_below_drewN | apply below_drew1 | refine below_set ?_ GE120.out) | exact HB.out)) hb); clear BK120; clear HB; have BK120 := n0_; have HB := n1_; clear n0_ n1_; (try clear hb); (try clear hb2); (try clear hk); (try clear hi); have hcz38_0 : w37.cell? ⟨gb120, 0, none⟩ = some (.string a0_0) := (blk_cell BK120.out 0).trans rfl; have hcz38_1 : w37.cell? ⟨gb120, 1, none⟩ = some (.string a0_1) := (blk_cell BK120.out 1).trans rfl; have hcz38_2 : w37.cell? ⟨gb120, 2, none⟩ = some (.string a0_2) := (blk_cell BK120.out 2).trans rfl; have hcz38_3 : w37.cell? ⟨gb120, 3, none⟩ = some (.slice A0_3 l0_3.length c0_3) := (blk_cell BK120.out 3).trans rfl; have hcz38_4 : w37.cell? ⟨gb120, 4, none⟩ = some (.slice A0_4 l0_4.length c0_4) := (blk_cell BK120.out 4).trans rfl; have hcz38_5 : w37.cell? ⟨gb120, 5, none⟩ = some (.slice A0_5 l0_5.length c0_5) := (blk_cell BK120.out 5).trans rfl; have hcz38_6 : w37.cell? ⟨gb120, 6, none⟩ = some (.slice A0_6 l0_6.length c0_6) := (blk_cell BK120.out 6).trans rfl; have hcz38_7 : w37.cell? ⟨gb120, 7, none⟩ = some (.slice A0_7 l0_7.length c0_7) := (blk_cell BK120.out 7).trans rfl; have hcz38_8 : w37.cell? ⟨gb120, 8, none⟩ = some (.slice A0_8 l0_8.length c0_8) := (blk_cell BK120.out 8).trans rfl; have hfz38_0 := blk_frozen BK120.out 0; have hfz38_1 := blk_frozen BK120.out 1; have hfz38_2 := blk_frozen BK120.out 2; have hfz38_3 := blk_frozen BK120.out 3; have hfz38_4 := blk_frozen BK120.out 4; have hfz38_5 := blk_frozen BK120.out 5; have hfz38_6 := blk_frozen BK120.out 6; have hfz38_7 := blk_frozen BK120.out 7; have hfz38_8 := blk_frozen BK120.out 8) | ((with_reducible refine gate_callee (f := 21) rfl ?_); refine goesL_ (some 25) rfl rfl Tryd.func21 (by kernel_rfl) rfl #[.slice A0_5 l0_5.length c0_5] rfl (by (try simp only [List.map_toArray, List.map_cons, List.map_nil]); first | done | rfl | (simp only [List.length_drop, List.length_take]; rfl)) ?_; (with_reducible refine (laws_zzFits6.calls k _ _ l0_5 true _ ?side1 ?side2 A15.out).mono ?_); (case side1 => repeat (first | exact (Kd.C_below HR0_5.out HB.out) | (with_reducible refine Kd.C_alloc ?_ _) | (with_reducible refine Kd.C_drewN ?_ _) | (with_reducible refine Kd.C_drew ?_))); (case side2 => exact HC0_5.out); rintro e w39 ⟨rfl, hb⟩; refine ⟨_, rfl, ?_⟩; have n0_ := Aside0.mk (blk_below (g := gb120) (o := .cells #[.string a0_0, .string a0_1, .string a0_2, .slice A0_3 l0_3.length c0_3, .slice A0_4 l0_4.length c0_4, .slice A0_5 l0_5.length c0_5, .slice A0_6 l0_6.length c0_6, .slice A0_7 l0_7.length c0_7, .slice A0_8 l0_8.length c0_8] 32 (0, 0)) (by (with_reducible repeat (first | refine blk_drewN ?_ _ | refine blk_drew ?_ | refine blk_alloc ?_ _)); exact BK120.out) hb); have n1_ := Aside0.mk (below_step (by repeat (first | (with_reducible first | exact HB.out | apply below_alloc | apply pw_below_drewN | apply below_drew1 | refine below_set ?_ GE120.out) | exact HB.out)) hb); clear BK120; clear HB; have BK120 := n0_; have HB := n1_; clear n0_ n1_; (try clear hb); (try clear hb2); (try clear hk); (try clear hi); have hcz40_0 : w39.cell? ⟨gb120, 0, none⟩ = some (.string a0_0) := (blk_cell BK120.out 0).trans rfl; have hcz40_1 : w39.cell? ⟨gb120, 1, none⟩ = some (.string a0_1) := (blk_cell BK120.out 1).trans rfl; have hcz40_2 : w39.cell? ⟨gb120, 2, none⟩ = some (.string a0_2) := (blk_cell BK120.out 2).trans rfl; have hcz40_3 : w39.cell? ⟨gb120, 3, none⟩ = some (.slice A0_3 l0_3.length c0_3) := (blk_cell BK120.out 3).trans rfl; have hcz40_4 : w39.cell? ⟨gb120, 4, none⟩ = some (.slice A0_4 l0_4.length c0_4) := (blk_cell BK120.out 4).trans rfl; have hcz40_5 : w39.cell? ⟨gb120, 5, none⟩ = some (.slice A0_5 l0_5.length c0_5) := (blk_cell BK120.out 5).trans rfl; have hcz40_6 : w39.cell? ⟨gb120, 6, none⟩ = some (.slice A0_6 l0_6.length c0_6) := (blk_cell BK120.out 6).trans rfl; have hcz40_7 : w39.cell? ⟨gb120, 7, none⟩ = some (.slice A0_7 l0_7.length c0_7) := (blk_cell BK120.out 7).trans rfl; have hcz40_8 : w39.cell? ⟨gb120, 8, none⟩ = some (.slice A0_8 l0_8.length c0_8) := (blk_cell BK120.out 8).trans rfl; have hfz40_0 := blk_frozen BK120.out 0; have hfz40_1 := blk_frozen BK120.out 1; have hfz40_2 := blk_frozen BK120.out 2; have hfz40_3 := blk_frozen BK120.out 3; have hfz40_4 := blk_frozen BK120.out 4; have hfz40_5 := blk_frozen BK120.out 5; have hfz40_6 := blk_frozen BK120.out 6; have hfz40_7 := blk_frozen BK120.out 7; have hfz40_8 := blk_frozen BK120.out 8) | ((with_reducible refine gate_callee (f := 22) rfl ?_); refine goesL_ (some 29) rfl rfl Tryd.func22 (by kernel_rfl) rfl #[.slice A0_6 l0_6.length c0_6] rfl (by (try simp only [List.map_toArray, List.map_cons, List.map_nil]); first | done | rfl | (simp only [List.length_drop, List.length_take]; rfl)) ?_; (with_reducible refine (laws_zzFits8.calls k _ _ l0_6 true _ ?side1 ?side2 A17.out).mono ?_); (case side1 => repeat (first | exact (Kd.C_below HR0_6.out HB.out) | (with_reducible refine Kd.C_alloc ?_ _) | (with_reducible refine Kd.C_drewN ?_ _) | (with_reducible refine Kd.C_drew ?_))); (case side2 => exact HC0_6.out); rintro e w41 ⟨rfl, hb⟩; refine ⟨_, rfl, ?_⟩; have n0_ := Aside0.mk (blk_below (g := gb120) (o := .cells #[.string a0_0, .string a0_1, .string a0_2, .slice A0_3 l0_3.length c0_3, .slice A0_4 l0_4.length c0_4, .slice A0_5 l0_5.length c0_5, .slice A0_6 l0_6.length c0_6, .slice A0_7 l0_7.length c0_7, .slice A0_8 l0_8.length c0_8] 32 (0, 0)) (by (with_reducible repeat (first | refine blk_drewN ?_ _ | refine blk_drew ?_ | refine blk_alloc ?_ _)); exact BK120.out) hb); have n1_ := Aside0.mk (below_step (by repeat (first | (with_reducible first | exact HB.out | apply below_alloc | apply pw_below_drewN | apply below_drew1 | refine below_set ?_ GE120.out) | exact HB.out)) hb); clear BK120; clear HB; have BK120 := n0_; have HB := n1_; clear n0_ n1_; (try clear hb); (try clear hb2); (try clear hk); (try clear hi); have hcz42_0 : w41.cell? ⟨gb120, 0, none⟩ = some (.string a0_0) := (blk_cell BK120.out 0).trans rfl; have hcz42_1 : w41.cell? ⟨gb120, 1, none⟩ = some (.string a0_1) := (blk_cell BK120.out 1).trans rfl; have hcz42_2 : w41.cell? ⟨gb120, 2, none⟩ = some (.string a0_2) := (blk_cell BK120.out 2).trans rfl; have hcz42_3 : w41.cell? ⟨gb120, 3, none⟩ = some (.slice A0_3 l0_3.length c0_3) := (blk_cell BK120.out 3).trans rfl; have hcz42_4 : w41.cell? ⟨gb120, 4, none⟩ = some (.slice A0_4 l0_4.length c0_4) := (blk_cell BK120.out 4).trans rfl; have hcz42_5 : w41.cell? ⟨gb120, 5, none⟩ = some (.slice A0_5 l0_5.length c0_5) := (blk_cell BK120.out 5).trans rfl; have hcz42_6 : w41.cell? ⟨gb120, 6, none⟩ = some (.slice A0_6 l0_6.length c0_6) := (blk_cell BK120.out 6).trans rfl; have hcz42_7 : w41.cell? ⟨gb120, 7, none⟩ = some (.slice A0_7 l0_7.length c0_7) := (blk_cell BK120.out 7).trans rfl; have hcz42_8 : w41.cell? ⟨gb120, 8, none⟩ = some (.slice A0_8 l0_8.length c0_8) := (blk_cell BK120.out 8).trans rfl; have hfz42_0 := blk_frozen BK120.out 0; have hfz42_1 := blk_frozen BK120.out 1; have hfz42_2 := blk_frozen BK120.out 2; have hfz42_3 := blk_frozen BK120.out 3; have hfz42_4 := blk_frozen BK120.out 4; have hfz42_5 := blk_frozen BK120.out 5; have hfz42_6 := blk_frozen BK120.out 6; have hfz42_7 := blk_frozen BK120.out 7; have hfz42_8 := blk_frozen BK120.out 8) | ((with_reducible refine gate_callee (f := 23) rfl ?_); refine goesL_ (some 33) rfl rfl Tryd.func23 (by kernel_rfl) rfl #[.slice A0_7 l0_7.length c0_7] rfl (by (try simp only [List.map_toArray, List.map_cons, List.map_nil]); first | done | rfl | (simp only [List.length_drop, List.length_take]; rfl)) ?_; (with_reducible refine (laws_zzFits10.calls k _ _ l0_7 true _ ?side1 ?side2 A19.out).mono ?_); (case side1 => repeat (first | exact (Kd.C_below HR0_7.out HB.out) | (with_reducible refine Kd.C_alloc ?_ _) | (with_reducible refine Kd.C_drewN ?_ _) | (with_reducible refine Kd.C_drew ?_))); (case side2 => exact HC0_7.out); rintro e w' ⟨rfl, ⟨nd, rfl⟩⟩; refine ⟨_, rfl, ?_⟩) | ((with_reducible refine gate_callee (f := 23) rfl ?_); refine goesL_ (some 37) rfl rfl Tryd.func23 (by kernel_rfl) rfl #[.slice A0_8 l0_8.length c0_8] rfl (by (try simp only [List.map_toArray, List.map_cons, List.map_nil]); first | done | rfl | (simp only [List.length_drop, List.length_take]; rfl)) ?_; (with_reducible refine (laws_zzFits10.calls k _ _ l0_8 false _ ?side1 ?side2 A21.out).mono ?_); (case side1 => repeat (first | exact (Kd.C_below HR0_8.out (by repeat (first | (with_reducible first | exact HB.out | apply below_alloc | apply pw_below_drewN | apply below_drew1 | refine below_set ?_ GE120.out) | exact HB.out))) | (with_reducible refine Kd.C_alloc ?_ _) | (with_reducible refine Kd.C_drewN ?_ _) | (with_reducible refine Kd.C_drew ?_))); (case side2 => exact HC0_8.out); rintro e w' ⟨rfl, ⟨nd, rfl⟩⟩; refine ⟨_, rfl, ?_⟩))
          go_ret
          exact ⟨by first | rfl | (simp [errW_none, errW_some] <;> rfl) | (simp [*, errW_none, errW_some] <;> rfl), by repeat (first | (with_reducible first | exact HB.out | apply below_alloc | apply pw_below_drewN | apply below_drew1 | refine below_set ?_ GE120.out) | exact HB.out)⟩
        ·
         replace c20 := Bool.eq_false_iff.mpr c20
         subst c20
         have H1 : (some false) = some r := by rw [if_neg (show ¬ (false = true) by decide)] at H; exact H
         clear H
         have H := H1
         clear H1
         obtain rfl := Option.some.inj H
         go_enter Tryd.func10, Tryd.ntmps10
         go_wp2_with (first | ((with_reducible refine gate_dst (N := 1) rfl ?_); refine box_event ?hg (N := 1) ?hd (cs := #[.string a0_0, .string a0_1, .string a0_2, .slice A0_3 l0_3.length c0_3, .slice A0_4 l0_4.length c0_4, .slice A0_5 l0_5.length c0_5, .slice A0_6 l0_6.length c0_6, .slice A0_7 l0_7.length c0_7, .slice A0_8 l0_8.length c0_8]) (t := 32) ?hr ?_; (case hd => rfl); (case hg => rfl); (case hr => first | (go_simp; done) | (go_simp; rfl)); intro gb120 hg w43 hbox hb; have n0_ := Aside0.mk (below_step (by repeat (first | (with_reducible first | exact HB.out | apply below_alloc | apply pw_below_drewN | apply below_drew1) | exact HB.out)) hb); have n1_ := Aside0.mk (hbox); have n2_ := Aside0.mk ((by rw [hg]; exact (below_size (by repeat (first | (with_reducible first | exact HB.out | apply below_alloc | apply pw_below_drewN | apply below_drew1) | exact HB.out))) : w.heap.size ≤ gb120)); have n3_ := Aside0.mk ((by rw [hg]; exact (below_size (by repeat (first | (with_reducible first | exact HB.out | apply below_alloc | apply pw_below_drewN | apply below_drew1) | exact HB.out))) : w.heap.size ≤ gb120)); clear HB; have HB := n0_; have BK120 := n1_; have GW120 := n2_; have GE120 := n3_; clear n0_ n1_ n2_ n3_; clear hb hbox hg; have hcz44_0 : w43.cell? ⟨gb120, 0, none⟩ = some (.string a0_0) := (blk_cell BK120.out 0).trans rfl; have hcz44_1 : w43.cell? ⟨gb120, 1, none⟩ = some (.string a0_1) := (blk_cell BK120.out 1).trans rfl; have hcz44_2 : w43.cell? ⟨gb120, 2, none⟩ = some (.string a0_2) := (blk_cell BK120.out 2).trans rfl; have hcz44_3 : w43.cell? ⟨gb120, 3, none⟩ = some (.slice A0_3 l0_3.length c0_3) := (blk_cell BK120.out 3).trans rfl; have hcz44_4 : w43.cell? ⟨gb120, 4, none⟩ = some (.slice A0_4 l0_4.length c0_4) := (blk_cell BK120.out 4).trans rfl; have hcz44_5 : w43.cell? ⟨gb120, 5, none⟩ = some (.slice A0_5 l0_5.length c0_5) := (blk_cell BK120.out 5).trans rfl; have hcz44_6 : w43.cell? ⟨gb120, 6, none⟩ = some (.slice A0_6 l0_6.length c0_6) := (blk_cell BK120.out 6).trans rfl; have hcz44_7 : w43.cell? ⟨gb120, 7, none⟩ = some (.slice A0_7 l0_7.length c0_7) := (blk_cell BK120.out 7).trans rfl; have hcz44_8 : w43.cell? ⟨gb120, 8, none⟩ = some (.slice A0_8 l0_8.length c0_8) := (blk_cell BK120.out 8).trans rfl; have hfz44_0 := blk_frozen BK120.out 0; have hfz44_1 := blk_frozen BK120.out 1; have hfz44_2 := blk_frozen BK120.out 2; have hfz44_3 := blk_frozen BK120.out 3; have hfz44_4 := blk_frozen BK120.out 4; have hfz44_5 := blk_frozen BK120.out 5; have hfz44_6 := blk_frozen BK120.out 6; have hfz44_7 := blk_frozen BK120.out 7; have hfz44_8 := blk_frozen BK120.out 8) | ((with_reducible refine gate_callee (f := 19) rfl ?_); refine goesL_ (some 17) rfl rfl Tryd.func19 (by kernel_rfl) rfl #[.slice A0_3 l0_3.length c0_3] rfl (by (try simp only [List.map_toArray, List.map_cons, List.map_nil]); first | done | rfl | (simp only [List.length_drop, List.length_take]; rfl)) ?_; (with_reducible refine (laws_zzFits2.calls k _ _ l0_3 true _ ?side1 ?side2 A11.out).mono ?_); (case side1 => repeat (first | exact (Kd.C_below HR0_3.out HB.out) | (with_reducible refine Kd.C_alloc ?_ _) | (with_reducible refine Kd.C_drewN ?_ _) | (with_reducible refine Kd.C_drew ?_))); (case side2 => exact HC0_3.out); rintro e w45 ⟨rfl, hb⟩; refine ⟨_, rfl, ?_⟩; have n0_ := Aside0.mk (blk_below (g := gb120) (o := .cells #[.string a0_0, .string a0_1, .string a0_2, .slice A0_3 l0_3.length c0_3, .slice A0_4 l0_4.length c0_4, .slice A0_5 l0_5.length c0_5, .slice A0_6 l0_6.length c0_6, .slice A0_7 l0_7.length c0_7, .slice A0_8 l0_8.length c0_8] 32 (0, 0)) (by (with_reducible repeat (first | refine blk_drewN ?_ _ | refine blk_drew ?_ | refine blk_alloc ?_ _)); exact BK120.out) hb); have n1_ := Aside0.mk (below_step (by repeat (first | (with_reducible first | exact HB.out | apply below_alloc | apply pw_below_drewN | apply below_drew1 | refine below_set ?_ GE120.out) | exact HB.out)) hb); clear BK120; clear HB; have BK120 := n0_; have HB := n1_; clear n0_ n1_; (try clear hb); (try clear hb2); (try clear hk); (try clear hi); have hcz46_0 : w45.cell? ⟨gb120, 0, none⟩ = some (.string a0_0) := (blk_cell BK120.out 0).trans rfl; have hcz46_1 : w45.cell? ⟨gb120, 1, none⟩ = some (.string a0_1) := (blk_cell BK120.out 1).trans rfl; have hcz46_2 : w45.cell? ⟨gb120, 2, none⟩ = some (.string a0_2) := (blk_cell BK120.out 2).trans rfl; have hcz46_3 : w45.cell? ⟨gb120, 3, none⟩ = some (.slice A0_3 l0_3.length c0_3) := (blk_cell BK120.out 3).trans rfl; have hcz46_4 : w45.cell? ⟨gb120, 4, none⟩ = some (.slice A0_4 l0_4.length c0_4) := (blk_cell BK120.out 4).trans rfl; have hcz46_5 : w45.cell? ⟨gb120, 5, none⟩ = some (.slice A0_5 l0_5.length c0_5) := (blk_cell BK120.out 5).trans rfl; have hcz46_6 : w45.cell? ⟨gb120, 6, none⟩ = some (.slice A0_6 l0_6.length c0_6) := (blk_cell BK120.out 6).trans rfl; have hcz46_7 : w45.cell? ⟨gb120, 7, none⟩ = some (.slice A0_7 l0_7.length c0_7) := (blk_cell BK120.out 7).trans rfl; have hcz46_8 : w45.cell? ⟨gb120, 8, none⟩ = some (.slice A0_8 l0_8.length c0_8) := (blk_cell BK120.out 8).trans rfl; have hfz46_0 := blk_frozen BK120.out 0; have hfz46_1 := blk_frozen BK120.out 1; have hfz46_2 := blk_frozen BK120.out 2; have hfz46_3 := blk_frozen BK120.out 3; have hfz46_4 := blk_frozen BK120.out 4; have hfz46_5 := blk_frozen BK120.out 5; have hfz46_6 := blk_frozen BK120.out 6; have hfz46_7 := blk_frozen BK120.out 7; have hfz46_8 := blk_frozen BK120.out 8) | ((with_reducible refine gate_callee (f := 20) rfl ?_); refine goesL_ (some 21) rfl rfl Tryd.func20 (by kernel_rfl) rfl #[.slice A0_4 l0_4.length c0_4] rfl (by (try simp only [List.map_toArray, List.map_cons, List.map_nil]); first | done | rfl | (simp only [List.length_drop, List.length_take]; rfl)) ?_; (with_reducible refine (laws_zzFits4.calls k _ _ l0_4 true _ ?side1 ?side2 A13.out).mono ?_); (case side1 => repeat (first | exact (Kd.C_below HR0_4.out HB.out) | (with_reducible refine Kd.C_alloc ?_ _) | (with_reducible refine Kd.C_drewN ?_ _) | (with_reducible refine Kd.C_drew ?_))); (case side2 => exact HC0_4.out); rintro e w47 ⟨rfl, hb⟩; refine ⟨_, rfl, ?_⟩; have n0_ := Aside0.mk (blk_below (g := gb120) (o := .cells #[.string a0_0, .string a0_1, .string a0_2, .slice A0_3 l0_3.length c0_3, .slice A0_4 l0_4.length c0_4, .slice A0_5 l0_5.length c0_5, .slice A0_6 l0_6.length c0_6, .slice A0_7 l0_7.length c0_7, .slice A0_8 l0_8.length c0_8] 32 (0, 0)) (by (with_reducible repeat (first | refine blk_drewN ?_ _ | refine blk_drew ?_ | refine blk_alloc ?_ _)); exact BK120.out) hb); have n1_ := Aside0.mk (below_step (by repeat (first | (with_reducible first | exact HB.out | apply below_alloc | apply pw_below_drewN | apply below_drew1 | refine below_set ?_ GE120.out) | exact HB.out)) hb); clear BK120; clear HB; have BK120 := n0_; have HB := n1_; clear n0_ n1_; (try clear hb); (try clear hb2); (try clear hk); (try clear hi); have hcz48_0 : w47.cell? ⟨gb120, 0, none⟩ = some (.string a0_0) := (blk_cell BK120.out 0).trans rfl; have hcz48_1 : w47.cell? ⟨gb120, 1, none⟩ = some (.string a0_1) := (blk_cell BK120.out 1).trans rfl; have hcz48_2 : w47.cell? ⟨gb120, 2, none⟩ = some (.string a0_2) := (blk_cell BK120.out 2).trans rfl; have hcz48_3 : w47.cell? ⟨gb120, 3, none⟩ = some (.slice A0_3 l0_3.length c0_3) := (blk_cell BK120.out 3).trans rfl; have hcz48_4 : w47.cell? ⟨gb120, 4, none⟩ = some (.slice A0_4 l0_4.length c0_4) := (blk_cell BK120.out 4).trans rfl; have hcz48_5 : w47.cell? ⟨gb120, 5, none⟩ = some (.slice A0_5 l0_5.length c0_5) := (blk_cell BK120.out 5).trans rfl; have hcz48_6 : w47.cell? ⟨gb120, 6, none⟩ = some (.slice A0_6 l0_6.length c0_6) := (blk_cell BK120.out 6).trans rfl; have hcz48_7 : w47.cell? ⟨gb120, 7, none⟩ = some (.slice A0_7 l0_7.length c0_7) := (blk_cell BK120.out 7).trans rfl; have hcz48_8 : w47.cell? ⟨gb120, 8, none⟩ = some (.slice A0_8 l0_8.length c0_8) := (blk_cell BK120.out 8).trans rfl; have hfz48_0 := blk_frozen BK120.out 0; have hfz48_1 := blk_frozen BK120.out 1; have hfz48_2 := blk_frozen BK120.out 2; have hfz48_3 := blk_frozen BK120.out 3; have hfz48_4 := blk_frozen BK120.out 4; have hfz48_5 := blk_frozen BK120.out 5; have hfz48_6 := blk_frozen BK120.out 6; have hfz48_7 := blk_frozen BK120.out 7; have hfz48_8 := blk_frozen BK120.out 8) | ((with_reducible refine gate_callee (f := 21) rfl ?_); refine goesL_ (some 25) rfl rfl Tryd.func21 (by kernel_rfl) rfl #[.slice A0_5 l0_5.length c0_5] rfl (by (try simp only [List.map_toArray, List.map_cons, List.map_nil]); first | done | rfl | (simp only [List.length_drop, List.length_take]; rfl)) ?_; (with_reducible refine (laws_zzFits6.calls k _ _ l0_5 true _ ?side1 ?side2 A15.out).mono ?_); (case side1 => repeat (first | exact (Kd.C_below HR0_5.out HB.out) | (with_reducible refine Kd.C_alloc ?_ _) | (with_reducible refine Kd.C_drewN ?_ _) | (with_reducible refine Kd.C_drew ?_))); (case side2 => exact HC0_5.out); rintro e w49 ⟨rfl, hb⟩; refine ⟨_, rfl, ?_⟩; have n0_ := Aside0.mk (blk_below (g := gb120) (o := .cells #[.string a0_0, .string a0_1, .string a0_2, .slice A0_3 l0_3.length c0_3, .slice A0_4 l0_4.length c0_4, .slice A0_5 l0_5.length c0_5, .slice A0_6 l0_6.length c0_6, .slice A0_7 l0_7.length c0_7, .slice A0_8 l0_8.length c0_8] 32 (0, 0)) (by (with_reducible repeat (first | refine blk_drewN ?_ _ | refine blk_drew ?_ | refine blk_alloc ?_ _)); exact BK120.out) hb); have n1_ := Aside0.mk (below_step (by repeat (first | (with_reducible first | exact HB.out | apply below_alloc | apply pw_below_drewN | apply below_drew1 | refine below_set ?_ GE120.out) | exact HB.out)) hb); clear BK120; clear HB; have BK120 := n0_; have HB := n1_; clear n0_ n1_; (try clear hb); (try clear hb2); (try clear hk); (try clear hi); have hcz50_0 : w49.cell? ⟨gb120, 0, none⟩ = some (.string a0_0) := (blk_cell BK120.out 0).trans rfl; have hcz50_1 : w49.cell? ⟨gb120, 1, none⟩ = some (.string a0_1) := (blk_cell BK120.out 1).trans rfl; have hcz50_2 : w49.cell? ⟨gb120, 2, none⟩ = some (.string a0_2) := (blk_cell BK120.out 2).trans rfl; have hcz50_3 : w49.cell? ⟨gb120, 3, none⟩ = some (.slice A0_3 l0_3.length c0_3) := (blk_cell BK120.out 3).trans rfl; have hcz50_4 : w49.cell? ⟨gb120, 4, none⟩ = some (.slice A0_4 l0_4.length c0_4) := (blk_cell BK120.out 4).trans rfl; have hcz50_5 : w49.cell? ⟨gb120, 5, none⟩ = some (.slice A0_5 l0_5.length c0_5) := (blk_cell BK120.out 5).trans rfl; have hcz50_6 : w49.cell? ⟨gb120, 6, none⟩ = some (.slice A0_6 l0_6.length c0_6) := (blk_cell BK120.out 6).trans rfl; have hcz50_7 : w49.cell? ⟨gb120, 7, none⟩ = some (.slice A0_7 l0_7.length c0_7) := (blk_cell BK120.out 7).trans rfl; have hcz50_8 : w49.cell? ⟨gb120, 8, none⟩ = some (.slice A0_8 l0_8.length c0_8) := (blk_cell BK120.out 8).trans rfl; have hfz50_0 := blk_frozen BK120.out 0; have hfz50_1 := blk_frozen BK120.out 1; have hfz50_2 := blk_frozen BK120.out 2; have hfz50_3 := blk_frozen BK120.out 3; have hfz50_4 := blk_frozen BK120.out 4; have hfz50_5 := blk_frozen BK120.out 5; have hfz50_6 := blk_frozen BK120.out 6; have hfz50_7 := blk_frozen BK120.out 7; have hfz50_8 := blk_frozen BK120.out 8) | ((with_reducible refine gate_callee (f := 22) rfl ?_); refine goesL_ (some 29) rfl rfl Tryd.func22 (by kernel_rfl) rfl #[.slice A0_6 l0_6.length c0_6] rfl (by (try simp only [List.map_toArray, List.map_cons, List.map_nil]); first | done | rfl | (simp only [List.length_drop, List.length_take]; rfl)) ?_; (with_reducible refine (laws_zzFits8.calls k _ _ l0_6 true _ ?side1 ?side2 A17.out).mono ?_); (case side1 => repeat (first | exact (Kd.C_below HR0_6.out HB.out) | (with_reducible refine Kd.C_alloc ?_ _) | (with_reducible refine Kd.C_drewN ?_ _) | (with_reducible refine Kd.C_drew ?_))); (case side2 => exact HC0_6.out); rintro e w51 ⟨rfl, hb⟩; refine ⟨_, rfl, ?_⟩; have n0_ := Aside0.mk (blk_below (g := gb120) (o := .cells #[.string a0_0, .string a0_1, .string a0_2, .slice A0_3 l0_3.length c0_3, .slice A0_4 l0_4.length c0_4, .slice A0_5 l0_5.length c0_5, .slice A0_6 l0_6.length c0_6, .slice A0_7 l0_7.length c0_7, .slice A0_8 l0_8.length c0_8] 32 (0, 0)) (by (with_reducible repeat (first | refine blk_drewN ?_ _ | refine blk_drew ?_ | refine blk_alloc ?_ _)); exact BK120.out) hb); have n1_ := Aside0.mk (below_step (by repeat (first | (with_reducible first | exact HB.out | apply below_alloc | apply pw_below_drewN | apply below_drew1 | refine below_set ?_ GE120.out) | exact HB.out)) hb); clear BK120; clear HB; have BK120 := n0_; have HB := n1_; clear n0_ n1_; (try clear hb); (try clear hb2); (try clear hk); (try clear hi); have hcz52_0 : w51.cell? ⟨gb120, 0, none⟩ = some (.string a0_0) := (blk_cell BK120.out 0).trans rfl; have hcz52_1 : w51.cell? ⟨gb120, 1, none⟩ = some (.string a0_1) := (blk_cell BK120.out 1).trans rfl; have hcz52_2 : w51.cell? ⟨gb120, 2, none⟩ = some (.string a0_2) := (blk_cell BK120.out 2).trans rfl; have hcz52_3 : w51.cell? ⟨gb120, 3, none⟩ = some (.slice A0_3 l0_3.length c0_3) := (blk_cell BK120.out 3).trans rfl; have hcz52_4 : w51.cell? ⟨gb120, 4, none⟩ = some (.slice A0_4 l0_4.length c0_4) := (blk_cell BK120.out 4).trans rfl; have hcz52_5 : w51.cell? ⟨gb120, 5, none⟩ = some (.slice A0_5 l0_5.length c0_5) := (blk_cell BK120.out 5).trans rfl; have hcz52_6 : w51.cell? ⟨gb120, 6, none⟩ = some (.slice A0_6 l0_6.length c0_6) := (blk_cell BK120.out 6).trans rfl; have hcz52_7 : w51.cell? ⟨gb120, 7, none⟩ = some (.slice A0_7 l0_7.length c0_7) := (blk_cell BK120.out 7).trans rfl; have hcz52_8 : w51.cell? ⟨gb120, 8, none⟩ = some (.slice A0_8 l0_8.length c0_8) := (blk_cell BK120.out 8).trans rfl; have hfz52_0 := blk_frozen BK120.out 0; have hfz52_1 := blk_frozen BK120.out 1; have hfz52_2 := blk_frozen BK120.out 2; have hfz52_3 := blk_frozen BK120.out 3; have hfz52_4 := blk_frozen BK120.out 4; have hfz52_5 := blk_frozen BK120.out 5; have hfz52_6 := blk_frozen BK120.out 6; have hfz52_7 := blk_frozen BK120.out 7; have hfz52_8 := blk_frozen BK120.out 8) | ((with_reducible refine gate_callee (f := 23) rfl ?_); refine goesL_ (some 33) rfl rfl Tryd.func23 (by kernel_rfl) rfl #[.slice A0_7 l0_7.length c0_7] rfl (by (try simp only [List.map_toArray, List.map_cons, List.map_nil]); first | done | rfl | (simp only [List.length_drop, List.length_take]; rfl)) ?_; (with_reducible refine (laws_zzFits10.calls k _ _ l0_7 false _ ?side1 ?side2 A19.out).mono ?_); (case side1 => repeat (first | exact (Kd.C_below HR0_7.out HB.out) | (with_reducible refine Kd.C_alloc ?_ _) | (with_reducible refine Kd.C_drewN ?_ _) | (with_reducible refine Kd.C_drew ?_))); (case side2 => exact HC0_7.out); rintro e w' ⟨rfl, ⟨nd, rfl⟩⟩; refine ⟨_, rfl, ?_⟩))
         go_ret
         exact ⟨by first | rfl | (simp [errW_none, errW_some] <;> rfl) | (simp [*, errW_none, errW_some] <;> rfl), by repeat (first | (with_reducible first | exact HB.out | apply below_alloc | apply pw_below_drewN | apply below_drew1 | refine below_set ?_ GE120.out) | exact HB.out)⟩
       ·
        replace c18 := Bool.eq_false_iff.mpr c18
        subst c18
        have H1 : (some false) = some r := by rw [if_neg (show ¬ (false = true) by decide)] at H; exact H
        clear H
        have H := H1
        clear H1
        obtain rfl := Option.some.inj H
        go_enter Tryd.func10, Tryd.ntmps10
        go_wp2_with (first | ((with_reducible refine gate_dst (N := 1) rfl ?_); refine box_event ?hg (N := 1) ?hd (cs := #[.string a0_0, .string a0_1, .string a0_2, .slice A0_3 l0_3.length c0_3, .slice A0_4 l0_4.length c0_4, .slice A0_5 l0_5.length c0_5, .slice A0_6 l0_6.length c0_6, .slice A0_7 l0_7.length c0_7, .slice A0_8 l0_8.length c0_8]) (t := 32) ?hr ?_; (case hd => rfl); (case hg => rfl); (case hr => first | (go_simp; done) | (go_simp; rfl)); intro gb120 hg w53 hbox hb; have n0_ := Aside0.mk (below_step (by repeat (first | (with_reducible first | exact HB.out | apply below_alloc | apply pw_below_drewN | apply below_drew1) | exact HB.out)) hb); have n1_ := Aside0.mk (hbox); have n2_ := Aside0.mk ((by rw [hg]; exact (below_size (by repeat (first | (with_reducible first | exact HB.out | apply below_alloc | apply pw_below_drewN | apply below_drew1) | exact HB.out))) : w.heap.size ≤ gb120)); have n3_ := Aside0.mk ((by rw [hg]; exact (below_size (by repeat (first | (with_reducible first | exact HB.out | apply below_alloc | apply pw_below_drewN | apply below_drew1) | exact HB.out))) : w.heap.size ≤ gb120)); clear HB; have HB := n0_; have BK120 := n1_; have GW120 := n2_; have GE120 := n3_; clear n0_ n1_ n2_ n3_; clear hb hbox hg; have hcz54_0 : w53.cell? ⟨gb120, 0, none⟩ = some (.string a0_0) := (blk_cell BK120.out 0).trans rfl; have hcz54_1 : w53.cell? ⟨gb120, 1, none⟩ = some (.string a0_1) := (blk_cell BK120.out 1).trans rfl; have hcz54_2 : w53.cell? ⟨gb120, 2, none⟩ = some (.string a0_2) := (blk_cell BK120.out 2).trans rfl; have hcz54_3 : w53.cell? ⟨gb120, 3, none⟩ = some (.slice A0_3 l0_3.length c0_3) := (blk_cell BK120.out 3).trans rfl; have hcz54_4 : w53.cell? ⟨gb120, 4, none⟩ = some (.slice A0_4 l0_4.length c0_4) := (blk_cell BK120.out 4).trans rfl; have hcz54_5 : w53.cell? ⟨gb120, 5, none⟩ = some (.slice A0_5 l0_5.length c0_5) := (blk_cell BK120.out 5).trans rfl; have hcz54_6 : w53.cell? ⟨gb120, 6, none⟩ = some (.slice A0_6 l0_6.length c0_6) := (blk_cell BK120.out 6).trans rfl; have hcz54_7 : w53.cell? ⟨gb120, 7, none⟩ = some (.slice A0_7 l0_7.length c0_7) := (blk_cell BK120.out 7).trans rfl; have hcz54_8 : w53.cell? ⟨gb120, 8, none⟩ = some (.slice A0_8 l0_8.length c0_8) := (blk_cell BK120.out 8).trans rfl; have hfz54_0 := blk_frozen BK120.out 0; have hfz54_1 := blk_frozen BK120.out 1; have hfz54_2 := blk_frozen BK120.out 2; have hfz54_3 := blk_frozen BK120.out 3; have hfz54_4 := blk_frozen BK120.out 4; have hfz54_5 := blk_frozen BK120.out 5; have hfz54_6 := blk_frozen BK120.out 6; have hfz54_7 := blk_frozen BK120.out 7; have hfz54_8 := blk_frozen BK120.out 8) | ((with_reducible refine gate_callee (f := 19) rfl ?_); refine goesL_ (some 17) rfl rfl Tryd.func19 (by kernel_rfl) rfl #[.slice A0_3 l0_3.length c0_3] rfl (by (try simp only [List.map_toArray, List.map_cons, List.map_nil]); first | done | rfl | (simp only [List.length_drop, List.length_take]; rfl)) ?_; (with_reducible refine (laws_zzFits2.calls k _ _ l0_3 true _ ?side1 ?side2 A11.out).mono ?_); (case side1 => repeat (first | exact (Kd.C_below HR0_3.out HB.out) | (with_reducible refine Kd.C_alloc ?_ _) | (with_reducible refine Kd.C_drewN ?_ _) | (with_reducible refine Kd.C_drew ?_))); (case side2 => exact HC0_3.out); rintro e w55 ⟨rfl, hb⟩; refine ⟨_, rfl, ?_⟩; have n0_ := Aside0.mk (blk_below (g := gb120) (o := .cells #[.string a0_0, .string a0_1, .string a0_2, .slice A0_3 l0_3.length c0_3, .slice A0_4 l0_4.length c0_4, .slice A0_5 l0_5.length c0_5, .slice A0_6 l0_6.length c0_6, .slice A0_7 l0_7.length c0_7, .slice A0_8 l0_8.length c0_8] 32 (0, 0)) (by (with_reducible repeat (first | refine blk_drewN ?_ _ | refine blk_drew ?_ | refine blk_alloc ?_ _)); exact BK120.out) hb); have n1_ := Aside0.mk (below_step (by repeat (first | (with_reducible first | exact HB.out | apply below_alloc | apply pw_below_drewN | apply below_drew1 | refine below_set ?_ GE120.out) | exact HB.out)) hb); clear BK120; clear HB; have BK120 := n0_; have HB := n1_; clear n0_ n1_; (try clear hb); (try clear hb2); (try clear hk); (try clear hi); have hcz56_0 : w55.cell? ⟨gb120, 0, none⟩ = some (.string a0_0) := (blk_cell BK120.out 0).trans rfl; have hcz56_1 : w55.cell? ⟨gb120, 1, none⟩ = some (.string a0_1) := (blk_cell BK120.out 1).trans rfl; have hcz56_2 : w55.cell? ⟨gb120, 2, none⟩ = some (.string a0_2) := (blk_cell BK120.out 2).trans rfl; have hcz56_3 : w55.cell? ⟨gb120, 3, none⟩ = some (.slice A0_3 l0_3.length c0_3) := (blk_cell BK120.out 3).trans rfl; have hcz56_4 : w55.cell? ⟨gb120, 4, none⟩ = some (.slice A0_4 l0_4.length c0_4) := (blk_cell BK120.out 4).trans rfl; have hcz56_5 : w55.cell? ⟨gb120, 5, none⟩ = some (.slice A0_5 l0_5.length c0_5) := (blk_cell BK120.out 5).trans rfl; have hcz56_6 : w55.cell? ⟨gb120, 6, none⟩ = some (.slice A0_6 l0_6.length c0_6) := (blk_cell BK120.out 6).trans rfl; have hcz56_7 : w55.cell? ⟨gb120, 7, none⟩ = some (.slice A0_7 l0_7.length c0_7) := (blk_cell BK120.out 7).trans rfl; have hcz56_8 : w55.cell? ⟨gb120, 8, none⟩ = some (.slice A0_8 l0_8.length c0_8) := (blk_cell BK120.out 8).trans rfl; have hfz56_0 := blk_frozen BK120.out 0; have hfz56_1 := blk_frozen BK120.out 1; have hfz56_2 := blk_frozen BK120.out 2; have hfz56_3 := blk_frozen BK120.out 3; have hfz56_4 := blk_frozen BK120.out 4; have hfz56_5 := blk_frozen BK120.out 5; have hfz56_6 := blk_frozen BK120.out 6; have hfz56_7 := blk_frozen BK120.out 7; have hfz56_8 := blk_frozen BK120.out 8) | ((with_reducible refine gate_callee (f := 20) rfl ?_); refine goesL_ (some 21) rfl rfl Tryd.func20 (by kernel_rfl) rfl #[.slice A0_4 l0_4.length c0_4] rfl (by (try simp only [List.map_toArray, List.map_cons, List.map_nil]); first | done | rfl | (simp only [List.length_drop, List.length_take]; rfl)) ?_; (with_reducible refine (laws_zzFits4.calls k _ _ l0_4 true _ ?side1 ?side2 A13.out).mono ?_); (case side1 => repeat (first | exact (Kd.C_below HR0_4.out HB.out) | (with_reducible refine Kd.C_alloc ?_ _) | (with_reducible refine Kd.C_drewN ?_ _) | (with_reducible refine Kd.C_drew ?_))); (case side2 => exact HC0_4.out); rintro e w57 ⟨rfl, hb⟩; refine ⟨_, rfl, ?_⟩; have n0_ := Aside0.mk (blk_below (g := gb120) (o := .cells #[.string a0_0, .string a0_1, .string a0_2, .slice A0_3 l0_3.length c0_3, .slice A0_4 l0_4.length c0_4, .slice A0_5 l0_5.length c0_5, .slice A0_6 l0_6.length c0_6, .slice A0_7 l0_7.length c0_7, .slice A0_8 l0_8.length c0_8] 32 (0, 0)) (by (with_reducible repeat (first | refine blk_drewN ?_ _ | refine blk_drew ?_ | refine blk_alloc ?_ _)); exact BK120.out) hb); have n1_ := Aside0.mk (below_step (by repeat (first | (with_reducible first | exact HB.out | apply below_alloc | apply pw_below_drewN | apply below_drew1 | refine below_set ?_ GE120.out) | exact HB.out)) hb); clear BK120; clear HB; have BK120 := n0_; have HB := n1_; clear n0_ n1_; (try clear hb); (try clear hb2); (try clear hk); (try clear hi); have hcz58_0 : w57.cell? ⟨gb120, 0, none⟩ = some (.string a0_0) := (blk_cell BK120.out 0).trans rfl; have hcz58_1 : w57.cell? ⟨gb120, 1, none⟩ = some (.string a0_1) := (blk_cell BK120.out 1).trans rfl; have hcz58_2 : w57.cell? ⟨gb120, 2, none⟩ = some (.string a0_2) := (blk_cell BK120.out 2).trans rfl; have hcz58_3 : w57.cell? ⟨gb120, 3, none⟩ = some (.slice A0_3 l0_3.length c0_3) := (blk_cell BK120.out 3).trans rfl; have hcz58_4 : w57.cell? ⟨gb120, 4, none⟩ = some (.slice A0_4 l0_4.length c0_4) := (blk_cell BK120.out 4).trans rfl; have hcz58_5 : w57.cell? ⟨gb120, 5, none⟩ = some (.slice A0_5 l0_5.length c0_5) := (blk_cell BK120.out 5).trans rfl; have hcz58_6 : w57.cell? ⟨gb120, 6, none⟩ = some (.slice A0_6 l0_6.length c0_6) := (blk_cell BK120.out 6).trans rfl; have hcz58_7 : w57.cell? ⟨gb120, 7, none⟩ = some (.slice A0_7 l0_7.length c0_7) := (blk_cell BK120.out 7).trans rfl; have hcz58_8 : w57.cell? ⟨gb120, 8, none⟩ = some (.slice A0_8 l0_8.length c0_8) := (blk_cell BK120.out 8).trans rfl; have hfz58_0 := blk_frozen BK120.out 0; have hfz58_1 := blk_frozen BK120.out 1; have hfz58_2 := blk_frozen BK120.out 2; have hfz58_3 := blk_frozen BK120.out 3; have hfz58_4 := blk_frozen BK120.out 4; have hfz58_5 := blk_frozen BK120.out 5; have hfz58_6 := blk_frozen BK120.out 6; have hfz58_7 := blk_frozen BK120.out 7; have hfz58_8 := blk_frozen BK120.out 8) | ((with_reducible refine gate_callee (f := 21) rfl ?_); refine goesL_ (some 25) rfl rfl Tryd.func21 (by kernel_rfl) rfl #[.slice A0_5 l0_5.length c0_5] rfl (by (try simp only [List.map_toArray, List.map_cons, List.map_nil]); first | done | rfl | (simp only [List.length_drop, List.length_take]; rfl)) ?_; (with_reducible refine (laws_zzFits6.calls k _ _ l0_5 true _ ?side1 ?side2 A15.out).mono ?_); (case side1 => repeat (first | exact (Kd.C_below HR0_5.out HB.out) | (with_reducible refine Kd.C_alloc ?_ _) | (with_reducible refine Kd.C_drewN ?_ _) | (with_reducible refine Kd.C_drew ?_))); (case side2 => exact HC0_5.out); rintro e w59 ⟨rfl, hb⟩; refine ⟨_, rfl, ?_⟩; have n0_ := Aside0.mk (blk_below (g := gb120) (o := .cells #[.string a0_0, .string a0_1, .string a0_2, .slice A0_3 l0_3.length c0_3, .slice A0_4 l0_4.length c0_4, .slice A0_5 l0_5.length c0_5, .slice A0_6 l0_6.length c0_6, .slice A0_7 l0_7.length c0_7, .slice A0_8 l0_8.length c0_8] 32 (0, 0)) (by (with_reducible repeat (first | refine blk_drewN ?_ _ | refine blk_drew ?_ | refine blk_alloc ?_ _)); exact BK120.out) hb); have n1_ := Aside0.mk (below_step (by repeat (first | (with_reducible first | exact HB.out | apply below_alloc | apply pw_below_drewN | apply below_drew1 | refine below_set ?_ GE120.out) | exact HB.out)) hb); clear BK120; clear HB; have BK120 := n0_; have HB := n1_; clear n0_ n1_; (try clear hb); (try clear hb2); (try clear hk); (try clear hi); have hcz60_0 : w59.cell? ⟨gb120, 0, none⟩ = some (.string a0_0) := (blk_cell BK120.out 0).trans rfl; have hcz60_1 : w59.cell? ⟨gb120, 1, none⟩ = some (.string a0_1) := (blk_cell BK120.out 1).trans rfl; have hcz60_2 : w59.cell? ⟨gb120, 2, none⟩ = some (.string a0_2) := (blk_cell BK120.out 2).trans rfl; have hcz60_3 : w59.cell? ⟨gb120, 3, none⟩ = some (.slice A0_3 l0_3.length c0_3) := (blk_cell BK120.out 3).trans rfl; have hcz60_4 : w59.cell? ⟨gb120, 4, none⟩ = some (.slice A0_4 l0_4.length c0_4) := (blk_cell BK120.out 4).trans rfl; have hcz60_5 : w59.cell? ⟨gb120, 5, none⟩ = some (.slice A0_5 l0_5.length c0_5) := (blk_cell BK120.out 5).trans rfl; have hcz60_6 : w59.cell? ⟨gb120, 6, none⟩ = some (.slice A0_6 l0_6.length c0_6) := (blk_cell BK120.out 6).trans rfl; have hcz60_7 : w59.cell? ⟨gb120, 7, none⟩ = some (.slice A0_7 l0_7.length c0_7) := (blk_cell BK120.out 7).trans rfl; have hcz60_8 : w59.cell? ⟨gb120, 8, none⟩ = some (.slice A0_8 l0_8.length c0_8) := (blk_cell BK120.out 8).trans rfl; have hfz60_0 := blk_frozen BK120.out 0; have hfz60_1 := blk_frozen BK120.out 1; have hfz60_2 := blk_frozen BK120.out 2; have hfz60_3 := blk_frozen BK120.out 3; have hfz60_4 := blk_frozen BK120.out 4; have hfz60_5 := blk_frozen BK120.out 5; have hfz60_6 := blk_frozen BK120.out 6; have hfz60_7 := blk_frozen BK120.out 7; have hfz60_8 := blk_frozen BK120.out 8) | ((with_reducible refine gate_callee (f := 22) rfl ?_); refine goesL_ (some 29) rfl rfl Tryd.func22 (by kernel_rfl) rfl #[.slice A0_6 l0_6.length c0_6] rfl (by (try simp only [List.map_toArray, List.map_cons, List.map_nil]); first | done | rfl | (simp only [List.length_drop, List.length_take]; rfl)) ?_; (with_reducible refine (laws_zzFits8.calls k _ _ l0_6 false _ ?side1 ?side2 A17.out).mono ?_); (case side1 => repeat (first | exact (Kd.C_below HR0_6.out HB.out) | (with_reducible refine Kd.C_alloc ?_ _) | (with_reducible refine Kd.C_drewN ?_ _) | (with_reducible refine Kd.C_drew ?_))); (case side2 => exact HC0_6.out); rintro e w61 ⟨rfl, hb⟩; refine ⟨_, rfl, ?_⟩; have n0_ := Aside0.mk (blk_below (g := gb120) (o := .cells #[.string a0_0, .string a0_1, .string a0_2, .slice A0_3 l0_3.length c0_3, .slice A0_4 l0_4.length c0_4, .slice A0_5 l0_5.length c0_5, .slice A0_6 l0_6.length c0_6, .slice A0_7 l0_7.length c0_7, .slice A0_8 l0_8.length c0_8] 32 (0, 0)) (by (with_reducible repeat (first | refine blk_drewN ?_ _ | refine blk_drew ?_ | refine blk_alloc ?_ _)); exact BK120.out) hb); have n1_ := Aside0.mk (below_step (by repeat (first | (with_reducible first | exact HB.out | apply below_alloc | apply pw_below_drewN | apply below_drew1 | refine below_set ?_ GE120.out) | exact HB.out)) hb); clear BK120; clear HB; have BK120 := n0_; have HB := n1_; clear n0_ n1_; (try clear hb); (try clear hb2); (try clear hk); (try clear hi)))
        go_ret
        exact ⟨by first | rfl | (simp [errW_none, errW_some] <;> rfl) | (simp [*, errW_none, errW_some] <;> rfl), by repeat (first | (with_reducible first | exact HB.out | apply below_alloc | apply pw_below_drewN | apply below_drew1 | refine below_set ?_ GE120.out) | exact HB.out)⟩
      ·
       replace c16 := Bool.eq_false_iff.mpr c16
       subst c16
       have H1 : (some false) = some r := by rw [if_neg (show ¬ (false = true) by decide)] at H; exact H
       clear H
       have H := H1
       clear H1
       obtain rfl := Option.some.inj H
       go_enter Tryd.func10, Tryd.ntmps10
       go_wp2_with (first | ((with_reducible refine gate_dst (N := 1) rfl ?_); refine box_event ?hg (N := 1) ?hd (cs := #[.string a0_0, .string a0_1, .string a0_2, .slice A0_3 l0_3.length c0_3, .slice A0_4 l0_4.length c0_4, .slice A0_5 l0_5.length c0_5, .slice A0_6 l0_6.length c0_6, .slice A0_7 l0_7.length c0_7, .slice A0_8 l0_8.length c0_8]) (t := 32) ?hr ?_; (case hd => rfl); (case hg => rfl); (case hr => first | (go_simp; done) | (go_simp; rfl)); intro gb120 hg w62 hbox hb; have n0_ := Aside0.mk (below_step (by repeat (first | (with_reducible first | exact HB.out | apply below_alloc | apply pw_below_drewN | apply below_drew1) | exact HB.out)) hb); have n1_ := Aside0.mk (hbox); have n2_ := Aside0.mk ((by rw [hg]; exact (below_size (by repeat (first | (with_reducible first | exact HB.out | apply below_alloc | apply pw_below_drewN | apply below_drew1) | exact HB.out))) : w.heap.size ≤ gb120)); have n3_ := Aside0.mk ((by rw [hg]; exact (below_size (by repeat (first | (with_reducible first | exact HB.out | apply below_alloc | apply pw_below_drewN | apply below_drew1) | exact HB.out))) : w.heap.size ≤ gb120)); clear HB; have HB := n0_; have BK120 := n1_; have GW120 := n2_; have GE120 := n3_; clear n0_ n1_ n2_ n3_; clear hb hbox hg; have hcz63_0 : w62.cell? ⟨gb120, 0, none⟩ = some (.string a0_0) := (blk_cell BK120.out 0).trans rfl; have hcz63_1 : w62.cell? ⟨gb120, 1, none⟩ = some (.string a0_1) := (blk_cell BK120.out 1).trans rfl; have hcz63_2 : w62.cell? ⟨gb120, 2, none⟩ = some (.string a0_2) := (blk_cell BK120.out 2).trans rfl; have hcz63_3 : w62.cell? ⟨gb120, 3, none⟩ = some (.slice A0_3 l0_3.length c0_3) := (blk_cell BK120.out 3).trans rfl; have hcz63_4 : w62.cell? ⟨gb120, 4, none⟩ = some (.slice A0_4 l0_4.length c0_4) := (blk_cell BK120.out 4).trans rfl; have hcz63_5 : w62.cell? ⟨gb120, 5, none⟩ = some (.slice A0_5 l0_5.length c0_5) := (blk_cell BK120.out 5).trans rfl; have hcz63_6 : w62.cell? ⟨gb120, 6, none⟩ = some (.slice A0_6 l0_6.length c0_6) := (blk_cell BK120.out 6).trans rfl; have hcz63_7 : w62.cell? ⟨gb120, 7, none⟩ = some (.slice A0_7 l0_7.length c0_7) := (blk_cell BK120.out 7).trans rfl; have hcz63_8 : w62.cell? ⟨gb120, 8, none⟩ = some (.slice A0_8 l0_8.length c0_8) := (blk_cell BK120.out 8).trans rfl; have hfz63_0 := blk_frozen BK120.out 0; have hfz63_1 := blk_frozen BK120.out 1; have hfz63_2 := blk_frozen BK120.out 2; have hfz63_3 := blk_frozen BK120.out 3; have hfz63_4 := blk_frozen BK120.out 4; have hfz63_5 := blk_frozen BK120.out 5; have hfz63_6 := blk_frozen BK120.out 6; have hfz63_7 := blk_frozen BK120.out 7; have hfz63_8 := blk_frozen BK120.out 8) | ((with_reducible refine gate_callee (f := 19) rfl ?_); refine goesL_ (some 17) rfl rfl Tryd.func19 (by kernel_rfl) rfl #[.slice A0_3 l0_3.length c0_3] rfl (by (try simp only [List.map_toArray, List.map_cons, List.map_nil]); first | done | rfl | (simp only [List.length_drop, List.length_take]; rfl)) ?_; (with_reducible refine (laws_zzFits2.calls k _ _ l0_3 true _ ?side1 ?side2 A11.out).mono ?_); (case side1 => repeat (first | exact (Kd.C_below HR0_3.out HB.out) | (with_reducible refine Kd.C_alloc ?_ _) | (with_reducible refine Kd.C_drewN ?_ _) | (with_reducible refine Kd.C_drew ?_))); (case side2 => exact HC0_3.out); rintro e w64 ⟨rfl, hb⟩; refine ⟨_, rfl, ?_⟩; have n0_ := Aside0.mk (blk_below (g := gb120) (o := .cells #[.string a0_0, .string a0_1, .string a0_2, .slice A0_3 l0_3.length c0_3, .slice A0_4 l0_4.length c0_4, .slice A0_5 l0_5.length c0_5, .slice A0_6 l0_6.length c0_6, .slice A0_7 l0_7.length c0_7, .slice A0_8 l0_8.length c0_8] 32 (0, 0)) (by (with_reducible repeat (first | refine blk_drewN ?_ _ | refine blk_drew ?_ | refine blk_alloc ?_ _)); exact BK120.out) hb); have n1_ := Aside0.mk (below_step (by repeat (first | (with_reducible first | exact HB.out | apply below_alloc | apply pw_below_drewN | apply below_drew1 | refine below_set ?_ GE120.out) | exact HB.out)) hb); clear BK120; clear HB; have BK120 := n0_; have HB := n1_; clear n0_ n1_; (try clear hb); (try clear hb2); (try clear hk); (try clear hi); have hcz65_0 : w64.cell? ⟨gb120, 0, none⟩ = some (.string a0_0) := (blk_cell BK120.out 0).trans rfl; have hcz65_1 : w64.cell? ⟨gb120, 1, none⟩ = some (.string a0_1) := (blk_cell BK120.out 1).trans rfl; have hcz65_2 : w64.cell? ⟨gb120, 2, none⟩ = some (.string a0_2) := (blk_cell BK120.out 2).trans rfl; have hcz65_3 : w64.cell? ⟨gb120, 3, none⟩ = some (.slice A0_3 l0_3.length c0_3) := (blk_cell BK120.out 3).trans rfl; have hcz65_4 : w64.cell? ⟨gb120, 4, none⟩ = some (.slice A0_4 l0_4.length c0_4) := (blk_cell BK120.out 4).trans rfl; have hcz65_5 : w64.cell? ⟨gb120, 5, none⟩ = some (.slice A0_5 l0_5.length c0_5) := (blk_cell BK120.out 5).trans rfl; have hcz65_6 : w64.cell? ⟨gb120, 6, none⟩ = some (.slice A0_6 l0_6.length c0_6) := (blk_cell BK120.out 6).trans rfl; have hcz65_7 : w64.cell? ⟨gb120, 7, none⟩ = some (.slice A0_7 l0_7.length c0_7) := (blk_cell BK120.out 7).trans rfl; have hcz65_8 : w64.cell? ⟨gb120, 8, none⟩ = some (.slice A0_8 l0_8.length c0_8) := (blk_cell BK120.out 8).trans rfl; have hfz65_0 := blk_frozen BK120.out 0; have hfz65_1 := blk_frozen BK120.out 1; have hfz65_2 := blk_frozen BK120.out 2; have hfz65_3 := blk_frozen BK120.out 3; have hfz65_4 := blk_frozen BK120.out 4; have hfz65_5 := blk_frozen BK120.out 5; have hfz65_6 := blk_frozen BK120.out 6; have hfz65_7 := blk_frozen BK120.out 7; have hfz65_8 := blk_frozen BK120.out 8) | ((with_reducible refine gate_callee (f := 20) rfl ?_); refine goesL_ (some 21) rfl rfl Tryd.func20 (by kernel_rfl) rfl #[.slice A0_4 l0_4.length c0_4] rfl (by (try simp only [List.map_toArray, List.map_cons, List.map_nil]); first | done | rfl | (simp only [List.length_drop, List.length_take]; rfl)) ?_; (with_reducible refine (laws_zzFits4.calls k _ _ l0_4 true _ ?side1 ?side2 A13.out).mono ?_); (case side1 => repeat (first | exact (Kd.C_below HR0_4.out HB.out) | (with_reducible refine Kd.C_alloc ?_ _) | (with_reducible refine Kd.C_drewN ?_ _) | (with_reducible refine Kd.C_drew ?_))); (case side2 => exact HC0_4.out); rintro e w66 ⟨rfl, hb⟩; refine ⟨_, rfl, ?_⟩; have n0_ := Aside0.mk (blk_below (g := gb120) (o := .cells #[.string a0_0, .string a0_1, .string a0_2, .slice A0_3 l0_3.length c0_3, .slice A0_4 l0_4.length c0_4, .slice A0_5 l0_5.length c0_5, .slice A0_6 l0_6.length c0_6, .slice A0_7 l0_7.length c0_7, .slice A0_8 l0_8.length c0_8] 32 (0, 0)) (by (with_reducible repeat (first | refine blk_drewN ?_ _ | refine blk_drew ?_ | refine blk_alloc ?_ _)); exact BK120.out) hb); have n1_ := Aside0.mk (below_step (by repeat (first | (with_reducible first | exact HB.out | apply below_alloc | apply pw_below_drewN | apply below_drew1 | refine below_set ?_ GE120.out) | exact HB.out)) hb); clear BK120; clear HB; have BK120 := n0_; have HB := n1_; clear n0_ n1_; (try clear hb); (try clear hb2); (try clear hk); (try clear hi); have hcz67_0 : w66.cell? ⟨gb120, 0, none⟩ = some (.string a0_0) := (blk_cell BK120.out 0).trans rfl; have hcz67_1 : w66.cell? ⟨gb120, 1, none⟩ = some (.string a0_1) := (blk_cell BK120.out 1).trans rfl; have hcz67_2 : w66.cell? ⟨gb120, 2, none⟩ = some (.string a0_2) := (blk_cell BK120.out 2).trans rfl; have hcz67_3 : w66.cell? ⟨gb120, 3, none⟩ = some (.slice A0_3 l0_3.length c0_3) := (blk_cell BK120.out 3).trans rfl; have hcz67_4 : w66.cell? ⟨gb120, 4, none⟩ = some (.slice A0_4 l0_4.length c0_4) := (blk_cell BK120.out 4).trans rfl; have hcz67_5 : w66.cell? ⟨gb120, 5, none⟩ = some (.slice A0_5 l0_5.length c0_5) := (blk_cell BK120.out 5).trans rfl; have hcz67_6 : w66.cell? ⟨gb120, 6, none⟩ = some (.slice A0_6 l0_6.length c0_6) := (blk_cell BK120.out 6).trans rfl; have hcz67_7 : w66.cell? ⟨gb120, 7, none⟩ = some (.slice A0_7 l0_7.length c0_7) := (blk_cell BK120.out 7).trans rfl; have hcz67_8 : w66.cell? ⟨gb120, 8, none⟩ = some (.slice A0_8 l0_8.length c0_8) := (blk_cell BK120.out 8).trans rfl; have hfz67_0 := blk_frozen BK120.out 0; have hfz67_1 := blk_frozen BK120.out 1; have hfz67_2 := blk_frozen BK120.out 2; have hfz67_3 := blk_frozen BK120.out 3; have hfz67_4 := blk_frozen BK120.out 4; have hfz67_5 := blk_frozen BK120.out 5; have hfz67_6 := blk_frozen BK120.out 6; have hfz67_7 := blk_frozen BK120.out 7; have hfz67_8 := blk_frozen BK120.out 8) | ((with_reducible refine gate_callee (f := 21) rfl ?_); refine goesL_ (some 25) rfl rfl Tryd.func21 (by kernel_rfl) rfl #[.slice A0_5 l0_5.length c0_5] rfl (by (try simp only [List.map_toArray, List.map_cons, List.map_nil]); first | done | rfl | (simp only [List.length_drop, List.length_take]; rfl)) ?_; (with_reducible refine (laws_zzFits6.calls k _ _ l0_5 false _ ?side1 ?side2 A15.out).mono ?_); (case side1 => repeat (first | exact (Kd.C_below HR0_5.out HB.out) | (with_reducible refine Kd.C_alloc ?_ _) | (with_reducible refine Kd.C_drewN ?_ _) | (with_reducible refine Kd.C_drew ?_))); (case side2 => exact HC0_5.out); rintro e w68 ⟨rfl, hb⟩; refine ⟨_, rfl, ?_⟩; have n0_ := Aside0.mk (blk_below (g := gb120) (o := .cells #[.string a0_0, .string a0_1, .string a0_2, .slice A0_3 l0_3.length c0_3, .slice A0_4 l0_4.length c0_4, .slice A0_5 l0_5.length c0_5, .slice A0_6 l0_6.length c0_6, .slice A0_7 l0_7.length c0_7, .slice A0_8 l0_8.length c0_8] 32 (0, 0)) (by (with_reducible repeat (first | refine blk_drewN ?_ _ | refine blk_drew ?_ | refine blk_alloc ?_ _)); exact BK120.out) hb); have n1_ := Aside0.mk (below_step (by repeat (first | (with_reducible first | exact HB.out | apply below_alloc | apply pw_below_drewN | apply below_drew1 | refine below_set ?_ GE120.out) | exact HB.out)) hb); clear BK120; clear HB; have BK120 := n0_; have HB := n1_; clear n0_ n1_; (try clear hb); (try clear hb2); (try clear hk); (try clear hi)))
       go_ret
       exact ⟨by first | rfl | (simp [errW_none, errW_some] <;> rfl) | (simp [*, errW_none, errW_some] <;> rfl), by repeat (first | (with_reducible first | exact HB.out | apply below_alloc | apply pw_below_drewN | apply below_drew1 | refine below_set ?_ GE120.out) | exact HB.out)⟩
     ·
      replace c14 := Bool.eq_false_iff.mpr c14
      subst c14
      have H1 : (some false) = some r := by rw [if_neg (show ¬ (false = true) by decide)] at H; exact H
      clear H
      have H := H1
      clear H1
      obtain rfl := Option.some.inj H
      go_enter Tryd.func10, Tryd.ntmps10
      go_wp2_with (first | ((with_reducible refine gate_dst (N := 1) rfl ?_); refine box_event ?hg (N := 1) ?hd (cs := #[.string a0_0, .string a0_1, .string a0_2, .slice A0_3 l0_3.length c0_3, .slice A0_4 l0_4.length c0_4, .slice A0_5 l0_5.length c0_5, .slice A0_6 l0_6.length c0_6, .slice A0_7 l0_7.length c0_7, .slice A0_8 l0_8.length c0_8]) (t := 32) ?hr ?_; (case hd => rfl); (case hg => rfl); (case hr => first | (go_simp; done) | (go_simp; rfl)); intro gb120 hg w69 hbox hb; have n0_ := Aside0.mk (below_step (by repeat (first | (with_reducible first | exact HB.out | apply below_alloc | apply pw_below_drewN | apply below_drew1) | exact HB.out)) hb); have n1_ := Aside0.mk (hbox); have n2_ := Aside0.mk ((by rw [hg]; exact (below_size (by repeat (first | (with_reducible first | exact HB.out | apply below_alloc | apply pw_below_drewN | apply below_drew1) | exact HB.out))) : w.heap.size ≤ gb120)); have n3_ := Aside0.mk ((by rw [hg]; exact (below_size (by repeat (first | (with_reducible first | exact HB.out | apply below_alloc | apply pw_below_drewN | apply below_drew1) | exact HB.out))) : w.heap.size ≤ gb120)); clear HB; have HB := n0_; have BK120 := n1_; have GW120 := n2_; have GE120 := n3_; clear n0_ n1_ n2_ n3_; clear hb hbox hg; have hcz70_0 : w69.cell? ⟨gb120, 0, none⟩ = some (.string a0_0) := (blk_cell BK120.out 0).trans rfl; have hcz70_1 : w69.cell? ⟨gb120, 1, none⟩ = some (.string a0_1) := (blk_cell BK120.out 1).trans rfl; have hcz70_2 : w69.cell? ⟨gb120, 2, none⟩ = some (.string a0_2) := (blk_cell BK120.out 2).trans rfl; have hcz70_3 : w69.cell? ⟨gb120, 3, none⟩ = some (.slice A0_3 l0_3.length c0_3) := (blk_cell BK120.out 3).trans rfl; have hcz70_4 : w69.cell? ⟨gb120, 4, none⟩ = some (.slice A0_4 l0_4.length c0_4) := (blk_cell BK120.out 4).trans rfl; have hcz70_5 : w69.cell? ⟨gb120, 5, none⟩ = some (.slice A0_5 l0_5.length c0_5) := (blk_cell BK120.out 5).trans rfl; have hcz70_6 : w69.cell? ⟨gb120, 6, none⟩ = some (.slice A0_6 l0_6.length c0_6) := (blk_cell BK120.out 6).trans rfl; have hcz70_7 : w69.cell? ⟨gb120, 7, none⟩ = some (.slice A0_7 l0_7.length c0_7) := (blk_cell BK120.out 7).trans rfl; have hcz70_8 : w69.cell? ⟨gb120, 8, none⟩ = some (.slice A0_8 l0_8.length c0_8) := (blk_cell BK120.out 8).trans rfl; have hfz70_0 := blk_frozen BK120.out 0; have hfz70_1 := blk_frozen BK120.out 1; have hfz70_2 := blk_frozen BK120.out 2; have hfz70_3 := blk_frozen BK120.out 3; have hfz70_4 := blk_frozen BK120.out 4; have hfz70_5 := blk_frozen BK120.out 5; have hfz70_6 := blk_frozen BK120.out 6; have hfz70_7 := blk_frozen BK120.out 7; have hfz70_8 := blk_frozen BK120.out 8) | ((with_reducible refine gate_callee (f := 19) rfl ?_); refine goesL_ (some 17) rfl rfl Tryd.func19 (by kernel_rfl) rfl #[.slice A0_3 l0_3.length c0_3] rfl (by (try simp only [List.map_toArray, List.map_cons, List.map_nil]); first | done | rfl | (simp only [List.length_drop, List.length_take]; rfl)) ?_; (with_reducible refine (laws_zzFits2.calls k _ _ l0_3 true _ ?side1 ?side2 A11.out).mono ?_); (case side1 => repeat (first | exact (Kd.C_below HR0_3.out HB.out) | (with_reducible refine Kd.C_alloc ?_ _) | (with_reducible refine Kd.C_drewN ?_ _) | (with_reducible refine Kd.C_drew ?_))); (case side2 => exact HC0_3.out); rintro e w71 ⟨rfl, hb⟩; refine ⟨_, rfl, ?_⟩; have n0_ := Aside0.mk (blk_below (g := gb120) (o := .cells #[.string a0_0, .string a0_1, .string a0_2, .slice A0_3 l0_3.length c0_3, .slice A0_4 l0_4.length c0_4, .slice A0_5 l0_5.length c0_5, .slice A0_6 l0_6.length c0_6, .slice A0_7 l0_7.length c0_7, .slice A0_8 l0_8.length c0_8] 32 (0, 0)) (by (with_reducible repeat (first | refine blk_drewN ?_ _ | refine blk_drew ?_ | refine blk_alloc ?_ _)); exact BK120.out) hb); have n1_ := Aside0.mk (below_step (by repeat (first | (with_reducible first | exact HB.out | apply below_alloc | apply pw_below_drewN | apply below_drew1 | refine below_set ?_ GE120.out) | exact HB.out)) hb); clear BK120; clear HB; have BK120 := n0_; have HB := n1_; clear n0_ n1_; (try clear hb); (try clear hb2); (try clear hk); (try clear hi); have hcz72_0 : w71.cell? ⟨gb120, 0, none⟩ = some (.string a0_0) := (blk_cell BK120.out 0).trans rfl; have hcz72_1 : w71.cell? ⟨gb120, 1, none⟩ = some (.string a0_1) := (blk_cell BK120.out 1).trans rfl; have hcz72_2 : w71.cell? ⟨gb120, 2, none⟩ = some (.string a0_2) := (blk_cell BK120.out 2).trans rfl; have hcz72_3 : w71.cell? ⟨gb120, 3, none⟩ = some (.slice A0_3 l0_3.length c0_3) := (blk_cell BK120.out 3).trans rfl; have hcz72_4 : w71.cell? ⟨gb120, 4, none⟩ = some (.slice A0_4 l0_4.length c0_4) := (blk_cell BK120.out 4).trans rfl; have hcz72_5 : w71.cell? ⟨gb120, 5, none⟩ = some (.slice A0_5 l0_5.length c0_5) := (blk_cell BK120.out 5).trans rfl; have hcz72_6 : w71.cell? ⟨gb120, 6, none⟩ = some (.slice A0_6 l0_6.length c0_6) := (blk_cell BK120.out 6).trans rfl; have hcz72_7 : w71.cell? ⟨gb120, 7, none⟩ = some (.slice A0_7 l0_7.length c0_7) := (blk_cell BK120.out 7).trans rfl; have hcz72_8 : w71.cell? ⟨gb120, 8, none⟩ = some (.slice A0_8 l0_8.length c0_8) := (blk_cell BK120.out 8).trans rfl; have hfz72_0 := blk_frozen BK120.out 0; have hfz72_1 := blk_frozen BK120.out 1; have hfz72_2 := blk_frozen BK120.out 2; have hfz72_3 := blk_frozen BK120.out 3; have hfz72_4 := blk_frozen BK120.out 4; have hfz72_5 := blk_frozen BK120.out 5; have hfz72_6 := blk_frozen BK120.out 6; have hfz72_7 := blk_frozen BK120.out 7; have hfz72_8 := blk_frozen BK120.out 8) | ((with_reducible refine gate_callee (f := 20) rfl ?_); refine goesL_ (some 21) rfl rfl Tryd.func20 (by kernel_rfl) rfl #[.slice A0_4 l0_4.length c0_4] rfl (by (try simp only [List.map_toArray, List.map_cons, List.map_nil]); first | done | rfl | (simp only [List.length_drop, List.length_take]; rfl)) ?_; (with_reducible refine (laws_zzFits4.calls k _ _ l0_4 false _ ?side1 ?side2 A13.out).mono ?_); (case side1 => repeat (first | exact (Kd.C_below HR0_4.out HB.out) | (with_reducible refine Kd.C_alloc ?_ _) | (with_reducible refine Kd.C_drewN ?_ _) | (with_reducible refine Kd.C_drew ?_))); (case side2 => exact HC0_4.out); rintro e w73 ⟨rfl, hb⟩; refine ⟨_, rfl, ?_⟩; have n0_ := Aside0.mk (blk_below (g := gb120) (o := .cells #[.string a0_0, .string a0_1, .string a0_2, .slice A0_3 l0_3.length c0_3, .slice A0_4 l0_4.length c0_4, .slice A0_5 l0_5.length c0_5, .slice A0_6 l0_6.length c0_6, .slice A0_7 l0_7.length c0_7, .slice A0_8 l0_8.length c0_8] 32 (0, 0)) (by (with_reducible repeat (first | refine blk_drewN ?_ _ | refine blk_drew ?_ | refine blk_alloc ?_ _)); exact BK120.out) hb); have n1_ := Aside0.mk (below_step (by repeat (first | (with_reducible first | exact HB.out | apply below_alloc | apply pw_below_drewN | apply below_drew1 | refine below_set ?_ GE120.out) | exact HB.out)) hb); clear BK120; clear HB; have BK120 := n0_; have HB := n1_; clear n0_ n1_; (try clear hb); (try clear hb2); (try clear hk); (try clear hi)))
      go_ret
      exact ⟨by first | rfl | (simp [errW_none, errW_some] <;> rfl) | (simp [*, errW_none, errW_some] <;> rfl), by repeat (first | (with_reducible first | exact HB.out | apply below_alloc | apply pw_below_drewN | apply below_drew1 | refine below_set ?_ GE120.out) | exact HB.out)⟩
    ·
     replace c12 := Bool.eq_false_iff.mpr c12
     subst c12
     have H1 : (some false) = some r := by rw [if_neg (show ¬ (false = true) by decide)] at H; exact H
     clear H
     have H := H1
     clear H1
     obtain rfl := Option.some.inj H
     go_enter Tryd.func10, Tryd.ntmps10
     go_wp2_with (first | ((with_reducible refine gate_dst (N := 1) rfl ?_); refine box_event ?hg (N := 1) ?hd (cs := #[.string a0_0, .string a0_1, .string a0_2, .slice A0_3 l0_3.length c0_3, .slice A0_4 l0_4.length c0_4, .slice A0_5 l0_5.length c0_5, .slice A0_6 l0_6.length c0_6, .slice A0_7 l0_7.length c0_7, .slice A0_8 l0_8.length c0_8]) (t := 32) ?hr ?_; (case hd => rfl); (case hg => rfl); (case hr => first | (go_simp; done) | (go_simp; rfl)); intro gb120 hg w74 hbox hb; have n0_ := Aside0.mk (below_step (by repeat (first | (with_reducible first | exact HB.out | apply below_alloc | apply pw_below_drewN | apply below_drew1) | exact HB.out)) hb); have n1_ := Aside0.mk (hbox); have n2_ := Aside0.mk ((by rw [hg]; exact (below_size (by repeat (first | (with_reducible first | exact HB.out | apply below_alloc | apply pw_below_drewN | apply below_drew1) | exact HB.out))) : w.heap.size ≤ gb120)); have n3_ := Aside0.mk ((by rw [hg]; exact (below_size (by repeat (first | (with_reducible first | exact HB.out | apply below_alloc | apply pw_below_drewN | apply below_drew1) | exact HB.out))) : w.heap.size ≤ gb120)); clear HB; have HB := n0_; have BK120 := n1_; have GW120 := n2_; have GE120 := n3_; clear n0_ n1_ n2_ n3_; clear hb hbox hg; have hcz75_0 : w74.cell? ⟨gb120, 0, none⟩ = some (.string a0_0) := (blk_cell BK120.out 0).trans rfl; have hcz75_1 : w74.cell? ⟨gb120, 1, none⟩ = some (.string a0_1) := (blk_cell BK120.out 1).trans rfl; have hcz75_2 : w74.cell? ⟨gb120, 2, none⟩ = some (.string a0_2) := (blk_cell BK120.out 2).trans rfl; have hcz75_3 : w74.cell? ⟨gb120, 3, none⟩ = some (.slice A0_3 l0_3.length c0_3) := (blk_cell BK120.out 3).trans rfl; have hcz75_4 : w74.cell? ⟨gb120, 4, none⟩ = some (.slice A0_4 l0_4.length c0_4) := (blk_cell BK120.out 4).trans rfl; have hcz75_5 : w74.cell? ⟨gb120, 5, none⟩ = some (.slice A0_5 l0_5.length c0_5) := (blk_cell BK120.out 5).trans rfl; have hcz75_6 : w74.cell? ⟨gb120, 6, none⟩ = some (.slice A0_6 l0_6.length c0_6) := (blk_cell BK120.out 6).trans rfl; have hcz75_7 : w74.cell? ⟨gb120, 7, none⟩ = some (.slice A0_7 l0_7.length c0_7) := (blk_cell BK120.out 7).trans rfl; have hcz75_8 : w74.cell? ⟨gb120, 8, none⟩ = some (.slice A0_8 l0_8.length c0_8) := (blk_cell BK120.out 8).trans rfl; have hfz75_0 := blk_frozen BK120.out 0; have hfz75_1 := blk_frozen BK120.out 1; have hfz75_2 := blk_frozen BK120.out 2; have hfz75_3 := blk_frozen BK120.out 3; have hfz75_4 := blk_frozen BK120.out 4; have hfz75_5 := blk_frozen BK120.out 5; have hfz75_6 := blk_frozen BK120.out 6; have hfz75_7 := blk_frozen BK120.out 7; have hfz75_8 := blk_frozen BK120.out 8) | ((with_reducible refine gate_callee (f := 19) rfl ?_); refine goesL_ (some 17) rfl rfl Tryd.func19 (by kernel_rfl) rfl #[.slice A0_3 l0_3.length c0_3] rfl (by (try simp only [List.map_toArray, List.map_cons, List.map_nil]); first | done | rfl | (simp only [List.length_drop, List.length_take]; rfl)) ?_; (with_reducible refine (laws_zzFits2.calls k _ _ l0_3 false _ ?side1 ?side2 A11.out).mono ?_); (case side1 => repeat (first | exact (Kd.C_below HR0_3.out HB.out) | (with_reducible refine Kd.C_alloc ?_ _) | (with_reducible refine Kd.C_drewN ?_ _) | (with_reducible refine Kd.C_drew ?_))); (case side2 => exact HC0_3.out); rintro e w76 ⟨rfl, hb⟩; refine ⟨_, rfl, ?_⟩; have n0_ := Aside0.mk (blk_below (g := gb120) (o := .cells #[.string a0_0, .string a0_1, .string a0_2, .slice A0_3 l0_3.length c0_3, .slice A0_4 l0_4.length c0_4, .slice A0_5 l0_5.length c0_5, .slice A0_6 l0_6.length c0_6, .slice A0_7 l0_7.length c0_7, .slice A0_8 l0_8.length c0_8] 32 (0, 0)) (by (with_reducible repeat (first | refine blk_drewN ?_ _ | refine blk_drew ?_ | refine blk_alloc ?_ _)); exact BK120.out) hb); have n1_ := Aside0.mk (below_step (by repeat (first | (with_reducible first | exact HB.out | apply below_alloc | apply pw_below_drewN | apply below_drew1 | refine below_set ?_ GE120.out) | exact HB.out)) hb); clear BK120; clear HB; have BK120 := n0_; have HB := n1_; clear n0_ n1_; (try clear hb); (try clear hb2); (try clear hk); (try clear hi)))
     go_ret
     exact ⟨by first | rfl | (simp [errW_none, errW_some] <;> rfl) | (simp [*, errW_none, errW_some] <;> rfl), by repeat (first | (with_reducible first | exact HB.out | apply below_alloc | apply pw_below_drewN | apply below_drew1 | refine below_set ?_ GE120.out) | exact HB.out)⟩
def spec_Cut.l0 : Nat → ByteArray → Int → List ByteArray → Int → Int → Option (List ByteArray)
 | 0, _, _, _, _, _ => none
 | k + 1, x0, x1, x5, x6, x7 => if x7 < (x0.size : Int) then (if 0 ≤ x7 then (if (bt x0 x7) = x1 then (if 0 ≤ x6 then (if x6 ≤ x7 then (if x7 ≤ (x0.size : Int) then (if x5.length < 8796093022208 then (spec_Cut.l0 k x0 x1 (x5 ++ [x0.extract (x6 : Int).toNat (x7 : Int).toNat]) (wrap64 (x7 + 1)) (wrap64 (x7 + 1))) else (none)) else (none)) else (none)) else (none)) else (spec_Cut.l0 k x0 x1 x5 x6 (wrap64 (x7 + 1)))) else (none)) else (if 0 ≤ x6 then (if x6 ≤ (x0.size : Int) then (if x5.length < 8796093022208 then (some (x5 ++ [x0.extract (x6 : Int).toNat x0.size])) else (none)) else (none)) else (none))
def spec_Cut.f (k : Nat) (a0 : ByteArray) (a1 : Int) : Option (List ByteArray) := spec_Cut.l0 k a0 a1 (([] : List ByteArray)) 0 0
theorem spec_Cut.mono_l : ∀ k, (∀ y0 y1 y2 y3 y4, LeO (spec_Cut.l0 k y0 y1 y2 y3 y4) (spec_Cut.l0 (k + 1) y0 y1 y2 y3 y4))
 | 0 => fun _ _ _ _ _ r h => by simp [spec_Cut.l0] at h
 | k + 1 => by
  have ih0 := spec_Cut.mono_l k
  ·
   intro y0 y1 y2 y3 y4
   unfold spec_Cut.l0
   repeat' first
   | (with_reducible exact ih0 _ _ _ _ _)
   | (with_reducible exact LeO.refl _)
   | (with_reducible exact LeO.none _)
   | (with_reducible refine LeO.ite ?_ ?_)
   | (with_reducible refine LeO.bind ?_ (fun _ => ?_))
   | exact ih0 _ _ _ _ _
   | exact LeO.none _
   | refine LeO.ite ?_ ?_
   | refine LeO.bind ?_ (fun _ => ?_)
theorem spec_Cut.mono : ∀ a0 a1 k, LeO (spec_Cut.f k a0 a1) (spec_Cut.f (k + 1) a0 a1) := by
 intro a0 a1 k
 have ih0 := spec_Cut.mono_l k
 unfold spec_Cut.f
 repeat' first
   | (with_reducible exact ih0 _ _ _ _ _)
   | (with_reducible exact LeO.refl _)
   | (with_reducible exact LeO.none _)
   | (with_reducible refine LeO.ite ?_ ?_)
   | (with_reducible refine LeO.bind ?_ (fun _ => ?_))
   | exact ih0 _ _ _ _ _
   | exact LeO.none _
   | refine LeO.ite ?_ ?_
   | refine LeO.bind ?_ (fun _ => ?_)
set_option maxHeartbeats 8000000 in
set_option maxRecDepth 100000 in
theorem spec_Cut.calls (k : Nat) (a0 : ByteArray) (a1 : Int) (r : List ByteArray) (w : World) (h : spec_Cut.f k a0 a1 = some r) :
  Calls Tryd.prog 14 #[.string a0, .int .u8 a1] w fun e w' => ∃ v0_ : Value, e = .returned (v0_) ∧ Kd.R Kd.string 9 w' w.heap.size (fun _ => True) v0_ r ∧ Below w.heap.size w w' := by
 have HB := Aside0.mk (Below.refl w.heap.size w)
 have H : (spec_Cut.l0 k a0 a1 (([] : List ByteArray)) 0 0) = some r := h
 clear h
 obtain ⟨y127, hy127⟩ : ∃ y_ : List ByteArray, y_ = (([] : List ByteArray)) := ⟨_, rfl⟩
 replace H : (spec_Cut.l0 k a0 a1 y127 0 0) = some r := by first | (rw [hy127]; with_reducible exact H) | (have H2_ := (Option.bind_some _ _).symm.trans H; rw [hy127]; with_reducible exact H2_) | (have H2_ := (Option.bind_some _ _).symm.trans H; with_reducible exact H2_) | with_reducible exact H | (rw [hy127]; exact H) | exact H
 have Ny127 := Aside0.mk hy127
 clear hy127
 have H' := Aside0.mk H
 clear H
 go_enter Tryd.func14, Tryd.ntmps14
 go_wp2_with (first | ((with_reducible refine gate_dst (N := 8) rfl ?_); refine Kd.R_lit Kd.string _ 9 ?hg (N := 8) ?hd (xs := ([] : List ByteArray)) (inner := []) (ok := fun _ => True) (okp := fun _ => True) ?hr ?hp (fun _ hk => hk) trivial (Below.refl _ _) (Nat.le_refl _) (by simp) ?_; (case hd => rfl); (case hg => rfl); (case hr => first | (go_simp; done) | (go_simp; rfl)); (case hp => exact (Reps.none _ _)); intro v128 w3 ho4 hb hg_ hnew_; clear hg_ hnew_; (first | rw [← Ny127.out] at ho4 | (simp only [Int.reduceToNat] at ho4; rw [← Ny127.out] at ho4)); have n0_ := Aside0.mk (Kd.R_lower ho4 (below_size (by repeat (first | (with_reducible first | exact HB.out | apply below_alloc | apply pw_below_drewN | apply below_drew1) | exact HB.out)))); have n1_ := Aside0.mk (below_step (by repeat (first | (with_reducible first | exact HB.out | apply below_alloc | apply pw_below_drewN | apply below_drew1) | exact HB.out)) hb); clear HB; have HO129 := n0_; have HB := n1_; clear n0_ n1_; clear hb ho4))
 go_loopg [5, 6, 7] k (fun kq v5 v6 v7 w' => ∃ (x5_1 : List ByteArray) (x6_1 : Int) (x7_1 : Int), v6 = .int .i64 x6_1 ∧ v7 = .int .i64 x7_1 ∧ Aside0 (spec_Cut.l0 kq a0 a1 x5_1 x6_1 x7_1 = some r) ∧ Aside0 (kq ≤ k) ∧ Aside0 (Kd.R Kd.string 9 w' w.heap.size (fun _ => True) v5 x5_1) ∧ Aside0 (Below w.heap.size w w'))
 case atStart => exact ⟨(y127), (0), (0), (by first | rfl | (simp; done) | (simp [*]; done)), (by first | rfl | (simp; done) | (simp [*]; done)), H', ⟨Nat.le_refl _⟩, ⟨by (with_reducible repeat (first | apply Kd.R_alloc | apply Kd.R_drewN | apply Kd.R_drew)); exact HO129.out⟩, ⟨by repeat (first | (with_reducible first | exact HB.out | apply below_alloc | apply pw_below_drewN | apply below_drew1) | exact HB.out)⟩⟩
 case round =>
  clear H'
  obtain ⟨x5_1, x6_1, x7_1, rfl, rfl, HA, HK1, HO_5, HB⟩ := hrel
  cases gk with
  | zero => exact absurd HA.out (by simp [spec_Cut.l0])
  | succ k1 =>
   have H := HA.out
   clear HA
   simp only [spec_Cut.l0] at H
   by_cases c5 : x7_1 < (a0.size : Int)
   ·
    rw [if_pos c5] at H
    have c5b0 : decide (x7_1 < (a0.size : Int)) = true := decide_eq_true c5
    clear c5
    by_cases c6 : 0 ≤ x7_1
    ·
     rw [if_pos c6] at H
     have c6b0 : decide (0 ≤ x7_1) = true := decide_eq_true c6
     clear c6
     by_cases c8 : (bt a0 x7_1) = a1
     ·
      rw [if_pos c8] at H
      have c8b0 : ((bt a0 x7_1) == a1) = true := beq_iff_eq.mpr c8
      have c8b1 : ((bt a0 x7_1) != a1) = false := bne_eq_false_iff_eq.mpr c8
      clear c8
      by_cases c9 : 0 ≤ x6_1
      ·
       rw [if_pos c9] at H
       have c9b0 := eq_true c9
       have c9b1 : decide (0 ≤ x6_1) = true := decide_eq_true c9
       clear c9
       by_cases c10 : x6_1 ≤ x7_1
       ·
        rw [if_pos c10] at H
        have c10b0 := eq_true c10
        have c10b1 : decide (x6_1 ≤ x7_1) = true := decide_eq_true c10
        clear c10
        by_cases c11 : x7_1 ≤ (a0.size : Int)
        ·
         rw [if_pos c11] at H
         have c11b0 := eq_true c11
         have c11b1 : decide (x7_1 ≤ (a0.size : Int)) = true := decide_eq_true c11
         clear c11
         by_cases c12 : x5_1.length < 8796093022208
         ·
          rw [if_pos c12] at H
          have LMc12 := Aside0.mk c12
          clear c12
          obtain ⟨y130, hy130⟩ : ∃ y_ : List ByteArray, y_ = (x5_1 ++ [a0.extract (x6_1 : Int).toNat (x7_1 : Int).toNat]) := ⟨_, rfl⟩
          replace H : (spec_Cut.l0 k1 a0 a1 y130 (wrap64 (x7_1 + 1)) (wrap64 (x7_1 + 1))) = some r := by first | (rw [hy130]; with_reducible exact H) | (have H2_ := (Option.bind_some _ _).symm.trans H; rw [hy130]; with_reducible exact H2_) | (have H2_ := (Option.bind_some _ _).symm.trans H; with_reducible exact H2_) | with_reducible exact H | (rw [hy130]; exact H) | exact H
          have Ny130 := Aside0.mk hy130
          clear hy130
          have H' := Aside0.mk H
          clear H
          have p7 : 0 ≤ (x7_1 : Int) := of_decide_eq_true (by first | (with_reducible assumption) | assumption)
          have q7 : x7_1 < (a0.size : Int) := of_decide_eq_true (by first | (with_reducible assumption) | assumption)
          have hx7 := bt_at a0 x7_1
          replace p7 := eq_true p7
          replace q7 := eq_true q7
          go_wp2_with (first | ((with_reducible refine gate_builtin (b := .append) (xs := #[.tmp 20, .tmp 25]) rfl ?_); at_builtin; refine Kd.R_append Kd.string (w0 := w) w.heap.size rfl (.tmp 20) (.tmp 25) 30 9 (.string ⟨#[]⟩) 16 rfl Tryd.underlying30 info9 rfl (by decide) (by omega) u5 x5_1 (a0.extract (x6_1 : Int).toNat (x7_1 : Int).toNat) [.string (a0.extract (x6_1 : Int).toNat (x7_1 : Int).toNat)] (fun _ => True) (fun _ => False) rfl rfl ?aP (fun _ hk => hk.elim) ?aF ?aO ?aB ?aS ?aL ?_; (case aP => exact rfl); (case aB => exact (by repeat (first | (with_reducible first | exact HB.out | apply below_alloc | apply pw_below_drewN | apply below_drew1) | exact HB.out))); (case aF => exact (fun _ _ => trivial)); (case aO => exact (by (with_reducible repeat (first | apply Kd.R_alloc | apply Kd.R_drewN | apply Kd.R_drew)); exact HO_5.out)); (case aS => exact (below_size (by repeat (first | (with_reducible first | exact HB.out | apply below_alloc | apply pw_below_drewN | apply below_drew1) | exact HB.out)))); (case aL => have := LMc12.out; omega); intro v131 w13 ho hb hg hat; rw [← Ny130.out] at ho; have n0_ := Aside0.mk (hb); have n1_ := Aside0.mk (ho); clear HB; clear HO_5; have HB := n0_; have HO132 := n1_; clear n0_ n1_; clear ho hb hg hat))
          go_roundg k1
          case measure => have := HK1.out; omega
          case rel => exact ⟨(y130), (wrap64 (x7_1 + 1)), (wrap64 (x7_1 + 1)), (by first | rfl | (simp; done) | (simp [*]; done)), (by first | rfl | (simp; done) | (simp [*]; done)), H', ⟨by have := HK1.out; omega⟩, ⟨by (with_reducible repeat (first | apply Kd.R_alloc | apply Kd.R_drewN | apply Kd.R_drew)); exact HO132.out⟩, ⟨by repeat (first | (with_reducible first | exact HB.out | apply below_alloc | apply pw_below_drewN | apply below_drew1) | exact HB.out)⟩⟩
         ·
          rw [if_neg c12] at H
          exact absurd H (by simp)
        ·
         rw [if_neg c11] at H
         exact absurd H (by simp)
       ·
        rw [if_neg c10] at H
        exact absurd H (by simp)
      ·
       rw [if_neg c9] at H
       exact absurd H (by simp)
     ·
      rw [if_neg c8] at H
      have c8b0 : ((bt a0 x7_1) == a1) = false := beq_eq_false_iff_ne.mpr c8
      have c8b1 : ((bt a0 x7_1) != a1) = true := bne_iff_ne.mpr c8
      have H' := Aside0.mk H
      clear H
      have p7 : 0 ≤ (x7_1 : Int) := of_decide_eq_true (by first | (with_reducible assumption) | assumption)
      have q7 : x7_1 < (a0.size : Int) := of_decide_eq_true (by first | (with_reducible assumption) | assumption)
      have hx7 := bt_at a0 x7_1
      replace p7 := eq_true p7
      replace q7 := eq_true q7
      go_wp2
      go_roundg k1
      case measure => have := HK1.out; omega
      case rel => exact ⟨(x5_1), (x6_1), (wrap64 (x7_1 + 1)), (by first | rfl | (simp; done) | (simp [*]; done)), (by first | rfl | (simp; done) | (simp [*]; done)), H', ⟨by have := HK1.out; omega⟩, ⟨by (with_reducible repeat (first | apply Kd.R_alloc | apply Kd.R_drewN | apply Kd.R_drew)); exact HO_5.out⟩, ⟨by repeat (first | (with_reducible first | exact HB.out | apply below_alloc | apply pw_below_drewN | apply below_drew1) | exact HB.out)⟩⟩
    ·
     rw [if_neg c6] at H
     exact absurd H (by simp)
   ·
    rw [if_neg c5] at H
    have c5b0 : decide (x7_1 < (a0.size : Int)) = false := decide_eq_false c5
    clear c5
    by_cases c14 : 0 ≤ x6_1
    ·
     rw [if_pos c14] at H
     have c14b0 := eq_true c14
     have c14b1 : decide (0 ≤ x6_1) = true := decide_eq_true c14
     clear c14
     by_cases c15 : x6_1 ≤ (a0.size : Int)
     ·
      rw [if_pos c15] at H
      have c15b0 := eq_true c15
      have c15b1 : decide (x6_1 ≤ (a0.size : Int)) = true := decide_eq_true c15
      clear c15
      by_cases c16 : x5_1.length < 8796093022208
      ·
       rw [if_pos c16] at H
       have LMc16 := Aside0.mk c16
       clear c16
       obtain ⟨y133, hy133⟩ : ∃ y_ : List ByteArray, y_ = (x5_1 ++ [a0.extract (x6_1 : Int).toNat a0.size]) := ⟨_, rfl⟩
       replace H : (some y133) = some r := by first | (rw [hy133]; with_reducible exact H) | (have H2_ := (Option.bind_some _ _).symm.trans H; rw [hy133]; with_reducible exact H2_) | (have H2_ := (Option.bind_some _ _).symm.trans H; with_reducible exact H2_) | with_reducible exact H | (rw [hy133]; exact H) | exact H
       have Ny133 := Aside0.mk hy133
       clear hy133
       obtain rfl := Option.some.inj H
       go_wp2_with (first | ((with_reducible refine gate_builtin (b := .append) (xs := #[.tmp 29, .tmp 33]) rfl ?_); at_builtin; refine Kd.R_append Kd.string (w0 := w) w.heap.size rfl (.tmp 29) (.tmp 33) 30 9 (.string ⟨#[]⟩) 16 rfl Tryd.underlying30 info9 rfl (by decide) (by omega) u5 x5_1 (a0.extract (x6_1 : Int).toNat a0.size) [.string (a0.extract (x6_1 : Int).toNat a0.size)] (fun _ => True) (fun _ => False) rfl rfl ?aP (fun _ hk => hk.elim) ?aF ?aO ?aB ?aS ?aL ?_; (case aP => exact rfl); (case aB => exact (by repeat (first | (with_reducible first | exact HB.out | apply below_alloc | apply pw_below_drewN | apply below_drew1) | exact HB.out))); (case aF => exact (fun _ _ => trivial)); (case aO => exact (by (with_reducible repeat (first | apply Kd.R_alloc | apply Kd.R_drewN | apply Kd.R_drew)); exact HO_5.out)); (case aS => exact (below_size (by repeat (first | (with_reducible first | exact HB.out | apply below_alloc | apply pw_below_drewN | apply below_drew1) | exact HB.out)))); (case aL => have := LMc16.out; omega); intro v134 w17 ho hb hg hat; rw [← Ny133.out] at ho; have n0_ := Aside0.mk (hb); have n1_ := Aside0.mk (ho); clear HB; clear HO_5; have HB := n0_; have HO135 := n1_; clear n0_ n1_; clear ho hb hg hat))
       go_ret
       exact ⟨_, by first | rfl | (simp [errW_none, errW_some] <;> rfl) | (simp [*, errW_none, errW_some] <;> rfl), by (with_reducible repeat (first | apply Kd.R_alloc | apply Kd.R_drewN | apply Kd.R_drew)); exact HO135.out, by repeat (first | (with_reducible first | exact HB.out | apply below_alloc | apply pw_below_drewN | apply below_drew1) | exact HB.out)⟩
      ·
       rw [if_neg c16] at H
       exact absurd H (by simp)
     ·
      rw [if_neg c15] at H
      exact absurd H (by simp)
    ·
     rw [if_neg c14] at H
     exact absurd H (by simp)
def spec_Begins.f (a0 : ByteArray) (a1 : ByteArray) : Option (Bool) := if (a0.size : Int) ≥ (a1.size : Int) then (if 0 ≤ (a1.size : Int) then (if (a1.size : Int) ≤ (a0.size : Int) then (some ((a0.extract 0 ((a1.size : Int) : Int).toNat).toList == a1.toList)) else (none)) else (none)) else (some false)
set_option maxHeartbeats 8000000 in
set_option maxRecDepth 100000 in
theorem spec_Begins.calls (a0 : ByteArray) (a1 : ByteArray) (r : Bool) (w : World) (h : spec_Begins.f a0 a1 = some r) :
  Calls Tryd.prog 16 #[.string a0, .string a1] w fun e w' => e = .returned (.bool r) ∧ Drawn0 w w' := by
 have H : (if (a0.size : Int) ≥ (a1.size : Int) then (if 0 ≤ (a1.size : Int) then (if (a1.size : Int) ≤ (a0.size : Int) then (some ((a0.extract 0 ((a1.size : Int) : Int).toNat).toList == a1.toList)) else (none)) else (none)) else (some false)) = some r := h
 clear h
 by_cases c3 : (a0.size : Int) ≥ (a1.size : Int)
 ·
  rw [if_pos c3] at H
  have c3b0 : decide ((a1.size : Int) ≤ (a0.size : Int)) = true := decide_eq_true c3
  have c3b1 : decide (a1.size ≤ a0.size) = true := decide_eq_true (Int.ofNat_le.mp c3)
  clear c3
  by_cases c4 : 0 ≤ (a1.size : Int)
  ·
   rw [if_pos c4] at H
   have c4b0 := eq_true c4
   have c4b1 : decide (0 ≤ (a1.size : Int)) = true := decide_eq_true c4
   clear c4
   by_cases c5 : (a1.size : Int) ≤ (a0.size : Int)
   ·
    rw [if_pos c5] at H
    have c5b0 := eq_true c5
    have c5b1 : decide ((a1.size : Int) ≤ (a0.size : Int)) = true := decide_eq_true c5
    clear c5
    obtain rfl := Option.some.inj H
    go_enter Tryd.func16, Tryd.ntmps16
    go_wp2
    go_ret
    exact ⟨by first | rfl | (simp; done) | (simp [*]; done), by repeat (first | exact Drawn0.refl _ | apply Drawn0.step)⟩
   ·
    rw [if_neg c5] at H
    exact absurd H (by simp)
  ·
   rw [if_neg c4] at H
   exact absurd H (by simp)
 ·
  rw [if_neg c3] at H
  have c3b0 : decide ((a1.size : Int) ≤ (a0.size : Int)) = false := decide_eq_false c3
  have c3b1 : decide (a1.size ≤ a0.size) = false := decide_eq_false (fun h => c3 (Int.ofNat_le.mpr h))
  clear c3
  obtain rfl := Option.some.inj H
  go_enter Tryd.func16, Tryd.ntmps16
  go_wp2
  go_ret
  exact ⟨by first | rfl | (simp; done) | (simp [*]; done), by repeat (first | exact Drawn0.refl _ | apply Drawn0.step)⟩
def spec_letter.f (a0 : Int) : Option (Bool) := if a0 ≥ 97 then (some (decide (a0 ≤ 122))) else (some false)
set_option maxHeartbeats 8000000 in
set_option maxRecDepth 100000 in
theorem spec_letter.calls (a0 : Int) (r : Bool) (w : World) (h : spec_letter.f a0 = some r) :
  Calls Tryd.prog 18 #[.int .u8 a0] w fun e w' => e = .returned (.bool r) ∧ Drawn0 w w' := by
 have H : (if a0 ≥ 97 then (some (decide (a0 ≤ 122))) else (some false)) = some r := h
 clear h
 by_cases c2 : a0 ≥ 97
 ·
  rw [if_pos c2] at H
  have c2b0 : decide (97 ≤ a0) = true := decide_eq_true c2
  clear c2
  obtain rfl := Option.some.inj H
  go_enter Tryd.func18, Tryd.ntmps18
  go_wp2
  go_ret
  exact ⟨by first | rfl | (simp; done) | (simp [*]; done), by repeat (first | exact Drawn0.refl _ | apply Drawn0.step)⟩
 ·
  rw [if_neg c2] at H
  have c2b0 : decide (97 ≤ a0) = false := decide_eq_false c2
  clear c2
  obtain rfl := Option.some.inj H
  go_enter Tryd.func18, Tryd.ntmps18
  go_wp2
  go_ret
  exact ⟨by first | rfl | (simp; done) | (simp [*]; done), by repeat (first | exact Drawn0.refl _ | apply Drawn0.step)⟩
mutual
def spec_PathOk.l0 : Nat → ByteArray → Int → Option (Bool)
 | 0, _, _ => none
 | k + 1, x0, x3 => if x3 < (x0.size : Int) then (if 0 ≤ x3 then ((spec_letter.f (bt x0 x3)).bind fun t136 => (if t136 = true then (spec_PathOk.l0 k x0 (wrap64 (x3 + 1))) else (if (bt x0 x3) = 46 then (spec_PathOk.l0 k x0 (wrap64 (x3 + 1))) else (if (bt x0 x3) = 47 then (spec_PathOk.l0 k x0 (wrap64 (x3 + 1))) else (some false))))) else (none)) else ((spec_Cut.f k x0 47).bind fun t137 => (spec_PathOk.l1 k x0 t137 (t137.length : Int) 0))
def spec_PathOk.l1 : Nat → ByteArray → List ByteArray → Int → Int → Option (Bool)
 | 0, _, _, _, _ => none
 | k + 1, x0, x30, x31, x32 => if x32 < x31 then (if 0 ≤ x32 then (if x32 < (x30.length : Int) then (if (rdOf ByteArray.empty x30 x32).toList = ([] : List UInt8) then (some false) else (if 0 < ((rdOf ByteArray.empty x30 x32).size : Int) then ((spec_letter.f (bt (rdOf ByteArray.empty x30 x32) 0)).bind fun t142 => (if t142 = true then (if 0 ≤ (wrap64 (((rdOf ByteArray.empty x30 x32).size : Int) - 1)) then (if (wrap64 (((rdOf ByteArray.empty x30 x32).size : Int) - 1)) < ((rdOf ByteArray.empty x30 x32).size : Int) then ((spec_letter.f (bt (rdOf ByteArray.empty x30 x32) (wrap64 (((rdOf ByteArray.empty x30 x32).size : Int) - 1)))).bind fun t143 => (if t143 = true then (spec_PathOk.l1 k x0 x30 x31 (wrap64 (x32 + 1))) else (some false))) else (none)) else (none)) else (some false))) else (none))) else (none)) else (none)) else (if (x0.size : Int) ≤ 100 then ((spec_Begins.f x0 (⟨#[103, 111, 112, 107, 103, 46, 105, 110, 47]⟩ : ByteArray)).bind fun t140 => (some (!t140))) else (some false))
end
def spec_PathOk.f (k : Nat) (a0 : ByteArray) : Option (Bool) := spec_PathOk.l0 k a0 0
theorem spec_PathOk.mono_l : ∀ k, (∀ y0 y1, LeO (spec_PathOk.l0 k y0 y1) (spec_PathOk.l0 (k + 1) y0 y1)) ∧ (∀ y0 y1 y2 y3, LeO (spec_PathOk.l1 k y0 y1 y2 y3) (spec_PathOk.l1 (k + 1) y0 y1 y2 y3))
 | 0 => ⟨fun _ _ r h => by simp [spec_PathOk.l0] at h, fun _ _ _ _ r h => by simp [spec_PathOk.l1] at h⟩
 | k + 1 => by
  obtain ⟨ih0, ih1⟩ := spec_PathOk.mono_l k
  refine ⟨?_, ?_⟩
  ·
   intro y0 y1
   unfold spec_PathOk.l0
   repeat' first
   | (with_reducible exact ih0 _ _)
   | (with_reducible exact ih1 _ _ _ _)
   | (with_reducible exact spec_Cut.mono _ _ _)
   | (with_reducible exact LeO.refl _)
   | (with_reducible exact LeO.none _)
   | (with_reducible refine LeO.ite ?_ ?_)
   | (with_reducible refine LeO.bind ?_ (fun _ => ?_))
   | exact ih0 _ _
   | exact ih1 _ _ _ _
   | exact spec_Cut.mono _ _ _
   | exact LeO.none _
   | refine LeO.ite ?_ ?_
   | refine LeO.bind ?_ (fun _ => ?_)
  ·
   intro y0 y1 y2 y3
   unfold spec_PathOk.l1
   repeat' first
   | (with_reducible exact ih0 _ _)
   | (with_reducible exact ih1 _ _ _ _)
   | (with_reducible exact spec_Cut.mono _ _ _)
   | (with_reducible exact LeO.refl _)
   | (with_reducible exact LeO.none _)
   | (with_reducible refine LeO.ite ?_ ?_)
   | (with_reducible refine LeO.bind ?_ (fun _ => ?_))
   | exact ih0 _ _
   | exact ih1 _ _ _ _
   | exact spec_Cut.mono _ _ _
   | exact LeO.none _
   | refine LeO.ite ?_ ?_
   | refine LeO.bind ?_ (fun _ => ?_)
theorem spec_PathOk.mono : ∀ a0 k, LeO (spec_PathOk.f k a0) (spec_PathOk.f (k + 1) a0) := by
 intro a0 k
 obtain ⟨ih0, ih1⟩ := spec_PathOk.mono_l k
 unfold spec_PathOk.f
 repeat' first
   | (with_reducible exact ih0 _ _)
   | (with_reducible exact ih1 _ _ _ _)
   | (with_reducible exact spec_Cut.mono _ _ _)
   | (with_reducible exact LeO.refl _)
   | (with_reducible exact LeO.none _)
   | (with_reducible refine LeO.ite ?_ ?_)
   | (with_reducible refine LeO.bind ?_ (fun _ => ?_))
   | exact ih0 _ _
   | exact ih1 _ _ _ _
   | exact spec_Cut.mono _ _ _
   | exact LeO.none _
   | refine LeO.ite ?_ ?_
   | refine LeO.bind ?_ (fun _ => ?_)
set_option maxHeartbeats 8000000 in
set_option maxRecDepth 100000 in
theorem spec_PathOk.calls (k : Nat) (a0 : ByteArray) (r : Bool) (w : World) (h : spec_PathOk.f k a0 = some r) :
  Calls Tryd.prog 9 #[.string a0] w fun e w' => e = .returned (.bool r) ∧ Below w.heap.size w w' := by
 have HB := Aside0.mk (Below.refl w.heap.size w)
 have H : (spec_PathOk.l0 k a0 0) = some r := h
 clear h
 have H' := Aside0.mk H
 clear H
 go_enter Tryd.func9, Tryd.ntmps9
 go_wp2
 go_loopg [3] k (fun kq v3 w' => ∃ (x3_1 : Int), v3 = .int .i64 x3_1 ∧ Aside0 (spec_PathOk.l0 kq a0 x3_1 = some r) ∧ Aside0 (kq ≤ k) ∧ Aside0 (Below w.heap.size w w'))
 case atStart => exact ⟨(0), (by first | rfl | (simp; done) | (simp [*]; done)), H', ⟨Nat.le_refl _⟩, ⟨by repeat (first | (with_reducible first | exact HB.out | apply below_alloc | apply pw_below_drewN | apply below_drew1) | exact HB.out)⟩⟩
 case round =>
  clear H'
  obtain ⟨x3_1, rfl, HA, HK1, HB⟩ := hrel
  cases gk with
  | zero => exact absurd HA.out (by simp [spec_PathOk.l0])
  | succ k1 =>
   have H := HA.out
   clear HA
   simp only [spec_PathOk.l0] at H
   by_cases c2 : x3_1 < (a0.size : Int)
   ·
    rw [if_pos c2] at H
    have c2b0 : decide (x3_1 < (a0.size : Int)) = true := decide_eq_true c2
    clear c2
    by_cases c3 : 0 ≤ x3_1
    ·
     rw [if_pos c3] at H
     have c3b0 : decide (0 ≤ x3_1) = true := decide_eq_true c3
     clear c3
     replace H := Option.bind_eq_some_iff.mp H
     obtain ⟨t136, A50, H⟩ := H
     replace H : (if t136 = true then (spec_PathOk.l0 k1 a0 (wrap64 (x3_1 + 1))) else (if (bt a0 x3_1) = 46 then (spec_PathOk.l0 k1 a0 (wrap64 (x3_1 + 1))) else (if (bt a0 x3_1) = 47 then (spec_PathOk.l0 k1 a0 (wrap64 (x3_1 + 1))) else (some false)))) = some r := H
     have A5 := Aside0.mk A50
     clear A50
     by_cases c6 : t136 = true
     ·
      subst c6
      have H1 : (spec_PathOk.l0 k1 a0 (wrap64 (x3_1 + 1))) = some r := by rw [if_pos rfl] at H; exact H
      clear H
      have H := H1
      clear H1
      have H' := Aside0.mk H
      clear H
      have p4 : 0 ≤ (x3_1 : Int) := of_decide_eq_true (by first | (with_reducible assumption) | assumption)
      have q4 : x3_1 < (a0.size : Int) := of_decide_eq_true (by first | (with_reducible assumption) | assumption)
      have hx4 := bt_at a0 x3_1
      replace p4 := eq_true p4
      replace q4 := eq_true q4
      go_wp2_with (first | ((with_reducible refine gate_callee (f := 18) rfl ?_); refine goesL_ (some 15) rfl rfl Tryd.func18 (by kernel_rfl) rfl #[.int .u8 (bt a0 x3_1)] rfl (by (try simp only [List.map_toArray, List.map_cons, List.map_nil]); first | done | rfl | (simp only [List.length_drop, List.length_take]; rfl)) ?_; (with_reducible refine (spec_letter.calls (bt a0 x3_1) true _ A5.out).mono ?_); rintro e w' ⟨rfl, ⟨nd, rfl⟩⟩; refine ⟨_, rfl, ?_⟩))
      go_roundg k1
      case measure => have := HK1.out; omega
      case rel => exact ⟨(wrap64 (x3_1 + 1)), (by first | rfl | (simp; done) | (simp [*]; done)), H', ⟨by have := HK1.out; omega⟩, ⟨by repeat (first | (with_reducible first | exact HB.out | apply below_alloc | apply pw_below_drewN | apply below_drew1) | exact HB.out)⟩⟩
     ·
      replace c6 := Bool.eq_false_iff.mpr c6
      subst c6
      have H1 : (if (bt a0 x3_1) = 46 then (spec_PathOk.l0 k1 a0 (wrap64 (x3_1 + 1))) else (if (bt a0 x3_1) = 47 then (spec_PathOk.l0 k1 a0 (wrap64 (x3_1 + 1))) else (some false))) = some r := by rw [if_neg (show ¬ (false = true) by decide)] at H; exact H
      clear H
      have H := H1
      clear H1
      by_cases c8 : (bt a0 x3_1) = 46
      ·
       rw [if_pos c8] at H
       have c8b0 : ((bt a0 x3_1) == 46) = true := beq_iff_eq.mpr c8
       have c8b1 : ((bt a0 x3_1) != 46) = false := bne_eq_false_iff_eq.mpr c8
       clear c8
       have H' := Aside0.mk H
       clear H
       have p4 : 0 ≤ (x3_1 : Int) := of_decide_eq_true (by first | (with_reducible assumption) | assumption)
       have q4 : x3_1 < (a0.size : Int) := of_decide_eq_true (by first | (with_reducible assumption) | assumption)
       have hx4 := bt_at a0 x3_1
       replace p4 := eq_true p4
       replace q4 := eq_true q4
       go_wp2_with (first | ((with_reducible refine gate_callee (f := 18) rfl ?_); refine goesL_ (some 15) rfl rfl Tryd.func18 (by kernel_rfl) rfl #[.int .u8 (bt a0 x3_1)] rfl (by (try simp only [List.map_toArray, List.map_cons, List.map_nil]); first | done | rfl | (simp only [List.length_drop, List.length_take]; rfl)) ?_; (with_reducible refine (spec_letter.calls (bt a0 x3_1) false _ A5.out).mono ?_); rintro e w' ⟨rfl, ⟨nd, rfl⟩⟩; refine ⟨_, rfl, ?_⟩; have p7 : 0 ≤ (x3_1 : Int) := of_decide_eq_true (by first | (with_reducible assumption) | assumption); have q7 : x3_1 < (a0.size : Int) := of_decide_eq_true (by first | (with_reducible assumption) | assumption); have hx7 := bt_at a0 x3_1; replace p7 := eq_true p7; replace q7 := eq_true q7))
       go_roundg k1
       case measure => have := HK1.out; omega
       case rel => exact ⟨(wrap64 (x3_1 + 1)), (by first | rfl | (simp; done) | (simp [*]; done)), H', ⟨by have := HK1.out; omega⟩, ⟨by repeat (first | (with_reducible first | exact HB.out | apply below_alloc | apply pw_below_drewN | apply below_drew1) | exact HB.out)⟩⟩
      ·
       rw [if_neg c8] at H
       have c8b0 : ((bt a0 x3_1) == 46) = false := beq_eq_false_iff_ne.mpr c8
       have c8b1 : ((bt a0 x3_1) != 46) = true := bne_iff_ne.mpr c8
       by_cases c10 : (bt a0 x3_1) = 47
       ·
        rw [if_pos c10] at H
        have c10b0 : ((bt a0 x3_1) == 47) = true := beq_iff_eq.mpr c10
        have c10b1 : ((bt a0 x3_1) != 47) = false := bne_eq_false_iff_eq.mpr c10
        clear c10
        have H' := Aside0.mk H
        clear H
        have p4 : 0 ≤ (x3_1 : Int) := of_decide_eq_true (by first | (with_reducible assumption) | assumption)
        have q4 : x3_1 < (a0.size : Int) := of_decide_eq_true (by first | (with_reducible assumption) | assumption)
        have hx4 := bt_at a0 x3_1
        replace p4 := eq_true p4
        replace q4 := eq_true q4
        go_wp2_with (first | ((with_reducible refine gate_callee (f := 18) rfl ?_); refine goesL_ (some 15) rfl rfl Tryd.func18 (by kernel_rfl) rfl #[.int .u8 (bt a0 x3_1)] rfl (by (try simp only [List.map_toArray, List.map_cons, List.map_nil]); first | done | rfl | (simp only [List.length_drop, List.length_take]; rfl)) ?_; (with_reducible refine (spec_letter.calls (bt a0 x3_1) false _ A5.out).mono ?_); rintro e w' ⟨rfl, ⟨nd, rfl⟩⟩; refine ⟨_, rfl, ?_⟩; have p7 : 0 ≤ (x3_1 : Int) := of_decide_eq_true (by first | (with_reducible assumption) | assumption); have q7 : x3_1 < (a0.size : Int) := of_decide_eq_true (by first | (with_reducible assumption) | assumption); have hx7 := bt_at a0 x3_1; replace p7 := eq_true p7; replace q7 := eq_true q7; have p9 : 0 ≤ (x3_1 : Int) := of_decide_eq_true (by first | (with_reducible assumption) | assumption); have q9 : x3_1 < (a0.size : Int) := of_decide_eq_true (by first | (with_reducible assumption) | assumption); have hx9 := bt_at a0 x3_1; replace p9 := eq_true p9; replace q9 := eq_true q9))
        go_roundg k1
        case measure => have := HK1.out; omega
        case rel => exact ⟨(wrap64 (x3_1 + 1)), (by first | rfl | (simp; done) | (simp [*]; done)), H', ⟨by have := HK1.out; omega⟩, ⟨by repeat (first | (with_reducible first | exact HB.out | apply below_alloc | apply pw_below_drewN | apply below_drew1) | exact HB.out)⟩⟩
       ·
        rw [if_neg c10] at H
        have c10b0 : ((bt a0 x3_1) == 47) = false := beq_eq_false_iff_ne.mpr c10
        have c10b1 : ((bt a0 x3_1) != 47) = true := bne_iff_ne.mpr c10
        obtain rfl := Option.some.inj H
        have p4 : 0 ≤ (x3_1 : Int) := of_decide_eq_true (by first | (with_reducible assumption) | assumption)
        have q4 : x3_1 < (a0.size : Int) := of_decide_eq_true (by first | (with_reducible assumption) | assumption)
        have hx4 := bt_at a0 x3_1
        replace p4 := eq_true p4
        replace q4 := eq_true q4
        go_wp2_with (first | ((with_reducible refine gate_callee (f := 18) rfl ?_); refine goesL_ (some 15) rfl rfl Tryd.func18 (by kernel_rfl) rfl #[.int .u8 (bt a0 x3_1)] rfl (by (try simp only [List.map_toArray, List.map_cons, List.map_nil]); first | done | rfl | (simp only [List.length_drop, List.length_take]; rfl)) ?_; (with_reducible refine (spec_letter.calls (bt a0 x3_1) false _ A5.out).mono ?_); rintro e w' ⟨rfl, ⟨nd, rfl⟩⟩; refine ⟨_, rfl, ?_⟩; have p7 : 0 ≤ (x3_1 : Int) := of_decide_eq_true (by first | (with_reducible assumption) | assumption); have q7 : x3_1 < (a0.size : Int) := of_decide_eq_true (by first | (with_reducible assumption) | assumption); have hx7 := bt_at a0 x3_1; replace p7 := eq_true p7; replace q7 := eq_true q7; have p9 : 0 ≤ (x3_1 : Int) := of_decide_eq_true (by first | (with_reducible assumption) | assumption); have q9 : x3_1 < (a0.size : Int) := of_decide_eq_true (by first | (with_reducible assumption) | assumption); have hx9 := bt_at a0 x3_1; replace p9 := eq_true p9; replace q9 := eq_true q9))
        go_ret
        exact ⟨by first | rfl | (simp [errW_none, errW_some] <;> rfl) | (simp [*, errW_none, errW_some] <;> rfl), by repeat (first | (with_reducible first | exact HB.out | apply below_alloc | apply pw_below_drewN | apply below_drew1) | exact HB.out)⟩
    ·
     rw [if_neg c3] at H
     exact absurd H (by simp)
   ·
    rw [if_neg c2] at H
    have c2b0 : decide (x3_1 < (a0.size : Int)) = false := decide_eq_false c2
    clear c2
    replace H := Option.bind_eq_some_iff.mp H
    obtain ⟨t137, A110, H⟩ := H
    replace H : (spec_PathOk.l1 k1 a0 t137 (t137.length : Int) 0) = some r := H
    have A11 := Aside0.mk A110
    clear A110
    have H' := Aside0.mk H
    clear H
    go_wp2_with (first | ((with_reducible refine gate_callee (f := 14) rfl ?_); refine goesL_ (some 30) rfl rfl Tryd.func14 (by kernel_rfl) rfl #[.string a0, .int .u8 47] rfl (by (try simp only [List.map_toArray, List.map_cons, List.map_nil]); first | done | rfl | (simp only [List.length_drop, List.length_take]; rfl)) ?_; (with_reducible refine (spec_Cut.calls k1 a0 47 t137 _ A11.out).mono ?_); rintro e w12 ⟨v138, rfl, ho0, hb⟩; refine ⟨_, rfl, ?_⟩; have n0_ := Aside0.mk (Kd.R_lower ho0 (below_size (by repeat (first | (with_reducible first | exact HB.out | apply below_alloc | apply pw_below_drewN | apply below_drew1) | exact HB.out)))); have n1_ := Aside0.mk (below_step (by repeat (first | (with_reducible first | exact HB.out | apply below_alloc | apply pw_below_drewN | apply below_drew1) | exact HB.out)) hb); clear HB; have HO139 := n0_; have HB := n1_; clear n0_ n1_; (try clear hb); (try clear hb2); (try clear hk); (try clear hi); (try clear ho0); obtain ⟨Ao13, co13, eo13⟩ := Kd.R_slice HO139.out; subst eo13))
    go_loopg [32] k1 (fun kq v32 w' => ∃ (x32_2 : Int), v32 = .int .i64 x32_2 ∧ Aside0 (spec_PathOk.l1 kq a0 t137 (t137.length : Int) x32_2 = some r) ∧ Aside0 (kq ≤ k1) ∧ Aside0 (Kd.R Kd.string 9 w' w.heap.size (fun _ => True) (.slice Ao13 t137.length co13) t137) ∧ Aside0 (Below w.heap.size w w'))
    case atStart => exact ⟨(0), (by first | rfl | (simp; done) | (simp [*]; done)), H', ⟨Nat.le_refl _⟩, ⟨by (with_reducible repeat (first | apply Kd.R_alloc | apply Kd.R_drewN | apply Kd.R_drew)); exact HO139.out⟩, ⟨by repeat (first | (with_reducible first | exact HB.out | apply below_alloc | apply pw_below_drewN | apply below_drew1) | exact HB.out)⟩⟩
    case round =>
     clear H'
     clear c2b0
     obtain ⟨x32_2, rfl, HA, HK2, HO_30, HB⟩ := hrel
     cases gk with
     | zero => exact absurd HA.out (by simp [spec_PathOk.l1])
     | succ k2 =>
      have H := HA.out
      clear HA
      simp only [spec_PathOk.l1] at H
      by_cases c14 : x32_2 < (t137.length : Int)
      ·
       rw [if_pos c14] at H
       have c14b0 : decide (x32_2 < (t137.length : Int)) = true := decide_eq_true c14
       clear c14
       by_cases c15 : 0 ≤ x32_2
       ·
        rw [if_pos c15] at H
        have c15b0 : decide (0 ≤ x32_2) = true := decide_eq_true c15
        clear c15
        by_cases c16 : x32_2 < (t137.length : Int)
        ·
         rw [if_pos c16] at H
         have c16b0 : decide (x32_2 < (t137.length : Int)) = true := decide_eq_true c16
         clear c16
         by_cases c17 : (rdOf ByteArray.empty t137 x32_2).toList = ([] : List UInt8)
         ·
          rw [if_pos c17] at H
          have c17b0 : ((rdOf ByteArray.empty t137 x32_2).toList == ([] : List UInt8)) = true := beq_iff_eq.mpr c17
          have c17b1 : ((rdOf ByteArray.empty t137 x32_2).toList != ([] : List UInt8)) = false := bne_eq_false_iff_eq.mpr c17
          clear c17
          obtain rfl := Option.some.inj H
          have p141 : 0 ≤ (x32_2 : Int) := of_decide_eq_true (by first | (with_reducible assumption) | assumption)
          have q141 : x32_2 < (t137.length : Int) := of_decide_eq_true (by first | (with_reducible assumption) | assumption)
          obtain ⟨ad141, e141, hx141_0⟩ := Kd.at_string (Kd.R_reads' HO_30.out).2.2 x32_2 p141 q141
          cases e141
          replace p141 := eq_true p141
          replace q141 := eq_true q141
          go_wp2
          go_ret
          exact ⟨by first | rfl | (simp [errW_none, errW_some] <;> rfl) | (simp [*, errW_none, errW_some] <;> rfl), by repeat (first | (with_reducible first | exact HB.out | apply below_alloc | apply pw_below_drewN | apply below_drew1) | exact HB.out)⟩
         ·
          rw [if_neg c17] at H
          have c17b0 : ((rdOf ByteArray.empty t137 x32_2).toList == ([] : List UInt8)) = false := beq_eq_false_iff_ne.mpr c17
          have c17b1 : ((rdOf ByteArray.empty t137 x32_2).toList != ([] : List UInt8)) = true := bne_iff_ne.mpr c17
          by_cases c18 : 0 < ((rdOf ByteArray.empty t137 x32_2).size : Int)
          ·
           rw [if_pos c18] at H
           have c18b0 : decide (0 < ((rdOf ByteArray.empty t137 x32_2).size : Int)) = true := decide_eq_true c18
           have c18b1 : decide (0 < (rdOf ByteArray.empty t137 x32_2).size) = true := decide_eq_true (by omega)
           clear c18
           replace H := Option.bind_eq_some_iff.mp H
           obtain ⟨t142, A200, H⟩ := H
           replace H : (if t142 = true then (if 0 ≤ (wrap64 (((rdOf ByteArray.empty t137 x32_2).size : Int) - 1)) then (if (wrap64 (((rdOf ByteArray.empty t137 x32_2).size : Int) - 1)) < ((rdOf ByteArray.empty t137 x32_2).size : Int) then ((spec_letter.f (bt (rdOf ByteArray.empty t137 x32_2) (wrap64 (((rdOf ByteArray.empty t137 x32_2).size : Int) - 1)))).bind fun t143 => (if t143 = true then (spec_PathOk.l1 k2 a0 t137 (t137.length : Int) (wrap64 (x32_2 + 1))) else (some false))) else (none)) else (none)) else (some false)) = some r := H
           have A20 := Aside0.mk A200
           clear A200
           by_cases c21 : t142 = true
           ·
            subst c21
            have H1 : (if 0 ≤ (wrap64 (((rdOf ByteArray.empty t137 x32_2).size : Int) - 1)) then (if (wrap64 (((rdOf ByteArray.empty t137 x32_2).size : Int) - 1)) < ((rdOf ByteArray.empty t137 x32_2).size : Int) then ((spec_letter.f (bt (rdOf ByteArray.empty t137 x32_2) (wrap64 (((rdOf ByteArray.empty t137 x32_2).size : Int) - 1)))).bind fun t143 => (if t143 = true then (spec_PathOk.l1 k2 a0 t137 (t137.length : Int) (wrap64 (x32_2 + 1))) else (some false))) else (none)) else (none)) = some r := by rw [if_pos rfl] at H; exact H
            clear H
            have H := H1
            clear H1
            obtain ⟨ji22, hji22⟩ : ∃ j_ : Int, (wrap64 (((rdOf ByteArray.empty t137 x32_2).size : Int) - 1)) = j_ := ⟨_, rfl⟩
            replace H : (if 0 ≤ (ji22) then (if (ji22) < ((rdOf ByteArray.empty t137 x32_2).size : Int) then ((spec_letter.f (bt (rdOf ByteArray.empty t137 x32_2) (ji22))).bind fun t143 => (if t143 = true then (spec_PathOk.l1 k2 a0 t137 (t137.length : Int) (wrap64 (x32_2 + 1))) else (some false))) else (none)) else (none)) = some r := by first | (rw [hji22] at H; exact H) | (simp only [hji22] at H ⊢; exact H)
            (try rw [hji22] at A20)
            have hji22w : (IntKind.i64.wrap (((rdOf ByteArray.empty t137 x32_2).size : Int) - 1)) = ji22 := (i64_w _).trans hji22
            by_cases c23 : 0 ≤ (ji22)
            ·
             rw [if_pos c23] at H
             have c23b0 : decide (0 ≤ (ji22)) = true := decide_eq_true c23
             clear c23
             by_cases c24 : (ji22) < ((rdOf ByteArray.empty t137 x32_2).size : Int)
             ·
              rw [if_pos c24] at H
              have c24b0 : decide ((ji22) < ((rdOf ByteArray.empty t137 x32_2).size : Int)) = true := decide_eq_true c24
              clear c24
              replace H := Option.bind_eq_some_iff.mp H
              obtain ⟨t143, A260, H⟩ := H
              replace H : (if t143 = true then (spec_PathOk.l1 k2 a0 t137 (t137.length : Int) (wrap64 (x32_2 + 1))) else (some false)) = some r := H
              have A26 := Aside0.mk A260
              clear A260
              by_cases c27 : t143 = true
              ·
               subst c27
               have H1 : (spec_PathOk.l1 k2 a0 t137 (t137.length : Int) (wrap64 (x32_2 + 1))) = some r := by rw [if_pos rfl] at H; exact H
               clear H
               have H := H1
               clear H1
               have H' := Aside0.mk H
               clear H
               have p141 : 0 ≤ (x32_2 : Int) := of_decide_eq_true (by first | (with_reducible assumption) | assumption)
               have q141 : x32_2 < (t137.length : Int) := of_decide_eq_true (by first | (with_reducible assumption) | assumption)
               obtain ⟨ad141, e141, hx141_0⟩ := Kd.at_string (Kd.R_reads' HO_30.out).2.2 x32_2 p141 q141
               cases e141
               replace p141 := eq_true p141
               replace q141 := eq_true q141
               have p19 : 0 ≤ (0 : Int) := (by omega)
               have q19 : 0 < (rdOf ByteArray.empty t137 x32_2).size := (by have : (0 : Int) < ((rdOf ByteArray.empty t137 x32_2).size : Int) := of_decide_eq_true (by first | (with_reducible assumption) | assumption); omega)
               have hx19 : ∀ h : 0 < (rdOf ByteArray.empty t137 x32_2).size, (((rdOf ByteArray.empty t137 x32_2)[0]'h).toNat : Int) = bt (rdOf ByteArray.empty t137 x32_2) 0 := bt_at (rdOf ByteArray.empty t137 x32_2) 0
               clear p19
               have qi19 : (0 < ((rdOf ByteArray.empty t137 x32_2).size : Int)) = True := eq_true (of_decide_eq_true (by first | (with_reducible assumption) | assumption))
               replace q19 := eq_true q19
               go_wp2_with (first | (go_at_call 18; (with_reducible refine (spec_letter.calls (bt (rdOf ByteArray.empty t137 x32_2) 0) true _ A20.out).mono ?_); rintro e w' ⟨rfl, ⟨nd, rfl⟩⟩; have p25 : 0 ≤ ((ji22) : Int) := of_decide_eq_true (by first | (with_reducible assumption) | assumption); have q25 : (ji22) < ((rdOf ByteArray.empty t137 x32_2).size : Int) := of_decide_eq_true (by first | (with_reducible assumption) | assumption); have hx25 := bt_at (rdOf ByteArray.empty t137 x32_2) (ji22); replace p25 := eq_true p25; replace q25 := eq_true q25) | (go_at_call 18; (with_reducible refine (spec_letter.calls (bt (rdOf ByteArray.empty t137 x32_2) (ji22)) true _ A26.out).mono ?_); rintro e w' ⟨rfl, ⟨nd, rfl⟩⟩))
               go_roundg k2
               case measure => have := HK1.out; have := HK2.out; omega
               case rel => exact ⟨(wrap64 (x32_2 + 1)), (by first | rfl | (simp; done) | (simp [*]; done)), H', ⟨by have := HK1.out; have := HK2.out; omega⟩, ⟨by (with_reducible repeat (first | apply Kd.R_alloc | apply Kd.R_drewN | apply Kd.R_drew)); exact HO_30.out⟩, ⟨by repeat (first | (with_reducible first | exact HB.out | apply below_alloc | apply pw_below_drewN | apply below_drew1) | exact HB.out)⟩⟩
              ·
               replace c27 := Bool.eq_false_iff.mpr c27
               subst c27
               have H1 : (some false) = some r := by rw [if_neg (show ¬ (false = true) by decide)] at H; exact H
               clear H
               have H := H1
               clear H1
               obtain rfl := Option.some.inj H
               have p141 : 0 ≤ (x32_2 : Int) := of_decide_eq_true (by first | (with_reducible assumption) | assumption)
               have q141 : x32_2 < (t137.length : Int) := of_decide_eq_true (by first | (with_reducible assumption) | assumption)
               obtain ⟨ad141, e141, hx141_0⟩ := Kd.at_string (Kd.R_reads' HO_30.out).2.2 x32_2 p141 q141
               cases e141
               replace p141 := eq_true p141
               replace q141 := eq_true q141
               have p19 : 0 ≤ (0 : Int) := (by omega)
               have q19 : 0 < (rdOf ByteArray.empty t137 x32_2).size := (by have : (0 : Int) < ((rdOf ByteArray.empty t137 x32_2).size : Int) := of_decide_eq_true (by first | (with_reducible assumption) | assumption); omega)
               have hx19 : ∀ h : 0 < (rdOf ByteArray.empty t137 x32_2).size, (((rdOf ByteArray.empty t137 x32_2)[0]'h).toNat : Int) = bt (rdOf ByteArray.empty t137 x32_2) 0 := bt_at (rdOf ByteArray.empty t137 x32_2) 0
               clear p19
               have qi19 : (0 < ((rdOf ByteArray.empty t137 x32_2).size : Int)) = True := eq_true (of_decide_eq_true (by first | (with_reducible assumption) | assumption))
               replace q19 := eq_true q19
               go_wp2_with (first | (go_at_call 18; (with_reducible refine (spec_letter.calls (bt (rdOf ByteArray.empty t137 x32_2) 0) true _ A20.out).mono ?_); rintro e w' ⟨rfl, ⟨nd, rfl⟩⟩; have p25 : 0 ≤ ((ji22) : Int) := of_decide_eq_true (by first | (with_reducible assumption) | assumption); have q25 : (ji22) < ((rdOf ByteArray.empty t137 x32_2).size : Int) := of_decide_eq_true (by first | (with_reducible assumption) | assumption); have hx25 := bt_at (rdOf ByteArray.empty t137 x32_2) (ji22); replace p25 := eq_true p25; replace q25 := eq_true q25) | (go_at_call 18; (with_reducible refine (spec_letter.calls (bt (rdOf ByteArray.empty t137 x32_2) (ji22)) false _ A26.out).mono ?_); rintro e w' ⟨rfl, ⟨nd, rfl⟩⟩))
               go_ret
               exact ⟨by first | rfl | (simp [errW_none, errW_some] <;> rfl) | (simp only [← hji22]; first | rfl | (simp [errW_none, errW_some] <;> rfl)) | (simp [*, errW_none, errW_some] <;> rfl), by repeat (first | (with_reducible first | exact HB.out | apply below_alloc | apply pw_below_drewN | apply below_drew1) | exact HB.out)⟩
             ·
              rw [if_neg c24] at H
              exact absurd H (by simp)
            ·
             rw [if_neg c23] at H
             exact absurd H (by simp)
           ·
            replace c21 := Bool.eq_false_iff.mpr c21
            subst c21
            have H1 : (some false) = some r := by rw [if_neg (show ¬ (false = true) by decide)] at H; exact H
            clear H
            have H := H1
            clear H1
            obtain rfl := Option.some.inj H
            have p141 : 0 ≤ (x32_2 : Int) := of_decide_eq_true (by first | (with_reducible assumption) | assumption)
            have q141 : x32_2 < (t137.length : Int) := of_decide_eq_true (by first | (with_reducible assumption) | assumption)
            obtain ⟨ad141, e141, hx141_0⟩ := Kd.at_string (Kd.R_reads' HO_30.out).2.2 x32_2 p141 q141
            cases e141
            replace p141 := eq_true p141
            replace q141 := eq_true q141
            have p19 : 0 ≤ (0 : Int) := (by omega)
            have q19 : 0 < (rdOf ByteArray.empty t137 x32_2).size := (by have : (0 : Int) < ((rdOf ByteArray.empty t137 x32_2).size : Int) := of_decide_eq_true (by first | (with_reducible assumption) | assumption); omega)
            have hx19 : ∀ h : 0 < (rdOf ByteArray.empty t137 x32_2).size, (((rdOf ByteArray.empty t137 x32_2)[0]'h).toNat : Int) = bt (rdOf ByteArray.empty t137 x32_2) 0 := bt_at (rdOf ByteArray.empty t137 x32_2) 0
            clear p19
            have qi19 : (0 < ((rdOf ByteArray.empty t137 x32_2).size : Int)) = True := eq_true (of_decide_eq_true (by first | (with_reducible assumption) | assumption))
            replace q19 := eq_true q19
            go_wp2_with (first | (go_at_call 18; (with_reducible refine (spec_letter.calls (bt (rdOf ByteArray.empty t137 x32_2) 0) false _ A20.out).mono ?_); rintro e w' ⟨rfl, ⟨nd, rfl⟩⟩))
            go_ret
            exact ⟨by first | rfl | (simp [errW_none, errW_some] <;> rfl) | (simp [*, errW_none, errW_some] <;> rfl), by repeat (first | (with_reducible first | exact HB.out | apply below_alloc | apply pw_below_drewN | apply below_drew1) | exact HB.out)⟩
          ·
           rw [if_neg c18] at H
           exact absurd H (by simp)
        ·
         rw [if_neg c16] at H
         exact absurd H (by simp)
       ·
        rw [if_neg c15] at H
        exact absurd H (by simp)
      ·
       rw [if_neg c14] at H
       have c14b0 : decide (x32_2 < (t137.length : Int)) = false := decide_eq_false c14
       clear c14
       by_cases c28 : (a0.size : Int) ≤ 100
       ·
        rw [if_pos c28] at H
        have c28b0 : decide ((a0.size : Int) ≤ 100) = true := decide_eq_true c28
        have c28b1 : decide (a0.size ≤ 100) = true := decide_eq_true (by omega)
        clear c28
        replace H := Option.bind_eq_some_iff.mp H
        obtain ⟨t140, A290, H⟩ := H
        replace H : (some (!t140)) = some r := H
        have A29 := Aside0.mk A290
        clear A290
        obtain rfl := Option.some.inj H
        go_wp2_with (first | (go_at_call 16; (with_reducible refine (spec_Begins.calls a0 (⟨#[103, 111, 112, 107, 103, 46, 105, 110, 47]⟩ : ByteArray) t140 _ A29.out).mono ?_); rintro e w' ⟨rfl, ⟨nd, rfl⟩⟩))
        go_ret
        exact ⟨by first | rfl | (simp [errW_none, errW_some] <;> rfl) | (simp [*, errW_none, errW_some] <;> rfl), by repeat (first | (with_reducible first | exact HB.out | apply below_alloc | apply pw_below_drewN | apply below_drew1) | exact HB.out)⟩
       ·
        rw [if_neg c28] at H
        have c28b0 : decide ((a0.size : Int) ≤ 100) = false := decide_eq_false c28
        have c28b1 : decide (a0.size ≤ 100) = false := decide_eq_false (by omega)
        clear c28
        obtain rfl := Option.some.inj H
        go_wp2
        go_ret
        exact ⟨by first | rfl | (simp [errW_none, errW_some] <;> rfl) | (simp [*, errW_none, errW_some] <;> rfl), by repeat (first | (with_reducible first | exact HB.out | apply below_alloc | apply pw_below_drewN | apply below_drew1) | exact HB.out)⟩
def spec_digit.f (a0 : Int) : Option (Bool) := if a0 ≥ 48 then (some (decide (a0 ≤ 57))) else (some false)
set_option maxHeartbeats 8000000 in
set_option maxRecDepth 100000 in
theorem spec_digit.calls (a0 : Int) (r : Bool) (w : World) (h : spec_digit.f a0 = some r) :
  Calls Tryd.prog 43 #[.int .u8 a0] w fun e w' => e = .returned (.bool r) ∧ Drawn0 w w' := by
 have H : (if a0 ≥ 48 then (some (decide (a0 ≤ 57))) else (some false)) = some r := h
 clear h
 by_cases c2 : a0 ≥ 48
 ·
  rw [if_pos c2] at H
  have c2b0 : decide (48 ≤ a0) = true := decide_eq_true c2
  clear c2
  obtain rfl := Option.some.inj H
  go_enter Tryd.func43, Tryd.ntmps43
  go_wp2
  go_ret
  exact ⟨by first | rfl | (simp; done) | (simp [*]; done), by repeat (first | exact Drawn0.refl _ | apply Drawn0.step)⟩
 ·
  rw [if_neg c2] at H
  have c2b0 : decide (48 ≤ a0) = false := decide_eq_false c2
  clear c2
  obtain rfl := Option.some.inj H
  go_enter Tryd.func43, Tryd.ntmps43
  go_wp2
  go_ret
  exact ⟨by first | rfl | (simp; done) | (simp [*]; done), by repeat (first | exact Drawn0.refl _ | apply Drawn0.step)⟩
end Go.Proofs.YtlnmchehnhgfnaaDoor.PCont
