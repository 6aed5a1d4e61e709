/- Functions of the program and their contracts, as the print writes them, cut to what this claim uses. -/
import Derived.Test.YtlnmchehnhgfnaaDoorZPContx0
import Derived.Test.YtlnmchehnhgfnaaDoorZPContx2
import Derived.Test.YtlnmchehnhgfnaaDoorZPContx4
namespace Go.Proofs.YtlnmchehnhgfnaaDoor.PCont
open Go.RowKit Go.Proofs.YtlnmchehnhgfnaaDoorW.PrintWords Go.Proofs.YtlnmchehnhgfnaaDoorW.PrintLast Go.Proofs.YtlnmchehnhgfnaaDoorW.PrintMore
attribute [local go_sem] max2_int min2_int max_two min_two max_three min_three max_four min_four max_six   -- for this text's walks alone
set_option linter.unusedVariables false
set_option linter.unusedSimpArgs false
mutual
def spec_VersionOk.j0 : Nat → List ByteArray → Bool → Option (Bool)
 | 0, _, _ => none
 | k + 1, x3, x15 => if x15 = true then (some false) else (if 0 < (x3.length : Int) then (if 1 ≤ ((rdOf ByteArray.empty x3 0).size : Int) then ((spec_Cut.f k ((rdOf ByteArray.empty x3 0).extract 1 (rdOf ByteArray.empty x3 0).size) 46).bind fun t163 => (if (x3.length : Int) = 2 then (spec_VersionOk.l0 k x3 t163 0) else (if (t163.length : Int) = 3 then (if 0 < (t163.length : Int) then (if (rdOf ByteArray.empty t163 0).toList = ([48] : List UInt8) then (if 1 < (t163.length : Int) then ((spec_number.f k (rdOf ByteArray.empty t163 1)).bind fun t183 => (if t183 = true then (if 2 < (t163.length : Int) then ((spec_number.f k (rdOf ByteArray.empty t163 2)).bind fun t185 => (some t185)) else (none)) else (some false))) else (none)) else (if (rdOf ByteArray.empty t163 0).toList = ([49] : List UInt8) then (if 1 < (t163.length : Int) then ((spec_number.f k (rdOf ByteArray.empty t163 1)).bind fun t188 => (if t188 = true then (if 2 < (t163.length : Int) then ((spec_number.f k (rdOf ByteArray.empty t163 2)).bind fun t190 => (some t190)) else (none)) else (some false))) else (none)) else (some false))) else (none)) else (some false)))) else (none)) else (none))
def spec_VersionOk.l0 : Nat → List ByteArray → List ByteArray → Int → Option (Bool)
 | 0, _, _, _ => none
 | k + 1, x3, x4, x5 => if 1 < (x3.length : Int) then (if x5 < ((rdOf ByteArray.empty x3 1).size : Int) then (if 0 ≤ x5 then ((spec_letter.f (bt (rdOf ByteArray.empty x3 1) x5)).bind fun t168 => (if t168 = true then (spec_VersionOk.l0 k x3 x4 (wrap64 (x5 + 1))) else (some false))) else (none)) else (if (rdOf ByteArray.empty x3 1).toList = ([] : List UInt8) then (spec_VersionOk.j2 k x4 true) else (spec_VersionOk.j2 k x4 (decide (((rdOf ByteArray.empty x3 1).size : Int) > 20))))) else (none)
def spec_VersionOk.j2 : Nat → List ByteArray → Bool → Option (Bool)
 | 0, _, _ => none
 | k + 1, x4, x49 => if x49 = true then (some false) else (if (x4.length : Int) = 3 then (if 0 < (x4.length : Int) then (if (rdOf ByteArray.empty x4 0).toList = ([48] : List UInt8) then (if 1 < (x4.length : Int) then ((spec_number.f k (rdOf ByteArray.empty x4 1)).bind fun t173 => (if t173 = true then (if 2 < (x4.length : Int) then ((spec_number.f k (rdOf ByteArray.empty x4 2)).bind fun t175 => (some t175)) else (none)) else (some false))) else (none)) else (if (rdOf ByteArray.empty x4 0).toList = ([49] : List UInt8) then (if 1 < (x4.length : Int) then ((spec_number.f k (rdOf ByteArray.empty x4 1)).bind fun t178 => (if t178 = true then (if 2 < (x4.length : Int) then ((spec_number.f k (rdOf ByteArray.empty x4 2)).bind fun t180 => (some t180)) else (none)) else (some false))) else (none)) else (some false))) else (none)) else (some false))
end
def spec_VersionOk.f (k : Nat) (a0 : ByteArray) : Option (Bool) := (spec_Cut.f k a0 45).bind fun t158 => (if (t158.length : Int) > 2 then (spec_VersionOk.j0 k t158 true) else ((spec_Begins.f a0 (⟨#[118]⟩ : ByteArray)).bind fun t161 => (spec_VersionOk.j0 k t158 (!t161))))
set_option maxHeartbeats 8000000 in
set_option maxRecDepth 100000 in
theorem spec_VersionOk.calls (k : Nat) (a0 : ByteArray) (r : Bool) (w : World) (h : spec_VersionOk.f k a0 = some r) :
  Calls Tryd.prog 27 #[.string a0] w fun e w' => e = .returned (.bool r) ∧ Below w.heap.size w w' := by
 have HB := Aside0.mk (Below.refl w.heap.size w)
 have H : ((spec_Cut.f k a0 45).bind fun t158 => (if (t158.length : Int) > 2 then (spec_VersionOk.j0 k t158 true) else ((spec_Begins.f a0 (⟨#[118]⟩ : ByteArray)).bind fun t161 => (spec_VersionOk.j0 k t158 (!t161))))) = some r := h
 clear h
 replace H := Option.bind_eq_some_iff.mp H
 obtain ⟨t158, A20, H⟩ := H
 replace H : (if (t158.length : Int) > 2 then (spec_VersionOk.j0 k t158 true) else ((spec_Begins.f a0 (⟨#[118]⟩ : ByteArray)).bind fun t161 => (spec_VersionOk.j0 k t158 (!t161)))) = some r := H
 have A2 := Aside0.mk A20
 clear A20
 have HC3 := Aside0.mk H
 clear H
 go_enter Tryd.func27, Tryd.ntmps27
 go_upto_region 2 with (first | ((with_reducible refine gate_callee (f := 14) rfl ?_); refine goesL_ (some 7) rfl rfl Tryd.func14 (by kernel_rfl) rfl #[.string a0, .int .u8 45] rfl (by (try simp only [List.map_toArray, List.map_cons, List.map_nil]); first | done | rfl | (simp only [List.length_drop, List.length_take]; rfl)) ?_; (with_reducible refine (spec_Cut.calls k a0 45 t158 _ A2.out).mono ?_); rintro e w4 ⟨v159, rfl, ho0, hb⟩; refine ⟨_, rfl, ?_⟩; have n0_ := Aside0.mk (Kd.R_lower ho0 (below_size (by repeat (first | (with_reducible first | exact HB.out | apply below_alloc | apply pw_below_drewN | apply below_drew1) | exact HB.out)))); have n1_ := Aside0.mk (below_step (by repeat (first | (with_reducible first | exact HB.out | apply below_alloc | apply pw_below_drewN | apply below_drew1) | exact HB.out)) hb); clear HB; have HO160 := n0_; have HB := n1_; clear n0_ n1_; (try clear hb); (try clear hb2); (try clear hk); (try clear hi); (try clear ho0)))
 (try simp only [Act.put, List.setIfInBounds_toArray, List.set_cons_zero, List.set_cons_succ])
 go_cut [15] (fun v15 wc => ∃ (kq : Nat) (x15_2 : Bool), v15 = .bool x15_2 ∧ Aside0 (spec_VersionOk.j0 kq t158 x15_2 = some r) ∧ Aside0 (kq ≤ k) ∧ Aside0 (Kd.R Kd.string 9 wc w.heap.size (fun _ => True) v159 t158) ∧ Aside0 (Below w.heap.size w wc))
 case first =>
  have H := HC3.out
  clear HC3
  by_cases c5 : (t158.length : Int) > 2
  ·
   rw [if_pos c5] at H
   have c5b0 : decide (2 < (t158.length : Int)) = true := decide_eq_true c5
   have c5b1 : decide (2 < t158.length) = true := decide_eq_true (by omega)
   clear c5
   (first | rw [c5b0] | (simp only [i64_w, i32_w]; rw [c5b0]) | skip)
   have H' := Aside0.mk H
   clear H
   obtain ⟨Ao6, co6, eo6⟩ := Kd.R_slice HO160.out
   subst eo6
   go_wp2
   go_meet
   case rel => exact ⟨_, (true), (by first | rfl | (simp; done) | (simp [*]; done)), H', ⟨by first | omega | exact Nat.le_refl _⟩, ⟨by (with_reducible repeat (first | apply Kd.R_alloc | apply Kd.R_drewN | apply Kd.R_drew)); exact HO160.out⟩, ⟨by repeat (first | (with_reducible first | exact HB.out | apply below_alloc | apply pw_below_drewN | apply below_drew1) | exact HB.out)⟩⟩
  ·
   rw [if_neg c5] at H
   have c5b0 : decide (2 < (t158.length : Int)) = false := decide_eq_false c5
   have c5b1 : decide (2 < t158.length) = false := decide_eq_false (by omega)
   clear c5
   (first | rw [c5b0] | (simp only [i64_w, i32_w]; rw [c5b0]) | skip)
   replace H := Option.bind_eq_some_iff.mp H
   obtain ⟨t161, A70, H⟩ := H
   replace H : (spec_VersionOk.j0 k t158 (!t161)) = some r := H
   have A7 := Aside0.mk A70
   clear A70
   have H' := Aside0.mk H
   clear H
   obtain ⟨Ao8, co8, eo8⟩ := Kd.R_slice HO160.out
   subst eo8
   go_wp2_with (first | (go_at_call 16; (with_reducible refine (spec_Begins.calls a0 (⟨#[118]⟩ : ByteArray) t161 _ A7.out).mono ?_); rintro e w' ⟨rfl, ⟨nd, rfl⟩⟩))
   go_meet
   case rel => exact ⟨_, (!t161), (by first | rfl | (simp; done) | (simp [*]; done)), H', ⟨by first | omega | exact Nat.le_refl _⟩, ⟨by (with_reducible repeat (first | apply Kd.R_alloc | apply Kd.R_drewN | apply Kd.R_drew)); exact HO160.out⟩, ⟨by repeat (first | (with_reducible first | exact HB.out | apply below_alloc | apply pw_below_drewN | apply below_drew1) | exact HB.out)⟩⟩
 case rest =>
  clear HC3
  obtain ⟨kq, x15_2, rfl, HA, HJ2, HO_3, HB⟩ := hcut
  cases kq with
  | zero => exact absurd HA.out (by simp [spec_VersionOk.j0])
  | succ kj2 =>
   have H := HA.out
   clear HA
   simp only [spec_VersionOk.j0] at H
   by_cases c9 : x15_2 = true
   ·
    subst c9
    have H1 : (some false) = some r := by rw [if_pos rfl] at H; exact H
    clear H
    have H := H1
    clear H1
    obtain rfl := Option.some.inj H
    go_wp2
    go_ret
    exact ⟨by first | rfl | (simp [errW_none, errW_some] <;> rfl) | (simp [*, errW_none, errW_some] <;> rfl), by repeat (first | (with_reducible first | exact HB.out | apply below_alloc | apply pw_below_drewN | apply below_drew1) | exact HB.out)⟩
   ·
    replace c9 := Bool.eq_false_iff.mpr c9
    subst c9
    have H1 : (if 0 < (t158.length : Int) then (if 1 ≤ ((rdOf ByteArray.empty t158 0).size : Int) then ((spec_Cut.f kj2 ((rdOf ByteArray.empty t158 0).extract 1 (rdOf ByteArray.empty t158 0).size) 46).bind fun t163 => (if (t158.length : Int) = 2 then (spec_VersionOk.l0 kj2 t158 t163 0) else (if (t163.length : Int) = 3 then (if 0 < (t163.length : Int) then (if (rdOf ByteArray.empty t163 0).toList = ([48] : List UInt8) then (if 1 < (t163.length : Int) then ((spec_number.f kj2 (rdOf ByteArray.empty t163 1)).bind fun t183 => (if t183 = true then (if 2 < (t163.length : Int) then ((spec_number.f kj2 (rdOf ByteArray.empty t163 2)).bind fun t185 => (some t185)) else (none)) else (some false))) else (none)) else (if (rdOf ByteArray.empty t163 0).toList = ([49] : List UInt8) then (if 1 < (t163.length : Int) then ((spec_number.f kj2 (rdOf ByteArray.empty t163 1)).bind fun t188 => (if t188 = true then (if 2 < (t163.length : Int) then ((spec_number.f kj2 (rdOf ByteArray.empty t163 2)).bind fun t190 => (some t190)) else (none)) else (some false))) else (none)) else (some false))) else (none)) else (some false)))) else (none)) else (none)) = some r := by rw [if_neg (show ¬ (false = true) by decide)] at H; exact H
    clear H
    have H := H1
    clear H1
    by_cases c10 : 0 < (t158.length : Int)
    ·
     rw [if_pos c10] at H
     have c10b0 : decide (0 < (t158.length : Int)) = true := decide_eq_true c10
     have c10b1 : decide (0 < t158.length) = true := decide_eq_true (by omega)
     clear c10
     by_cases c11 : 1 ≤ ((rdOf ByteArray.empty t158 0).size : Int)
     ·
      rw [if_pos c11] at H
      have c11b0 := eq_true c11
      have c11b1 : decide (1 ≤ ((rdOf ByteArray.empty t158 0).size : Int)) = true := decide_eq_true c11
      clear c11
      replace H := Option.bind_eq_some_iff.mp H
      obtain ⟨t163, A120, H⟩ := H
      replace H : (if (t158.length : Int) = 2 then (spec_VersionOk.l0 kj2 t158 t163 0) else (if (t163.length : Int) = 3 then (if 0 < (t163.length : Int) then (if (rdOf ByteArray.empty t163 0).toList = ([48] : List UInt8) then (if 1 < (t163.length : Int) then ((spec_number.f kj2 (rdOf ByteArray.empty t163 1)).bind fun t183 => (if t183 = true then (if 2 < (t163.length : Int) then ((spec_number.f kj2 (rdOf ByteArray.empty t163 2)).bind fun t185 => (some t185)) else (none)) else (some false))) else (none)) else (if (rdOf ByteArray.empty t163 0).toList = ([49] : List UInt8) then (if 1 < (t163.length : Int) then ((spec_number.f kj2 (rdOf ByteArray.empty t163 1)).bind fun t188 => (if t188 = true then (if 2 < (t163.length : Int) then ((spec_number.f kj2 (rdOf ByteArray.empty t163 2)).bind fun t190 => (some t190)) else (none)) else (some false))) else (none)) else (some false))) else (none)) else (some false))) = some r := H
      have A12 := Aside0.mk A120
      clear A120
      by_cases c13 : (t158.length : Int) = 2
      ·
       rw [if_pos c13] at H
       have c13b0 : ((t158.length : Int) == 2) = true := beq_iff_eq.mpr c13
       have c13b1 : ((t158.length : Int) != 2) = false := bne_eq_false_iff_eq.mpr c13
       clear c13
       have H' := Aside0.mk H
       clear H
       obtain ⟨Ao14, co14, eo14⟩ := Kd.R_slice HO_3.out
       subst eo14
       have p162 : 0 ≤ (0 : Int) := (by omega)
       have q162 : 0 < (t158.length : Int) := of_decide_eq_true (by first | (with_reducible assumption) | assumption)
       obtain ⟨ad162, e162, hx162_0⟩ := Kd.at_string (Kd.R_reads' HO_3.out).2.2 0 p162 q162
       cases e162
       have qi162 : (0 < t158.length) = True := eq_true (by omega)
       (try rw [show ((0 : Int)).toNat = 0 from rfl] at hx162_0)
       (try rw [Addr.add_zero'] at hx162_0)
       replace p162 := eq_true p162
       replace q162 := eq_true q162
       go_wp2_with (first | ((with_reducible refine gate_callee (f := 14) rfl ?_); refine goesL_ (some 20) rfl rfl Tryd.func14 (by kernel_rfl) rfl #[.string ((rdOf ByteArray.empty t158 0).extract 1 (rdOf ByteArray.empty t158 0).size), .int .u8 46] rfl (by (try simp only [List.map_toArray, List.map_cons, List.map_nil]); first | done | rfl | (simp only [List.length_drop, List.length_take]; rfl)) ?_; (with_reducible refine (spec_Cut.calls kj2 ((rdOf ByteArray.empty t158 0).extract 1 (rdOf ByteArray.empty t158 0).size) 46 t163 _ A12.out).mono ?_); rintro e w15 ⟨v164, rfl, ho0, hb⟩; refine ⟨_, rfl, ?_⟩; have n0_ := Aside0.mk (Kd.R_elder' (by (with_reducible repeat (first | apply Kd.R_alloc | apply Kd.R_drewN | apply Kd.R_drew)); exact HO_3.out) (Kd.R_base ho0) hb); have n1_ := Aside0.mk (Kd.R_lower (Kd.R_new' ho0 (Kd.R_lt (by (with_reducible repeat (first | apply Kd.R_alloc | apply Kd.R_drewN | apply Kd.R_drew)); exact HO_3.out))) (below_size (by repeat (first | (with_reducible first | exact HB.out | apply below_alloc | apply pw_below_drewN | apply below_drew1) | exact HB.out)))); have n2_ := Aside0.mk (below_step (by repeat (first | (with_reducible first | exact HB.out | apply below_alloc | apply pw_below_drewN | apply below_drew1) | exact HB.out)) hb); clear HO_3; clear HB; have HO_3 := n0_; have HO165 := n1_; have HB := n2_; clear n0_ n1_ n2_; (try clear hb); (try clear hb2); (try clear hk); (try clear hi); (try clear ho0)))
       go_loopg [5] kj2 (fun kq v5 w' => ∃ (x5_2 : Int), v5 = .int .i64 x5_2 ∧ Aside0 (spec_VersionOk.l0 kq t158 t163 x5_2 = some r) ∧ Aside0 (kq ≤ kj2) ∧ Aside0 (Kd.R Kd.string 9 w' w.heap.size (fun k_ => some k_ ≠ (v164 : Value).ownBlock) (.slice (some ad162) t158.length co14) t158) ∧ Aside0 (Kd.R Kd.string 9 w' w.heap.size (fun k_ => some k_ ≠ ((.slice (some ad162) t158.length co14) : Value).ownBlock) v164 t163) ∧ Aside0 (Below w.heap.size w w'))
       case atStart => exact ⟨(0), (by first | rfl | (simp; done) | (simp [*]; done)), H', ⟨Nat.le_refl _⟩, ⟨by (with_reducible repeat (first | apply Kd.R_alloc | apply Kd.R_drewN | apply Kd.R_drew)); exact Kd.R_mono HO_3.out (fun _ hk => hk.2)⟩, ⟨by (with_reducible repeat (first | apply Kd.R_alloc | apply Kd.R_drewN | apply Kd.R_drew)); exact Kd.R_mono HO165.out (fun _ hk => hk.2)⟩, ⟨by repeat (first | (with_reducible first | exact HB.out | apply below_alloc | apply pw_below_drewN | apply below_drew1) | exact HB.out)⟩⟩
       case round =>
        clear H'
        clear c10b0
        clear c10b1
        clear c11b0
        clear c11b1
        clear c13b0
        clear c13b1
        clear hx162_0
        clear p162
        clear q162
        obtain ⟨x5_2, rfl, HA, HK2, HO_3, HO_4, HB⟩ := hrel
        cases gk with
        | zero => exact absurd HA.out (by simp [spec_VersionOk.l0])
        | succ k2 =>
         have H := HA.out
         clear HA
         simp only [spec_VersionOk.l0] at H
         by_cases c16 : 1 < (t158.length : Int)
         ·
          rw [if_pos c16] at H
          have c16b0 : decide (1 < (t158.length : Int)) = true := decide_eq_true c16
          have c16b1 : decide (1 < t158.length) = true := decide_eq_true (by omega)
          clear c16
          by_cases c17 : x5_2 < ((rdOf ByteArray.empty t158 1).size : Int)
          ·
           rw [if_pos c17] at H
           have c17b0 : decide (x5_2 < ((rdOf ByteArray.empty t158 1).size : Int)) = true := decide_eq_true c17
           clear c17
           by_cases c18 : 0 ≤ x5_2
           ·
            rw [if_pos c18] at H
            have c18b0 : decide (0 ≤ x5_2) = true := decide_eq_true c18
            clear c18
            replace H := Option.bind_eq_some_iff.mp H
            obtain ⟨t168, A200, H⟩ := H
            replace H : (if t168 = true then (spec_VersionOk.l0 k2 t158 t163 (wrap64 (x5_2 + 1))) else (some false)) = some r := H
            have A20 := Aside0.mk A200
            clear A200
            by_cases c21 : t168 = true
            ·
             subst c21
             have H1 : (spec_VersionOk.l0 k2 t158 t163 (wrap64 (x5_2 + 1))) = some r := by rw [if_pos rfl] at H; exact H
             clear H
             have H := H1
             clear H1
             have H' := Aside0.mk H
             clear H
             have p166 : 0 ≤ (1 : Int) := (by omega)
             have q166 : 1 < (t158.length : Int) := of_decide_eq_true (by first | (with_reducible assumption) | assumption)
             obtain ⟨ad166, e166, hx166_0⟩ := Kd.at_string (Kd.R_reads' HO_3.out).2.2 1 p166 q166
             obtain rfl : ad162 = ad166 := (by injection e166)
             (try simp only [show (1 : Int).toNat = 1 from rfl, Nat.reduceMul, Nat.reduceEqDiff, Go.Addr.add, ↓reduceIte] at hx166_0)
             have qi166 : (1 < t158.length) = True := eq_true (by omega)
             (try rw [show ((1 : Int)).toNat = 1 from rfl] at hx166_0)
             replace p166 := eq_true p166
             replace q166 := eq_true q166
             have p167 : 0 ≤ (1 : Int) := (by omega)
             have q167 : 1 < (t158.length : Int) := of_decide_eq_true (by first | (with_reducible assumption) | assumption)
             obtain ⟨ad167, e167, hx167_0⟩ := Kd.at_string (Kd.R_reads' HO_3.out).2.2 1 p167 q167
             obtain rfl : ad162 = ad167 := (by injection e167)
             (try simp only [show (1 : Int).toNat = 1 from rfl, Nat.reduceMul, Nat.reduceEqDiff, Go.Addr.add, ↓reduceIte] at hx167_0)
             have qi167 : (1 < t158.length) = True := eq_true (by omega)
             (try rw [show ((1 : Int)).toNat = 1 from rfl] at hx167_0)
             replace p167 := eq_true p167
             replace q167 := eq_true q167
             have p19 : 0 ≤ (x5_2 : Int) := of_decide_eq_true (by first | (with_reducible assumption) | assumption)
             have q19 : x5_2 < ((rdOf ByteArray.empty t158 1).size : Int) := of_decide_eq_true (by first | (with_reducible assumption) | assumption)
             have hx19 := bt_at (rdOf ByteArray.empty t158 1) x5_2
             replace p19 := eq_true p19
             replace q19 := eq_true q19
             go_wp2_with (first | ((with_reducible refine gate_callee (f := 18) rfl ?_); refine goesL_ (some 37) rfl rfl Tryd.func18 (by kernel_rfl) rfl #[.int .u8 (bt (rdOf ByteArray.empty t158 1) x5_2)] rfl (by (try simp only [List.map_toArray, List.map_cons, List.map_nil]); first | done | rfl | (simp only [List.length_drop, List.length_take]; rfl)) ?_; (with_reducible refine (spec_letter.calls (bt (rdOf ByteArray.empty t158 1) x5_2) true _ A20.out).mono ?_); rintro e w' ⟨rfl, ⟨nd, rfl⟩⟩; refine ⟨_, rfl, ?_⟩))
             go_roundg k2
             case measure => have := HJ2.out; have := HK2.out; omega
             case rel => exact ⟨(wrap64 (x5_2 + 1)), (by first | rfl | (simp; done) | (simp [*]; done)), H', ⟨by have := HJ2.out; have := HK2.out; omega⟩, ⟨by (with_reducible repeat (first | apply Kd.R_alloc | apply Kd.R_drewN | apply Kd.R_drew)); exact HO_3.out⟩, ⟨by (with_reducible repeat (first | apply Kd.R_alloc | apply Kd.R_drewN | apply Kd.R_drew)); exact HO_4.out⟩, ⟨by repeat (first | (with_reducible first | exact HB.out | apply below_alloc | apply pw_below_drewN | apply below_drew1) | exact HB.out)⟩⟩
            ·
             replace c21 := Bool.eq_false_iff.mpr c21
             subst c21
             have H1 : (some false) = some r := by rw [if_neg (show ¬ (false = true) by decide)] at H; exact H
             clear H
             have H := H1
             clear H1
             obtain rfl := Option.some.inj H
             have p166 : 0 ≤ (1 : Int) := (by omega)
             have q166 : 1 < (t158.length : Int) := of_decide_eq_true (by first | (with_reducible assumption) | assumption)
             obtain ⟨ad166, e166, hx166_0⟩ := Kd.at_string (Kd.R_reads' HO_3.out).2.2 1 p166 q166
             obtain rfl : ad162 = ad166 := (by injection e166)
             (try simp only [show (1 : Int).toNat = 1 from rfl, Nat.reduceMul, Nat.reduceEqDiff, Go.Addr.add, ↓reduceIte] at hx166_0)
             have qi166 : (1 < t158.length) = True := eq_true (by omega)
             (try rw [show ((1 : Int)).toNat = 1 from rfl] at hx166_0)
             replace p166 := eq_true p166
             replace q166 := eq_true q166
             have p167 : 0 ≤ (1 : Int) := (by omega)
             have q167 : 1 < (t158.length : Int) := of_decide_eq_true (by first | (with_reducible assumption) | assumption)
             obtain ⟨ad167, e167, hx167_0⟩ := Kd.at_string (Kd.R_reads' HO_3.out).2.2 1 p167 q167
             obtain rfl : ad162 = ad167 := (by injection e167)
             (try simp only [show (1 : Int).toNat = 1 from rfl, Nat.reduceMul, Nat.reduceEqDiff, Go.Addr.add, ↓reduceIte] at hx167_0)
             have qi167 : (1 < t158.length) = True := eq_true (by omega)
             (try rw [show ((1 : Int)).toNat = 1 from rfl] at hx167_0)
             replace p167 := eq_true p167
             replace q167 := eq_true q167
             have p19 : 0 ≤ (x5_2 : Int) := of_decide_eq_true (by first | (with_reducible assumption) | assumption)
             have q19 : x5_2 < ((rdOf ByteArray.empty t158 1).size : Int) := of_decide_eq_true (by first | (with_reducible assumption) | assumption)
             have hx19 := bt_at (rdOf ByteArray.empty t158 1) x5_2
             replace p19 := eq_true p19
             replace q19 := eq_true q19
             go_wp2_with (first | ((with_reducible refine gate_callee (f := 18) rfl ?_); refine goesL_ (some 37) rfl rfl Tryd.func18 (by kernel_rfl) rfl #[.int .u8 (bt (rdOf ByteArray.empty t158 1) x5_2)] rfl (by (try simp only [List.map_toArray, List.map_cons, List.map_nil]); first | done | rfl | (simp only [List.length_drop, List.length_take]; rfl)) ?_; (with_reducible refine (spec_letter.calls (bt (rdOf ByteArray.empty t158 1) x5_2) false _ A20.out).mono ?_); rintro e w' ⟨rfl, ⟨nd, rfl⟩⟩; refine ⟨_, rfl, ?_⟩))
             go_ret
             exact ⟨by first | rfl | (simp [errW_none, errW_some] <;> rfl) | (simp [*, errW_none, errW_some] <;> rfl), by repeat (first | (with_reducible first | exact HB.out | apply below_alloc | apply pw_below_drewN | apply below_drew1) | exact HB.out)⟩
           ·
            rw [if_neg c18] at H
            exact absurd H (by simp)
          ·
           rw [if_neg c17] at H
           have c17b0 : decide (x5_2 < ((rdOf ByteArray.empty t158 1).size : Int)) = false := decide_eq_false c17
           clear c17
           have HC22 := Aside0.mk H
           clear H
           have p166 : 0 ≤ (1 : Int) := (by omega)
           have q166 : 1 < (t158.length : Int) := of_decide_eq_true (by first | (with_reducible assumption) | assumption)
           obtain ⟨ad166, e166, hx166_0⟩ := Kd.at_string (Kd.R_reads' HO_3.out).2.2 1 p166 q166
           obtain rfl : ad162 = ad166 := (by injection e166)
           (try simp only [show (1 : Int).toNat = 1 from rfl, Nat.reduceMul, Nat.reduceEqDiff, Go.Addr.add, ↓reduceIte] at hx166_0)
           have qi166 : (1 < t158.length) = True := eq_true (by omega)
           (try rw [show ((1 : Int)).toNat = 1 from rfl] at hx166_0)
           replace p166 := eq_true p166
           replace q166 := eq_true q166
           go_upto_region 11 with (fail)
           go_cut [49] (fun v49 wc => ∃ (kq : Nat) (x49_21 : Bool), v49 = .bool x49_21 ∧ Aside0 (spec_VersionOk.j2 kq t163 x49_21 = some r) ∧ Aside0 (kq ≤ k2) ∧ Aside0 (Kd.R Kd.string 9 wc w.heap.size (fun _ => True) v164 t163) ∧ Aside0 (Below w.heap.size w wc))
           case first =>
            have H := HC22.out
            clear HC22
            by_cases c23 : (rdOf ByteArray.empty t158 1).toList = ([] : List UInt8)
            ·
             rw [if_pos c23] at H
             have c23b0 : ((rdOf ByteArray.empty t158 1).toList == ([] : List UInt8)) = true := beq_iff_eq.mpr c23
             have c23b1 : ((rdOf ByteArray.empty t158 1).toList != ([] : List UInt8)) = false := bne_eq_false_iff_eq.mpr c23
             clear c23
             (first | rw [c23b0] | (simp only [i64_w, i32_w]; rw [c23b0]) | skip)
             have H' := Aside0.mk H
             clear H
             have p169 : 0 ≤ (1 : Int) := (by omega)
             have q169 : 1 < (t158.length : Int) := of_decide_eq_true (by first | (with_reducible assumption) | assumption)
             obtain ⟨ad169, e169, hx169_0⟩ := Kd.at_string (Kd.R_reads' HO_3.out).2.2 1 p169 q169
             obtain rfl : ad162 = ad169 := (by injection e169)
             (try simp only [show (1 : Int).toNat = 1 from rfl, Nat.reduceMul, Nat.reduceEqDiff, Go.Addr.add, ↓reduceIte] at hx169_0)
             have qi169 : (1 < t158.length) = True := eq_true (by omega)
             (try rw [show ((1 : Int)).toNat = 1 from rfl] at hx169_0)
             replace p169 := eq_true p169
             replace q169 := eq_true q169
             go_wp2
             go_meet
             case rel => exact ⟨_, (true), (by first | rfl | (simp; done) | (simp [*]; done)), H', ⟨by have := HJ2.out; have := HK2.out; first | omega | exact Nat.le_refl _⟩, ⟨by (with_reducible repeat (first | apply Kd.R_alloc | apply Kd.R_drewN | apply Kd.R_drew)); exact Kd.R_mono HO_4.out (fun _ hk => trivial)⟩, ⟨by repeat (first | (with_reducible first | exact HB.out | apply below_alloc | apply pw_below_drewN | apply below_drew1) | exact HB.out)⟩⟩
            ·
             rw [if_neg c23] at H
             have c23b0 : ((rdOf ByteArray.empty t158 1).toList == ([] : List UInt8)) = false := beq_eq_false_iff_ne.mpr c23
             have c23b1 : ((rdOf ByteArray.empty t158 1).toList != ([] : List UInt8)) = true := bne_iff_ne.mpr c23
             (first | rw [c23b0] | (simp only [i64_w, i32_w]; rw [c23b0]) | skip)
             have H' := Aside0.mk H
             clear H
             have p169 : 0 ≤ (1 : Int) := (by omega)
             have q169 : 1 < (t158.length : Int) := of_decide_eq_true (by first | (with_reducible assumption) | assumption)
             obtain ⟨ad169, e169, hx169_0⟩ := Kd.at_string (Kd.R_reads' HO_3.out).2.2 1 p169 q169
             obtain rfl : ad162 = ad169 := (by injection e169)
             (try simp only [show (1 : Int).toNat = 1 from rfl, Nat.reduceMul, Nat.reduceEqDiff, Go.Addr.add, ↓reduceIte] at hx169_0)
             have qi169 : (1 < t158.length) = True := eq_true (by omega)
             (try rw [show ((1 : Int)).toNat = 1 from rfl] at hx169_0)
             replace p169 := eq_true p169
             replace q169 := eq_true q169
             have p170 : 0 ≤ (1 : Int) := (by omega)
             have q170 : 1 < (t158.length : Int) := of_decide_eq_true (by first | (with_reducible assumption) | assumption)
             obtain ⟨ad170, e170, hx170_0⟩ := Kd.at_string (Kd.R_reads' HO_3.out).2.2 1 p170 q170
             obtain rfl : ad162 = ad170 := (by injection e170)
             (try simp only [show (1 : Int).toNat = 1 from rfl, Nat.reduceMul, Nat.reduceEqDiff, Go.Addr.add, ↓reduceIte] at hx170_0)
             have qi170 : (1 < t158.length) = True := eq_true (by omega)
             (try rw [show ((1 : Int)).toNat = 1 from rfl] at hx170_0)
             replace p170 := eq_true p170
             replace q170 := eq_true q170
             go_wp2
             go_meet
             case rel => exact ⟨_, (decide (((rdOf ByteArray.empty t158 1).size : Int) > 20)), (by first | rfl | (simp; done) | (simp [*]; done)), H', ⟨by have := HJ2.out; have := HK2.out; first | omega | exact Nat.le_refl _⟩, ⟨by (with_reducible repeat (first | apply Kd.R_alloc | apply Kd.R_drewN | apply Kd.R_drew)); exact Kd.R_mono HO_4.out (fun _ hk => trivial)⟩, ⟨by repeat (first | (with_reducible first | exact HB.out | apply below_alloc | apply pw_below_drewN | apply below_drew1) | exact HB.out)⟩⟩
           case rest =>
            clear HC22
            clear c16b0
            clear c16b1
            clear c17b0
            clear hx166_0
            clear p166
            clear q166
            obtain ⟨kq, x49_21, rfl, HA, HJ21, HO_4, HB⟩ := hcut
            cases kq with
            | zero => exact absurd HA.out (by simp [spec_VersionOk.j2])
            | succ kj21 =>
             have H := HA.out
             clear HA
             simp only [spec_VersionOk.j2] at H
             by_cases c24 : x49_21 = true
             ·
              subst c24
              have H1 : (some false) = some r := by rw [if_pos rfl] at H; exact H
              clear H
              have H := H1
              clear H1
              obtain rfl := Option.some.inj H
              go_wp2
              go_ret
              exact ⟨by first | rfl | (simp [errW_none, errW_some] <;> rfl) | (simp [*, errW_none, errW_some] <;> rfl), by repeat (first | (with_reducible first | exact HB.out | apply below_alloc | apply pw_below_drewN | apply below_drew1) | exact HB.out)⟩
             ·
              replace c24 := Bool.eq_false_iff.mpr c24
              subst c24
              have H1 : (if (t163.length : Int) = 3 then (if 0 < (t163.length : Int) then (if (rdOf ByteArray.empty t163 0).toList = ([48] : List UInt8) then (if 1 < (t163.length : Int) then ((spec_number.f kj21 (rdOf ByteArray.empty t163 1)).bind fun t173 => (if t173 = true then (if 2 < (t163.length : Int) then ((spec_number.f kj21 (rdOf ByteArray.empty t163 2)).bind fun t175 => (some t175)) else (none)) else (some false))) else (none)) else (if (rdOf ByteArray.empty t163 0).toList = ([49] : List UInt8) then (if 1 < (t163.length : Int) then ((spec_number.f kj21 (rdOf ByteArray.empty t163 1)).bind fun t178 => (if t178 = true then (if 2 < (t163.length : Int) then ((spec_number.f kj21 (rdOf ByteArray.empty t163 2)).bind fun t180 => (some t180)) else (none)) else (some false))) else (none)) else (some false))) else (none)) else (some false)) = some r := by rw [if_neg (show ¬ (false = true) by decide)] at H; exact H
              clear H
              have H := H1
              clear H1
              by_cases c25 : (t163.length : Int) = 3
              ·
               rw [if_pos c25] at H
               have c25b0 : ((t163.length : Int) == 3) = true := beq_iff_eq.mpr c25
               have c25b1 : ((t163.length : Int) != 3) = false := bne_eq_false_iff_eq.mpr c25
               clear c25
               by_cases c26 : 0 < (t163.length : Int)
               ·
                rw [if_pos c26] at H
                have c26b0 : decide (0 < (t163.length : Int)) = true := decide_eq_true c26
                have c26b1 : decide (0 < t163.length) = true := decide_eq_true (by omega)
                clear c26
                by_cases c27 : (rdOf ByteArray.empty t163 0).toList = ([48] : List UInt8)
                ·
                 rw [if_pos c27] at H
                 have c27b0 : ((rdOf ByteArray.empty t163 0).toList == ([48] : List UInt8)) = true := beq_iff_eq.mpr c27
                 have c27b1 : ((rdOf ByteArray.empty t163 0).toList != ([48] : List UInt8)) = false := bne_eq_false_iff_eq.mpr c27
                 clear c27
                 by_cases c28 : 1 < (t163.length : Int)
                 ·
                  rw [if_pos c28] at H
                  have c28b0 : decide (1 < (t163.length : Int)) = true := decide_eq_true c28
                  have c28b1 : decide (1 < t163.length) = true := decide_eq_true (by omega)
                  clear c28
                  replace H := Option.bind_eq_some_iff.mp H
                  obtain ⟨t173, A290, H⟩ := H
                  replace H : (if t173 = true then (if 2 < (t163.length : Int) then ((spec_number.f kj21 (rdOf ByteArray.empty t163 2)).bind fun t175 => (some t175)) else (none)) else (some false)) = some r := H
                  have A29 := Aside0.mk A290
                  clear A290
                  by_cases c30 : t173 = true
                  ·
                   subst c30
                   have H1 : (if 2 < (t163.length : Int) then ((spec_number.f kj21 (rdOf ByteArray.empty t163 2)).bind fun t175 => (some t175)) else (none)) = some r := by rw [if_pos rfl] at H; exact H
                   clear H
                   have H := H1
                   clear H1
                   by_cases c31 : 2 < (t163.length : Int)
                   ·
                    rw [if_pos c31] at H
                    have c31b0 : decide (2 < (t163.length : Int)) = true := decide_eq_true c31
                    have c31b1 : decide (2 < t163.length) = true := decide_eq_true (by omega)
                    clear c31
                    replace H := Option.bind_eq_some_iff.mp H
                    obtain ⟨t175, A320, H⟩ := H
                    replace H : (some t175) = some r := H
                    have A32 := Aside0.mk A320
                    clear A320
                    obtain rfl := Option.some.inj H
                    obtain ⟨Ao33, co33, eo33⟩ := Kd.R_slice HO_4.out
                    subst eo33
                    have p171 : 0 ≤ (0 : Int) := (by omega)
                    have q171 : 0 < (t163.length : Int) := of_decide_eq_true (by first | (with_reducible assumption) | assumption)
                    obtain ⟨ad171, e171, hx171_0⟩ := Kd.at_string (Kd.R_reads' HO_4.out).2.2 0 p171 q171
                    cases e171
                    have qi171 : (0 < t163.length) = True := eq_true (by omega)
                    (try rw [show ((0 : Int)).toNat = 0 from rfl] at hx171_0)
                    (try rw [Addr.add_zero'] at hx171_0)
                    replace p171 := eq_true p171
                    replace q171 := eq_true q171
                    have p172 : 0 ≤ (1 : Int) := (by omega)
                    have q172 : 1 < (t163.length : Int) := of_decide_eq_true (by first | (with_reducible assumption) | assumption)
                    obtain ⟨ad172, e172, hx172_0⟩ := Kd.at_string (Kd.R_reads' HO_4.out).2.2 1 p172 q172
                    obtain rfl : ad171 = ad172 := (by injection e172)
                    (try simp only [show (1 : Int).toNat = 1 from rfl, Nat.reduceMul, Nat.reduceEqDiff, Go.Addr.add, ↓reduceIte] at hx172_0)
                    have qi172 : (1 < t163.length) = True := eq_true (by omega)
                    (try rw [show ((1 : Int)).toNat = 1 from rfl] at hx172_0)
                    replace p172 := eq_true p172
                    replace q172 := eq_true q172
                    go_wp2_with (first | (go_at_call 45; (with_reducible refine (spec_number.calls kj21 (rdOf ByteArray.empty t163 1) true _ A29.out).mono ?_); rintro e w' ⟨rfl, ⟨nd, rfl⟩⟩; have p174 : 0 ≤ (2 : Int) := (by omega); have q174 : 2 < (t163.length : Int) := of_decide_eq_true (by first | (with_reducible assumption) | assumption); obtain ⟨ad174, e174, hx174_0⟩ := Kd.at_string (Kd.R_reads' HO_4.out).2.2 2 p174 q174; obtain rfl : ad171 = ad174 := (by injection e174); (try simp only [show (2 : Int).toNat = 2 from rfl, Nat.reduceMul, Nat.reduceEqDiff, Go.Addr.add, ↓reduceIte] at hx174_0); have qi174 : (2 < t163.length) = True := eq_true (by omega); (try rw [show ((2 : Int)).toNat = 2 from rfl] at hx174_0); replace p174 := eq_true p174; replace q174 := eq_true q174) | (go_at_call 45; (with_reducible refine (spec_number.calls kj21 (rdOf ByteArray.empty t163 2) t175 _ A32.out).mono ?_); rintro e w' ⟨rfl, ⟨nd, rfl⟩⟩))
                    go_ret
                    exact ⟨by first | rfl | (simp [errW_none, errW_some] <;> rfl) | (simp [*, errW_none, errW_some] <;> rfl), by repeat (first | (with_reducible first | exact HB.out | apply below_alloc | apply pw_below_drewN | apply below_drew1) | exact HB.out)⟩
                   ·
                    rw [if_neg c31] at H
                    exact absurd H (by simp)
                  ·
                   replace c30 := Bool.eq_false_iff.mpr c30
                   subst c30
                   have H1 : (some false) = some r := by rw [if_neg (show ¬ (false = true) by decide)] at H; exact H
                   clear H
                   have H := H1
                   clear H1
                   obtain rfl := Option.some.inj H
                   obtain ⟨Ao34, co34, eo34⟩ := Kd.R_slice HO_4.out
                   subst eo34
                   have p171 : 0 ≤ (0 : Int) := (by omega)
                   have q171 : 0 < (t163.length : Int) := of_decide_eq_true (by first | (with_reducible assumption) | assumption)
                   obtain ⟨ad171, e171, hx171_0⟩ := Kd.at_string (Kd.R_reads' HO_4.out).2.2 0 p171 q171
                   cases e171
                   have qi171 : (0 < t163.length) = True := eq_true (by omega)
                   (try rw [show ((0 : Int)).toNat = 0 from rfl] at hx171_0)
                   (try rw [Addr.add_zero'] at hx171_0)
                   replace p171 := eq_true p171
                   replace q171 := eq_true q171
                   have p172 : 0 ≤ (1 : Int) := (by omega)
                   have q172 : 1 < (t163.length : Int) := of_decide_eq_true (by first | (with_reducible assumption) | assumption)
                   obtain ⟨ad172, e172, hx172_0⟩ := Kd.at_string (Kd.R_reads' HO_4.out).2.2 1 p172 q172
                   obtain rfl : ad171 = ad172 := (by injection e172)
                   (try simp only [show (1 : Int).toNat = 1 from rfl, Nat.reduceMul, Nat.reduceEqDiff, Go.Addr.add, ↓reduceIte] at hx172_0)
                   have qi172 : (1 < t163.length) = True := eq_true (by omega)
                   (try rw [show ((1 : Int)).toNat = 1 from rfl] at hx172_0)
                   replace p172 := eq_true p172
                   replace q172 := eq_true q172
                   go_wp2_with (first | (go_at_call 45; (with_reducible refine (spec_number.calls kj21 (rdOf ByteArray.empty t163 1) false _ A29.out).mono ?_); rintro e w' ⟨rfl, ⟨nd, rfl⟩⟩))
                   go_ret
                   exact ⟨by first | rfl | (simp [errW_none, errW_some] <;> rfl) | (simp [*, errW_none, errW_some] <;> rfl), by repeat (first | (with_reducible first | exact HB.out | apply below_alloc | apply pw_below_drewN | apply below_drew1) | exact HB.out)⟩
                 ·
                  rw [if_neg c28] at H
                  exact absurd H (by simp)
                ·
                 rw [if_neg c27] at H
                 have c27b0 : ((rdOf ByteArray.empty t163 0).toList == ([48] : List UInt8)) = false := beq_eq_false_iff_ne.mpr c27
                 have c27b1 : ((rdOf ByteArray.empty t163 0).toList != ([48] : List UInt8)) = true := bne_iff_ne.mpr c27
                 by_cases c35 : (rdOf ByteArray.empty t163 0).toList = ([49] : List UInt8)
                 ·
                  rw [if_pos c35] at H
                  have c35b0 : ((rdOf ByteArray.empty t163 0).toList == ([49] : List UInt8)) = true := beq_iff_eq.mpr c35
                  have c35b1 : ((rdOf ByteArray.empty t163 0).toList != ([49] : List UInt8)) = false := bne_eq_false_iff_eq.mpr c35
                  clear c35
                  by_cases c36 : 1 < (t163.length : Int)
                  ·
                   rw [if_pos c36] at H
                   have c36b0 : decide (1 < (t163.length : Int)) = true := decide_eq_true c36
                   have c36b1 : decide (1 < t163.length) = true := decide_eq_true (by omega)
                   clear c36
                   replace H := Option.bind_eq_some_iff.mp H
                   obtain ⟨t178, A370, H⟩ := H
                   replace H : (if t178 = true then (if 2 < (t163.length : Int) then ((spec_number.f kj21 (rdOf ByteArray.empty t163 2)).bind fun t180 => (some t180)) else (none)) else (some false)) = some r := H
                   have A37 := Aside0.mk A370
                   clear A370
                   by_cases c38 : t178 = true
                   ·
                    subst c38
                    have H1 : (if 2 < (t163.length : Int) then ((spec_number.f kj21 (rdOf ByteArray.empty t163 2)).bind fun t180 => (some t180)) else (none)) = some r := by rw [if_pos rfl] at H; exact H
                    clear H
                    have H := H1
                    clear H1
                    by_cases c39 : 2 < (t163.length : Int)
                    ·
                     rw [if_pos c39] at H
                     have c39b0 : decide (2 < (t163.length : Int)) = true := decide_eq_true c39
                     have c39b1 : decide (2 < t163.length) = true := decide_eq_true (by omega)
                     clear c39
                     replace H := Option.bind_eq_some_iff.mp H
                     obtain ⟨t180, A400, H⟩ := H
                     replace H : (some t180) = some r := H
                     have A40 := Aside0.mk A400
                     clear A400
                     obtain rfl := Option.some.inj H
                     obtain ⟨Ao41, co41, eo41⟩ := Kd.R_slice HO_4.out
                     subst eo41
                     have p171 : 0 ≤ (0 : Int) := (by omega)
                     have q171 : 0 < (t163.length : Int) := of_decide_eq_true (by first | (with_reducible assumption) | assumption)
                     obtain ⟨ad171, e171, hx171_0⟩ := Kd.at_string (Kd.R_reads' HO_4.out).2.2 0 p171 q171
                     cases e171
                     have qi171 : (0 < t163.length) = True := eq_true (by omega)
                     (try rw [show ((0 : Int)).toNat = 0 from rfl] at hx171_0)
                     (try rw [Addr.add_zero'] at hx171_0)
                     replace p171 := eq_true p171
                     replace q171 := eq_true q171
                     have p176 : 0 ≤ (0 : Int) := (by omega)
                     have q176 : 0 < (t163.length : Int) := of_decide_eq_true (by first | (with_reducible assumption) | assumption)
                     obtain ⟨ad176, e176, hx176_0⟩ := Kd.at_string (Kd.R_reads' HO_4.out).2.2 0 p176 q176
                     obtain rfl : ad171 = ad176 := (by injection e176)
                     have qi176 : (0 < t163.length) = True := eq_true (by omega)
                     (try rw [show ((0 : Int)).toNat = 0 from rfl] at hx176_0)
                     (try rw [Addr.add_zero'] at hx176_0)
                     replace p176 := eq_true p176
                     replace q176 := eq_true q176
                     have p177 : 0 ≤ (1 : Int) := (by omega)
                     have q177 : 1 < (t163.length : Int) := of_decide_eq_true (by first | (with_reducible assumption) | assumption)
                     obtain ⟨ad177, e177, hx177_0⟩ := Kd.at_string (Kd.R_reads' HO_4.out).2.2 1 p177 q177
                     obtain rfl : ad171 = ad177 := (by injection e177)
                     (try simp only [show (1 : Int).toNat = 1 from rfl, Nat.reduceMul, Nat.reduceEqDiff, Go.Addr.add, ↓reduceIte] at hx177_0)
                     have qi177 : (1 < t163.length) = True := eq_true (by omega)
                     (try rw [show ((1 : Int)).toNat = 1 from rfl] at hx177_0)
                     replace p177 := eq_true p177
                     replace q177 := eq_true q177
                     go_wp2_with (first | (go_at_call 45; (with_reducible refine (spec_number.calls kj21 (rdOf ByteArray.empty t163 1) true _ A37.out).mono ?_); rintro e w' ⟨rfl, ⟨nd, rfl⟩⟩; have p179 : 0 ≤ (2 : Int) := (by omega); have q179 : 2 < (t163.length : Int) := of_decide_eq_true (by first | (with_reducible assumption) | assumption); obtain ⟨ad179, e179, hx179_0⟩ := Kd.at_string (Kd.R_reads' HO_4.out).2.2 2 p179 q179; obtain rfl : ad171 = ad179 := (by injection e179); (try simp only [show (2 : Int).toNat = 2 from rfl, Nat.reduceMul, Nat.reduceEqDiff, Go.Addr.add, ↓reduceIte] at hx179_0); have qi179 : (2 < t163.length) = True := eq_true (by omega); (try rw [show ((2 : Int)).toNat = 2 from rfl] at hx179_0); replace p179 := eq_true p179; replace q179 := eq_true q179) | (go_at_call 45; (with_reducible refine (spec_number.calls kj21 (rdOf ByteArray.empty t163 2) t180 _ A40.out).mono ?_); rintro e w' ⟨rfl, ⟨nd, rfl⟩⟩))
                     go_ret
                     exact ⟨by first | rfl | (simp [errW_none, errW_some] <;> rfl) | (simp [*, errW_none, errW_some] <;> rfl), by repeat (first | (with_reducible first | exact HB.out | apply below_alloc | apply pw_below_drewN | apply below_drew1) | exact HB.out)⟩
                    ·
                     rw [if_neg c39] at H
                     exact absurd H (by simp)
                   ·
                    replace c38 := Bool.eq_false_iff.mpr c38
                    subst c38
                    have H1 : (some false) = some r := by rw [if_neg (show ¬ (false = true) by decide)] at H; exact H
                    clear H
                    have H := H1
                    clear H1
                    obtain rfl := Option.some.inj H
                    obtain ⟨Ao42, co42, eo42⟩ := Kd.R_slice HO_4.out
                    subst eo42
                    have p171 : 0 ≤ (0 : Int) := (by omega)
                    have q171 : 0 < (t163.length : Int) := of_decide_eq_true (by first | (with_reducible assumption) | assumption)
                    obtain ⟨ad171, e171, hx171_0⟩ := Kd.at_string (Kd.R_reads' HO_4.out).2.2 0 p171 q171
                    cases e171
                    have qi171 : (0 < t163.length) = True := eq_true (by omega)
                    (try rw [show ((0 : Int)).toNat = 0 from rfl] at hx171_0)
                    (try rw [Addr.add_zero'] at hx171_0)
                    replace p171 := eq_true p171
                    replace q171 := eq_true q171
                    have p176 : 0 ≤ (0 : Int) := (by omega)
                    have q176 : 0 < (t163.length : Int) := of_decide_eq_true (by first | (with_reducible assumption) | assumption)
                    obtain ⟨ad176, e176, hx176_0⟩ := Kd.at_string (Kd.R_reads' HO_4.out).2.2 0 p176 q176
                    obtain rfl : ad171 = ad176 := (by injection e176)
                    have qi176 : (0 < t163.length) = True := eq_true (by omega)
                    (try rw [show ((0 : Int)).toNat = 0 from rfl] at hx176_0)
                    (try rw [Addr.add_zero'] at hx176_0)
                    replace p176 := eq_true p176
                    replace q176 := eq_true q176
                    have p177 : 0 ≤ (1 : Int) := (by omega)
                    have q177 : 1 < (t163.length : Int) := of_decide_eq_true (by first | (with_reducible assumption) | assumption)
                    obtain ⟨ad177, e177, hx177_0⟩ := Kd.at_string (Kd.R_reads' HO_4.out).2.2 1 p177 q177
                    obtain rfl : ad171 = ad177 := (by injection e177)
                    (try simp only [show (1 : Int).toNat = 1 from rfl, Nat.reduceMul, Nat.reduceEqDiff, Go.Addr.add, ↓reduceIte] at hx177_0)
                    have qi177 : (1 < t163.length) = True := eq_true (by omega)
                    (try rw [show ((1 : Int)).toNat = 1 from rfl] at hx177_0)
                    replace p177 := eq_true p177
                    replace q177 := eq_true q177
                    go_wp2_with (first | (go_at_call 45; (with_reducible refine (spec_number.calls kj21 (rdOf ByteArray.empty t163 1) false _ A37.out).mono ?_); rintro e w' ⟨rfl, ⟨nd, rfl⟩⟩))
                    go_ret
                    exact ⟨by first | rfl | (simp [errW_none, errW_some] <;> rfl) | (simp [*, errW_none, errW_some] <;> rfl), by repeat (first | (with_reducible first | exact HB.out | apply below_alloc | apply pw_below_drewN | apply below_drew1) | exact HB.out)⟩
                  ·
                   rw [if_neg c36] at H
                   exact absurd H (by simp)
                 ·
                  rw [if_neg c35] at H
                  have c35b0 : ((rdOf ByteArray.empty t163 0).toList == ([49] : List UInt8)) = false := beq_eq_false_iff_ne.mpr c35
                  have c35b1 : ((rdOf ByteArray.empty t163 0).toList != ([49] : List UInt8)) = true := bne_iff_ne.mpr c35
                  obtain rfl := Option.some.inj H
                  obtain ⟨Ao43, co43, eo43⟩ := Kd.R_slice HO_4.out
                  subst eo43
                  have p171 : 0 ≤ (0 : Int) := (by omega)
                  have q171 : 0 < (t163.length : Int) := of_decide_eq_true (by first | (with_reducible assumption) | assumption)
                  obtain ⟨ad171, e171, hx171_0⟩ := Kd.at_string (Kd.R_reads' HO_4.out).2.2 0 p171 q171
                  cases e171
                  have qi171 : (0 < t163.length) = True := eq_true (by omega)
                  (try rw [show ((0 : Int)).toNat = 0 from rfl] at hx171_0)
                  (try rw [Addr.add_zero'] at hx171_0)
                  replace p171 := eq_true p171
                  replace q171 := eq_true q171
                  have p176 : 0 ≤ (0 : Int) := (by omega)
                  have q176 : 0 < (t163.length : Int) := of_decide_eq_true (by first | (with_reducible assumption) | assumption)
                  obtain ⟨ad176, e176, hx176_0⟩ := Kd.at_string (Kd.R_reads' HO_4.out).2.2 0 p176 q176
                  obtain rfl : ad171 = ad176 := (by injection e176)
                  have qi176 : (0 < t163.length) = True := eq_true (by omega)
                  (try rw [show ((0 : Int)).toNat = 0 from rfl] at hx176_0)
                  (try rw [Addr.add_zero'] at hx176_0)
                  replace p176 := eq_true p176
                  replace q176 := eq_true q176
                  go_wp2
                  go_ret
                  exact ⟨by first | rfl | (simp [errW_none, errW_some] <;> rfl) | (simp [*, errW_none, errW_some] <;> rfl), by repeat (first | (with_reducible first | exact HB.out | apply below_alloc | apply pw_below_drewN | apply below_drew1) | exact HB.out)⟩
               ·
                rw [if_neg c26] at H
                exact absurd H (by simp)
              ·
               rw [if_neg c25] at H
               have c25b0 : ((t163.length : Int) == 3) = false := beq_eq_false_iff_ne.mpr c25
               have c25b1 : ((t163.length : Int) != 3) = true := bne_iff_ne.mpr c25
               obtain rfl := Option.some.inj H
               obtain ⟨Ao44, co44, eo44⟩ := Kd.R_slice HO_4.out
               subst eo44
               go_wp2
               go_ret
               exact ⟨by first | rfl | (simp [errW_none, errW_some] <;> rfl) | (simp [*, errW_none, errW_some] <;> rfl), by repeat (first | (with_reducible first | exact HB.out | apply below_alloc | apply pw_below_drewN | apply below_drew1) | exact HB.out)⟩
         ·
          rw [if_neg c16] at H
          exact absurd H (by simp)
      ·
       rw [if_neg c13] at H
       have c13b0 : ((t158.length : Int) == 2) = false := beq_eq_false_iff_ne.mpr c13
       have c13b1 : ((t158.length : Int) != 2) = true := bne_iff_ne.mpr c13
       by_cases c45 : (t163.length : Int) = 3
       ·
        rw [if_pos c45] at H
        have c45b0 : ((t163.length : Int) == 3) = true := beq_iff_eq.mpr c45
        have c45b1 : ((t163.length : Int) != 3) = false := bne_eq_false_iff_eq.mpr c45
        clear c45
        by_cases c46 : 0 < (t163.length : Int)
        ·
         rw [if_pos c46] at H
         have c46b0 : decide (0 < (t163.length : Int)) = true := decide_eq_true c46
         have c46b1 : decide (0 < t163.length) = true := decide_eq_true (by omega)
         clear c46
         by_cases c47 : (rdOf ByteArray.empty t163 0).toList = ([48] : List UInt8)
         ·
          rw [if_pos c47] at H
          have c47b0 : ((rdOf ByteArray.empty t163 0).toList == ([48] : List UInt8)) = true := beq_iff_eq.mpr c47
          have c47b1 : ((rdOf ByteArray.empty t163 0).toList != ([48] : List UInt8)) = false := bne_eq_false_iff_eq.mpr c47
          clear c47
          by_cases c48 : 1 < (t163.length : Int)
          ·
           rw [if_pos c48] at H
           have c48b0 : decide (1 < (t163.length : Int)) = true := decide_eq_true c48
           have c48b1 : decide (1 < t163.length) = true := decide_eq_true (by omega)
           clear c48
           replace H := Option.bind_eq_some_iff.mp H
           obtain ⟨t183, A490, H⟩ := H
           replace H : (if t183 = true then (if 2 < (t163.length : Int) then ((spec_number.f kj2 (rdOf ByteArray.empty t163 2)).bind fun t185 => (some t185)) else (none)) else (some false)) = some r := H
           have A49 := Aside0.mk A490
           clear A490
           by_cases c50 : t183 = true
           ·
            subst c50
            have H1 : (if 2 < (t163.length : Int) then ((spec_number.f kj2 (rdOf ByteArray.empty t163 2)).bind fun t185 => (some t185)) else (none)) = some r := by rw [if_pos rfl] at H; exact H
            clear H
            have H := H1
            clear H1
            by_cases c51 : 2 < (t163.length : Int)
            ·
             rw [if_pos c51] at H
             have c51b0 : decide (2 < (t163.length : Int)) = true := decide_eq_true c51
             have c51b1 : decide (2 < t163.length) = true := decide_eq_true (by omega)
             clear c51
             replace H := Option.bind_eq_some_iff.mp H
             obtain ⟨t185, A520, H⟩ := H
             replace H : (some t185) = some r := H
             have A52 := Aside0.mk A520
             clear A520
             obtain rfl := Option.some.inj H
             obtain ⟨Ao53, co53, eo53⟩ := Kd.R_slice HO_3.out
             subst eo53
             have p162 : 0 ≤ (0 : Int) := (by omega)
             have q162 : 0 < (t158.length : Int) := of_decide_eq_true (by first | (with_reducible assumption) | assumption)
             obtain ⟨ad162, e162, hx162_0⟩ := Kd.at_string (Kd.R_reads' HO_3.out).2.2 0 p162 q162
             cases e162
             have qi162 : (0 < t158.length) = True := eq_true (by omega)
             (try rw [show ((0 : Int)).toNat = 0 from rfl] at hx162_0)
             (try rw [Addr.add_zero'] at hx162_0)
             replace p162 := eq_true p162
             replace q162 := eq_true q162
             go_wp2_with (first | ((with_reducible refine gate_callee (f := 14) rfl ?_); refine goesL_ (some 20) rfl rfl Tryd.func14 (by kernel_rfl) rfl #[.string ((rdOf ByteArray.empty t158 0).extract 1 (rdOf ByteArray.empty t158 0).size), .int .u8 46] rfl (by (try simp only [List.map_toArray, List.map_cons, List.map_nil]); first | done | rfl | (simp only [List.length_drop, List.length_take]; rfl)) ?_; (with_reducible refine (spec_Cut.calls kj2 ((rdOf ByteArray.empty t158 0).extract 1 (rdOf ByteArray.empty t158 0).size) 46 t163 _ A12.out).mono ?_); rintro e w54 ⟨v164, rfl, ho0, hb⟩; refine ⟨_, rfl, ?_⟩; have n0_ := Aside0.mk (Kd.R_elder' (by (with_reducible repeat (first | apply Kd.R_alloc | apply Kd.R_drewN | apply Kd.R_drew)); exact HO_3.out) (Kd.R_base ho0) hb); have n1_ := Aside0.mk (Kd.R_lower (Kd.R_new' ho0 (Kd.R_lt (by (with_reducible repeat (first | apply Kd.R_alloc | apply Kd.R_drewN | apply Kd.R_drew)); exact HO_3.out))) (below_size (by repeat (first | (with_reducible first | exact HB.out | apply below_alloc | apply pw_below_drewN | apply below_drew1) | exact HB.out)))); have n2_ := Aside0.mk (below_step (by repeat (first | (with_reducible first | exact HB.out | apply below_alloc | apply pw_below_drewN | apply below_drew1) | exact HB.out)) hb); clear HO_3; clear HB; have HO_3 := n0_; have HO165 := n1_; have HB := n2_; clear n0_ n1_ n2_; (try clear hb); (try clear hb2); (try clear hk); (try clear hi); (try clear ho0); obtain ⟨Ao55, co55, eo55⟩ := Kd.R_slice HO165.out; subst eo55; have p181 : 0 ≤ (0 : Int) := (by omega); have q181 : 0 < (t163.length : Int) := of_decide_eq_true (by first | (with_reducible assumption) | assumption); obtain ⟨ad181, e181, hx181_0⟩ := Kd.at_string (Kd.R_reads' HO165.out).2.2 0 p181 q181; cases e181; have qi181 : (0 < t163.length) = True := eq_true (by omega); (try rw [show ((0 : Int)).toNat = 0 from rfl] at hx181_0); (try rw [Addr.add_zero'] at hx181_0); replace p181 := eq_true p181; replace q181 := eq_true q181; have p182 : 0 ≤ (1 : Int) := (by omega); have q182 : 1 < (t163.length : Int) := of_decide_eq_true (by first | (with_reducible assumption) | assumption); obtain ⟨ad182, e182, hx182_0⟩ := Kd.at_string (Kd.R_reads' HO165.out).2.2 1 p182 q182; obtain rfl : ad181 = ad182 := (by injection e182); (try simp only [show (1 : Int).toNat = 1 from rfl, Nat.reduceMul, Nat.reduceEqDiff, Go.Addr.add, ↓reduceIte] at hx182_0); have qi182 : (1 < t163.length) = True := eq_true (by omega); (try rw [show ((1 : Int)).toNat = 1 from rfl] at hx182_0); replace p182 := eq_true p182; replace q182 := eq_true q182) | (go_at_call 45; (with_reducible refine (spec_number.calls kj2 (rdOf ByteArray.empty t163 1) true _ A49.out).mono ?_); rintro e w' ⟨rfl, ⟨nd, rfl⟩⟩; have p184 : 0 ≤ (2 : Int) := (by omega); have q184 : 2 < (t163.length : Int) := of_decide_eq_true (by first | (with_reducible assumption) | assumption); obtain ⟨ad184, e184, hx184_0⟩ := Kd.at_string (Kd.R_reads' HO165.out).2.2 2 p184 q184; obtain rfl : ad181 = ad184 := (by injection e184); (try simp only [show (2 : Int).toNat = 2 from rfl, Nat.reduceMul, Nat.reduceEqDiff, Go.Addr.add, ↓reduceIte] at hx184_0); have qi184 : (2 < t163.length) = True := eq_true (by omega); (try rw [show ((2 : Int)).toNat = 2 from rfl] at hx184_0); replace p184 := eq_true p184; replace q184 := eq_true q184) | (go_at_call 45; (with_reducible refine (spec_number.calls kj2 (rdOf ByteArray.empty t163 2) t185 _ A52.out).mono ?_); rintro e w' ⟨rfl, ⟨nd, rfl⟩⟩))
             go_ret
             exact ⟨by first | rfl | (simp [errW_none, errW_some] <;> rfl) | (simp [*, errW_none, errW_some] <;> rfl), by repeat (first | (with_reducible first | exact HB.out | apply below_alloc | apply pw_below_drewN | apply below_drew1) | exact HB.out)⟩
            ·
             rw [if_neg c51] at H
             exact absurd H (by simp)
           ·
            replace c50 := Bool.eq_false_iff.mpr c50
            subst c50
            have H1 : (some false) = some r := by rw [if_neg (show ¬ (false = true) by decide)] at H; exact H
            clear H
            have H := H1
            clear H1
            obtain rfl := Option.some.inj H
            obtain ⟨Ao56, co56, eo56⟩ := Kd.R_slice HO_3.out
            subst eo56
            have p162 : 0 ≤ (0 : Int) := (by omega)
            have q162 : 0 < (t158.length : Int) := of_decide_eq_true (by first | (with_reducible assumption) | assumption)
            obtain ⟨ad162, e162, hx162_0⟩ := Kd.at_string (Kd.R_reads' HO_3.out).2.2 0 p162 q162
            cases e162
            have qi162 : (0 < t158.length) = True := eq_true (by omega)
            (try rw [show ((0 : Int)).toNat = 0 from rfl] at hx162_0)
            (try rw [Addr.add_zero'] at hx162_0)
            replace p162 := eq_true p162
            replace q162 := eq_true q162
            go_wp2_with (first | ((with_reducible refine gate_callee (f := 14) rfl ?_); refine goesL_ (some 20) rfl rfl Tryd.func14 (by kernel_rfl) rfl #[.string ((rdOf ByteArray.empty t158 0).extract 1 (rdOf ByteArray.empty t158 0).size), .int .u8 46] rfl (by (try simp only [List.map_toArray, List.map_cons, List.map_nil]); first | done | rfl | (simp only [List.length_drop, List.length_take]; rfl)) ?_; (with_reducible refine (spec_Cut.calls kj2 ((rdOf ByteArray.empty t158 0).extract 1 (rdOf ByteArray.empty t158 0).size) 46 t163 _ A12.out).mono ?_); rintro e w57 ⟨v164, rfl, ho0, hb⟩; refine ⟨_, rfl, ?_⟩; have n0_ := Aside0.mk (Kd.R_elder' (by (with_reducible repeat (first | apply Kd.R_alloc | apply Kd.R_drewN | apply Kd.R_drew)); exact HO_3.out) (Kd.R_base ho0) hb); have n1_ := Aside0.mk (Kd.R_lower (Kd.R_new' ho0 (Kd.R_lt (by (with_reducible repeat (first | apply Kd.R_alloc | apply Kd.R_drewN | apply Kd.R_drew)); exact HO_3.out))) (below_size (by repeat (first | (with_reducible first | exact HB.out | apply below_alloc | apply pw_below_drewN | apply below_drew1) | exact HB.out)))); have n2_ := Aside0.mk (below_step (by repeat (first | (with_reducible first | exact HB.out | apply below_alloc | apply pw_below_drewN | apply below_drew1) | exact HB.out)) hb); clear HO_3; clear HB; have HO_3 := n0_; have HO165 := n1_; have HB := n2_; clear n0_ n1_ n2_; (try clear hb); (try clear hb2); (try clear hk); (try clear hi); (try clear ho0); obtain ⟨Ao58, co58, eo58⟩ := Kd.R_slice HO165.out; subst eo58; have p181 : 0 ≤ (0 : Int) := (by omega); have q181 : 0 < (t163.length : Int) := of_decide_eq_true (by first | (with_reducible assumption) | assumption); obtain ⟨ad181, e181, hx181_0⟩ := Kd.at_string (Kd.R_reads' HO165.out).2.2 0 p181 q181; cases e181; have qi181 : (0 < t163.length) = True := eq_true (by omega); (try rw [show ((0 : Int)).toNat = 0 from rfl] at hx181_0); (try rw [Addr.add_zero'] at hx181_0); replace p181 := eq_true p181; replace q181 := eq_true q181; have p182 : 0 ≤ (1 : Int) := (by omega); have q182 : 1 < (t163.length : Int) := of_decide_eq_true (by first | (with_reducible assumption) | assumption); obtain ⟨ad182, e182, hx182_0⟩ := Kd.at_string (Kd.R_reads' HO165.out).2.2 1 p182 q182; obtain rfl : ad181 = ad182 := (by injection e182); (try simp only [show (1 : Int).toNat = 1 from rfl, Nat.reduceMul, Nat.reduceEqDiff, Go.Addr.add, ↓reduceIte] at hx182_0); have qi182 : (1 < t163.length) = True := eq_true (by omega); (try rw [show ((1 : Int)).toNat = 1 from rfl] at hx182_0); replace p182 := eq_true p182; replace q182 := eq_true q182) | (go_at_call 45; (with_reducible refine (spec_number.calls kj2 (rdOf ByteArray.empty t163 1) false _ A49.out).mono ?_); rintro e w' ⟨rfl, ⟨nd, rfl⟩⟩))
            go_ret
            exact ⟨by first | rfl | (simp [errW_none, errW_some] <;> rfl) | (simp [*, errW_none, errW_some] <;> rfl), by repeat (first | (with_reducible first | exact HB.out | apply below_alloc | apply pw_below_drewN | apply below_drew1) | exact HB.out)⟩
          ·
           rw [if_neg c48] at H
           exact absurd H (by simp)
         ·
          rw [if_neg c47] at H
          have c47b0 : ((rdOf ByteArray.empty t163 0).toList == ([48] : List UInt8)) = false := beq_eq_false_iff_ne.mpr c47
          have c47b1 : ((rdOf ByteArray.empty t163 0).toList != ([48] : List UInt8)) = true := bne_iff_ne.mpr c47
          by_cases c59 : (rdOf ByteArray.empty t163 0).toList = ([49] : List UInt8)
          ·
           rw [if_pos c59] at H
           have c59b0 : ((rdOf ByteArray.empty t163 0).toList == ([49] : List UInt8)) = true := beq_iff_eq.mpr c59
           have c59b1 : ((rdOf ByteArray.empty t163 0).toList != ([49] : List UInt8)) = false := bne_eq_false_iff_eq.mpr c59
           clear c59
           by_cases c60 : 1 < (t163.length : Int)
           ·
            rw [if_pos c60] at H
            have c60b0 : decide (1 < (t163.length : Int)) = true := decide_eq_true c60
            have c60b1 : decide (1 < t163.length) = true := decide_eq_true (by omega)
            clear c60
            replace H := Option.bind_eq_some_iff.mp H
            obtain ⟨t188, A610, H⟩ := H
            replace H : (if t188 = true then (if 2 < (t163.length : Int) then ((spec_number.f kj2 (rdOf ByteArray.empty t163 2)).bind fun t190 => (some t190)) else (none)) else (some false)) = some r := H
            have A61 := Aside0.mk A610
            clear A610
            by_cases c62 : t188 = true
            ·
             subst c62
             have H1 : (if 2 < (t163.length : Int) then ((spec_number.f kj2 (rdOf ByteArray.empty t163 2)).bind fun t190 => (some t190)) else (none)) = some r := by rw [if_pos rfl] at H; exact H
             clear H
             have H := H1
             clear H1
             by_cases c63 : 2 < (t163.length : Int)
             ·
              rw [if_pos c63] at H
              have c63b0 : decide (2 < (t163.length : Int)) = true := decide_eq_true c63
              have c63b1 : decide (2 < t163.length) = true := decide_eq_true (by omega)
              clear c63
              replace H := Option.bind_eq_some_iff.mp H
              obtain ⟨t190, A640, H⟩ := H
              replace H : (some t190) = some r := H
              have A64 := Aside0.mk A640
              clear A640
              obtain rfl := Option.some.inj H
              obtain ⟨Ao65, co65, eo65⟩ := Kd.R_slice HO_3.out
              subst eo65
              have p162 : 0 ≤ (0 : Int) := (by omega)
              have q162 : 0 < (t158.length : Int) := of_decide_eq_true (by first | (with_reducible assumption) | assumption)
              obtain ⟨ad162, e162, hx162_0⟩ := Kd.at_string (Kd.R_reads' HO_3.out).2.2 0 p162 q162
              cases e162
              have qi162 : (0 < t158.length) = True := eq_true (by omega)
              (try rw [show ((0 : Int)).toNat = 0 from rfl] at hx162_0)
              (try rw [Addr.add_zero'] at hx162_0)
              replace p162 := eq_true p162
              replace q162 := eq_true q162
              go_wp2_with (first | ((with_reducible refine gate_callee (f := 14) rfl ?_); refine goesL_ (some 20) rfl rfl Tryd.func14 (by kernel_rfl) rfl #[.string ((rdOf ByteArray.empty t158 0).extract 1 (rdOf ByteArray.empty t158 0).size), .int .u8 46] rfl (by (try simp only [List.map_toArray, List.map_cons, List.map_nil]); first | done | rfl | (simp only [List.length_drop, List.length_take]; rfl)) ?_; (with_reducible refine (spec_Cut.calls kj2 ((rdOf ByteArray.empty t158 0).extract 1 (rdOf ByteArray.empty t158 0).size) 46 t163 _ A12.out).mono ?_); rintro e w66 ⟨v164, rfl, ho0, hb⟩; refine ⟨_, rfl, ?_⟩; have n0_ := Aside0.mk (Kd.R_elder' (by (with_reducible repeat (first | apply Kd.R_alloc | apply Kd.R_drewN | apply Kd.R_drew)); exact HO_3.out) (Kd.R_base ho0) hb); have n1_ := Aside0.mk (Kd.R_lower (Kd.R_new' ho0 (Kd.R_lt (by (with_reducible repeat (first | apply Kd.R_alloc | apply Kd.R_drewN | apply Kd.R_drew)); exact HO_3.out))) (below_size (by repeat (first | (with_reducible first | exact HB.out | apply below_alloc | apply pw_below_drewN | apply below_drew1) | exact HB.out)))); have n2_ := Aside0.mk (below_step (by repeat (first | (with_reducible first | exact HB.out | apply below_alloc | apply pw_below_drewN | apply below_drew1) | exact HB.out)) hb); clear HO_3; clear HB; have HO_3 := n0_; have HO165 := n1_; have HB := n2_; clear n0_ n1_ n2_; (try clear hb); (try clear hb2); (try clear hk); (try clear hi); (try clear ho0); obtain ⟨Ao67, co67, eo67⟩ := Kd.R_slice HO165.out; subst eo67; have p181 : 0 ≤ (0 : Int) := (by omega); have q181 : 0 < (t163.length : Int) := of_decide_eq_true (by first | (with_reducible assumption) | assumption); obtain ⟨ad181, e181, hx181_0⟩ := Kd.at_string (Kd.R_reads' HO165.out).2.2 0 p181 q181; cases e181; have qi181 : (0 < t163.length) = True := eq_true (by omega); (try rw [show ((0 : Int)).toNat = 0 from rfl] at hx181_0); (try rw [Addr.add_zero'] at hx181_0); replace p181 := eq_true p181; replace q181 := eq_true q181; have p186 : 0 ≤ (0 : Int) := (by omega); have q186 : 0 < (t163.length : Int) := of_decide_eq_true (by first | (with_reducible assumption) | assumption); obtain ⟨ad186, e186, hx186_0⟩ := Kd.at_string (Kd.R_reads' HO165.out).2.2 0 p186 q186; obtain rfl : ad181 = ad186 := (by injection e186); have qi186 : (0 < t163.length) = True := eq_true (by omega); (try rw [show ((0 : Int)).toNat = 0 from rfl] at hx186_0); (try rw [Addr.add_zero'] at hx186_0); replace p186 := eq_true p186; replace q186 := eq_true q186; have p187 : 0 ≤ (1 : Int) := (by omega); have q187 : 1 < (t163.length : Int) := of_decide_eq_true (by first | (with_reducible assumption) | assumption); obtain ⟨ad187, e187, hx187_0⟩ := Kd.at_string (Kd.R_reads' HO165.out).2.2 1 p187 q187; obtain rfl : ad181 = ad187 := (by injection e187); (try simp only [show (1 : Int).toNat = 1 from rfl, Nat.reduceMul, Nat.reduceEqDiff, Go.Addr.add, ↓reduceIte] at hx187_0); have qi187 : (1 < t163.length) = True := eq_true (by omega); (try rw [show ((1 : Int)).toNat = 1 from rfl] at hx187_0); replace p187 := eq_true p187; replace q187 := eq_true q187) | (go_at_call 45; (with_reducible refine (spec_number.calls kj2 (rdOf ByteArray.empty t163 1) true _ A61.out).mono ?_); rintro e w' ⟨rfl, ⟨nd, rfl⟩⟩; have p189 : 0 ≤ (2 : Int) := (by omega); have q189 : 2 < (t163.length : Int) := of_decide_eq_true (by first | (with_reducible assumption) | assumption); obtain ⟨ad189, e189, hx189_0⟩ := Kd.at_string (Kd.R_reads' HO165.out).2.2 2 p189 q189; obtain rfl : ad181 = ad189 := (by injection e189); (try simp only [show (2 : Int).toNat = 2 from rfl, Nat.reduceMul, Nat.reduceEqDiff, Go.Addr.add, ↓reduceIte] at hx189_0); have qi189 : (2 < t163.length) = True := eq_true (by omega); (try rw [show ((2 : Int)).toNat = 2 from rfl] at hx189_0); replace p189 := eq_true p189; replace q189 := eq_true q189) | (go_at_call 45; (with_reducible refine (spec_number.calls kj2 (rdOf ByteArray.empty t163 2) t190 _ A64.out).mono ?_); rintro e w' ⟨rfl, ⟨nd, rfl⟩⟩))
              go_ret
              exact ⟨by first | rfl | (simp [errW_none, errW_some] <;> rfl) | (simp [*, errW_none, errW_some] <;> rfl), by repeat (first | (with_reducible first | exact HB.out | apply below_alloc | apply pw_below_drewN | apply below_drew1) | exact HB.out)⟩
             ·
              rw [if_neg c63] at H
              exact absurd H (by simp)
            ·
             replace c62 := Bool.eq_false_iff.mpr c62
             subst c62
             have H1 : (some false) = some r := by rw [if_neg (show ¬ (false = true) by decide)] at H; exact H
             clear H
             have H := H1
             clear H1
             obtain rfl := Option.some.inj H
             obtain ⟨Ao68, co68, eo68⟩ := Kd.R_slice HO_3.out
             subst eo68
             have p162 : 0 ≤ (0 : Int) := (by omega)
             have q162 : 0 < (t158.length : Int) := of_decide_eq_true (by first | (with_reducible assumption) | assumption)
             obtain ⟨ad162, e162, hx162_0⟩ := Kd.at_string (Kd.R_reads' HO_3.out).2.2 0 p162 q162
             cases e162
             have qi162 : (0 < t158.length) = True := eq_true (by omega)
             (try rw [show ((0 : Int)).toNat = 0 from rfl] at hx162_0)
             (try rw [Addr.add_zero'] at hx162_0)
             replace p162 := eq_true p162
             replace q162 := eq_true q162
             go_wp2_with (first | ((with_reducible refine gate_callee (f := 14) rfl ?_); refine goesL_ (some 20) rfl rfl Tryd.func14 (by kernel_rfl) rfl #[.string ((rdOf ByteArray.empty t158 0).extract 1 (rdOf ByteArray.empty t158 0).size), .int .u8 46] rfl (by (try simp only [List.map_toArray, List.map_cons, List.map_nil]); first | done | rfl | (simp only [List.length_drop, List.length_take]; rfl)) ?_; (with_reducible refine (spec_Cut.calls kj2 ((rdOf ByteArray.empty t158 0).extract 1 (rdOf ByteArray.empty t158 0).size) 46 t163 _ A12.out).mono ?_); rintro e w69 ⟨v164, rfl, ho0, hb⟩; refine ⟨_, rfl, ?_⟩; have n0_ := Aside0.mk (Kd.R_elder' (by (with_reducible repeat (first | apply Kd.R_alloc | apply Kd.R_drewN | apply Kd.R_drew)); exact HO_3.out) (Kd.R_base ho0) hb); have n1_ := Aside0.mk (Kd.R_lower (Kd.R_new' ho0 (Kd.R_lt (by (with_reducible repeat (first | apply Kd.R_alloc | apply Kd.R_drewN | apply Kd.R_drew)); exact HO_3.out))) (below_size (by repeat (first | (with_reducible first | exact HB.out | apply below_alloc | apply pw_below_drewN | apply below_drew1) | exact HB.out)))); have n2_ := Aside0.mk (below_step (by repeat (first | (with_reducible first | exact HB.out | apply below_alloc | apply pw_below_drewN | apply below_drew1) | exact HB.out)) hb); clear HO_3; clear HB; have HO_3 := n0_; have HO165 := n1_; have HB := n2_; clear n0_ n1_ n2_; (try clear hb); (try clear hb2); (try clear hk); (try clear hi); (try clear ho0); obtain ⟨Ao70, co70, eo70⟩ := Kd.R_slice HO165.out; subst eo70; have p181 : 0 ≤ (0 : Int) := (by omega); have q181 : 0 < (t163.length : Int) := of_decide_eq_true (by first | (with_reducible assumption) | assumption); obtain ⟨ad181, e181, hx181_0⟩ := Kd.at_string (Kd.R_reads' HO165.out).2.2 0 p181 q181; cases e181; have qi181 : (0 < t163.length) = True := eq_true (by omega); (try rw [show ((0 : Int)).toNat = 0 from rfl] at hx181_0); (try rw [Addr.add_zero'] at hx181_0); replace p181 := eq_true p181; replace q181 := eq_true q181; have p186 : 0 ≤ (0 : Int) := (by omega); have q186 : 0 < (t163.length : Int) := of_decide_eq_true (by first | (with_reducible assumption) | assumption); obtain ⟨ad186, e186, hx186_0⟩ := Kd.at_string (Kd.R_reads' HO165.out).2.2 0 p186 q186; obtain rfl : ad181 = ad186 := (by injection e186); have qi186 : (0 < t163.length) = True := eq_true (by omega); (try rw [show ((0 : Int)).toNat = 0 from rfl] at hx186_0); (try rw [Addr.add_zero'] at hx186_0); replace p186 := eq_true p186; replace q186 := eq_true q186; have p187 : 0 ≤ (1 : Int) := (by omega); have q187 : 1 < (t163.length : Int) := of_decide_eq_true (by first | (with_reducible assumption) | assumption); obtain ⟨ad187, e187, hx187_0⟩ := Kd.at_string (Kd.R_reads' HO165.out).2.2 1 p187 q187; obtain rfl : ad181 = ad187 := (by injection e187); (try simp only [show (1 : Int).toNat = 1 from rfl, Nat.reduceMul, Nat.reduceEqDiff, Go.Addr.add, ↓reduceIte] at hx187_0); have qi187 : (1 < t163.length) = True := eq_true (by omega); (try rw [show ((1 : Int)).toNat = 1 from rfl] at hx187_0); replace p187 := eq_true p187; replace q187 := eq_true q187) | (go_at_call 45; (with_reducible refine (spec_number.calls kj2 (rdOf ByteArray.empty t163 1) false _ A61.out).mono ?_); rintro e w' ⟨rfl, ⟨nd, rfl⟩⟩))
             go_ret
             exact ⟨by first | rfl | (simp [errW_none, errW_some] <;> rfl) | (simp [*, errW_none, errW_some] <;> rfl), by repeat (first | (with_reducible first | exact HB.out | apply below_alloc | apply pw_below_drewN | apply below_drew1) | exact HB.out)⟩
           ·
            rw [if_neg c60] at H
            exact absurd H (by simp)
          ·
           rw [if_neg c59] at H
           have c59b0 : ((rdOf ByteArray.empty t163 0).toList == ([49] : List UInt8)) = false := beq_eq_false_iff_ne.mpr c59
           have c59b1 : ((rdOf ByteArray.empty t163 0).toList != ([49] : List UInt8)) = true := bne_iff_ne.mpr c59
           obtain rfl := Option.some.inj H
           obtain ⟨Ao71, co71, eo71⟩ := Kd.R_slice HO_3.out
           subst eo71
           have p162 : 0 ≤ (0 : Int) := (by omega)
           have q162 : 0 < (t158.length : Int) := of_decide_eq_true (by first | (with_reducible assumption) | assumption)
           obtain ⟨ad162, e162, hx162_0⟩ := Kd.at_string (Kd.R_reads' HO_3.out).2.2 0 p162 q162
           cases e162
           have qi162 : (0 < t158.length) = True := eq_true (by omega)
           (try rw [show ((0 : Int)).toNat = 0 from rfl] at hx162_0)
           (try rw [Addr.add_zero'] at hx162_0)
           replace p162 := eq_true p162
           replace q162 := eq_true q162
           go_wp2_with (first | ((with_reducible refine gate_callee (f := 14) rfl ?_); refine goesL_ (some 20) rfl rfl Tryd.func14 (by kernel_rfl) rfl #[.string ((rdOf ByteArray.empty t158 0).extract 1 (rdOf ByteArray.empty t158 0).size), .int .u8 46] rfl (by (try simp only [List.map_toArray, List.map_cons, List.map_nil]); first | done | rfl | (simp only [List.length_drop, List.length_take]; rfl)) ?_; (with_reducible refine (spec_Cut.calls kj2 ((rdOf ByteArray.empty t158 0).extract 1 (rdOf ByteArray.empty t158 0).size) 46 t163 _ A12.out).mono ?_); rintro e w72 ⟨v164, rfl, ho0, hb⟩; refine ⟨_, rfl, ?_⟩; have n0_ := Aside0.mk (Kd.R_elder' (by (with_reducible repeat (first | apply Kd.R_alloc | apply Kd.R_drewN | apply Kd.R_drew)); exact HO_3.out) (Kd.R_base ho0) hb); have n1_ := Aside0.mk (Kd.R_lower (Kd.R_new' ho0 (Kd.R_lt (by (with_reducible repeat (first | apply Kd.R_alloc | apply Kd.R_drewN | apply Kd.R_drew)); exact HO_3.out))) (below_size (by repeat (first | (with_reducible first | exact HB.out | apply below_alloc | apply pw_below_drewN | apply below_drew1) | exact HB.out)))); have n2_ := Aside0.mk (below_step (by repeat (first | (with_reducible first | exact HB.out | apply below_alloc | apply pw_below_drewN | apply below_drew1) | exact HB.out)) hb); clear HO_3; clear HB; have HO_3 := n0_; have HO165 := n1_; have HB := n2_; clear n0_ n1_ n2_; (try clear hb); (try clear hb2); (try clear hk); (try clear hi); (try clear ho0); obtain ⟨Ao73, co73, eo73⟩ := Kd.R_slice HO165.out; subst eo73; have p181 : 0 ≤ (0 : Int) := (by omega); have q181 : 0 < (t163.length : Int) := of_decide_eq_true (by first | (with_reducible assumption) | assumption); obtain ⟨ad181, e181, hx181_0⟩ := Kd.at_string (Kd.R_reads' HO165.out).2.2 0 p181 q181; cases e181; have qi181 : (0 < t163.length) = True := eq_true (by omega); (try rw [show ((0 : Int)).toNat = 0 from rfl] at hx181_0); (try rw [Addr.add_zero'] at hx181_0); replace p181 := eq_true p181; replace q181 := eq_true q181; have p186 : 0 ≤ (0 : Int) := (by omega); have q186 : 0 < (t163.length : Int) := of_decide_eq_true (by first | (with_reducible assumption) | assumption); obtain ⟨ad186, e186, hx186_0⟩ := Kd.at_string (Kd.R_reads' HO165.out).2.2 0 p186 q186; obtain rfl : ad181 = ad186 := (by injection e186); have qi186 : (0 < t163.length) = True := eq_true (by omega); (try rw [show ((0 : Int)).toNat = 0 from rfl] at hx186_0); (try rw [Addr.add_zero'] at hx186_0); replace p186 := eq_true p186; replace q186 := eq_true q186))
           go_ret
           exact ⟨by first | rfl | (simp [errW_none, errW_some] <;> rfl) | (simp [*, errW_none, errW_some] <;> rfl), by repeat (first | (with_reducible first | exact HB.out | apply below_alloc | apply pw_below_drewN | apply below_drew1) | exact HB.out)⟩
        ·
         rw [if_neg c46] at H
         exact absurd H (by simp)
       ·
        rw [if_neg c45] at H
        have c45b0 : ((t163.length : Int) == 3) = false := beq_eq_false_iff_ne.mpr c45
        have c45b1 : ((t163.length : Int) != 3) = true := bne_iff_ne.mpr c45
        obtain rfl := Option.some.inj H
        obtain ⟨Ao74, co74, eo74⟩ := Kd.R_slice HO_3.out
        subst eo74
        have p162 : 0 ≤ (0 : Int) := (by omega)
        have q162 : 0 < (t158.length : Int) := of_decide_eq_true (by first | (with_reducible assumption) | assumption)
        obtain ⟨ad162, e162, hx162_0⟩ := Kd.at_string (Kd.R_reads' HO_3.out).2.2 0 p162 q162
        cases e162
        have qi162 : (0 < t158.length) = True := eq_true (by omega)
        (try rw [show ((0 : Int)).toNat = 0 from rfl] at hx162_0)
        (try rw [Addr.add_zero'] at hx162_0)
        replace p162 := eq_true p162
        replace q162 := eq_true q162
        go_wp2_with (first | ((with_reducible refine gate_callee (f := 14) rfl ?_); refine goesL_ (some 20) rfl rfl Tryd.func14 (by kernel_rfl) rfl #[.string ((rdOf ByteArray.empty t158 0).extract 1 (rdOf ByteArray.empty t158 0).size), .int .u8 46] rfl (by (try simp only [List.map_toArray, List.map_cons, List.map_nil]); first | done | rfl | (simp only [List.length_drop, List.length_take]; rfl)) ?_; (with_reducible refine (spec_Cut.calls kj2 ((rdOf ByteArray.empty t158 0).extract 1 (rdOf ByteArray.empty t158 0).size) 46 t163 _ A12.out).mono ?_); rintro e w75 ⟨v164, rfl, ho0, hb⟩; refine ⟨_, rfl, ?_⟩; have n0_ := Aside0.mk (Kd.R_elder' (by (with_reducible repeat (first | apply Kd.R_alloc | apply Kd.R_drewN | apply Kd.R_drew)); exact HO_3.out) (Kd.R_base ho0) hb); have n1_ := Aside0.mk (Kd.R_lower (Kd.R_new' ho0 (Kd.R_lt (by (with_reducible repeat (first | apply Kd.R_alloc | apply Kd.R_drewN | apply Kd.R_drew)); exact HO_3.out))) (below_size (by repeat (first | (with_reducible first | exact HB.out | apply below_alloc | apply pw_below_drewN | apply below_drew1) | exact HB.out)))); have n2_ := Aside0.mk (below_step (by repeat (first | (with_reducible first | exact HB.out | apply below_alloc | apply pw_below_drewN | apply below_drew1) | exact HB.out)) hb); clear HO_3; clear HB; have HO_3 := n0_; have HO165 := n1_; have HB := n2_; clear n0_ n1_ n2_; (try clear hb); (try clear hb2); (try clear hk); (try clear hi); (try clear ho0); obtain ⟨Ao76, co76, eo76⟩ := Kd.R_slice HO165.out; subst eo76))
        go_ret
        exact ⟨by first | rfl | (simp [errW_none, errW_some] <;> rfl) | (simp [*, errW_none, errW_some] <;> rfl), by repeat (first | (with_reducible first | exact HB.out | apply below_alloc | apply pw_below_drewN | apply below_drew1) | exact HB.out)⟩
     ·
      rw [if_neg c11] at H
      exact absurd H (by simp)
    ·
     rw [if_neg c10] at H
     exact absurd H (by simp)
end Go.Proofs.YtlnmchehnhgfnaaDoor.PCont
