/- modfile.Format over a tree in memory. Conditions: the tree is ok and lies in memory; the table of white space lies there. -/
import Derived.Test.YtbifcpokkfiagaaDoorFe1
namespace Go.Proofs.YtbifcpokkfiagaaDoor.F
open Go.RowKit Go.Proofs.YtbifcpokkfiagaaDoorW.PrintWords Go.Proofs.YtbifcpokkfiagaaDoor.PFm
set_option linter.unusedVariables false

abbrev newC : Array Value := #[.slice none 0 0, .int .i64 0, .int .i8 0, .slice none 0 0, .int .i64 0]

theorem new_PS (w : World) : PS w.heap.size w.heap.size [] none 0 (w.alloc (.cells newC 53 (0, 0))) := by
  refine ⟨.slice none 0 0, ?_, World.ownsRow_nil _ _ _ _⟩
  refine LibA.zero_isBuffer (Nat.le_refl _) (lr := 0) ⟨newC, ?_, rfl, rfl, rfl, ?_⟩
  · show (w.heap.push _)[w.heap.size]? = _
    exact Array.getElem?_push_size
  · intro i hi
    unfold Rest
    rcases hi with hi | hi
    · omega
    · rcases (by omega : i = 3 ∨ i = 4 ∨ 5 ≤ i) with rfl | rfl | h5
      · rfl
      · rfl
      · rw [if_neg (by omega), if_neg (by omega)]
        exact Array.getElem?_eq_none (by have : newC.size = 5 := rfl; omega)

theorem joinS_end (ss : List StD) (h : ∀ s ∈ ss, StOk s) : joinS ss = [] ∨ EndNl (joinS ss) := by
  rcases List.eq_nil_or_concat ss with e | ⟨ys, t, e⟩
  · subst e
    exact Or.inl rfl
  · right
    have e2 : ss = ys ++ [t] := by rw [e]; simp
    have ht : ss[ys.length]? = some t := by rw [e2]; simp
    have e3 : ss.take (ys.length + 1) = ss := by rw [e2, List.take_of_length_le (by simp)]
    have h2 := joinS_step ss ys.length t ht
    rw [e3] at h2
    rw [h2, ← List.append_assoc]
    exact EndNl.app _ (stB_end (h t (by rw [e2]; simp)))

set_option maxRecDepth 100000 in
set_option maxHeartbeats 8000000 in
theorem fmt_is {W : World} {A1 As : Option Addr} {c1 cs : Nat} {ss : List StD} (g : Nat) (hT : Hid (Tab W))
    (hg1 : W.cell? ⟨g, 1, none⟩ = some (.slice A1 0 c1)) (n : Nat) (hn : Hid (n = ss.length)) (hg4 : W.cell? ⟨g, 4, none⟩ = some (.slice As n cs)) (HC : Hid (kEx.C W As n ss)) (hss : Hid (∀ s ∈ ss, StOk s)) (hn50 : n ≤ 50) :
    Calls Tryd.prog 13 #[.pointer (some ⟨g, 0, none⟩)] W fun e w' => ∃ p k c, e = .returned (.slice p k c) ∧ k = (joinS ss).length ∧ Rd w' p c (joinS ss) ∧ Below W.heap.size W w' := by
  have HN := Lib.hid (new_PS W)
  have HB0 : Hid (Below W.heap.size W (W.alloc (.cells newC 53 (0, 0)))) := Lib.hid ((Below.refl _ _).alloc (Nat.le_refl _) _)
  obtain ⟨m, hm⟩ : ∃ m, m = (joinS ss).length := ⟨_, rfl⟩
  have HM := Lib.hid hm
  clear hm
  go_enter Tryd.func13, Tryd.ntmps13
  go_wp2_with (first | (go_at_call 23; (with_reducible refine (file_is g HB0 HN hT hg1 n hn hg4 HC hss hn50).mono ?_); rintro e w1 ⟨rfl, hp1, hb1⟩; obtain ⟨cv, hpb, hpq⟩ := hp1.out; have HPB := Lib.hid hpb) | (go_at_call 24; (with_reducible refine (bytes_is HPB m HM).mono ?_); rintro e w2 ⟨p, c, rfl, HR, hd⟩))
  have HR2 := drawnRd HR hd
  have HB2 : Hid (Below W.heap.size W w2) := Lib.hid (by
    obtain ⟨⟨q, rfl⟩⟩ := hd
    have h1 := HB0.out.trans hb1.out
    exact ⟨h1.os, h1.tape, h1.output, h1.size, h1.block⟩)
  have hmc : m ≤ c := by rw [HM.out]; exact HR2.out.1
  clear HR hd hp1 hb1 hpb hpq HPB HN HB0
  have hj := joinS_end ss hss.out
  rcases hj with hj | hj
  · have hm0 : m = 0 := by rw [HM.out, hj]; rfl
    subst hm0
    clear hj
    go_loop [4] (fun v => v = .slice p 0 c) (fun v => 0)
    case atStart => exact rfl
    case round =>
      subst hrel
      go_wp2
      go_ret
      exact ⟨p, 0, c, rfl, HM.out, HR2.out, HB2.out⟩
  · obtain ⟨q, x, e, hx⟩ := hj
    obtain ⟨i, hi⟩ : ∃ i, i = q.length := ⟨_, rfl⟩
    have hm2 : m = i + 2 := by rw [HM.out, e, hi]; simp
    subst hm2
    have hjl : (joinS ss).length = i + 2 := HM.out.symm
    obtain ⟨gg, rfl, hc1⟩ := rd_at HR2 (i + 1) (by omega)
    obtain ⟨gg', he, hc0⟩ := rd_at HR2 i (by omega)
    have hgg : gg = gg' := by simpa using he
    subst hgg
    obtain ⟨y, hy⟩ : ∃ y : Nat, y = x.toNat := ⟨_, rfl⟩
    have e1 : ((joinS ss)[i + 1]'(by omega)) = 10 := by
      simp only [e, hi]
      simp
    have e0 : ((joinS ss)[i]'(by omega)) = x := by
      simp only [e, hi]
      simp
    rw [e1] at hc1
    rw [e0, ← hy] at hc0
    have hc1' : w2.cell? ⟨gg, i + 1, none⟩ = some (.int .u8 10) := hc1
    have hy10 : (((y : Nat) : Int) == 10) = false := by
      rw [beq_eq_false_iff_ne]
      intro h
      apply hx
      apply UInt8.toNat_inj.mp
      rw [← hy]
      show y = 10
      omega
    have hk2 : i + 2 ≤ 140737488355328 := by
      have h1 := joinS_len ss hss.out
      have h2 := hn.out
      omega
    clear e e1 e0 he hc1 hy hx hi hjl
    go_loop [4] (fun v => v = .slice (some ⟨gg, 0, none⟩) (i + 2) c) (fun v => 0)
    case atStart => exact rfl
    case round =>
      subst hrel
      go_wp2
      go_ret
      exact ⟨_, i + 2, c, rfl, HM.out, HR2.out, HB2.out⟩

end Go.Proofs.YtbifcpokkfiagaaDoor.F
