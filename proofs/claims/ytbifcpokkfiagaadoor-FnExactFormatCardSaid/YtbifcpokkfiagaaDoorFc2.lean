/- The printer's buffer: what Len, Truncate, and the printer's trim and indent do. Conditions: the buffer is one of the call's own that has only been written. -/
import Derived.Test.YtbifcpokkfiagaaDoorFc1
namespace Go.Proofs.YtbifcpokkfiagaaDoor.F
open Go.RowKit Go.Proofs.YtbifcpokkfiagaaDoorW.PrintWords
set_option linter.unusedVariables false

set_option maxRecDepth 100000 in
set_option maxHeartbeats 2000000 in
theorem len_is {B b : Nat} {l : List UInt8} {cv : Value} {m : Nat} {w : World} (h : Hid (PB B b l cv m w)) (n : Nat) (hn : Hid (n = l.length)) :
    Calls Tryd.prog 44 #[.pointer (some ⟨b, 0, none⟩)] w fun e w' => e = .returned (.int .i64 (n : Int)) ∧ Drawn0 w w' := by
  obtain ⟨p, c, lr, h0, h1, h2, h3, h4, hf, hR, hc⟩ := h.out.parts
  rw [← hn.out] at h0
  have hle : n ≤ c := by rw [hn.out]; exact hR.1
  clear hR hf h2 h3 h4
  go_enter Tryd.func44, Tryd.ntmps44
  go_wp2
  go_quiet (fail)
  go_wp2
  go_ret
  exact ⟨by simp, by repeat (first | exact Drawn0.refl _ | apply Drawn0.step)⟩

set_option maxRecDepth 100000 in
set_option maxHeartbeats 4000000 in
theorem trunc_is {B b : Nat} {l : List UInt8} {cv : Value} {m : Nat} {w : World} (h : Hid (PB B b l cv m w)) (k : Nat) (hk : Hid (k ≤ l.length)) :
    Calls Tryd.prog 51 #[.pointer (some ⟨b, 0, none⟩), .int .i64 (k : Int)] w fun e w' => e = .returned (.tuple #[]) ∧ Hid (PB B b (l.take k) cv m w') ∧ Hid (Ok B b w w') := by
  have HOK := Lib.hid (Ok.refl B b w)
  by_cases k0 : k = 0
  · subst k0
    go_enter Tryd.func51, Tryd.ntmps51
    go_wp2_with (first | (go_at_call 45; (with_reducible refine (reset_is (l := l) (cv := cv) (m := m) (B := B) ?_).mono ?_); (first | exact h | skip); rintro e w' ⟨rfl, hp, ho⟩))
    (try simp only [Exit.inBlock, Exit.then]); refine bodyPost_ret (results_none rfl _ _ _) rfl ?_
    exact ⟨rfl, by rw [List.take_zero]; exact hp, ho⟩
  · obtain ⟨p, c, lr, h0, h1, h2, h3, h4, hf, hR, hc⟩ := h.out.parts
    have f0 := hf 0
    have f2 := hf 2
    obtain ⟨n, hn⟩ : ∃ n, n = l.length := ⟨_, rfl⟩
    have HN := Lib.hid hn
    have hkn : k ≤ n := by rw [hn]; exact hk.out
    have hle : n ≤ c := by rw [hn]; exact hR.1
    rw [← hn] at h0
    have HL : Hid (PB B b l cv m (w.setCell ⟨b, 2, none⟩ (.int .i8 0))) := Lib.hid (h.out.setLast 0)
    have HK : Hid (Ok B b w (w.setCell ⟨b, 2, none⟩ (.int .i8 0))) := Lib.hid ((Ok.refl B b w).set h.out.hB 2 _)
    clear hn hf hR h3 h4
    go_enter Tryd.func51, Tryd.ntmps51
    go_wp2_with (first | (go_at_call 44; (with_reducible refine (len_is HL n HN).mono ?_); rintro e w' ⟨rfl, hd⟩))
    have HL2 : Hid (PB B b l cv m w') := Lib.hid (by obtain ⟨⟨q, rfl⟩⟩ := hd; exact HL.out.drewN q)
    have HK2 : Hid (Ok B b w w') := Lib.hid (by obtain ⟨⟨q, rfl⟩⟩ := hd; exact HK.out.drewN q)
    obtain ⟨p', c', lr', g0, g1, g2, g3, g4, gf, gR, gc⟩ := HL2.out.parts
    have g00 := gf 0
    rw [← HN.out] at g0
    have hle' : n ≤ c' := by rw [HN.out]; exact gR.1
    have HP : Hid (PB B b (l.take k) cv m ((w'.drew).setCell ⟨b, 0, none⟩ (.slice p' k c'))) := Lib.hid ((HL2.out.drewN 1).setBuf (p := p') (c := c') (n := n) g0 k hk.out)
    have HQ : Hid (Ok B b w ((w'.drew).setCell ⟨b, 0, none⟩ (.slice p' k c'))) := Lib.hid ((HK2.out.drewN 1).set HL2.out.hB 0 _)
    have hsl : ∀ W, (Instr.slice 37 (.slice p' n c') none (some (.int .i64 (k : Int))) none).run Tryd.prog W = .ok (.slice p' k c') W := by
      intro W
      rw [run_slice_h (P := Tryd.prog) W 37 p' n c' (by kernel_rfl) .i64 k (by omega) (by omega)]
      have hz : ∀ w', (sizeOf (Tryd.prog.elem 37)).run Tryd.prog w' = .ok 1 w' := fun w' => by kernel_rfl
      rw [hz]
      show Result.ok (sliced p' 0 _ c' 1) W = _
      unfold sliced
      cases p' with
      | none => simp
      | some a => simp [Addr.add]
    have hwr : IntKind.i64.wrap (k : Int) = k := by rw [IntKind.wrap_i64]; omega
    have e0' : World.cell? ({ heap := w'.heap, tape := w'.tape, drawn := w'.drawn + 1, os := w'.os, output := w'.output } : World) ⟨b, 0, none⟩ = some (.slice p' n c') := g0
    have e1' : World.cell? ({ heap := w'.heap, tape := w'.tape, drawn := w'.drawn + 1, os := w'.os, output := w'.output } : World) ⟨b, 1, none⟩ = some (.int .i64 0) := g1
    have e2' : w'.drew.cell? ⟨b, 0, none⟩ = some (.slice p' n c') := g0
    have f2' : w'.drew.frozen? ⟨b, 0, none⟩ = false := g00
    clear hd HL HK HL2 HK2 gR g3 g4 gf g2 h0 h1 h2
    go_still_tail 12, (by kernel_rfl)
    change wpList _ _ _ _ _ w'.drew
    generalize w'.drew = w2 at *
    go_wp2
    go_end0
    exact ⟨rfl, HP, HQ⟩

end Go.Proofs.YtbifcpokkfiagaaDoor.F
