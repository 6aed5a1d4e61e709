/- The printer's trim and indent. Conditions: the buffer is one of the call's own that has only been written. -/
import Derived.Test.YtbifcpokkfiagaaDoorFc2
namespace Go.Proofs.YtbifcpokkfiagaaDoor.F
open Go.RowKit Go.Proofs.YtbifcpokkfiagaaDoorW.PrintWords
set_option linter.unusedVariables false

theorem trunc_at {B b : Nat} {l : List UInt8} {cv : Value} {m : Nat} {w : World} (h : Hid (PB B b l cv m w)) (k : Nat) (hk : Hid (k ≤ l.length)) (x : Int) (hx : Hid (x = (k : Int))) :
    Calls Tryd.prog 51 #[.pointer (some ⟨b, 0, none⟩), .int .i64 x] w fun e w' => e = .returned (.tuple #[]) ∧ Hid (PB B b (l.take k) cv m w') ∧ Hid (Ok B b w w') := by
  rw [hx.out]
  exact trunc_is h k hk

set_option maxRecDepth 100000 in
set_option maxHeartbeats 4000000 in
theorem trim_is {B b : Nat} {l : List UInt8} {cv : Value} {m : Nat} {w : World} (h : Hid (PB B b l cv m w)) (k : Nat) (hk : Hid (k ≤ l.length))
    (hws : Hid (∀ i, k ≤ i → (h : i < l.length) → l[i] = 9 ∨ l[i] = 32)) (hst : Hid (∀ j, j + 1 = k → (h : j < l.length) → l[j] ≠ 9 ∧ l[j] ≠ 32)) :
    Calls Tryd.prog 41 #[.pointer (some ⟨b, 0, none⟩)] w fun e w' => e = .returned (.tuple #[]) ∧ Hid (PB B b (l.take k) cv m w') ∧ Hid (Ok B b w w') := by
  obtain ⟨n, hn⟩ : ∃ n, n = l.length := ⟨_, rfl⟩
  have HN := Lib.hid hn
  obtain ⟨p0, c0, lr, h0, h1, h2, h3, h4, hf, hR, hc⟩ := h.out.parts
  have hnc : n ≤ 9223372036854775807 := by have := hR.1; omega
  clear h0 h1 h2 h3 h4 hf hR hc hn
  go_enter Tryd.func41, Tryd.ntmps41
  go_wp2_with (first | (go_at_call 24; (with_reducible refine (bytes_is h n HN).mono ?_); rintro e w1 ⟨p, c, rfl, HR, hd⟩))
  have HP1 : Hid (PB B b l cv m w1) := Lib.hid (by obtain ⟨⟨q, rfl⟩⟩ := hd; exact h.out.drewN q)
  have HK1 : Hid (Ok B b w w1) := Lib.hid (by obtain ⟨⟨q, rfl⟩⟩ := hd; exact (Ok.refl B b w).drewN q)
  have HR1 : Hid (Rd w1 p c l) := Lib.hid (by obtain ⟨⟨q, rfl⟩⟩ := hd; exact HR.out)
  clear HR hd h
  go_loop [3] (fun v => ∃ j : Nat, v = .int .i64 (j : Int) ∧ j ≤ n ∧ k ≤ j) (fun v => (intOf v).toNat)
  case atStart => exact ⟨n, rfl, Nat.le_refl _, by rw [HN.out]; exact hk.out⟩
  case round =>
    obtain ⟨j, rfl, hjn, hkj⟩ := hrel
    by_cases hjk : j = k
    · subst hjk
      rcases Nat.eq_zero_or_pos j with h0 | h0
      · subst h0
        go_wp2_with (first | (go_at_call 51; (with_reducible refine (trunc_at HP1 0 hk _ (Lib.hid (by first | rfl | omega))).mono ?_); rintro e w2 ⟨rfl, hp, ho⟩))
        go_end0
        exact ⟨rfl, hp, Lib.hid (HK1.out.trans ho.out)⟩
      · obtain ⟨i, rfl⟩ : ∃ i, j = i + 1 := ⟨j - 1, by omega⟩
        have hil : i < l.length := by have := HN.out; omega
        obtain ⟨x9, x32⟩ := hst.out i rfl hil
        obtain ⟨hc, hr⟩ := HR1.out
        rcases hr with ⟨rfl, rfl, rfl⟩ | ⟨g, rfl, hr⟩
        · simp at hil
        have hcell := hr i hil
        obtain ⟨x, hx⟩ : ∃ x : Nat, x = (l[i]'hil).toNat := ⟨_, rfl⟩
        rw [← hx] at hcell
        have n9 : x ≠ 9 := by intro e; exact x9 (UInt8.toNat_inj.mp (by rw [← hx, e]; rfl))
        have n32 : x ≠ 32 := by intro e; exact x32 (UInt8.toNat_inj.mp (by rw [← hx, e]; rfl))
        have hb1 : (i : Int) < (n : Int) := by omega
        have m9 : (((x : Nat) : Int) == 9) = false := by rw [beq_eq_false_iff_ne]; omega
        have m32 : (((x : Nat) : Int) == 32) = false := by rw [beq_eq_false_iff_ne]; omega
        clear hr hx x9 x32 n9 n32
        go_wp2_with (first | (go_at_call 51; (with_reducible refine (trunc_at HP1 (i + 1) hk _ (Lib.hid (by first | rfl | omega))).mono ?_); rintro e w2 ⟨rfl, hp, ho⟩))
        go_end0
        exact ⟨rfl, hp, Lib.hid (HK1.out.trans ho.out)⟩
    · obtain ⟨i, rfl⟩ : ∃ i, j = i + 1 := ⟨j - 1, by omega⟩
      have hil : i < l.length := by have := HN.out; omega
      have xx := hws.out i (by omega) hil
      obtain ⟨hc, hr⟩ := HR1.out
      rcases hr with ⟨rfl, rfl, rfl⟩ | ⟨g, rfl, hr⟩
      · simp at hil
      have hcell := hr i hil
      have hb1 : (i : Int) < (n : Int) := by omega
      rcases xx with xx | xx
      · rw [xx] at hcell
        have hcell' : w1.cell? ⟨g, i, none⟩ = some (.int .u8 9) := hcell
        clear hr hcell
        go_wp2
        exact ⟨⟨i, rfl, by omega, by omega⟩, by show (((i : Nat) : Int)).toNat < ((((i + 1 : Nat)) : Int)).toNat; omega⟩
      · rw [xx] at hcell
        have hcell' : w1.cell? ⟨g, i, none⟩ = some (.int .u8 32) := hcell
        clear hr hcell
        go_wp2
        exact ⟨⟨i, rfl, by omega, by omega⟩, by show (((i : Nat) : Int)).toNat < ((((i + 1 : Nat)) : Int)).toNat; omega⟩

set_option maxRecDepth 100000 in
set_option maxHeartbeats 4000000 in
theorem indent_is {B b : Nat} {l : List UInt8} {cv : Value} {m : Nat} {w : World} (h : Hid (PB B b l cv m w)) (he : Hid (∀ j, j + 1 = l.length → (h : j < l.length) → l[j] = 10)) :
    Calls Tryd.prog 42 #[.pointer (some ⟨b, 0, none⟩)] w fun e w' => e = .returned (.int .i64 0) ∧ Hid (PB B b l cv m w') ∧ Hid (Ok B b w w') := by
  obtain ⟨n, hn⟩ : ∃ n, n = l.length := ⟨_, rfl⟩
  have HN := Lib.hid hn
  obtain ⟨p0, c0, lr, h0, h1, h2, h3, h4, hf, hR, hc⟩ := h.out.parts
  have hnc : n ≤ 9223372036854775807 := by have := hR.1; omega
  clear h0 h1 h2 h3 h4 hf hR hc hn
  go_enter Tryd.func42, Tryd.ntmps42
  go_wp2_with (first | (go_at_call 24; (with_reducible refine (bytes_is h n HN).mono ?_); rintro e w1 ⟨p, c, rfl, HR, hd⟩))
  have HP1 : Hid (PB B b l cv m w1) := Lib.hid (by obtain ⟨⟨q, rfl⟩⟩ := hd; exact h.out.drewN q)
  have HK1 : Hid (Ok B b w w1) := Lib.hid (by obtain ⟨⟨q, rfl⟩⟩ := hd; exact (Ok.refl B b w).drewN q)
  have HR1 : Hid (Rd w1 p c l) := Lib.hid (by obtain ⟨⟨q, rfl⟩⟩ := hd; exact HR.out)
  clear HR hd h
  go_loop [4] (fun v => v = .int .i64 0) (fun v => 0)
  case atStart => exact rfl
  case round =>
    subst hrel
    rcases Nat.eq_zero_or_pos n with h0 | h0
    · subst h0
      go_wp2
      go_ret
      exact ⟨rfl, HP1, HK1⟩
    · obtain ⟨i, rfl⟩ : ∃ i, n = i + 1 := ⟨n - 1, by omega⟩
      have hil : i < l.length := by have := HN.out; omega
      have xx := he.out i HN.out hil
      obtain ⟨hc, hr⟩ := HR1.out
      rcases hr with ⟨rfl, rfl, rfl⟩ | ⟨g, rfl, hr⟩
      · simp at hil
      have hcell := hr i hil
      rw [xx] at hcell
      have hcell' : w1.cell? ⟨g, i, none⟩ = some (.int .u8 10) := hcell
      clear hr hcell xx
      go_wp2
      go_ret
      exact ⟨rfl, HP1, HK1⟩

end Go.Proofs.YtbifcpokkfiagaaDoor.F
