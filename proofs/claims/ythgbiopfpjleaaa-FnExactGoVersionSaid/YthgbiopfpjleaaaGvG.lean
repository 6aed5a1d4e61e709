/- The law FnExactGoVersion holds for every string: what the program's matchGoVersion tells and what the reference tells are one and the same language. Conditions: none. -/
import Derived.Test.YthgbiopfpjleaaaGvF
namespace Go.Proofs.Ythgbiopfpjleaaa.Gv
open Go.RowKit Go.Proofs.Ythgbiopfpjleaaa.PGoVersion Go.Proofs.YthgbiopfpjleaaaW.PrintWords

theorem Run.unique {P : UInt8 → Bool} {l : List UInt8} {e g g' : Nat} (h : Run P l e g) (h' : Run P l e g') : g = g' := by
  obtain ⟨a1, a2, a3⟩ := h
  obtain ⟨b1, b2, b3⟩ := h'
  rcases Nat.lt_trichotomy g g' with h | h | h
  · rcases b3 with h0 | ⟨c, h0, h1⟩
    · omega
    · have := a2 (g' - 1) c (by omega) (by omega) h0
      rw [h1] at this
      exact absurd this (by simp)
  · exact h
  · rcases a3 with h0 | ⟨c, h0, h1⟩
    · omega
    · have := b2 (g - 1) c (by omega) (by omega) h0
      rw [h1] at this
      exact absurd this (by simp)

theorem Run.mk' (P : UInt8 → Bool) (A B D : List UInt8) (c : UInt8) (hB : ∀ x ∈ B, P x = true) (hc : P c = false) : Run P ((A ++ [c]) ++ (B ++ D)) ((A ++ [c]).length + B.length) (A ++ [c]).length := by
  refine ⟨by omega, ?_, Or.inr ⟨c, ?_, hc⟩⟩
  · intro j x h1 h2 hx
    rw [List.getElem?_append_right h1, List.getElem?_append_left (by omega)] at hx
    exact hB x (List.mem_of_getElem? hx)
  · rw [List.getElem?_append_left (by simp)]
    simp

theorem last_of (l : List UInt8) (h : l ≠ []) : ∃ A c, l = A ++ [c] := ⟨l.dropLast, l.getLast h, (List.dropLast_concat_getLast h).symm⟩

/-- What is left of a core is a number behind a point. -/
theorem core_end (n1 n2 m : List UInt8) (h : Core n1 n2 m) : ∃ u n, n1 ++ 46 :: (n2 ++ m) = u ++ 46 :: n ∧ n ≠ [] ∧ ∀ c ∈ n, dig c = true := by
  obtain ⟨L1, ne, L2, hm⟩ := h
  rcases hm with rfl | ⟨n3, L3, rfl⟩
  · exact ⟨n1, n2, by rw [List.append_nil], L2.ne_nil, L2.1⟩
  · exact ⟨n1 ++ 46 :: n2, n3, by simp, L3.ne_nil, L3.1⟩

theorem ver_iff (l : List UInt8) (g1 g2 : Nat) (h1 : Run dig l l.length g1) (h2 : Run low l g1 g2) : (if g2 < g1 then g1 ≠ l.length ∧ CoreL (l.take g2) else CoreL l) ↔ Ver l := by
  constructor
  · intro h
    by_cases c : g2 < g1
    · rw [if_pos c] at h
      obtain ⟨h3, n1, n2, m, e, hC⟩ := h
      have g1le := h1.1
      refine ⟨n1, n2, m, (l.take g1).drop g2 ++ l.drop g1, ?_, hC, Or.inr ⟨_, _, ?_, ?_, ?_, ?_, rfl⟩⟩
      · have e1 : l = l.take g2 ++ ((l.take g1).drop g2 ++ l.drop g1) := by
          conv => lhs; rw [← List.take_append_drop g1 l]
          rw [← List.append_assoc]
          congr 1
          conv => lhs; rw [← List.take_append_drop g2 (l.take g1)]
          rw [List.take_take, Nat.min_eq_left (by omega)]
        conv => lhs; rw [e1, e]
        simp
      · intro e
        have := congrArg List.length e
        simp at this
        omega
      · intro e
        have := congrArg List.length e
        simp at this
        omega
      · intro x hx
        obtain ⟨j, hj⟩ := List.mem_iff_getElem?.mp hx
        rw [List.getElem?_drop, List.getElem?_take] at hj
        split at hj
        · exact h2.2.1 (g2 + j) x (by omega) (by omega) hj
        · exact absurd hj (by simp)
      · intro x hx
        obtain ⟨j, hj⟩ := List.mem_iff_getElem?.mp hx
        rw [List.getElem?_drop] at hj
        have hlt := (List.getElem?_eq_some_iff.mp hj).1
        exact h1.2.1 (g1 + j) x (by omega) hlt hj
    · rw [if_neg c] at h
      obtain ⟨n1, n2, m, e, hC⟩ := h
      exact ⟨n1, n2, m, [], by rw [List.append_nil]; exact e, hC, Or.inl rfl⟩
  · rintro ⟨n1, n2, m, suf, e, hC, hs⟩
    obtain ⟨u, n, eu, nn, hn⟩ := core_end n1 n2 m hC
    have e1 : l = (u ++ 46 :: n) ++ suf := by rw [← eu, e]; simp
    rcases hs with rfl | ⟨x, y, hx, hy, hlx, hdy, rfl⟩
    · have r1 : Run dig l l.length (u ++ [46]).length := by
        have := Run.mk' dig u n [] 46 hn dig46
        rw [e1]
        have e2 : (u ++ 46 :: n) ++ [] = (u ++ [46]) ++ (n ++ []) := by simp
        rw [e2]
        have e3 : ((u ++ [46]) ++ (n ++ [])).length = (u ++ [46]).length + n.length := by simp; omega
        rw [e3]
        exact this
      have q1 := h1.unique r1
      have r2 : Run low l g1 g1 := by
        refine ⟨by omega, fun j c h1 h2 => by omega, Or.inr ⟨46, ?_, low46⟩⟩
        rw [q1, e1]
        simp
      have q2 := h2.unique r2
      rw [if_neg (by omega)]
      exact ⟨n1, n2, m, by rw [e, List.append_nil], hC⟩
    · obtain ⟨x', a, rfl⟩ := last_of x hx
      obtain ⟨n', b, rfl⟩ := last_of n nn
      have r1 : Run dig l l.length (((u ++ 46 :: (n' ++ [b])) ++ x') ++ [a]).length := by
        have := Run.mk' dig ((u ++ 46 :: (n' ++ [b])) ++ x') y [] a hdy (low_dig (hlx a (by simp)))
        have e2 : l = (((u ++ 46 :: (n' ++ [b])) ++ x') ++ [a]) ++ (y ++ []) := by rw [e1]; simp
        have e3 : l.length = (((u ++ 46 :: (n' ++ [b])) ++ x') ++ [a]).length + y.length := by rw [e2]; simp; omega
        rw [e3, e2]
        exact this
      have q1 := h1.unique r1
      have r2 : Run low l g1 ((u ++ 46 :: n') ++ [b]).length := by
        have := Run.mk' low (u ++ 46 :: n') (x' ++ [a]) y b hlx (dig_low (hn b (by simp)))
        have e2 : l = ((u ++ 46 :: n') ++ [b]) ++ ((x' ++ [a]) ++ y) := by rw [e1]; simp
        have e3 : g1 = ((u ++ 46 :: n') ++ [b]).length + (x' ++ [a]).length := by rw [q1]; simp; omega
        rw [e3, e2]
        exact this
      have q2 := h2.unique r2
      have yl := List.length_pos_iff.mpr hy
      have ll : l.length = g1 + y.length := by rw [q1, e1]; simp; omega
      have g12 : g1 = g2 + (x' ++ [a]).length := by rw [q1, q2]; simp; omega
      rw [if_pos (by rw [g12]; simp)]
      refine ⟨by omega, n1, n2, m, ?_, hC⟩
      rw [eu, q2, e1]
      have : (u ++ 46 :: (n' ++ [b])) ++ ((x' ++ [a]) ++ y) = ((u ++ 46 :: n') ++ [b]) ++ ((x' ++ [a]) ++ y) := by simp
      rw [this, List.take_left]
      simp

theorem spec_tells (s : ByteArray) (hs : s.size ≤ 2147483647) : ∃ k r, spec_GoVersion.f k s = some r ∧ (r = true ↔ Ver (lst s)) := by
  obtain ⟨g1, k1, R1, hk1, e1⟩ := digs_l0 s hs s.size (8 * s.size + 50) (by omega) (by omega)
  obtain ⟨k1, rfl⟩ : ∃ m, k1 = m + 1 := ⟨k1 - 1, by omega⟩
  have g1le := R1.1
  obtain ⟨g2, k2, R2, hk2, e2⟩ := lows_l1 s hs (g1 : Int) g1 k1 (by omega) (by omega)
  obtain ⟨k2, rfl⟩ : ∃ m, k2 = m + 1 := ⟨k2 - 1, by omega⟩
  have g2le := R2.1
  have e3 : spec_GoVersion.f (8 * s.size + 50) s = spec_GoVersion.j3 (k2 + 1) s (g1 : Int) (g2 : Int) := by
    unfold spec_GoVersion.f
    rw [e1]
    simp only [spec_GoVersion.j1]
    exact e2
  have R1' : Run dig (lst s) (lst s).length g1 := by rw [lst_length]; exact R1
  have key := ver_iff (lst s) g1 g2 R1' R2
  refine ⟨8 * s.size + 50, ?_⟩
  rw [e3]
  simp only [spec_GoVersion.j3]
  by_cases c : g2 < g1
  · rw [if_pos c] at key
    rw [if_pos (by omega)]
    by_cases c2 : g1 = s.size
    · rw [if_pos (by rw [c2])]
      refine ⟨false, rfl, ?_⟩
      rw [← key, lst_length]
      simp [c2]
    · rw [if_neg (by omega), if_pos (by omega), if_pos (by omega)]
      have el : lst (s.extract 0 (g2 : Int).toNat) = (lst s).take g2 := by rw [lst_extract]; simp
      have sz : (s.extract 0 (g2 : Int).toNat).size = g2 := by
        rw [← lst_length, el, List.length_take, lst_length]; omega
      obtain ⟨r, hr, hi⟩ := core_l4 (s.extract 0 (g2 : Int).toNat) (by omega) k2 (by omega)
      refine ⟨r, hr, ?_⟩
      rw [hi, ← key, el, lst_length]
      simp [c2]
  · rw [if_neg c] at key
    rw [if_neg (by omega)]
    obtain ⟨r, hr, hi⟩ := core_l4 s hs k2 (by omega)
    exact ⟨r, hr, by rw [hi, ← key]⟩

theorem match_spec (s : ByteArray) (hs : s.size ≤ 2147483647) : ∃ k, spec_GoVersion.f k s = some (matchB s) := by
  obtain ⟨k, r, h1, h2⟩ := spec_tells s hs
  refine ⟨k, ?_⟩
  rw [h1]
  congr 1
  rw [Bool.eq_iff_iff, h2]
  exact ⟨ver_match s, match_ver s⟩

theorem match_12 : matchB (⟨#[49, 46, 50]⟩ : ByteArray) = true := by
  refine ver_match _ ⟨[49], [50], [], [], rfl, ⟨⟨by decide, Or.inr ⟨49, [], rfl, by decide⟩⟩, by decide, ⟨by decide, Or.inr ⟨50, [], rfl, by decide⟩⟩, Or.inl rfl⟩, Or.inl rfl⟩

end Go.Proofs.Ythgbiopfpjleaaa.Gv
