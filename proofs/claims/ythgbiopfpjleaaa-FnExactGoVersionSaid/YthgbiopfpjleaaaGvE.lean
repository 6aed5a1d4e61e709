/- What the program's matchGoVersion tells is what is said of a version of Go in words on lists of bytes. Conditions: none. -/
import Derived.Test.YthgbiopfpjleaaaGvD
namespace Go.Proofs.Ythgbiopfpjleaaa.Gv
open Go.RowKit Go.Proofs.YthgbiopfpjleaaaW.PrintWords

def Long (l : List UInt8) : Prop := (∀ c ∈ l, dig c = true) ∧ (l = [48] ∨ ∃ c r, l = c :: r ∧ c ≠ 48)
def Suf (l : List UInt8) : Prop := l = [] ∨ ∃ x y, x ≠ [] ∧ y ≠ [] ∧ (∀ c ∈ x, low c = true) ∧ (∀ c ∈ y, dig c = true) ∧ l = x ++ y
def Third (m : List UInt8) : Prop := m = [] ∨ ∃ n3, Long n3 ∧ m = 46 :: n3
def Core (n1 n2 m : List UInt8) : Prop := Long n1 ∧ n1 ≠ [48] ∧ Long n2 ∧ Third m
def Ver (l : List UInt8) : Prop := ∃ n1 n2 m suf, l = n1 ++ 46 :: (n2 ++ (m ++ suf)) ∧ Core n1 n2 m ∧ Suf suf

theorem nat48 {c : UInt8} : c.toNat = 48 ↔ c = 48 := by
  constructor
  · intro h
    exact UInt8.toNat_inj.mp (by rw [h]; rfl)
  · intro h; rw [h]; rfl

theorem dig46 : dig 46 = false := by decide
theorem low46 : low 46 = false := by decide
theorem low_dig {c : UInt8} (h : low c = true) : dig c = false := by
  unfold low at h
  unfold dig
  simp at h ⊢
  omega
theorem dig_low {c : UInt8} (h : dig c = true) : low c = false := by
  unfold low
  unfold dig at h
  simp at h ⊢
  omega

theorem Long.ne_nil {l : List UInt8} (h : Long l) : l ≠ [] := by
  rcases h.2 with h | ⟨c, r, h, _⟩ <;> rw [h] <;> simp

theorem tw_all (P : UInt8 → Bool) (l r : List UInt8) (h : ∀ c ∈ l, P c = true) (hr : ∀ c t, r = c :: t → P c = false) : (l ++ r).takeWhile P = l := by
  induction l with
  | nil =>
    cases r with
    | nil => rfl
    | cons c t => rw [List.nil_append, List.takeWhile_cons, hr c t rfl]; rfl
  | cons c t ih =>
    rw [List.cons_append, List.takeWhile_cons, h c (by simp), if_pos rfl, ih (fun x hx => h x (by simp [hx]))]

theorem numLen_of (p q : List UInt8) (h : Long p) (hq : ∀ c t, q = c :: t → dig c = false) : numLen (p ++ q) = p.length := by
  obtain ⟨hd, h⟩ := h
  cases p with
  | nil => rcases h with h | ⟨c, r, h, _⟩ <;> simp at h
  | cons c r =>
    rw [List.cons_append, numLen_cons, if_pos (hd c (by simp))]
    by_cases h0 : c = 48
    · rw [if_pos (nat48.mpr h0)]
      rcases h with h | ⟨c', r', h, hc⟩
      · simp at h; simp [h.2]
      · simp at h; exact absurd (h.1 ▸ h0) hc
    · rw [if_neg (fun h => h0 (nat48.mp h)), tw_all dig r q (fun x hx => hd x (by simp [hx])) hq]
      simp [Nat.add_comm]

theorem takeWhile_take (P : UInt8 → Bool) (l : List UInt8) : l.take (l.takeWhile P).length = l.takeWhile P :=
  (List.prefix_iff_eq_take.mp (List.takeWhile_prefix P)).symm

theorem numLen_long (l : List UInt8) (h : numLen l ≠ 0) : Long (l.take (numLen l)) := by
  cases l with
  | nil => exact absurd rfl h
  | cons c r =>
    rw [numLen_cons] at h ⊢
    by_cases hd : dig c = true
    · rw [if_pos hd] at h ⊢
      by_cases h0 : c.toNat = 48
      · rw [if_pos h0]
        refine ⟨?_, Or.inl ?_⟩
        · intro x hx
          have : x = c := by simpa using hx
          rw [this]; exact hd
        · simp [nat48.mp h0]
      · rw [if_neg h0, Nat.add_comm, List.take_succ_cons, takeWhile_take]
        refine ⟨?_, Or.inr ⟨c, _, rfl, fun e => h0 (nat48.mpr e)⟩⟩
        intro x hx
        rcases List.mem_cons.mp hx with hx | hx
        · rw [hx]; exact hd
        · obtain ⟨k, hk, e⟩ := List.mem_iff_getElem.mp hx
          obtain ⟨y, e1, e2⟩ := tw dig r k hk
          have := (List.takeWhile_prefix (l := r) dig).getElem hk
          rw [← e, this]
          have h3 := List.getElem?_eq_some_iff.mp e1
          rw [h3.2]
          exact e2
    · rw [if_neg hd] at h
      exact absurd rfl h

theorem lst_cut (s : ByteArray) (n : Nat) : lst (cutAt s n) = (lst s).drop n := by
  show (s.extract n s.size).data.toList = _
  rw [Lib.extract_data, List.take_of_length_le (by rw [List.length_drop, ← Lib.size_eq]; omega)]

/-- A byte of a string at a place that is known. -/
theorem bt_of (s : ByteArray) (p r : List UInt8) (c : UInt8) (h : lst s = p ++ c :: r) : bt s (p.length : Int) = (c.toNat : Int) := by
  refine (bt_some s p.length c ?_).2
  rw [h]
  simp

theorem bt_46 (s : ByteArray) (n : Nat) (hn : n < s.size) (h : bt s (n : Int) = 46) : lst s = (lst s).take n ++ 46 :: (lst s).drop (n + 1) := by
  obtain ⟨c, e1, e2⟩ := drop_at s n hn
  have hc : c = 46 := UInt8.toNat_inj.mp (by rw [e1] at h; have : (46 : UInt8).toNat = 46 := rfl; rw [this]; omega)
  rw [← hc, ← e2, List.take_append_drop]

theorem all_tw (P : UInt8 → Bool) (l : List UInt8) : ∀ c ∈ l.takeWhile P, P c = true := by
  intro x hx
  obtain ⟨k, hk, e⟩ := List.mem_iff_getElem.mp hx
  obtain ⟨y, e1, e2⟩ := tw P l k hk
  have := (List.takeWhile_prefix (l := l) P).getElem hk
  rw [← e, this]
  have h3 := List.getElem?_eq_some_iff.mp e1
  rw [h3.2]
  exact e2

theorem tail_iff (s : ByteArray) : tailB s = true ↔ Suf (lst s) := by
  unfold tailB
  simp only [Bool.or_eq_true, Bool.and_eq_true, decide_eq_true_eq]
  constructor
  · rintro (h | ⟨⟨h1, h2⟩, h3⟩)
    · exact Or.inl (List.eq_nil_of_length_eq_zero (by rw [lst_length]; exact h))
    · refine Or.inr ⟨(lst s).takeWhile low, ((lst s).drop (lows s)).takeWhile dig, ?_, ?_, all_tw low _, all_tw dig _, ?_⟩
      · intro e; unfold lows at h1; rw [e] at h1; simp at h1
      · intro e; unfold digs at h2; rw [e] at h2; simp at h2
      · have e1 : ((lst s).drop (lows s)).takeWhile dig = (lst s).drop (lows s) := by
          refine (List.takeWhile_prefix dig).eq_of_length_le ?_
          rw [List.length_drop, lst_length]
          unfold digs at h3
          omega
        rw [e1]
        conv => lhs; rw [← List.take_append_drop (lows s) (lst s)]
        congr 1
        exact takeWhile_take low (lst s)
  · rintro (h | ⟨x, y, hx, hy, h1, h2, e⟩)
    · left
      rw [← lst_length, h]; rfl
    · right
      obtain ⟨c, y', rfl⟩ : ∃ c y', y = c :: y' := by
        cases y with
        | nil => exact absurd rfl hy
        | cons c y' => exact ⟨c, y', rfl⟩
      have t1 : (lst s).takeWhile low = x := by
        rw [e]
        exact tw_all low x _ h1 (fun a b hab => by
          simp only [List.cons.injEq] at hab
          rw [← hab.1]
          exact dig_low (h2 c (by simp)))
      have l1 : lows s = x.length := by unfold lows; rw [t1]
      have t2 : ((lst s).drop (lows s)).takeWhile dig = c :: y' := by
        rw [l1, e, List.drop_left]
        have := tw_all dig (c :: y') [] h2 (fun a b hab => by simp at hab)
        simpa using this
      have l2 : digs s = x.length + (c :: y').length := by unfold digs; rw [t2, l1]
      have l3 : s.size = x.length + (c :: y').length := by rw [← lst_length, e, List.length_append]
      rw [l1, l2, l3]
      refine ⟨⟨List.length_pos_iff.mpr hx, by simp⟩, rfl⟩

theorem suf_head {l : List UInt8} (h : Suf l) : ∀ c t, l = c :: t → dig c = false ∧ c ≠ 46 := by
  intro c t e
  rcases h with h | ⟨x, y, hx, hy, h1, h2, h⟩
  · rw [h] at e; simp at e
  · cases x with
    | nil => exact absurd rfl hx
    | cons a x' =>
      rw [e] at h
      simp only [List.cons_append, List.cons.injEq] at h
      have hl := h1 a (by simp)
      rw [h.1]
      exact ⟨low_dig hl, fun e => by rw [e, low46] at hl; exact absurd hl (by simp)⟩

theorem match_ver (a : ByteArray) (h : matchB a = true) : Ver (lst a) := by
  unfold matchB headB at h
  split at h
  · exact absurd h (by simp)
  · rename_i s hs
    split at hs
    · exact absurd hs (by simp)
    · rename_i c
      split at hs
      · exact absurd hs (by simp)
      · rename_i c2
        have h1 : a.size ≠ 0 := fun h => c (Or.inl h)
        have h2 : bt a 0 ≠ 48 := fun h => c (Or.inr (Or.inl h))
        have h3 : numLen (lst a) ≠ 0 := fun h => c (Or.inr (Or.inr (Or.inl h)))
        have h4 : numLen (lst a) ≠ a.size := fun h => c (Or.inr (Or.inr (Or.inr (Or.inl h))))
        have h5 : bt a (numLen (lst a) : Int) = 46 := by
          by_cases h : bt a (numLen (lst a) : Int) = 46
          · exact h
          · exact absurd (Or.inr (Or.inr (Or.inr (Or.inr h)))) c
        have hn := numLen_le (lst a)
        rw [lst_length] at hn
        have e1 := bt_46 a _ (by omega) h5
        have L1 := numLen_long _ h3
        have L2 := numLen_long _ c2
        rw [lst_cut] at L2 c2
        have ne : (lst a).take (numLen (lst a)) ≠ [48] := by
          intro e
          rw [e] at e1
          exact h2 (bt_of a [] _ 48 e1)
        have key : ∀ s2, lst s2 = ((lst a).drop (numLen (lst a) + 1)).drop (numLen ((lst a).drop (numLen (lst a) + 1))) → ∀ m suf, lst s2 = m ++ suf → Third m → Suf suf → Ver (lst a) := by
          intro s2 e2 m suf e3 hm hsuf
          refine ⟨_, _, m, suf, ?_, ⟨L1, ne, L2, hm⟩, hsuf⟩
          rw [← e3, e2, List.take_append_drop]
          exact e1
        have z2 : lst (cutAt (cutAt a (numLen (lst a) + 1)) (numLen (lst (cutAt a (numLen (lst a) + 1))))) = ((lst a).drop (numLen (lst a) + 1)).drop (numLen ((lst a).drop (numLen (lst a) + 1))) := by
          rw [lst_cut, lst_cut]
        have k2 := key _ z2
        generalize cutAt (cutAt a (numLen (lst a) + 1)) (numLen (lst (cutAt a (numLen (lst a) + 1)))) = s2 at hs k2
        simp only at hs
        split at hs
        · rename_i c3
          split at hs
          · exact absurd hs (by simp)
          · rename_i c4
            obtain rfl := Option.some.inj hs
            rw [lst_cut] at c4
            have e3 := bt_46 s2 0 (by omega) c3.2
            simp only [List.take_zero, List.nil_append, Nat.zero_add] at e3
            have L3 := numLen_long _ c4
            refine k2 (46 :: ((lst s2).drop 1).take (numLen ((lst s2).drop 1))) _ ?_ (Or.inr ⟨_, L3, rfl⟩) ((tail_iff _).mp h)
            rw [lst_cut, lst_cut, ← List.drop_drop, List.cons_append, List.take_append_drop]
            exact e3
        · obtain rfl := Option.some.inj hs
          exact k2 [] (lst s2) rfl (Or.inl rfl) ((tail_iff _).mp h)

theorem ver_match (a : ByteArray) (h : Ver (lst a)) : matchB a = true := by
  obtain ⟨n1, n2, m, suf, e, ⟨L1, ne, L2, hm⟩, hs⟩ := h
  have f1 : numLen (lst a) = n1.length := by
    rw [e]
    exact numLen_of _ _ L1 (fun c t h => by simp only [List.cons.injEq] at h; rw [← h.1]; exact dig46)
  have hms : ∀ c t, m ++ suf = c :: t → dig c = false := by
    intro c t h
    rcases hm with rfl | ⟨n3, _, rfl⟩
    · exact (suf_head hs c t h).1
    · simp only [List.cons_append, List.cons.injEq] at h; rw [← h.1]; exact dig46
  have l1 : lst (cutAt a (numLen (lst a) + 1)) = n2 ++ (m ++ suf) := by
    rw [lst_cut, f1, e, ← List.drop_drop, List.drop_left]
    rfl
  have f2 : numLen (lst (cutAt a (numLen (lst a) + 1))) = n2.length := by
    rw [l1]
    exact numLen_of _ _ L2 hms
  have l2 : lst (cutAt (cutAt a (numLen (lst a) + 1)) (numLen (lst (cutAt a (numLen (lst a) + 1))))) = m ++ suf := by
    rw [lst_cut, f2, l1, List.drop_left]
  have p1 := List.length_pos_iff.mpr L1.ne_nil
  have p2 := List.length_pos_iff.mpr L2.ne_nil
  have sz : a.size = n1.length + (1 + (n2 ++ (m ++ suf)).length) := by
    rw [← lst_length, e, List.length_append, List.length_cons]
    omega
  unfold matchB headB
  rw [if_neg, if_neg (by rw [f2]; omega)]
  · generalize cutAt (cutAt a (numLen (lst a) + 1)) (numLen (lst (cutAt a (numLen (lst a) + 1)))) = s2 at l2
    simp only
    rcases hm with rfl | ⟨n3, L3, rfl⟩
    · rw [if_neg]
      · simp only
        rw [tail_iff, l2]
        exact hs
      · rintro ⟨h1, h2⟩
        have e3 := bt_46 s2 0 (by omega) h2
        simp only [List.take_zero, List.nil_append, Nat.zero_add] at e3
        rw [l2, List.nil_append] at e3
        exact (suf_head hs 46 _ e3).2 rfl
    · have p3 := List.length_pos_iff.mpr L3.ne_nil
      have sz2 : s2.size = 1 + (n3 ++ suf).length := by rw [← lst_length, l2]; simp; omega
      have d1 : lst (cutAt s2 1) = n3 ++ suf := by rw [lst_cut, l2]; rfl
      have f3 : numLen (lst (cutAt s2 1)) = n3.length := by
        rw [d1]
        exact numLen_of _ _ L3 (fun c t h => (suf_head hs c t h).1)
      rw [if_pos, if_neg (by rw [f3]; omega)]
      · simp only
        rw [tail_iff, lst_cut, f3, l2, Nat.add_comm, ← List.drop_drop]
        have : ((46 :: n3 ++ suf).drop n3.length).drop 1 = suf := by
          rw [List.drop_drop, Nat.add_comm, ← List.drop_drop]
          show (n3 ++ suf).drop n3.length = suf
          exact List.drop_left
        rw [this]
        exact hs
      · refine ⟨by rw [sz2, List.length_append]; omega, ?_⟩
        exact bt_of s2 [] (n3 ++ suf) 46 (by rw [l2]; rfl)
  · rintro (h | h | h | h | h)
    · omega
    · rcases L1.2 with h0 | ⟨c, r, h0, hc⟩
      · exact ne h0
      · have := bt_of a [] (r ++ 46 :: (n2 ++ (m ++ suf))) c (by rw [e, h0]; rfl)
        rw [show (([] : List UInt8).length : Int) = 0 from rfl, h] at this
        exact hc (nat48.mp (by omega))
    · rw [f1] at h; omega
    · rw [f1] at h; omega
    · rw [f1] at h
      exact h (bt_of a n1 _ 46 e)

end Go.Proofs.Ythgbiopfpjleaaa.Gv
