/- What the reference's functions Cut, long and GoVersion answer, in plain words on lists of bytes. Conditions: strings of at most 2147483647 bytes. -/
import Derived.Test.YthgbiopfpjleaaaGvE
import Derived.Test.YthgbiopfpjleaaaPGoVersionx2
namespace Go.Proofs.Ythgbiopfpjleaaa.Gv
open Go.RowKit Go.Proofs.Ythgbiopfpjleaaa.PGoVersion Go.Proofs.YthgbiopfpjleaaaW.PrintWords

theorem digit_eq (c : UInt8) : spec_digit.f (c.toNat : Int) = some (dig c) := by
  unfold spec_digit.f dig
  by_cases h : (c.toNat : Int) ≥ 48
  · rw [if_pos h, decide_eq_true (show 48 ≤ (c.toNat : Int) from h)]; rfl
  · rw [if_neg h, decide_eq_false (show ¬ 48 ≤ (c.toNat : Int) from h)]; rfl

theorem letter_eq (c : UInt8) : spec_letter.f (c.toNat : Int) = some (low c) := by
  unfold spec_letter.f low
  by_cases h : (c.toNat : Int) ≥ 97
  · rw [if_pos h, decide_eq_true (show 97 ≤ (c.toNat : Int) from h)]; rfl
  · rw [if_neg h, decide_eq_false (show ¬ 97 ≤ (c.toNat : Int) from h)]; rfl

/-- A number without zeros ahead of it, however long. -/
def longB (l : List UInt8) : Bool := l.all dig && (decide (l = [48]) || match l with | [] => false | c :: _ => c != 48)

theorem longB_iff (l : List UInt8) : longB l = true ↔ Long l := by
  unfold longB Long
  rw [Bool.and_eq_true, List.all_eq_true, Bool.or_eq_true, decide_eq_true_eq]
  refine and_congr Iff.rfl (or_congr Iff.rfl ?_)
  cases l with
  | nil => simp
  | cons c r => simp

theorem long_l0 (s : ByteArray) (hs : s.size ≤ 140737488351232) (d : Nat) : ∀ (k i : Nat), i ≤ s.size → s.size - i = d → d < k →
    spec_long.l0 k s (i : Int) = some (((lst s).drop i).all dig && (decide (lst s = [48]) || match lst s with | [] => false | c :: _ => c != 48)) := by
  induction d with
  | zero =>
    intro k i h1 hd hk
    obtain ⟨k, rfl⟩ : ∃ m, k = m + 1 := ⟨k - 1, by omega⟩
    have e : (lst s).drop i = [] := List.drop_eq_nil_of_le (by rw [lst_length]; omega)
    simp only [spec_long.l0]
    rw [if_neg (by omega), e, Lib.toList_data]
    by_cases h : s.data.toList = [48]
    · have h' : lst s = [48] := h
      rw [if_pos h, h']
      rfl
    · have h' : ¬ lst s = [48] := h
      rw [if_neg h, decide_eq_false h']
      by_cases h0 : s.data.toList = []
      · have h0' : lst s = [] := h0
        rw [if_pos h0, h0']
        rfl
      · have h0' : ¬ lst s = [] := h0
        rw [if_neg h0]
        have hp : 0 < s.size := by
          rw [← lst_length]
          exact List.length_pos_iff.mpr h0'
        rw [if_pos (by omega)]
        obtain ⟨c, hc, e⟩ := drop_at s 0 hp
        rw [List.drop_zero] at e
        have hc' : bt s 0 = (c.toNat : Int) := hc
        rw [hc', e]
        simp only [List.all_nil, Bool.true_and, Bool.false_or]
        congr 1
        rw [Bool.eq_iff_iff]
        simp only [bne_iff_ne, ne_eq]
        rw [← nat48]
        omega
  | succ d ih =>
    intro k i h1 hd hk
    obtain ⟨k, rfl⟩ : ∃ m, k = m + 1 := ⟨k - 1, by omega⟩
    obtain ⟨c, hc, e⟩ := drop_at s i (by omega)
    simp only [spec_long.l0]
    rw [if_pos (by omega), if_pos (by omega), hc, e, List.all_cons, digit_eq, Option.bind_some]
    by_cases h : dig c = true
    · rw [if_pos h, h, wrap_up (by omega), ih k (i + 1) (by omega) (by omega) (by omega)]
      rfl
    · rw [if_neg h, Bool.eq_false_iff.mpr h]
      rfl

theorem long_tells (s : ByteArray) (hs : s.size ≤ 140737488351232) (k : Nat) (hk : s.size < k) : spec_long.f k s = some (longB (lst s)) := by
  have := long_l0 s hs s.size k 0 (by omega) (by omega) hk
  rw [List.drop_zero] at this
  exact this

/-- The parts of a list between all signs of a kind. -/
def cutL (x : UInt8) : List UInt8 → List (List UInt8)
  | [] => [[]]
  | c :: r => if c = x then [] :: cutL x r else match cutL x r with
    | h :: t => (c :: h) :: t
    | [] => [[c]]

theorem cutL_cons (x c : UInt8) (r : List UInt8) : cutL x (c :: r) = if c = x then [] :: cutL x r else match cutL x r with
    | h :: t => (c :: h) :: t
    | [] => [[c]] := rfl

theorem cutL_ne (x : UInt8) (l : List UInt8) : cutL x l ≠ [] := by
  cases l with
  | nil => simp [cutL]
  | cons c r =>
    unfold cutL
    split
    · simp
    · split <;> simp

theorem cutL_plain (x : UInt8) (l : List UInt8) (h : x ∉ l) : cutL x l = [l] := by
  induction l with
  | nil => rfl
  | cons c r ih =>
    unfold cutL
    rw [if_neg (fun e => h (by rw [e]; simp)), ih (fun e => h (by simp [e]))]

theorem cutL_at (x : UInt8) (l r : List UInt8) (h : x ∉ l) : cutL x (l ++ x :: r) = l :: cutL x r := by
  induction l with
  | nil => simp [cutL]
  | cons c t ih =>
    rw [List.cons_append, cutL_cons, if_neg (fun e => h (by rw [e]; simp)), ih (fun e => h (by simp [e]))]

theorem cutL_one (x : UInt8) (l : List UInt8) : ∀ p, cutL x l = [p] → l = p := by
  induction l with
  | nil => intro p h; simpa [cutL] using h
  | cons c r ih =>
    intro p h
    unfold cutL at h
    split at h
    · simp only [List.cons.injEq] at h
      exact absurd h.2 (cutL_ne x r)
    · split at h
      · rename_i a t e
        simp only [List.cons.injEq] at h
        rw [← h.1]
        rw [h.2] at e
        rw [ih _ e]
      · rename_i e
        exact absurd e (cutL_ne x r)

theorem cutL_more (x : UInt8) (l : List UInt8) : ∀ p q t, cutL x l = p :: q :: t → ∃ r, l = p ++ x :: r ∧ cutL x r = q :: t := by
  induction l with
  | nil => intro p q t h; simp [cutL] at h
  | cons c r ih =>
    intro p q t h
    unfold cutL at h
    split at h
    · rename_i hc
      simp only [List.cons.injEq] at h
      exact ⟨r, by rw [← h.1, hc]; rfl, h.2⟩
    · split at h
      · rename_i a t' e
        simp only [List.cons.injEq] at h
        rw [h.2] at e
        obtain ⟨r', e1, e2⟩ := ih _ _ _ e
        exact ⟨r', by rw [← h.1, e1]; rfl, e2⟩
      · rename_i e
        exact absurd e (cutL_ne x r)

theorem lst_extract (s : ByteArray) (a b : Nat) : lst (s.extract a b) = ((lst s).drop a).take (b - a) := Lib.extract_data s a b

theorem cut_l0 (s : ByteArray) (hs : s.size ≤ 2147483647) (x : UInt8) (d : Nat) : ∀ (k fr i : Nat) (acc : List ByteArray), fr ≤ i → i ≤ s.size → acc.length ≤ fr → x ∉ ((lst s).drop fr).take (i - fr) → s.size - i = d → d < k →
    ∃ ps, spec_Cut.l0 k s (x.toNat : Int) acc (fr : Int) (i : Int) = some (acc ++ ps) ∧ ps.map lst = cutL x ((lst s).drop fr) := by
  induction d with
  | zero =>
    intro k fr i acc h0 h1 ha hn hd hk
    obtain ⟨k, rfl⟩ : ∃ m, k = m + 1 := ⟨k - 1, by omega⟩
    simp only [spec_Cut.l0]
    rw [if_neg (by omega), if_pos (by omega), if_pos (by omega), if_pos (by omega)]
    refine ⟨_, rfl, ?_⟩
    have e : ((lst s).drop fr).take (i - fr) = (lst s).drop fr := List.take_of_length_le (by rw [List.length_drop, lst_length]; omega)
    rw [e] at hn
    rw [cutL_plain x _ hn, List.map_cons, List.map_nil, lst_extract, List.take_of_length_le (by rw [List.length_drop, lst_length]; simp)]
    rfl
  | succ d ih =>
    intro k fr i acc h0 h1 ha hn hd hk
    obtain ⟨k, rfl⟩ : ∃ m, k = m + 1 := ⟨k - 1, by omega⟩
    obtain ⟨c, hc, e⟩ := drop_at s i (by omega)
    have e2 : (lst s).drop fr = ((lst s).drop fr).take (i - fr) ++ c :: (lst s).drop (i + 1) := by
      rw [← e]
      conv => lhs; rw [← List.take_append_drop (i - fr) ((lst s).drop fr)]
      rw [List.drop_drop, show fr + (i - fr) = i by omega]
    simp only [spec_Cut.l0]
    rw [if_pos (by omega), if_pos (by omega), hc]
    by_cases hx : c = x
    · rw [if_pos (by rw [hx]), if_pos (by omega), if_pos (by omega), if_pos (by omega), if_pos (by omega), wrap_up (by omega)]
      obtain ⟨ps, p1, p2⟩ := ih k (i + 1) (i + 1) (acc ++ [s.extract (fr : Int).toNat (i : Int).toNat]) (by omega) (by omega) (by simp; omega) (by simp) (by omega) (by omega)
      refine ⟨_ :: ps, by rw [p1, List.append_assoc]; rfl, ?_⟩
      rw [e2, hx, cutL_at x _ _ hn, List.map_cons, p2, lst_extract]
      rfl
    · have hx' : ¬ (c.toNat : Int) = (x.toNat : Int) := fun h => hx (UInt8.toNat_inj.mp (by omega))
      rw [if_neg hx', wrap_up (by omega)]
      refine ih k fr (i + 1) acc (by omega) (by omega) ha ?_ (by omega) (by omega)
      intro h
      have e3 : ((lst s).drop fr).take (i + 1 - fr) = ((lst s).drop fr).take (i - fr) ++ [c] := by
        have hl : i - fr < ((lst s).drop fr).length := by rw [List.length_drop, lst_length]; omega
        rw [show i + 1 - fr = (i - fr) + 1 by omega, List.take_succ_eq_append_getElem hl]
        congr 2
        rw [List.getElem_drop]
        have h6 : (lst s)[i]? = some c := by
          have := congrArg (fun l => l[0]?) e
          simpa using this
        simp only [show fr + (i - fr) = i by omega]
        exact (List.getElem_eq_iff _).mpr h6
      rw [e3] at h
      rcases List.mem_append.mp h with h | h
      · exact hn h
      · exact hx (List.mem_singleton.mp h).symm

theorem cut_tells (s : ByteArray) (hs : s.size ≤ 2147483647) (x : UInt8) (k : Nat) (hk : s.size < k) : ∃ ps, spec_Cut.f k s (x.toNat : Int) = some ps ∧ ps.map lst = cutL x (lst s) := by
  obtain ⟨ps, h1, h2⟩ := cut_l0 s hs x s.size k 0 0 [] (by omega) (by omega) (by simp) (by simp) (by omega) hk
  exact ⟨ps, by rw [List.nil_append] at h1; exact h1, by rw [List.drop_zero] at h2; exact h2⟩

theorem cutL_le (x : UInt8) (l : List UInt8) : ∀ p ∈ cutL x l, p.length ≤ l.length := by
  induction l with
  | nil => intro p h; simp [cutL] at h; simp [h]
  | cons c r ih =>
    intro p h
    rw [cutL_cons] at h
    split at h
    · rcases List.mem_cons.mp h with h | h
      · simp [h]
      · have := ih p h; simp; omega
    · split at h
      · rename_i a t e
        rcases List.mem_cons.mp h with h | h
        · have := ih a (by rw [e]; simp)
          rw [h]; simp; omega
        · have := ih p (by rw [e]; simp [h])
          simp; omega
      · simp at h; simp [h]

theorem rdOf_get (ps : List ByteArray) (j : Nat) (h : j < ps.length) : rdOf ByteArray.empty ps (j : Int) = ps[j] := by
  unfold rdOf
  have : (j : Int).toNat = j := by omega
  rw [this, List.getD_eq_getElem?_getD, List.getElem?_eq_getElem h]
  rfl

def headNe : List ByteArray → Bool
  | [] => false
  | p :: _ => decide (lst p ≠ [48])

/-- What GoVersion asks of the parts at the end. -/
def finB (ps : List ByteArray) : Bool := (decide (ps.length = 2) || decide (ps.length = 3)) && headNe ps

theorem parts_l2 (ps : List ByteArray) (S : Nat) (hS : S ≤ 2147483647) (hp : ∀ p ∈ ps, p.size ≤ S) (hl : ps.length ≤ 140737488351232) (d : Nat) : ∀ (k j : Nat), j ≤ ps.length → ps.length - j = d → S + d < k →
    spec_GoVersion.l2 k ps ps (ps.length : Int) (j : Int) = some ((ps.drop j).all (fun p => longB (lst p)) && finB ps) := by
  induction d with
  | zero =>
    intro k j h1 hd hk
    obtain ⟨k, rfl⟩ : ∃ m, k = m + 1 := ⟨k - 1, by omega⟩
    have e : ps.drop j = [] := List.drop_eq_nil_of_le (by omega)
    simp only [spec_GoVersion.l2]
    rw [if_neg (by omega), e]
    simp only [List.all_nil, Bool.true_and]
    have h0 : 0 < ps.length → ((rdOf ByteArray.empty ps 0).toList != ([48] : List UInt8)) = headNe ps := by
      intro h
      have := rdOf_get ps 0 h
      rw [show ((0 : Nat) : Int) = 0 from rfl] at this
      rw [this]
      cases ps with
      | nil => simp at h
      | cons p r =>
        simp only [List.getElem_cons_zero]
        rw [Lib.toList_data, Bool.eq_iff_iff]
        simp [headNe]
    unfold finB
    by_cases c2 : ps.length = 2
    · rw [if_pos (by omega), if_pos (by omega), h0 (by omega), decide_eq_true c2]
      rfl
    · rw [if_neg (by omega), decide_eq_false c2]
      by_cases c3 : ps.length = 3
      · rw [if_pos (by omega), if_pos (by omega), h0 (by omega), decide_eq_true c3]
        rfl
      · rw [if_neg (by omega), decide_eq_false c3]
        rfl
  | succ d ih =>
    intro k j h1 hd hk
    obtain ⟨k, rfl⟩ : ∃ m, k = m + 1 := ⟨k - 1, by omega⟩
    have hj : j < ps.length := by omega
    have e := List.drop_eq_getElem_cons hj
    have hsz := hp ps[j] (List.getElem_mem hj)
    simp only [spec_GoVersion.l2]
    rw [if_pos (by omega), if_pos (by omega), if_pos (by omega), rdOf_get ps j hj, e, List.all_cons, long_tells _ (by omega) k (by omega), Option.bind_some]
    by_cases h : longB (lst ps[j]) = true
    · rw [if_pos h, h, wrap_up (by omega), ih k (j + 1) (by omega) (by omega) (by omega)]
      rfl
    · rw [if_neg h, Bool.eq_false_iff.mpr h]
      rfl

/-- Two or three numbers with points between them, the first one not 0. -/
def CoreL (l : List UInt8) : Prop := ∃ n1 n2 m, l = n1 ++ 46 :: (n2 ++ m) ∧ Core n1 n2 m

theorem Long.no46 {l : List UInt8} (h : Long l) : (46 : UInt8) ∉ l := fun h' => by
  have := h.1 46 h'
  rw [dig46] at this
  exact absurd this (by simp)

theorem core_l4 (s : ByteArray) (hs : s.size ≤ 2147483647) (k : Nat) (hk : 2 * s.size + 4 < k) : ∃ r, spec_GoVersion.j4 k s = some r ∧ (r = true ↔ CoreL (lst s)) := by
  obtain ⟨k, rfl⟩ : ∃ m, k = m + 1 := ⟨k - 1, by omega⟩
  simp only [spec_GoVersion.j4]
  obtain ⟨ps, h1, h2⟩ := cut_tells s hs 46 k (by omega)
  have h1' : spec_Cut.f k s 46 = some ps := h1
  rw [h1', Option.bind_some]
  have hsz : ∀ p ∈ ps, p.size ≤ s.size := by
    intro p hp
    have : lst p ∈ cutL 46 (lst s) := by rw [← h2]; exact List.mem_map_of_mem hp
    have := cutL_le 46 (lst s) _ this
    rw [lst_length, lst_length] at this
    exact this
  have hlen : ∀ (x : UInt8) (l : List UInt8), (cutL x l).length ≤ l.length + 1 := by
    intro x l
    induction l with
    | nil => simp [cutL]
    | cons c r ih =>
      rw [cutL_cons]
      split
      · simp; omega
      · split
        · rename_i a t e; rw [e] at ih; simp at ih ⊢; omega
        · simp
  have hl : ps.length ≤ s.size + 1 := by
    have := hlen 46 (lst s)
    rw [← h2, List.length_map, lst_length] at this
    exact this
  have key := parts_l2 ps s.size hs hsz (by omega) ps.length k 0 (by omega) (by omega) (by omega)
  rw [List.drop_zero] at key
  have key' : spec_GoVersion.l2 k ps ps (ps.length : Int) 0 = some (ps.all (fun p => longB (lst p)) && finB ps) := key
  refine ⟨_, key', ?_⟩
  unfold finB headNe
  rw [Bool.and_eq_true, List.all_eq_true, Bool.and_eq_true, Bool.or_eq_true, decide_eq_true_eq, decide_eq_true_eq]
  constructor
  · rintro ⟨ha, hb, hc⟩
    match ps, h2, ha, hb, hc with
    | [p, q], h2, ha, hb, hc =>
      obtain ⟨r, e1, e2⟩ := cutL_more 46 _ _ _ _ h2.symm
      have e3 := cutL_one 46 _ _ e2
      exact ⟨lst p, lst q, [], by rw [List.append_nil, ← e3]; exact e1, (longB_iff _).mp (ha p (by simp)), by simpa using hc, (longB_iff _).mp (ha q (by simp)), Or.inl rfl⟩
    | [p, q, t], h2, ha, hb, hc =>
      obtain ⟨r, e1, e2⟩ := cutL_more 46 _ _ _ _ h2.symm
      obtain ⟨r2, e3, e4⟩ := cutL_more 46 _ _ _ _ e2
      have e5 := cutL_one 46 _ _ e4
      exact ⟨lst p, lst q, 46 :: lst t, by rw [← e5, ← e3]; exact e1, (longB_iff _).mp (ha p (by simp)), by simpa using hc, (longB_iff _).mp (ha q (by simp)), Or.inr ⟨lst t, (longB_iff _).mp (ha t (by simp)), rfl⟩⟩
    | [], h2, ha, hb, hc => simp at hb
    | [p], h2, ha, hb, hc => simp at hb
    | p :: q :: t :: u :: v, h2, ha, hb, hc => simp at hb
  · rintro ⟨n1, n2, m, e, L1, ne, L2, hm⟩
    have e1 : cutL 46 (lst s) = n1 :: cutL 46 (n2 ++ m) := by rw [e, cutL_at 46 n1 _ L1.no46]
    rcases hm with rfl | ⟨n3, L3, rfl⟩
    · rw [List.append_nil, cutL_plain 46 n2 L2.no46, ← h2] at e1
      match ps, e1 with
      | [p, q], e1 =>
        simp only [List.map_cons, List.map_nil, List.cons.injEq, and_true] at e1
        refine ⟨?_, by simp, by simp [e1.1, ne]⟩
        intro x hx
        rcases List.mem_cons.mp hx with hx | hx
        · rw [longB_iff, hx, e1.1]; exact L1
        · rw [longB_iff, List.mem_singleton.mp hx, e1.2]; exact L2
      | [], e1 => simp at e1
      | [p], e1 => simp at e1
      | p :: q :: t :: u, e1 => simp at e1
    · rw [cutL_at 46 n2 n3 L2.no46, cutL_plain 46 n3 L3.no46, ← h2] at e1
      match ps, e1 with
      | [p, q, t], e1 =>
        simp only [List.map_cons, List.map_nil, List.cons.injEq, and_true] at e1
        refine ⟨?_, by simp, by simp [e1.1, ne]⟩
        intro x hx
        rcases List.mem_cons.mp hx with hx | hx
        · rw [longB_iff, hx, e1.1]; exact L1
        · rcases List.mem_cons.mp hx with hx | hx
          · rw [longB_iff, hx, e1.2.1]; exact L2
          · rw [longB_iff, List.mem_singleton.mp hx, e1.2.2]; exact L3
      | [], e1 => simp at e1
      | [p], e1 => simp at e1
      | [p, q], e1 => simp at e1
      | p :: q :: t :: u :: v, e1 => simp at e1

theorem wrap_down {i : Nat} (h : i < 140737488351232) : wrap64 (((i + 1 : Nat) : Int) - 1) = (i : Int) := by
  unfold wrap64
  omega

/-- The place where a run of signs that ends at a place begins. -/
def Run (P : UInt8 → Bool) (l : List UInt8) (e g : Nat) : Prop := g ≤ e ∧ (∀ j c, g ≤ j → j < e → l[j]? = some c → P c = true) ∧ (g = 0 ∨ ∃ c, l[g - 1]? = some c ∧ P c = false)

theorem lows_l1 (s : ByteArray) (hs : s.size ≤ 2147483647) (x : Int) (f : Nat) : ∀ (k : Nat), f ≤ s.size → f < k → ∃ g k', Run low (lst s) f g ∧ k ≤ k' + (f - g) + 1 ∧ spec_GoVersion.l1 k s x (f : Int) = spec_GoVersion.j3 k' s x (g : Int) := by
  induction f with
  | zero =>
    intro k h1 hk
    obtain ⟨k, rfl⟩ : ∃ m, k = m + 1 := ⟨k - 1, by omega⟩
    refine ⟨0, k, ⟨by omega, fun j c h1 h2 => by omega, Or.inl rfl⟩, by omega, ?_⟩
    simp only [spec_GoVersion.l1]
    rw [if_neg (by omega)]
  | succ f ih =>
    intro k h1 hk
    obtain ⟨k, rfl⟩ : ∃ m, k = m + 1 := ⟨k - 1, by omega⟩
    obtain ⟨c, hc0, hc⟩ := some_bt s f (by omega)
    simp only [spec_GoVersion.l1]
    rw [if_pos (by omega), wrap_down (by omega), if_pos (by omega), if_pos (by omega), hc, letter_eq, Option.bind_some]
    by_cases h : low c = true
    · rw [if_pos h]
      obtain ⟨g, k', ⟨r1, r2, r3⟩, hk', e⟩ := ih k (by omega) (by omega)
      refine ⟨g, k', ⟨by omega, ?_, r3⟩, by omega, e⟩
      intro j a j1 j2 ha
      by_cases hj : j = f
      · rw [hj, hc0] at ha
        rw [← Option.some.inj ha]; exact h
      · exact r2 j a j1 (by omega) ha
    · rw [if_neg h]
      exact ⟨f + 1, k, ⟨by omega, fun j c h1 h2 => by omega, Or.inr ⟨c, by simpa using hc0, Bool.eq_false_iff.mpr h⟩⟩, by omega, rfl⟩

theorem digs_l0 (s : ByteArray) (hs : s.size ≤ 2147483647) (f : Nat) : ∀ (k : Nat), f ≤ s.size → f < k → ∃ g k', Run dig (lst s) f g ∧ k ≤ k' + (f - g) + 1 ∧ spec_GoVersion.l0 k s (f : Int) = spec_GoVersion.j1 k' s (g : Int) := by
  induction f with
  | zero =>
    intro k h1 hk
    obtain ⟨k, rfl⟩ : ∃ m, k = m + 1 := ⟨k - 1, by omega⟩
    refine ⟨0, k, ⟨by omega, fun j c h1 h2 => by omega, Or.inl rfl⟩, by omega, ?_⟩
    simp only [spec_GoVersion.l0]
    rw [if_neg (by omega)]
  | succ f ih =>
    intro k h1 hk
    obtain ⟨k, rfl⟩ : ∃ m, k = m + 1 := ⟨k - 1, by omega⟩
    obtain ⟨c, hc0, hc⟩ := some_bt s f (by omega)
    simp only [spec_GoVersion.l0]
    rw [if_pos (by omega), wrap_down (by omega), if_pos (by omega), if_pos (by omega), hc, digit_eq, Option.bind_some]
    by_cases h : dig c = true
    · rw [if_pos h]
      obtain ⟨g, k', ⟨r1, r2, r3⟩, hk', e⟩ := ih k (by omega) (by omega)
      refine ⟨g, k', ⟨by omega, ?_, r3⟩, by omega, e⟩
      intro j a j1 j2 ha
      by_cases hj : j = f
      · rw [hj, hc0] at ha
        rw [← Option.some.inj ha]; exact h
      · exact r2 j a j1 (by omega) ha
    · rw [if_neg h]
      exact ⟨f + 1, k, ⟨by omega, fun j c h1 h2 => by omega, Or.inr ⟨c, by simpa using hc0, Bool.eq_false_iff.mpr h⟩⟩, by omega, rfl⟩

end Go.Proofs.Ythgbiopfpjleaaa.Gv
