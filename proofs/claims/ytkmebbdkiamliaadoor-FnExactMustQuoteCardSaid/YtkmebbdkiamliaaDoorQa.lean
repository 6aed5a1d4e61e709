/- What the reference's Printable, MustQuote, Quote and the program's zzContains answer, in plain words on lists of bytes. Conditions: strings of at most 2147483647 bytes. -/
import Derived.Test.YtkmebbdkiamliaaDoorPPrintablex1
import Derived.Test.YtkmebbdkiamliaaDoorPMustQuotex1
import Derived.Test.YtkmebbdkiamliaaDoorPQuotex1
import Derived.Test.YtkmebbdkiamliaaDoorPzzContainsx1
import Derived.Lib.Strings
namespace Go.Proofs.YtkmebbdkiamliaaDoor.Q
open Go.RowKit Go.Proofs.YtkmebbdkiamliaaDoor.PPrintable Go.Proofs.YtkmebbdkiamliaaDoor.PMustQuote Go.Proofs.YtkmebbdkiamliaaDoor.PQuote Go.Proofs.YtkmebbdkiamliaaDoor.PzzContains Go.Proofs.YtkmebbdkiamliaaDoorW.PrintWords Go.Proofs.YtkmebbdkiamliaaDoorW.PrintLast

abbrev lst (s : ByteArray) : List UInt8 := s.data.toList

theorem lst_length (s : ByteArray) : (lst s).length = s.size := by
  rw [Lib.size_eq]

theorem bt_get (s : ByteArray) (i : Nat) (h : i < s.size) : bt s (i : Int) = (((lst s)[i]'(by rw [lst_length]; exact h)).toNat : Int) := by
  unfold bt
  have h' : (i : Int).toNat < s.size := by simpa using h
  rw [dif_pos h']
  rfl

theorem drop_at (s : ByteArray) (i : Nat) (h : i < s.size) : ∃ c, bt s (i : Int) = (c.toNat : Int) ∧ (lst s).drop i = c :: (lst s).drop (i + 1) := by
  have h' : i < (lst s).length := by rw [lst_length]; exact h
  exact ⟨(lst s)[i], bt_get s i h, List.drop_eq_getElem_cons h'⟩

theorem drop_end (s : ByteArray) (i : Nat) (h : s.size ≤ i) : (lst s).drop i = [] := List.drop_eq_nil_of_le (by rw [lst_length]; omega)

theorem wrap_up {i : Nat} (h : i ≤ 140737488351232) : wrap64 ((i : Int) + 1) = ((i + 1 : Nat) : Int) := by
  unfold wrap64
  omega

theorem lst_extract (s : ByteArray) (a b : Nat) : lst (s.extract a b) = ((lst s).drop a).take (b - a) := Lib.extract_data s a b

theorem empty_iff (a : ByteArray) : a.toList = [] ↔ a.size = 0 := by
  rw [Lib.toList_data, Lib.size_eq]
  exact List.length_eq_zero_iff.symm

/-! ### Printable -/

def isPr (c : UInt8) : Bool := decide (32 ≤ (c.toNat : Int)) && decide ((c.toNat : Int) ≤ 126)

theorem printable_l0 (s : ByteArray) (hs : s.size ≤ 140737488351232) (d : Nat) : ∀ (k i : Nat), i ≤ s.size → s.size - i = d → d < k →
    spec_Printable.l0 k s (i : Int) = some (((lst s).drop i).all isPr) := by
  induction d with
  | zero =>
    intro k i h1 hd hk
    obtain ⟨k, rfl⟩ : ∃ m, k = m + 1 := ⟨k - 1, by omega⟩
    simp only [spec_Printable.l0]
    rw [if_neg (by omega), drop_end s i (by omega)]
    rfl
  | succ d ih =>
    intro k i h1 hd hk
    obtain ⟨k, rfl⟩ : ∃ m, k = m + 1 := ⟨k - 1, by omega⟩
    obtain ⟨c, hc, e⟩ := drop_at s i (by omega)
    simp only [spec_Printable.l0]
    rw [if_pos (by omega), if_pos (by omega), hc, e, List.all_cons]
    unfold isPr
    by_cases h1 : (c.toNat : Int) < 32
    · rw [if_pos h1, decide_eq_false (show ¬ 32 ≤ (c.toNat : Int) by omega)]
      rfl
    · rw [if_neg h1, decide_eq_true (show 32 ≤ (c.toNat : Int) by omega)]
      by_cases h2 : (c.toNat : Int) > 126
      · rw [if_pos h2, decide_eq_false (show ¬ (c.toNat : Int) ≤ 126 by omega)]
        rfl
      · rw [if_neg h2, decide_eq_true (show (c.toNat : Int) ≤ 126 by omega), wrap_up (by omega), ih k (i + 1) (by omega) (by omega) (by omega)]
        rfl

def prB (s : ByteArray) : Bool := (lst s).all isPr

theorem printable_tells (s : ByteArray) (hs : s.size ≤ 140737488351232) : spec_Printable.f (s.size + 1) s = some (prB s) := by
  have := printable_l0 s hs s.size (s.size + 1) 0 (by omega) (by omega) (by omega)
  rw [List.drop_zero] at this
  exact this

/-! ### A text in another one -/

def hasL (p : List UInt8) : List UInt8 → Bool
  | [] => false
  | c :: r => p.isPrefixOf (c :: r) || hasL p r

theorem hasL_cons (p r : List UInt8) (c : UInt8) : hasL p (c :: r) = (p.isPrefixOf (c :: r) || hasL p r) := rfl

theorem hasL_short (p l : List UInt8) (h : l.length < p.length) : hasL p l = false := by
  induction l with
  | nil => rfl
  | cons c r ih =>
    unfold hasL
    rw [ih (by simp at h; omega), Bool.or_false, Bool.eq_false_iff]
    intro h'
    have := (List.isPrefixOf_iff_prefix.mp h').length_le
    omega

theorem at_prefix (s p : ByteArray) (i : Nat) (_h : i + p.size ≤ s.size) : ((s.extract i (i + p.size)).toList = p.toList) ↔ (lst p).isPrefixOf ((lst s).drop i) = true := by
  rw [Lib.toList_data, Lib.toList_data, List.isPrefixOf_iff_prefix, List.prefix_iff_eq_take]
  have e : (s.extract i (i + p.size)).data.toList = ((lst s).drop i).take (lst p).length := by
    rw [lst_length]
    have := lst_extract s i (i + p.size)
    rw [show i + p.size - i = p.size by omega] at this
    exact this
  rw [e]
  exact eq_comm

theorem hasL_hit (s p : ByteArray) (i : Nat) (h : i < s.size) (hle : i + p.size ≤ s.size) (hm : (s.extract i (i + p.size)).toList = p.toList) : hasL (lst p) ((lst s).drop i) = true := by
  obtain ⟨c, _, e⟩ := drop_at s i h
  have hm' := (at_prefix s p i hle).mp hm
  rw [e, hasL_cons, ← e, hm']; rfl

theorem hasL_miss (s p : ByteArray) (i : Nat) (h : i < s.size) (hle : i + p.size ≤ s.size) (hm : ¬ (s.extract i (i + p.size)).toList = p.toList) : hasL (lst p) ((lst s).drop i) = hasL (lst p) ((lst s).drop (i + 1)) := by
  obtain ⟨c, _, e⟩ := drop_at s i h
  have hm' : (lst p).isPrefixOf ((lst s).drop i) = false := Bool.eq_false_iff.mpr (fun h => hm ((at_prefix s p i hle).mpr h))
  conv => lhs; rw [e, hasL_cons, ← e, hm', Bool.false_or]

theorem index_l0 (s p : ByteArray) (hp : 0 < p.size) (hs : s.size ≤ 2147483647) (hp2 : p.size ≤ 2147483647) (d : Nat) : ∀ (k i : Nat), i ≤ s.size → s.size - i = d → d < k →
    ∃ r, modfile_zzIndex.l0 k s p (i : Int) = some r ∧ decide (r ≥ 0) = hasL (lst p) ((lst s).drop i) := by
  induction d with
  | zero =>
    intro k i h1 hd hk
    obtain ⟨k, rfl⟩ : ∃ m, k = m + 1 := ⟨k - 1, by omega⟩
    have hw : wrap64 ((i : Int) + (p.size : Int)) = ((i + p.size : Nat) : Int) := by unfold wrap64; omega
    have e := hasL_short (lst p) ((lst s).drop i) (by rw [List.length_drop, lst_length, lst_length]; omega)
    simp only [modfile_zzIndex.l0]
    rw [hw, if_neg (by omega), e]
    exact ⟨-1, rfl, rfl⟩
  | succ d ih =>
    intro k i h1 hd hk
    obtain ⟨k, rfl⟩ : ∃ m, k = m + 1 := ⟨k - 1, by omega⟩
    have hw : wrap64 ((i : Int) + (p.size : Int)) = ((i + p.size : Nat) : Int) := by unfold wrap64; omega
    have t1 : (i : Int).toNat = i := by omega
    have t2 : ((i + p.size : Nat) : Int).toNat = i + p.size := by omega
    simp only [modfile_zzIndex.l0]
    rw [hw]
    by_cases hle : i + p.size ≤ s.size
    · rw [if_pos (by omega), if_pos (by omega), if_pos (by omega), t1, t2]
      by_cases hm : (s.extract i (i + p.size)).toList = p.toList
      · rw [if_pos hm, hasL_hit s p i (by omega) hle hm]
        exact ⟨_, rfl, decide_eq_true (by omega)⟩
      · rw [if_neg hm, hasL_miss s p i (by omega) hle hm, wrap_up (by omega)]
        exact ih k (i + 1) (by omega) (by omega) (by omega)
    · rw [if_neg (by omega), hasL_short (lst p) ((lst s).drop i) (by rw [List.length_drop, lst_length, lst_length]; omega)]
      exact ⟨-1, rfl, rfl⟩

theorem stands_l0 (s p : ByteArray) (hp : 0 < p.size) (hs : s.size ≤ 2147483647) (hp2 : p.size ≤ 2147483647) (d : Nat) : ∀ (k i : Nat), i ≤ s.size → s.size - i = d → d < k →
    spec_Stands.l0 k s p (i : Int) = some (hasL (lst p) ((lst s).drop i)) := by
  induction d with
  | zero =>
    intro k i h1 hd hk
    obtain ⟨k, rfl⟩ : ∃ m, k = m + 1 := ⟨k - 1, by omega⟩
    have hw : wrap64 ((i : Int) + (p.size : Int)) = ((i + p.size : Nat) : Int) := by unfold wrap64; omega
    have e := hasL_short (lst p) ((lst s).drop i) (by rw [List.length_drop, lst_length, lst_length]; omega)
    simp only [spec_Stands.l0]
    rw [hw, if_neg (by omega), e]
  | succ d ih =>
    intro k i h1 hd hk
    obtain ⟨k, rfl⟩ : ∃ m, k = m + 1 := ⟨k - 1, by omega⟩
    have hw : wrap64 ((i : Int) + (p.size : Int)) = ((i + p.size : Nat) : Int) := by unfold wrap64; omega
    have t1 : (i : Int).toNat = i := by omega
    have t2 : ((i + p.size : Nat) : Int).toNat = i + p.size := by omega
    simp only [spec_Stands.l0]
    rw [hw]
    by_cases hle : i + p.size ≤ s.size
    · rw [if_pos (by omega), if_pos (by omega), if_pos (by omega), t1, t2]
      by_cases hm : (s.extract i (i + p.size)).toList = p.toList
      · rw [if_pos hm, hasL_hit s p i (by omega) hle hm]
      · rw [if_neg hm, hasL_miss s p i (by omega) hle hm, wrap_up (by omega)]
        exact ih k (i + 1) (by omega) (by omega) (by omega)
    · rw [if_neg (by omega), hasL_short (lst p) ((lst s).drop i) (by rw [List.length_drop, lst_length, lst_length]; omega)]

theorem contains_tells (s p : ByteArray) (hp : 0 < p.size) (hs : s.size ≤ 2147483647) (hp2 : p.size ≤ 2147483647) : modfile_zzContains.f (s.size + 1) s p = some (hasL (lst p) (lst s)) := by
  obtain ⟨r, h1, h2⟩ := index_l0 s p hp hs hp2 s.size (s.size + 1) 0 (by omega) (by omega) (by omega)
  rw [List.drop_zero] at h2
  have h1' : modfile_zzIndex.l0 (s.size + 1) s p 0 = some r := h1
  unfold modfile_zzContains.f modfile_zzIndex.f
  rw [h1', Option.bind_some, h2]

theorem stands_tells (s p : ByteArray) (hp : 0 < p.size) (hs : s.size ≤ 2147483647) (hp2 : p.size ≤ 2147483647) (k : Nat) (hk : s.size < k) : spec_Stands.f k s p = some (hasL (lst p) (lst s)) := by
  have h1 := stands_l0 s p hp hs hp2 s.size k 0 (by omega) (by omega) hk
  rw [List.drop_zero] at h1
  exact h1

/-! ### MustQuote -/

def spc (c : UInt8) : Bool := decide ((c.toNat : Int) = 32) || decide ((c.toNat : Int) = 34) || decide ((c.toNat : Int) = 39) || decide ((c.toNat : Int) = 96) || decide ((c.toNat : Int) < 32) || decide ((c.toNat : Int) > 126)
def brk (c : UInt8) : Bool := decide ((c.toNat : Int) = 40) || decide ((c.toNat : Int) = 41) || decide ((c.toNat : Int) = 91) || decide ((c.toNat : Int) = 93) || decide ((c.toNat : Int) = 123) || decide ((c.toNat : Int) = 125) || decide ((c.toNat : Int) = 44)
def stops (big : Bool) (c : UInt8) : Bool := spc c || (brk c && big)

abbrev two1 : ByteArray := ⟨#[47, 47]⟩
abbrev two2 : ByteArray := ⟨#[47, 42]⟩

/-- What is asked behind the loop. -/
def behind (s : ByteArray) : Bool := decide (s.size = 0) || hasL (lst two1) (lst s) || hasL (lst two2) (lst s)
def mustB (s : ByteArray) : Bool := (lst s).any (stops (decide (1 < s.size))) || behind s

theorem must_l0 (s : ByteArray) (hs : s.size ≤ 2147483647) (d : Nat) : ∀ (k i : Nat), i ≤ s.size → s.size - i = d → 3 * d + s.size + 4 < k →
    spec_MustQuote.l0 k s (i : Int) = some (((lst s).drop i).any (stops (decide (1 < s.size))) || behind s) := by
  induction d with
  | zero =>
    intro k i h1 hd hk
    obtain ⟨k, rfl⟩ : ∃ m, k = m + 1 := ⟨k - 1, by omega⟩
    simp only [spec_MustQuote.l0]
    rw [if_neg (by omega), drop_end s i (by omega)]
    unfold behind
    by_cases h0 : s.size = 0
    · rw [if_pos ((empty_iff s).mpr h0), decide_eq_true h0]
      rfl
    · rw [if_neg (fun h => h0 ((empty_iff s).mp h)), decide_eq_false h0, stands_tells s two1 (by decide) hs (by decide) k (by omega), stands_tells s two2 (by decide) hs (by decide) k (by omega)]
      simp only [Option.bind_some, List.any_nil, Bool.false_or]
      split
      · rename_i h; rw [h]; rfl
      · rename_i h; rw [Bool.eq_false_iff.mpr h]; rfl
  | succ d ih =>
    intro k i h1 hd hk
    obtain ⟨k, rfl⟩ : ∃ m, k = m + 3 := ⟨k - 3, by omega⟩
    obtain ⟨c, hc, e⟩ := drop_at s i (by omega)
    have hih := ih k (i + 1) (by omega) (by omega) (by omega)
    have hj : ∀ b, spec_MustQuote.j1 (k + 2) s (i : Int) (c.toNat : Int) b = some ((b || (brk c && decide (1 < s.size))) || (((lst s).drop (i + 1)).any (stops (decide (1 < s.size))) || behind s)) := by
      have h2 : ∀ b, spec_MustQuote.j2 (k + 1) s (i : Int) b = some ((b && decide (1 < s.size)) || (((lst s).drop (i + 1)).any (stops (decide (1 < s.size))) || behind s)) := by
        intro b
        simp only [spec_MustQuote.j2]
        rw [wrap_up (by omega), hih]
        cases b with
        | false => rw [if_neg (by simp)]; rfl
        | true =>
          rw [if_pos rfl]
          by_cases hb : 1 < s.size
          · rw [if_pos (by omega), decide_eq_true hb]; rfl
          · rw [if_neg (by omega), decide_eq_false hb]; rfl
      intro b
      simp only [spec_MustQuote.j1, h2]
      cases b with
      | true => rw [if_pos rfl]; rfl
      | false =>
        rw [if_neg (by simp)]
        unfold brk
        simp only [Bool.false_or]
        generalize (((lst s).drop (i + 1)).any (stops (decide (1 < s.size))) || behind s) = Z
        generalize decide (1 < s.size) = B
        generalize (c.toNat : Int) = x
        have hd : ∀ y : Int, (x == y) = decide (x = y) := fun y => by rw [Bool.eq_iff_iff]; simp
        rw [hd 44]
        by_cases c1 : x = 40
        · rw [if_pos c1, decide_eq_true c1]; simp
        rw [if_neg c1, decide_eq_false c1]
        by_cases c2 : x = 41
        · rw [if_pos c2, decide_eq_true c2]; simp
        rw [if_neg c2, decide_eq_false c2]
        by_cases c3 : x = 91
        · rw [if_pos c3, decide_eq_true c3]; simp
        rw [if_neg c3, decide_eq_false c3]
        by_cases c4 : x = 93
        · rw [if_pos c4, decide_eq_true c4]; simp
        rw [if_neg c4, decide_eq_false c4]
        by_cases c5 : x = 123
        · rw [if_pos c5, decide_eq_true c5]; simp
        rw [if_neg c5, decide_eq_false c5]
        by_cases c6 : x = 125
        · rw [if_pos c6, decide_eq_true c6]; simp
        rw [if_neg c6, decide_eq_false c6]
        simp
    simp only [spec_MustQuote.l0]
    rw [if_pos (by omega), if_pos (by omega), hc, e, List.any_cons]
    simp only [hj]
    unfold stops spc
    generalize (brk c && decide (1 < s.size)) = B
    generalize (((lst s).drop (i + 1)).any (stops (decide (1 < s.size)))) = Y
    generalize behind s = V
    generalize (c.toNat : Int) = x
    by_cases c1 : x = 32
    · rw [if_pos c1, decide_eq_true c1]; simp
    rw [if_neg c1, decide_eq_false c1]
    by_cases c2 : x = 34
    · rw [if_pos c2, decide_eq_true c2]; simp
    rw [if_neg c2, decide_eq_false c2]
    by_cases c3 : x = 39
    · rw [if_pos c3, decide_eq_true c3]; simp
    rw [if_neg c3, decide_eq_false c3]
    by_cases c4 : x = 96
    · rw [if_pos c4, decide_eq_true c4]; simp
    rw [if_neg c4, decide_eq_false c4]
    by_cases c5 : x < 32
    · rw [if_pos c5, decide_eq_true c5]; simp
    rw [if_neg c5, decide_eq_false c5]
    simp [Bool.or_assoc]

theorem must_tells (s : ByteArray) (hs : s.size ≤ 2147483647) : spec_MustQuote.f (4 * s.size + 5) s = some (mustB s) := by
  have := must_l0 s hs s.size (4 * s.size + 5) 0 (by omega) (by omega) (by omega)
  rw [List.drop_zero] at this
  exact this

/-! ### Quote -/

/-- A sign of a text in quotes. -/
def esc (c : UInt8) : List UInt8 := if (c.toNat : Int) = 34 ∨ (c.toNat : Int) = 92 then [92, c] else [c]
def quoL (l : List UInt8) : List UInt8 := 34 :: (l.flatMap esc ++ [34])

theorem quote_l0 (s : ByteArray) (hs : s.size ≤ 2147483647) (d : Nat) : ∀ (k i : Nat) (acc : ByteArray), i ≤ s.size → acc.size ≤ 2 * i + 1 → s.size - i = d → d < k →
    ∃ r, spec_Quote.l0 k s acc (i : Int) = some r ∧ lst r = lst acc ++ (((lst s).drop i).flatMap esc ++ [34]) := by
  have happ : ∀ a b : ByteArray, lst (a ++ b) = lst a ++ lst b := fun a b => by
    show (a ++ b).data.toList = _
    rw [ByteArray.data_append, Array.toList_append]
  have hsz : ∀ a b : ByteArray, (a ++ b).size = a.size + b.size := fun a b => by rw [← lst_length, happ, List.length_append, lst_length, lst_length]
  induction d with
  | zero =>
    intro k i acc h1 ha hd hk
    obtain ⟨k, rfl⟩ : ∃ m, k = m + 1 := ⟨k - 1, by omega⟩
    simp only [spec_Quote.l0]
    rw [if_neg (by omega), if_pos (by omega), drop_end s i (by omega)]
    exact ⟨_, rfl, by rw [happ]; rfl⟩
  | succ d ih =>
    intro k i acc h1 ha hd hk
    obtain ⟨k, rfl⟩ : ∃ m, k = m + 1 := ⟨k - 1, by omega⟩
    obtain ⟨c, hc, e⟩ := drop_at s i (by omega)
    have w1 := wrap_up (i := i) (by omega)
    have t1 : (i : Int).toNat = i := by omega
    have t2 : ((i + 1 : Nat) : Int).toNat = i + 1 := by omega
    have l1 : lst (s.extract i (i + 1)) = [c] := by
      rw [lst_extract, e]
      simp
    have z1 : (s.extract i (i + 1)).size = 1 := by rw [← lst_length, l1]; rfl
    have z2 : (acc ++ (⟨#[92]⟩ : ByteArray)).size = acc.size + 1 := hsz _ _
    simp only [spec_Quote.l0]
    rw [if_pos (by omega), if_pos (by omega), hc, w1, t1, t2, z1, z2, e, List.flatMap_cons]
    have hq : ∀ (hh : (c.toNat : Int) = 34 ∨ (c.toNat : Int) = 92), ∃ r, spec_Quote.l0 k s ((acc ++ (⟨#[92]⟩ : ByteArray)) ++ s.extract i (i + 1)) ((i + 1 : Nat) : Int) = some r ∧ lst r = lst acc ++ ((esc c ++ ((lst s).drop (i + 1)).flatMap esc) ++ [34]) := by
      intro hh
      obtain ⟨r, h3, h4⟩ := ih k (i + 1) ((acc ++ (⟨#[92]⟩ : ByteArray)) ++ s.extract i (i + 1)) (by omega) (by rw [hsz, z2, z1]; omega) (by omega) (by omega)
      refine ⟨r, h3, ?_⟩
      have e92 : esc c = [92, c] := by unfold esc; rw [if_pos hh]
      have e1 : lst (⟨#[92]⟩ : ByteArray) = [92] := rfl
      rw [h4, happ, happ, l1, e92, e1]
      simp
    by_cases c1 : (c.toNat : Int) = 34
    · rw [if_pos c1, if_pos (by omega), if_pos (by omega), if_pos (by omega), if_pos (by omega)]
      exact hq (Or.inl c1)
    · rw [if_neg c1]
      by_cases c2 : (c.toNat : Int) = 92
      · rw [if_pos c2, if_pos (by omega), if_pos (by omega), if_pos (by omega), if_pos (by omega)]
        exact hq (Or.inr c2)
      · rw [if_neg c2, if_pos (by omega), if_pos (by omega), if_pos (by omega)]
        obtain ⟨r, h3, h4⟩ := ih k (i + 1) (acc ++ s.extract i (i + 1)) (by omega) (by rw [hsz, z1]; omega) (by omega) (by omega)
        refine ⟨r, h3, ?_⟩
        have e92 : esc c = [c] := by unfold esc; rw [if_neg (by rintro (h | h); exact c1 h; exact c2 h)]
        rw [h4, happ, l1, e92]
        simp

theorem quote_tells (s : ByteArray) (hs : s.size ≤ 2147483647) : ∃ r, spec_Quote.f (s.size + 1) s = some r ∧ lst r = quoL (lst s) := by
  obtain ⟨r, h1, h2⟩ := quote_l0 s hs s.size (s.size + 1) 0 ⟨#[34]⟩ (by omega) (by decide) (by omega) (by omega)
  rw [List.drop_zero] at h2
  exact ⟨r, h1, h2⟩

end Go.Proofs.YtkmebbdkiamliaaDoor.Q
