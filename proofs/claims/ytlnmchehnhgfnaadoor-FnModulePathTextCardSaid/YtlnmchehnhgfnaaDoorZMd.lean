/- The reference's PathOk in plain words, the path of a module statement in a line, and the law FnModulePathBehind. Conditions: the table of white space lies in memory. -/
import Derived.Test.YtlnmchehnhgfnaaDoorZMc
import Derived.Test.YtlnmchehnhgfnaaDoorZPPathOkx1
namespace Go.Proofs.YtlnmchehnhgfnaaDoor.M
open Go.RowKit Go.Proofs.YtlnmchehnhgfnaaDoorW.PrintWords
theorem bt_get (s : ByteArray) (i : Nat) (h : i < s.size) : bt s (i : Int) = (((lst s)[i]'(by rw [lst_length]; exact h)).toNat : Int) := by
  unfold bt
  have h' : (i : Int).toNat < s.size := by simpa using h
  rw [dif_pos h']
  rfl
theorem drop_at (s : ByteArray) (i : Nat) (h : i < s.size) : ∃ c, bt s (i : Int) = (c.toNat : Int) ∧ (lst s).drop i = c :: (lst s).drop (i + 1) := by
  have h' : i < (lst s).length := by rw [lst_length]; exact h
  exact ⟨(lst s)[i], bt_get s i h, List.drop_eq_getElem_cons h'⟩
theorem drop_end (s : ByteArray) (i : Nat) (h : s.size ≤ i) : (lst s).drop i = [] := List.drop_eq_nil_of_le (by rw [lst_length]; omega)
theorem lst_extract (s : ByteArray) (a b : Nat) : lst (s.extract a b) = ((lst s).drop a).take (b - a) := Lib.extract_data s a b
theorem rdOf_get (ps : List ByteArray) (j : Nat) (h : j < ps.length) : rdOf ByteArray.empty ps (j : Int) = ps[j] := by
  unfold rdOf
  have : (j : Int).toNat = j := by omega
  rw [this, List.getD_eq_getElem?_getD, List.getElem?_eq_getElem h]
  rfl
/-- The parts of a list between all signs of a kind. -/
def cutL (x : UInt8) : List UInt8 → List (List UInt8)
  | [] => [[]]
  | c :: r => if c = x then [] :: cutL x r else match cutL x r with
    | h :: t => (c :: h) :: t
    | [] => [[c]]
theorem cutL_cons (x c : UInt8) (r : List UInt8) : cutL x (c :: r) = if c = x then [] :: cutL x r else match cutL x r with
    | h :: t => (c :: h) :: t
    | [] => [[c]] := rfl
theorem cutL_ne (x : UInt8) (l : List UInt8) : cutL x l ≠ [] := by
  cases l with
  | nil => simp [cutL]
  | cons c r =>
    unfold cutL
    split
    · simp
    · split <;> simp
theorem cutL_plain (x : UInt8) (l : List UInt8) (h : x ∉ l) : cutL x l = [l] := by
  induction l with
  | nil => rfl
  | cons c r ih =>
    unfold cutL
    rw [if_neg (fun e => h (by rw [e]; simp)), ih (fun e => h (by simp [e]))]
theorem cutL_at (x : UInt8) (l r : List UInt8) (h : x ∉ l) : cutL x (l ++ x :: r) = l :: cutL x r := by
  induction l with
  | nil => simp [cutL]
  | cons c t ih =>
    rw [List.cons_append, cutL_cons, if_neg (fun e => h (by rw [e]; simp)), ih (fun e => h (by simp [e]))]
theorem cutL_len (x : UInt8) (l : List UInt8) : (cutL x l).length ≤ l.length + 1 := by
  induction l with
  | nil => simp [cutL]
  | cons c r ih =>
    rw [cutL_cons]
    split
    · simp; omega
    · split
      · rename_i a t e; rw [e] at ih; simp at ih ⊢; omega
      · simp
theorem cutL_le (x : UInt8) (l : List UInt8) : ∀ p ∈ cutL x l, p.length ≤ l.length := by
  induction l with
  | nil => intro p h; simp [cutL] at h; simp [h]
  | cons c r ih =>
    intro p h
    rw [cutL_cons] at h
    split at h
    · rcases List.mem_cons.mp h with h | h
      · simp [h]
      · have := ih p h; simp; omega
    · split at h
      · rename_i a t e
        rcases List.mem_cons.mp h with h | h
        · have := ih a (by rw [e]; simp)
          rw [h]; simp; omega
        · have := ih p (by rw [e]; simp [h])
          simp; omega
      · simp at h; simp [h]
theorem cut_l0 (s : ByteArray) (hs : s.size ≤ 2147483647) (x : UInt8) (d : Nat) : ∀ (k fr i : Nat) (acc : List ByteArray), fr ≤ i → i ≤ s.size → acc.length ≤ fr → x ∉ ((lst s).drop fr).take (i - fr) → s.size - i = d → d < k →
    ∃ ps, PPathOk.spec_Cut.l0 k s (x.toNat : Int) acc (fr : Int) (i : Int) = some (acc ++ ps) ∧ ps.map lst = cutL x ((lst s).drop fr) := by
  induction d with
  | zero =>
    intro k fr i acc h0 h1 ha hn hd hk
    obtain ⟨k, rfl⟩ : ∃ m, k = m + 1 := ⟨k - 1, by omega⟩
    simp only [PPathOk.spec_Cut.l0]
    rw [if_neg (by omega), if_pos (by omega), if_pos (by omega), if_pos (by omega)]
    refine ⟨_, rfl, ?_⟩
    have e : ((lst s).drop fr).take (i - fr) = (lst s).drop fr := List.take_of_length_le (by rw [List.length_drop, lst_length]; omega)
    rw [e] at hn
    rw [cutL_plain x _ hn, List.map_cons, List.map_nil, lst_extract, List.take_of_length_le (by rw [List.length_drop, lst_length]; simp)]
    rfl
  | succ d ih =>
    intro k fr i acc h0 h1 ha hn hd hk
    obtain ⟨k, rfl⟩ : ∃ m, k = m + 1 := ⟨k - 1, by omega⟩
    obtain ⟨c, hc, e⟩ := drop_at s i (by omega)
    have e2 : (lst s).drop fr = ((lst s).drop fr).take (i - fr) ++ c :: (lst s).drop (i + 1) := by
      rw [← e]
      conv => lhs; rw [← List.take_append_drop (i - fr) ((lst s).drop fr)]
      rw [List.drop_drop, show fr + (i - fr) = i by omega]
    simp only [PPathOk.spec_Cut.l0]
    rw [if_pos (by omega), if_pos (by omega), hc]
    by_cases hx : c = x
    · rw [if_pos (by rw [hx]), if_pos (by omega), if_pos (by omega), if_pos (by omega), if_pos (by omega), wrap_up (by omega)]
      obtain ⟨ps, p1, p2⟩ := ih k (i + 1) (i + 1) (acc ++ [s.extract (fr : Int).toNat (i : Int).toNat]) (by omega) (by omega) (by simp; omega) (by simp) (by omega) (by omega)
      refine ⟨_ :: ps, by rw [p1, List.append_assoc]; rfl, ?_⟩
      rw [e2, hx, cutL_at x _ _ hn, List.map_cons, p2, lst_extract]
      rfl
    · have hx' : ¬ (c.toNat : Int) = (x.toNat : Int) := fun h => hx (UInt8.toNat_inj.mp (by omega))
      rw [if_neg hx', wrap_up (by omega)]
      refine ih k fr (i + 1) acc (by omega) (by omega) ha ?_ (by omega) (by omega)
      intro h
      have e3 : ((lst s).drop fr).take (i + 1 - fr) = ((lst s).drop fr).take (i - fr) ++ [c] := by
        have hl : i - fr < ((lst s).drop fr).length := by rw [List.length_drop, lst_length]; omega
        rw [show i + 1 - fr = (i - fr) + 1 by omega, List.take_succ_eq_append_getElem hl]
        congr 2
        rw [List.getElem_drop]
        have h6 : (lst s)[i]? = some c := by
          have := congrArg (fun l => l[0]?) e
          simpa using this
        simp only [show fr + (i - fr) = i by omega]
        exact (List.getElem_eq_iff _).mpr h6
      rw [e3] at h
      rcases List.mem_append.mp h with h | h
      · exact hn h
      · exact hx (List.mem_singleton.mp h).symm
theorem cut_tells (s : ByteArray) (hs : s.size ≤ 2147483647) (x : UInt8) (k : Nat) (hk : s.size < k) : ∃ ps, PPathOk.spec_Cut.f k s (x.toNat : Int) = some ps ∧ ps.map lst = cutL x (lst s) := by
  obtain ⟨ps, h1, h2⟩ := cut_l0 s hs x s.size k 0 0 [] (by omega) (by omega) (by simp) (by simp) (by omega) hk
  exact ⟨ps, by rw [List.nil_append] at h1; exact h1, by rw [List.drop_zero] at h2; exact h2⟩
def low (c : UInt8) : Bool := decide (97 ≤ (c.toNat : Int)) && decide ((c.toNat : Int) ≤ 122)
theorem letter_eq (c : UInt8) : PPathOk.spec_letter.f (c.toNat : Int) = some (low c) := by
  unfold PPathOk.spec_letter.f low
  by_cases h : (c.toNat : Int) ≥ 97
  · rw [if_pos h, decide_eq_true (show 97 ≤ (c.toNat : Int) from h)]; rfl
  · rw [if_neg h, decide_eq_false (show ¬ 97 ≤ (c.toNat : Int) from h)]; rfl
def pathC (c : UInt8) : Bool := low c || decide ((c.toNat : Int) = 46) || decide ((c.toNat : Int) = 47)
/-- What a path is known for. -/
structure PathGood (l : List UInt8) : Prop where
  signs : ∀ c ∈ l, pathC c = true
  parts : ∀ p ∈ cutL 47 l, p ≠ []
  short : l.length ≤ 100
theorem path_l1 (s : ByteArray) (hs : s.size ≤ 2147483647) (ps : List ByteArray) (hl : ps.length ≤ 2147483648) (d : Nat) : ∀ (k j : Nat), j ≤ ps.length → ps.length - j = d → d < k →
    (∀ p ∈ ps, p.size ≤ 2147483647) → ∃ r, PPathOk.spec_PathOk.l1 k s ps (ps.length : Int) (j : Int) = some r ∧ (r = true → (∀ p ∈ ps.drop j, lst p ≠ []) ∧ s.size ≤ 100) := by
  induction d with
  | zero =>
    intro k j h1 hd hk hp
    obtain ⟨k, rfl⟩ : ∃ m, k = m + 1 := ⟨k - 1, by omega⟩
    have e : ps.drop j = [] := List.drop_eq_nil_of_le (by omega)
    simp only [PPathOk.spec_PathOk.l1]
    rw [if_neg (by omega), e]
    by_cases h : (s.size : Int) ≤ 100
    · rw [if_pos h]
      unfold PPathOk.spec_Begins.f
      by_cases h2 : (s.size : Int) ≥ ((⟨#[103, 111, 112, 107, 103, 46, 105, 110, 47]⟩ : ByteArray).size : Int)
      · rw [if_pos h2, if_pos (by omega), if_pos (by omega)]
        exact ⟨_, rfl, fun _ => ⟨by simp, by omega⟩⟩
      · rw [if_neg h2]
        exact ⟨_, rfl, fun _ => ⟨by simp, by omega⟩⟩
    · rw [if_neg h]
      exact ⟨_, rfl, fun h => absurd h (by simp)⟩
  | succ d ih =>
    intro k j h1 hd hk hp
    obtain ⟨k, rfl⟩ : ∃ m, k = m + 1 := ⟨k - 1, by omega⟩
    have hj : j < ps.length := by omega
    have e := List.drop_eq_getElem_cons hj
    have hps := hp ps[j] (List.getElem_mem hj)
    simp only [PPathOk.spec_PathOk.l1]
    rw [if_pos (by omega), if_pos (by omega), if_pos (by omega), rdOf_get ps j hj, e, Lib.toList_data]
    by_cases h0 : (ps[j]).data.toList = []
    · rw [if_pos h0]
      exact ⟨_, rfl, fun h => absurd h (by simp)⟩
    · rw [if_neg h0]
      have hz : 0 < (ps[j]).size := by
        rw [← lst_length]
        exact List.length_pos_iff.mpr h0
      obtain ⟨c, hc, _⟩ := drop_at ps[j] 0 hz
      have hc' : bt ps[j] 0 = (c.toNat : Int) := hc
      obtain ⟨c2, hc2, _⟩ := drop_at ps[j] ((ps[j]).size - 1) (by omega)
      have hw : wrap64 (((ps[j]).size : Int) - 1) = (((ps[j]).size - 1 : Nat) : Int) := by unfold wrap64; omega
      rw [if_pos (by omega), hc', letter_eq, hw, hc2, letter_eq, Option.bind_some, Option.bind_some]
      by_cases l1 : low c = true
      · rw [if_pos l1, if_pos (by omega), if_pos (by omega)]
        by_cases l2 : low c2 = true
        · rw [if_pos l2, wrap_up (by omega)]
          obtain ⟨r, hr, hi⟩ := ih k (j + 1) (by omega) (by omega) (by omega) hp
          refine ⟨r, hr, fun h => ⟨fun p hpm => ?_, (hi h).2⟩⟩
          rcases List.mem_cons.mp hpm with h3 | h3
          · rw [h3]; exact h0
          · exact (hi h).1 p h3
        · rw [if_neg l2]
          exact ⟨_, rfl, fun h => absurd h (by simp)⟩
      · rw [if_neg l1]
        exact ⟨_, rfl, fun h => absurd h (by simp)⟩
theorem path_l0 (s : ByteArray) (hs : s.size ≤ 2147483647) (d : Nat) : ∀ (k i : Nat), i ≤ s.size → s.size - i = d → d + s.size + 2 < k →
    ∃ r, PPathOk.spec_PathOk.l0 k s (i : Int) = some r ∧ (r = true → (∀ c ∈ (lst s).drop i, pathC c = true) ∧ (∀ p ∈ cutL 47 (lst s), p ≠ []) ∧ s.size ≤ 100) := by
  induction d with
  | zero =>
    intro k i h1 hd hk
    obtain ⟨k, rfl⟩ : ∃ m, k = m + 1 := ⟨k - 1, by omega⟩
    simp only [PPathOk.spec_PathOk.l0]
    obtain ⟨ps, p1, p2⟩ := cut_tells s hs 47 k (by omega)
    have p1' : PPathOk.spec_Cut.f k s 47 = some ps := p1
    rw [if_neg (by omega), p1', Option.bind_some, drop_end s i (by omega)]
    have hlen : ps.length ≤ s.size + 1 := by
      have := cutL_len 47 (lst s)
      rw [← p2, List.length_map, lst_length] at this
      exact this
    have hsz : ∀ p ∈ ps, p.size ≤ 2147483647 := by
      intro p hp
      have : lst p ∈ cutL 47 (lst s) := by rw [← p2]; exact List.mem_map_of_mem hp
      have := cutL_le 47 (lst s) _ this
      rw [lst_length, lst_length] at this
      omega
    obtain ⟨r, h3, h4⟩ := path_l1 s hs ps (by omega) ps.length k 0 (by omega) (by omega) (by omega) hsz
    rw [List.drop_zero] at h4
    refine ⟨r, h3, fun h => ⟨by simp, ?_, (h4 h).2⟩⟩
    rw [← p2]
    intro p hp
    obtain ⟨q, hq, rfl⟩ := List.mem_map.mp hp
    exact (h4 h).1 q hq
  | succ d ih =>
    intro k i h1 hd hk
    obtain ⟨k, rfl⟩ : ∃ m, k = m + 1 := ⟨k - 1, by omega⟩
    obtain ⟨c, hc, e⟩ := drop_at s i (by omega)
    obtain ⟨r, hr, hi⟩ := ih k (i + 1) (by omega) (by omega) (by omega)
    simp only [PPathOk.spec_PathOk.l0]
    rw [if_pos (by omega), if_pos (by omega), hc, letter_eq, Option.bind_some, wrap_up (by omega), e]
    have key : pathC c = true → ∃ r', PPathOk.spec_PathOk.l0 k s ((i + 1 : Nat) : Int) = some r' ∧ (r' = true → (∀ x ∈ c :: (lst s).drop (i + 1), pathC x = true) ∧ (∀ p ∈ cutL 47 (lst s), p ≠ []) ∧ s.size ≤ 100) := by
      intro hcc
      refine ⟨r, hr, fun h => ⟨fun x hx => ?_, (hi h).2⟩⟩
      rcases List.mem_cons.mp hx with h3 | h3
      · rw [h3]; exact hcc
      · exact (hi h).1 x h3
    by_cases l1 : low c = true
    · rw [if_pos l1]
      exact key (by unfold pathC; rw [l1]; rfl)
    · rw [if_neg l1]
      by_cases l2 : (c.toNat : Int) = 46
      · rw [if_pos l2]
        exact key (by unfold pathC; rw [decide_eq_true l2]; simp)
      · rw [if_neg l2]
        by_cases l3 : (c.toNat : Int) = 47
        · rw [if_pos l3]
          exact key (by unfold pathC; rw [decide_eq_true l3]; simp)
        · rw [if_neg l3]
          exact ⟨_, rfl, fun h => absurd h (by simp)⟩
theorem path_tells (s : ByteArray) (hs : s.size ≤ 2147483647) : ∃ k r, PPathOk.spec_PathOk.f k s = some r ∧ (r = true → PathGood (lst s)) := by
  obtain ⟨r, h1, h2⟩ := path_l0 s hs s.size (2 * s.size + 3) 0 (by omega) (by omega) (by omega)
  rw [List.drop_zero] at h2
  exact ⟨_, r, h1, fun h => ⟨(h2 h).1, (h2 h).2.1, by rw [lst_length]; exact (h2 h).2.2⟩⟩
theorem pathC_sp {c : UInt8} (h : pathC c = true) : Lib.isSp c = false ∧ c.toNat < 128 ∧ c ≠ 10 ∧ c ≠ 34 ∧ c ≠ 96 := by
  have h1 : (97 ≤ c.toNat ∧ c.toNat ≤ 122) ∨ c.toNat = 46 ∨ c.toNat = 47 := by
    unfold pathC low at h
    simp at h
    omega
  have e : ∀ x : UInt8, c = x → c.toNat = x.toNat := fun x hx => by rw [hx]
  refine ⟨?_, by omega, fun hx => ?_, fun hx => ?_, fun hx => ?_⟩
  · unfold Lib.isSp
    have k9 : (9 : UInt8).toNat = 9 := rfl
    have k10 : (10 : UInt8).toNat = 10 := rfl
    have k11 : (11 : UInt8).toNat = 11 := rfl
    have k12 : (12 : UInt8).toNat = 12 := rfl
    have k13 : (13 : UInt8).toNat = 13 := rfl
    have k32 : (32 : UInt8).toNat = 32 := rfl
    have f : ∀ x : UInt8, c.toNat ≠ x.toNat → (c == x) = false := fun x hx => beq_eq_false_iff_ne.mpr (fun h => hx (e x h))
    rw [f 9 (by omega), f 10 (by omega), f 11 (by omega), f 12 (by omega), f 13 (by omega), f 32 (by omega)]
    rfl
  · have := e _ hx; have k : (10 : UInt8).toNat = 10 := rfl; omega
  · have := e _ hx; have k : (34 : UInt8).toNat = 34 := rfl; omega
  · have := e _ hx; have k : (96 : UInt8).toNat = 96 := rfl; omega
theorem cutS_cons {c : UInt8} (r : List UInt8) (h : c ≠ 47) : cutS (c :: r) = c :: cutS r := by
  conv => lhs; unfold cutS
  rw [if_neg (fun h2 => h h2.1)]
theorem cutS_path (l : List UInt8) (h : ∀ p ∈ (cutL 47 l).tail, p ≠ []) : cutS l = l := by
  induction l with
  | nil => rfl
  | cons c r ih =>
    rw [cutL_cons] at h
    by_cases hc : c = 47
    · rw [if_pos hc, List.tail_cons] at h
      have hr : r.head? ≠ some 47 := by
        intro h2
        cases r with
        | nil => simp at h2
        | cons d t =>
          simp only [List.head?_cons, Option.some.injEq] at h2
          rw [h2, cutL_cons, if_pos rfl] at h
          exact h [] (by simp) rfl
      conv => lhs; unfold cutS
      rw [if_neg (fun h2 => hr h2.2), ih (fun p hp => h p (List.mem_of_mem_tail hp))]
    · rw [cutS_cons r hc, ih]
      intro p hp
      rw [if_neg hc] at h
      split at h
      · rename_i a t e
        rw [e] at hp
        exact h p hp
      · rename_i e
        exact absurd e (cutL_ne 47 r)
theorem trim_ends (a m b : List UInt8) (x y : UInt8) (ha : ∀ c ∈ a, Lib.isSp c = true) (hb : ∀ c ∈ b, Lib.isSp c = true) (e : m.head? = some x) (e2 : m.getLast? = some y) (hx : Lib.isSp x = false) (hy : Lib.isSp y = false) :
    Lib.trimSpace (a ++ (m ++ b)) = m := by
  have dw : ∀ (p q : List UInt8) (z : UInt8), (∀ c ∈ p, Lib.isSp c = true) → q.head? = some z → Lib.isSp z = false → (p ++ q).dropWhile Lib.isSp = q := by
    intro p q z hp hq hz
    induction p with
    | nil =>
      cases q with
      | nil => simp at hq
      | cons d t =>
        simp only [List.head?_cons, Option.some.injEq] at hq
        rw [List.nil_append, List.dropWhile_cons, hq, hz]
        simp
    | cons d t ih =>
      rw [List.cons_append, List.dropWhile_cons, hp d (by simp), if_pos rfl]
      exact ih (fun c hc => hp c (by simp [hc]))
  unfold Lib.trimSpace
  have hmb : (m ++ b).head? = some x := by
    cases m with
    | nil => simp at e
    | cons d t => simpa using e
  rw [dw a (m ++ b) x ha hmb hx, List.reverse_append, dw b.reverse m.reverse y (fun c hc => hb c (List.mem_reverse.mp hc)) (by rw [List.head?_reverse]; exact e2) hy, List.reverse_reverse]
theorem cutS_append (p l : List UInt8) (h : (47 : UInt8) ∉ p) : cutS (p ++ l) = p ++ cutS l := by
  induction p with
  | nil => rfl
  | cons c r ih =>
    rw [List.cons_append, cutS_cons _ (fun e => h (by rw [e]; simp)), ih (fun e => h (by simp [e]))]
    rfl
abbrev modSp : List UInt8 := [109, 111, 100, 117, 108, 101, 32]
theorem path_ne {l : List UInt8} (h : PathGood l) : l ≠ [] := by
  intro e
  exact h.parts [] (by rw [e]; simp [cutL]) rfl
theorem line_mod (l : List UInt8) (h : PathGood l) : lineRes (modSp ++ l) = some l ∧ Ascii (modSp ++ l) ∧ (10 : UInt8) ∉ modSp ++ l ∧ NoQuote l := by
  have hne := path_ne h
  have hcut : cutS l = l := cutS_path l (fun p hp => h.parts p (List.mem_of_mem_tail hp))
  have h47 : (47 : UInt8) ∉ modSp := by decide
  have e1 : cutS (modSp ++ l) = modSp ++ l := by rw [cutS_append modSp l h47, hcut]
  obtain ⟨x, t, hxt⟩ : ∃ x t, l = x :: t := by
    cases l with
    | nil => exact absurd rfl hne
    | cons x t => exact ⟨x, t, rfl⟩
  have hlast : l.getLast? = some (l.getLast hne) := List.getLast?_eq_some_getLast hne
  have hx := pathC_sp (h.signs x (by rw [hxt]; simp))
  have hy := pathC_sp (h.signs _ (List.getLast_mem hne))
  have e2 : core (modSp ++ l) = modSp ++ l := by
    unfold core
    rw [e1]
    have := trim_ends [] (modSp ++ l) [] 109 (l.getLast hne) (by simp) (by simp) rfl (by rw [List.getLast?_append, hlast]; rfl) (by decide) hy.1
    simpa using this
  have e3 : (core (modSp ++ l)).drop 6 = 32 :: l := by rw [e2]; rfl
  have e4 : Lib.trimSpace (32 :: l) = l := by
    have := trim_ends [32] l [] x (l.getLast hne) (by decide) (by simp) (by rw [hxt]; rfl) hlast hx.1 hy.1
    simpa using this
  refine ⟨?_, ?_, ?_, ?_⟩
  · rw [res_o4 (by rw [e2]; exact ⟨32 :: l, rfl⟩) (by rw [e3, e4]; simp) (by rw [e3, e4]; intro h0; exact hne (List.eq_nil_of_length_eq_zero h0)), e3, e4]
  · intro c hc
    rcases List.mem_append.mp hc with h1 | h1
    · exact (by decide : ∀ c ∈ modSp, c.toNat < 128) c h1
    · exact (pathC_sp (h.signs c h1)).2.1
  · intro hc
    rcases List.mem_append.mp hc with h1 | h1
    · revert h1
      decide
    · exact (pathC_sp (h.signs _ h1)).2.2.1 rfl
  · intro c r e
    have := pathC_sp (h.signs c (by rw [e]; simp))
    exact this.2.2.2
theorem lst_add (a b : ByteArray) : lst (a ++ b) = lst a ++ lst b := by
  show (a ++ b).data.toList = _
  rw [ByteArray.data_append, Array.toList_append]
theorem size_add (a b : ByteArray) : (a ++ b).size = a.size + b.size := by rw [← lst_length, lst_add, List.length_append, lst_length, lst_length]
theorem str_back (s : ByteArray) : (⟨(lst s).toArray⟩ : ByteArray) = s := by
  obtain ⟨⟨l⟩⟩ := s
  rfl
end Go.Proofs.YtlnmchehnhgfnaaDoor.M
