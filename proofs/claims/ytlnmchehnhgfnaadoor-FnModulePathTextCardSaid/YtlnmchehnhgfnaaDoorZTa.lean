/- The reference's conditions on words, paths and versions answer for every text (each rounds away from some number of rounds on); of a path that is one, what it is known for. Conditions: texts of at most 2147483647 bytes. -/
import Derived.Test.YtlnmchehnhgfnaaDoorZMd
import Derived.Test.YtlnmchehnhgfnaaDoorZPContx2
import Derived.Test.YtlnmchehnhgfnaaDoorZPContx3
import Derived.Test.YtlnmchehnhgfnaaDoorZPContx4
import Derived.Test.YtlnmchehnhgfnaaDoorZPContx5
import Derived.Test.YtlnmchehnhgfnaaDoorZPContx6
namespace Go.Proofs.YtlnmchehnhgfnaaDoor.M
open Go.RowKit Go.Proofs.YtlnmchehnhgfnaaDoorW.PrintWords Go.Proofs.YtlnmchehnhgfnaaDoor.PCont
/-- From some number of rounds on the answer is one, and it is as told. -/
def EvP {α : Type} (g : Nat → Option α) (P : α → Prop) : Prop := ∃ r, P r ∧ Ev g r
theorem EvP.now {α : Type} {P : α → Prop} (r : α) (h : P r) : EvP (fun _ => some r) P := ⟨r, h, Ev.now r⟩
theorem EvP.step {α : Type} {g f : Nat → Option α} {P : α → Prop} (h : ∀ k, g (k + 1) = f k) (k : EvP f P) : EvP g P := by
  obtain ⟨r, h1, h2⟩ := k
  exact ⟨r, h1, Ev.step h h2⟩
theorem EvP.bind {α β : Type} {g : Nat → Option α} {f : Nat → α → Option β} {P : α → Prop} {Q : β → Prop} (h : EvP g P) (k : ∀ a, P a → EvP (fun n => f n a) Q) : EvP (fun n => (g n).bind (f n)) Q := by
  obtain ⟨a, h1, h2⟩ := h
  obtain ⟨r, h3, h4⟩ := k a h1
  exact ⟨r, h3, Ev.bind h2 h4⟩
theorem EvP.congr {α : Type} {g f : Nat → Option α} {P : α → Prop} (h : ∀ k, g k = f k) (k : EvP f P) : EvP g P := by
  obtain ⟨r, h1, h2⟩ := k
  exact ⟨r, h1, Ev.congr h h2⟩
theorem EvP.imp {α : Type} {g : Nat → Option α} {P Q : α → Prop} (h : EvP g P) (k : ∀ r, P r → Q r) : EvP g Q := by
  obtain ⟨r, h1, h2⟩ := h
  exact ⟨r, k r h1, h2⟩
theorem EvP.pos {α : Type} {c : Prop} [Decidable c] {g f : Nat → Option α} {P : α → Prop} (hc : c) (h : EvP g P) : EvP (fun k => if c then g k else f k) P := EvP.congr (fun _ => if_pos hc) h
theorem EvP.neg {α : Type} {c : Prop} [Decidable c] {g f : Nat → Option α} {P : α → Prop} (hc : ¬ c) (h : EvP f P) : EvP (fun k => if c then g k else f k) P := EvP.congr (fun _ => if_neg hc) h
theorem EvP.cond {α : Type} {c : Prop} [Decidable c] {g f : Nat → Option α} {P : α → Prop} (h1 : c → EvP g P) (h2 : ¬ c → EvP f P) : EvP (fun k => if c then g k else f k) P := by
  by_cases hc : c
  · exact EvP.pos hc (h1 hc)
  · exact EvP.neg hc (h2 hc)
theorem EvP.opt {α : Type} {o : Option α} {P : α → Prop} (h : ∃ r, o = some r ∧ P r) : EvP (fun _ => o) P := by
  obtain ⟨r, h1, h2⟩ := h
  exact EvP.congr (fun _ => h1) (EvP.now r h2)
theorem EvP.rounds {α : Type} {g : Nat → Option α} {P : α → Prop} (h : EvP g P) : ∃ k r, g k = some r ∧ P r := by
  obtain ⟨r, h1, h2⟩ := h
  obtain ⟨k, h3⟩ := h2.rounds
  exact ⟨k, r, h3, h1⟩
abbrev Any1 : Bool → Prop := fun _ => True
theorem t_letter (x : Int) : ∃ r, spec_letter.f x = some r ∧ True := by
  unfold spec_letter.f
  by_cases h : x ≥ 97
  · rw [if_pos h]; exact ⟨_, rfl, trivial⟩
  · rw [if_neg h]; exact ⟨_, rfl, trivial⟩
theorem t_digit (x : Int) : ∃ r, spec_digit.f x = some r ∧ True := by
  unfold spec_digit.f
  by_cases h : x ≥ 48
  · rw [if_pos h]; exact ⟨_, rfl, trivial⟩
  · rw [if_neg h]; exact ⟨_, rfl, trivial⟩
theorem ext_size (s : ByteArray) (a : Nat) (h : a ≤ s.size) : (s.extract a s.size).size = s.size - a := by
  rw [← lst_length (s.extract a s.size), lst_extract, List.length_take, List.length_drop, lst_length]
  omega
theorem ext_size0 (s : ByteArray) (b : Nat) (h : b ≤ s.size) : (s.extract 0 b).size = b := by
  rw [← lst_length (s.extract 0 b), lst_extract, List.length_take, List.length_drop, lst_length]
  omega
theorem t_begins (a b : ByteArray) : ∃ r, spec_Begins.f a b = some r ∧ (r = true → lst b <+: lst a) := by
  unfold spec_Begins.f
  by_cases h : (a.size : Int) ≥ (b.size : Int)
  · rw [if_pos h, if_pos (by omega), if_pos (by omega)]
    refine ⟨_, rfl, fun hr => ?_⟩
    have t : ((b.size : Int)).toNat = b.size := by omega
    rw [t, beq_iff_eq, Lib.toList_data, Lib.toList_data] at hr
    have e : lst (a.extract 0 b.size) = (lst a).take b.size := by rw [lst_extract, List.drop_zero]; rfl
    have hr' : lst (a.extract 0 b.size) = lst b := hr
    rw [← hr', e]
    exact List.take_prefix _ _
  · rw [if_neg h]
    exact ⟨_, rfl, fun hr => absurd hr (by simp)⟩
theorem cut_sameC (k : Nat) : ∀ (s : ByteArray) (x : Int) (acc : List ByteArray) (a b : Int), spec_Cut.l0 k s x acc a b = PPathOk.spec_Cut.l0 k s x acc a b := by
  induction k with
  | zero => intro s x acc a b; rfl
  | succ k ih =>
    intro s x acc a b
    simp only [spec_Cut.l0, PPathOk.spec_Cut.l0, ih]
theorem t_cut (s : ByteArray) (hs : s.size ≤ 2147483647) (x : UInt8) : EvP (fun k => spec_Cut.f k s (x.toNat : Int)) (fun ps => ps.map lst = cutL x (lst s)) := by
  obtain ⟨ps, h1, h2⟩ := cut_tells s hs x (s.size + 1) (by omega)
  refine ⟨ps, h2, Ev.of (fun k => spec_Cut.mono s _ k) (k := s.size + 1) ?_⟩
  unfold spec_Cut.f
  rw [cut_sameC]
  exact h1
theorem cut_len {ps : List ByteArray} {x : UInt8} {s : ByteArray} (h : ps.map lst = cutL x (lst s)) : 1 ≤ ps.length ∧ ps.length ≤ s.size + 1 := by
  have h1 := cutL_len x (lst s)
  have h2 := List.length_pos_iff.mpr (cutL_ne x (lst s))
  rw [← h, List.length_map] at h1 h2
  rw [lst_length] at h1
  exact ⟨h2, h1⟩
theorem cut_size {ps : List ByteArray} {x : UInt8} {s : ByteArray} (h : ps.map lst = cutL x (lst s)) : ∀ p ∈ ps, p.size ≤ s.size := by
  intro p hp
  have h1 : lst p ∈ cutL x (lst s) := by rw [← h]; exact List.mem_map_of_mem hp
  have := cutL_le x (lst s) _ h1
  rw [lst_length, lst_length] at this
  exact this
theorem letter_same : @spec_letter.f = @PPathOk.spec_letter.f := rfl
theorem begins_same : @spec_Begins.f = @PPathOk.spec_Begins.f := rfl
theorem path_same (k : Nat) : (∀ s i, spec_PathOk.l0 k s i = PPathOk.spec_PathOk.l0 k s i) ∧ (∀ s ps n j, spec_PathOk.l1 k s ps n j = PPathOk.spec_PathOk.l1 k s ps n j) := by
  induction k with
  | zero => exact ⟨fun _ _ => rfl, fun _ _ _ _ => rfl⟩
  | succ k ih =>
    have hc : ∀ s x, spec_Cut.f k s x = PPathOk.spec_Cut.f k s x := fun s x => by
      unfold spec_Cut.f PPathOk.spec_Cut.f
      rw [cut_sameC]
    refine ⟨fun s i => ?_, fun s ps n j => ?_⟩
    · simp only [spec_PathOk.l0, PPathOk.spec_PathOk.l0, ih.1, ih.2, letter_same, hc]
    · simp only [spec_PathOk.l1, PPathOk.spec_PathOk.l1, ih.2, letter_same, begins_same]
theorem t_path (s : ByteArray) (hs : s.size ≤ 2147483647) : EvP (fun k => spec_PathOk.f k s) (fun r => r = true → PathGood (lst s)) := by
  obtain ⟨k, r, h1, h2⟩ := path_tells s hs
  refine ⟨r, h2, Ev.of (fun k => spec_PathOk.mono s k) (k := k) ?_⟩
  have h1' : PPathOk.spec_PathOk.l0 k s 0 = some r := h1
  unfold spec_PathOk.f
  rw [(path_same k).1]
  exact h1'
theorem t_long_l (s : ByteArray) (hs : s.size ≤ 2147483647) (d : Nat) : ∀ i : Nat, i ≤ s.size → s.size - i = d → EvP (fun k => spec_long.l0 k s (i : Int)) Any1 := by
  induction d with
  | zero =>
    intro i h1 hd
    refine EvP.step (fun k => spec_long.l0.eq_2 s (i : Int) k) (EvP.neg (by omega) (EvP.cond (fun _ => EvP.now _ trivial) (fun _ => EvP.cond (fun _ => EvP.now _ trivial) (fun h => EvP.pos ?_ (EvP.now _ trivial)))))
    have : s.size ≠ 0 := fun h0 => h (by rw [Lib.toList_data]; exact List.eq_nil_of_length_eq_zero (by rw [lst_length]; exact h0))
    omega
  | succ d ih =>
    intro i h1 hd
    refine EvP.step (fun k => spec_long.l0.eq_2 s (i : Int) k) (EvP.pos (by omega) (EvP.pos (by omega) (EvP.bind (EvP.opt (t_digit _)) (fun b _ => EvP.cond (fun _ => ?_) (fun _ => EvP.now _ trivial)))))
    rw [wrap_up (by omega)]
    exact ih (i + 1) (by omega) (by omega)
theorem t_long (s : ByteArray) (hs : s.size ≤ 2147483647) : EvP (fun k => spec_long.f k s) Any1 := t_long_l s hs s.size 0 (by omega) (by omega)
theorem t_number_l (s : ByteArray) (hs : s.size ≤ 2147483647) (d : Nat) : ∀ i : Nat, i ≤ s.size → s.size - i = d → EvP (fun k => spec_number.l0 k s (i : Int)) Any1 := by
  induction d with
  | zero =>
    intro i h1 hd
    refine EvP.step (fun k => spec_number.l0.eq_2 s (i : Int) k) (EvP.neg (by omega) (EvP.cond (fun _ => EvP.now _ trivial) (fun _ => EvP.cond (fun _ => EvP.now _ trivial) (fun h => EvP.pos ?_ (EvP.cond (fun _ => EvP.now _ trivial) (fun _ => EvP.now _ trivial))))))
    have : s.size ≠ 0 := fun h0 => h (by rw [Lib.toList_data]; exact List.eq_nil_of_length_eq_zero (by rw [lst_length]; exact h0))
    omega
  | succ d ih =>
    intro i h1 hd
    refine EvP.step (fun k => spec_number.l0.eq_2 s (i : Int) k) (EvP.pos (by omega) (EvP.pos (by omega) (EvP.bind (EvP.opt (t_digit _)) (fun b _ => EvP.cond (fun _ => ?_) (fun _ => EvP.now _ trivial)))))
    rw [wrap_up (by omega)]
    exact ih (i + 1) (by omega) (by omega)
theorem t_number (s : ByteArray) (hs : s.size ≤ 2147483647) : EvP (fun k => spec_number.f k s) Any1 := t_number_l s hs s.size 0 (by omega) (by omega)
theorem t_word_l (s : ByteArray) (hs : s.size ≤ 2147483647) (d : Nat) : ∀ i : Nat, i ≤ s.size → s.size - i = d → EvP (fun k => spec_WordOk.l0 k s (i : Int)) Any1 := by
  induction d with
  | zero =>
    intro i h1 hd
    exact EvP.step (fun k => spec_WordOk.l0.eq_2 s (i : Int) k) (EvP.neg (by omega) (EvP.cond (fun _ => EvP.now _ trivial) (fun _ => EvP.now _ trivial)))
  | succ d ih =>
    intro i h1 hd
    have hn := ih (i + 1) (by omega) (by omega)
    rw [← wrap_up (by omega)] at hn
    exact EvP.step (fun k => spec_WordOk.l0.eq_2 s (i : Int) k) (EvP.pos (by omega) (EvP.pos (by omega) (EvP.bind (EvP.opt (t_letter _)) (fun b _ => EvP.cond (fun _ => hn) (fun _ => EvP.bind (EvP.opt (t_digit _)) (fun b _ => EvP.cond (fun _ => hn) (fun _ => EvP.cond (fun _ => hn) (fun _ => EvP.now _ trivial))))))))
theorem t_word (s : ByteArray) (hs : s.size ≤ 2147483647) : EvP (fun k => spec_WordOk.f k s) Any1 := t_word_l s hs s.size 0 (by omega) (by omega)
theorem t_why_l (s : ByteArray) (qs ps : List ByteArray) (hl : ps.length ≤ 2147483648) (hp : ∀ p ∈ ps, p.size ≤ 2147483647) (d : Nat) : ∀ i : Nat, i ≤ ps.length → ps.length - i = d → EvP (fun k => spec_WhyOk.l0 k s qs ps (ps.length : Int) (i : Int)) Any1 := by
  induction d with
  | zero =>
    intro i h1 hd
    exact EvP.step (fun k => spec_WhyOk.l0.eq_2 s qs ps (ps.length : Int) (i : Int) k) (EvP.neg (by omega) (EvP.now _ trivial))
  | succ d ih =>
    intro i h1 hd
    have hi : i < ps.length := by omega
    have hn := ih (i + 1) (by omega) (by omega)
    rw [← wrap_up (by omega)] at hn
    have hz := hp ps[i] (List.getElem_mem hi)
    refine EvP.step (fun k => spec_WhyOk.l0.eq_2 s qs ps (ps.length : Int) (i : Int) k) (EvP.pos (by omega) (EvP.pos (by omega) (EvP.pos (by omega) (EvP.bind ?_ (fun b (_ : Any1 b) => EvP.cond (fun _ => hn) (fun _ => EvP.now _ trivial))))))
    rw [rdOf_get ps i hi]
    exact t_word ps[i] hz
theorem t_why (s : ByteArray) (hs : s.size ≤ 2147483647) : EvP (fun k => spec_WhyOk.f k s) Any1 := by
  refine EvP.bind (g := fun k => spec_Cut.f k s 32) (t_cut s hs 32) (fun ps h => ?_)
  have h1 := cut_len h
  have h2 := cut_size h
  exact t_why_l s ps ps (by omega) (fun p hp => by have := h2 p hp; omega) ps.length 0 (by omega) (by omega)
theorem t_gov_l2 (qs ps : List ByteArray) (_hq : 1 ≤ qs.length) (hl : ps.length ≤ 2147483648) (hp : ∀ p ∈ ps, p.size ≤ 2147483647) (d : Nat) : ∀ i : Nat, i ≤ ps.length → ps.length - i = d → EvP (fun k => spec_GoVersion.l2 k qs ps (ps.length : Int) (i : Int)) Any1 := by
  induction d with
  | zero =>
    intro i h1 hd
    exact EvP.step (fun k => spec_GoVersion.l2.eq_2 qs ps (ps.length : Int) (i : Int) k) (EvP.neg (by omega) (EvP.cond (fun _ => EvP.pos (by omega) (EvP.now _ trivial)) (fun _ => EvP.cond (fun _ => EvP.pos (by omega) (EvP.now _ trivial)) (fun _ => EvP.now _ trivial))))
  | succ d ih =>
    intro i h1 hd
    have hi : i < ps.length := by omega
    have hn := ih (i + 1) (by omega) (by omega)
    rw [← wrap_up (by omega)] at hn
    have hz := hp ps[i] (List.getElem_mem hi)
    refine EvP.step (fun k => spec_GoVersion.l2.eq_2 qs ps (ps.length : Int) (i : Int) k) (EvP.pos (by omega) (EvP.pos (by omega) (EvP.pos (by omega) (EvP.bind ?_ (fun b (_ : Any1 b) => EvP.cond (fun _ => hn) (fun _ => EvP.now _ trivial))))))
    rw [rdOf_get ps i hi]
    exact t_long ps[i] hz
theorem t_gov_j4 (s : ByteArray) (hs : s.size ≤ 2147483647) : EvP (fun k => spec_GoVersion.j4 k s) Any1 := by
  refine EvP.step (fun k => spec_GoVersion.j4.eq_2 s k) (EvP.bind (g := fun k => spec_Cut.f k s 46) (t_cut s hs 46) (fun ps h => ?_))
  have h1 := cut_len h
  have h2 := cut_size h
  exact t_gov_l2 ps ps h1.1 (by omega) (fun p hp => by have := h2 p hp; omega) ps.length 0 (by omega) (by omega)
theorem t_gov_j3 (s : ByteArray) (hs : s.size ≤ 2147483647) (e i : Nat) (he : e ≤ s.size) : EvP (fun k => spec_GoVersion.j3 k s (e : Int) (i : Int)) Any1 := by
  refine EvP.step (fun k => spec_GoVersion.j3.eq_2 s (e : Int) (i : Int) k) (EvP.cond (fun h => EvP.cond (fun _ => EvP.now _ trivial) (fun _ => EvP.pos (by omega) (EvP.pos (by omega) ?_))) (fun _ => t_gov_j4 s hs))
  have t : ((i : Int)).toNat = i := by omega
  rw [t]
  exact t_gov_j4 _ (by rw [ext_size0 s i (by omega)]; omega)
theorem wrap_down {i : Nat} (h : i + 1 ≤ 9223372036854775807) : wrap64 (((i + 1 : Nat) : Int) - 1) = (i : Int) := by
  unfold wrap64
  omega
theorem t_gov_l1 (s : ByteArray) (hs : s.size ≤ 2147483647) (e : Nat) (he : e ≤ s.size) (i : Nat) : i ≤ s.size → EvP (fun k => spec_GoVersion.l1 k s (e : Int) (i : Int)) Any1 := by
  induction i with
  | zero =>
    intro hi
    exact EvP.step (fun k => spec_GoVersion.l1.eq_2 s (e : Int) ((0 : Nat) : Int) k) (EvP.neg (by omega) (t_gov_j3 s hs e 0 he))
  | succ i ih =>
    intro hi
    have hn := ih (by omega)
    have hw := wrap_down (i := i) (by omega)
    refine EvP.step (fun k => spec_GoVersion.l1.eq_2 s (e : Int) ((i + 1 : Nat) : Int) k) (EvP.pos (by omega) ?_)
    rw [hw]
    exact EvP.pos (by omega) (EvP.pos (by omega) (EvP.bind (EvP.opt (t_letter _)) (fun b _ => EvP.cond (fun _ => hn) (fun _ => t_gov_j3 s hs e (i + 1) he))))
theorem t_gov_l0 (s : ByteArray) (hs : s.size ≤ 2147483647) (i : Nat) : i ≤ s.size → EvP (fun k => spec_GoVersion.l0 k s (i : Int)) Any1 := by
  have hj : ∀ e : Nat, e ≤ s.size → EvP (fun k => spec_GoVersion.j1 k s (e : Int)) Any1 := fun e he => EvP.step (fun k => spec_GoVersion.j1.eq_2 s (e : Int) k) (t_gov_l1 s hs e he e he)
  induction i with
  | zero =>
    intro hi
    exact EvP.step (fun k => spec_GoVersion.l0.eq_2 s ((0 : Nat) : Int) k) (EvP.neg (by omega) (hj 0 hi))
  | succ i ih =>
    intro hi
    have hn := ih (by omega)
    have hw := wrap_down (i := i) (by omega)
    refine EvP.step (fun k => spec_GoVersion.l0.eq_2 s ((i + 1 : Nat) : Int) k) (EvP.pos (by omega) ?_)
    rw [hw]
    exact EvP.pos (by omega) (EvP.pos (by omega) (EvP.bind (EvP.opt (t_digit _)) (fun b _ => EvP.cond (fun _ => hn) (fun _ => hj (i + 1) hi))))
theorem t_gov (s : ByteArray) (hs : s.size ≤ 2147483647) : EvP (fun k => spec_GoVersion.f k s) Any1 := t_gov_l0 s hs s.size (Nat.le_refl _)
theorem t_tool (s : ByteArray) : ∃ r, spec_Toolchain.f s = some r ∧ True := by
  unfold spec_Toolchain.f
  split
  · exact ⟨_, rfl, trivial⟩
  · split
    · exact ⟨_, rfl, trivial⟩
    · obtain ⟨r, h1, _⟩ := t_begins s (⟨#[103, 111, 49, 46]⟩ : ByteArray)
      rw [h1]
      exact ⟨_, rfl, trivial⟩
theorem t_ver_nums (ns : List ByteArray) (hp : ∀ p ∈ ns, p.size ≤ 2147483647) (h3 : ns.length = 3) (i : Nat) (hi : i < 3) : EvP (fun k => spec_number.f k (rdOf ByteArray.empty ns (i : Int))) Any1 := by
  rw [rdOf_get ns i (by omega)]
  exact t_number _ (hp _ (List.getElem_mem _))
theorem t_ver_j2 (ns : List ByteArray) (hp : ∀ p ∈ ns, p.size ≤ 2147483647) (b : Bool) : EvP (fun k => spec_VersionOk.j2 k ns b) Any1 := by
  refine EvP.step (fun k => spec_VersionOk.j2.eq_2 ns b k) (EvP.cond (fun _ => EvP.now _ trivial) (fun _ => EvP.cond (fun h => ?_) (fun _ => EvP.now _ trivial)))
  have h3 : ns.length = 3 := by omega
  have n1 := t_ver_nums ns hp h3 1 (by omega)
  have n2 := t_ver_nums ns hp h3 2 (by omega)
  exact EvP.pos (by omega) (EvP.cond (fun _ => EvP.pos (by omega) (EvP.bind n1 (fun b _ => EvP.cond (fun _ => EvP.pos (by omega) (EvP.bind n2 (fun b _ => EvP.now b trivial))) (fun _ => EvP.now _ trivial)))) (fun _ => EvP.cond (fun _ => EvP.pos (by omega) (EvP.bind n1 (fun b _ => EvP.cond (fun _ => EvP.pos (by omega) (EvP.bind n2 (fun b _ => EvP.now b trivial))) (fun _ => EvP.now _ trivial)))) (fun _ => EvP.now _ trivial)))
theorem t_ver_l0 (ps ns : List ByteArray) (h2 : ps.length = 2) (hpp : ∀ p ∈ ps, p.size ≤ 2147483647) (hp : ∀ p ∈ ns, p.size ≤ 2147483647) (d : Nat) : ∀ i : Nat, i ≤ (rdOf ByteArray.empty ps 1).size → (rdOf ByteArray.empty ps 1).size - i = d → EvP (fun k => spec_VersionOk.l0 k ps ns (i : Int)) Any1 := by
  have hz : (rdOf ByteArray.empty ps 1).size ≤ 2147483647 := by
    have : rdOf ByteArray.empty ps ((1 : Nat) : Int) = ps[1] := rdOf_get ps 1 (by omega)
    have e : rdOf ByteArray.empty ps 1 = ps[1] := this
    rw [e]
    exact hpp _ (List.getElem_mem _)
  induction d with
  | zero =>
    intro i h1 hd
    exact EvP.step (fun k => spec_VersionOk.l0.eq_2 ps ns (i : Int) k) (EvP.pos (by omega) (EvP.neg (by omega) (EvP.cond (fun _ => t_ver_j2 ns hp _) (fun _ => t_ver_j2 ns hp _))))
  | succ d ih =>
    intro i h1 hd
    have hn := ih (i + 1) (by omega) (by omega)
    rw [← wrap_up (by omega)] at hn
    exact EvP.step (fun k => spec_VersionOk.l0.eq_2 ps ns (i : Int) k) (EvP.pos (by omega) (EvP.pos (by omega) (EvP.pos (by omega) (EvP.bind (EvP.opt (t_letter _)) (fun b _ => EvP.cond (fun _ => hn) (fun _ => EvP.now _ trivial))))))
theorem cutL_head (x c : UInt8) (r : List UInt8) (h : c ≠ x) : ∃ t q, cutL x (c :: r) = (c :: t) :: q := by
  rw [cutL_cons, if_neg h]
  cases e : cutL x r with
  | nil => exact ⟨_, _, rfl⟩
  | cons a t => exact ⟨_, _, rfl⟩
theorem t_ver_j0 (s : ByteArray) (hs : s.size ≤ 2147483647) (ps : List ByteArray) (h : ps.map lst = cutL 45 (lst s)) (b : Bool) (hb : b = false → ∃ r, lst s = 118 :: r) : EvP (fun k => spec_VersionOk.j0 k ps b) Any1 := by
  have h1 := cut_len h
  have h2 := cut_size h
  refine EvP.step (fun k => spec_VersionOk.j0.eq_2 ps b k) (EvP.cond (fun _ => EvP.now _ trivial) (fun hb' => EvP.pos (by omega) ?_))
  obtain ⟨r, hr⟩ := hb (Bool.eq_false_iff.mpr hb')
  obtain ⟨p0, t0, e0⟩ : ∃ p0 t0, ps = p0 :: t0 := by
    cases ps with
    | nil => simp at h1
    | cons p0 t0 => exact ⟨p0, t0, rfl⟩
  have er : rdOf ByteArray.empty ps 0 = p0 := by
    have : rdOf ByteArray.empty ps ((0 : Nat) : Int) = ps[0] := rdOf_get ps 0 (by omega)
    have e : rdOf ByteArray.empty ps 0 = ps[0] := this
    rw [e]
    simp [e0]
  obtain ⟨t, q, hc⟩ := cutL_head 45 118 r (by decide)
  have hz : 1 ≤ p0.size := by
    rw [hr, hc, e0, List.map_cons] at h
    have := (List.cons.inj h).1
    rw [← lst_length, this, List.length_cons]
    omega
  have hz2 : p0.size ≤ s.size := h2 p0 (by rw [e0]; simp)
  rw [er]
  have hx : (p0.extract 1 p0.size).size ≤ 2147483647 := by rw [ext_size p0 1 hz]; omega
  refine EvP.pos (by omega) (EvP.bind (g := fun k => spec_Cut.f k (p0.extract 1 p0.size) 46) (t_cut _ hx 46) (fun ns hns => ?_))
  have hn2 : ∀ p ∈ ns, p.size ≤ 2147483647 := fun p hp => by have := cut_size hns p hp; omega
  refine EvP.cond (fun hl => ?_) (fun _ => EvP.cond (fun hl => ?_) (fun _ => EvP.now _ trivial))
  · exact t_ver_l0 ps ns (by omega) (fun p hp => by have := h2 p hp; omega) hn2 _ 0 (by omega) rfl
  · have h3 : ns.length = 3 := by omega
    have n1 := t_ver_nums ns hn2 h3 1 (by omega)
    have n2 := t_ver_nums ns hn2 h3 2 (by omega)
    exact EvP.pos (by omega) (EvP.cond (fun _ => EvP.pos (by omega) (EvP.bind n1 (fun b _ => EvP.cond (fun _ => EvP.pos (by omega) (EvP.bind n2 (fun b _ => EvP.now b trivial))) (fun _ => EvP.now _ trivial)))) (fun _ => EvP.cond (fun _ => EvP.pos (by omega) (EvP.bind n1 (fun b _ => EvP.cond (fun _ => EvP.pos (by omega) (EvP.bind n2 (fun b _ => EvP.now b trivial))) (fun _ => EvP.now _ trivial)))) (fun _ => EvP.now _ trivial)))
theorem t_ver (s : ByteArray) (hs : s.size ≤ 2147483647) : EvP (fun k => spec_VersionOk.f k s) Any1 := by
  refine EvP.bind (g := fun k => spec_Cut.f k s 45) (t_cut s hs 45) (fun ps h => EvP.cond (fun _ => t_ver_j0 s hs ps h true (fun h => absurd h (by simp))) (fun _ => EvP.bind (EvP.opt (t_begins s (⟨#[118]⟩ : ByteArray))) (fun b hb => t_ver_j0 s hs ps h (!b) (fun hb' => ?_))))
  have : b = true := by cases b <;> simp_all
  obtain ⟨t, ht⟩ := hb this
  exact ⟨t, ht.symm⟩
theorem pre_size {a b : ByteArray} (h : lst b <+: lst a) : b.size ≤ a.size := by
  have := h.length_le
  rw [lst_length, lst_length] at this
  exact this
theorem t_dir (s : ByteArray) (hs : s.size ≤ 2147483647) : EvP (fun k => spec_DirOk.f k s) Any1 := by
  have h3 : EvP (fun k => (spec_Begins.f s (⟨#[46, 46, 47]⟩ : ByteArray)).bind fun t195 => (if t195 = true then (if 3 ≤ (s.size : Int) then ((spec_PathOk.f k (s.extract 3 s.size)).bind fun t196 => (some t196)) else (none)) else (some false))) Any1 := by
    refine EvP.bind (EvP.opt (t_begins s _)) (fun b hb => EvP.cond (fun h => ?_) (fun _ => EvP.now _ trivial))
    have hz : 3 ≤ s.size := pre_size (hb h)
    exact EvP.pos (by omega) (EvP.bind (t_path _ (by rw [ext_size s 3 hz]; omega)) (fun b _ => EvP.now b trivial))
  refine EvP.bind (EvP.opt (t_begins s (⟨#[46, 47]⟩ : ByteArray))) (fun b hb => EvP.cond (fun h => ?_) (fun _ => h3))
  have hz : 2 ≤ s.size := pre_size (hb h)
  exact EvP.pos (by omega) (EvP.bind (t_path _ (by rw [ext_size s 2 hz]; omega)) (fun b _ => EvP.cond (fun _ => EvP.now _ trivial) (fun _ => h3)))
theorem t_rep (a b c d : ByteArray) (ha : a.size ≤ 2147483647) (hb : b.size ≤ 2147483647) (hc : c.size ≤ 2147483647) (hd : d.size ≤ 2147483647) : EvP (fun k => spec_ReplaceOk.f k a b c d) Any1 := by
  have hD : EvP (fun k => (spec_DirOk.f k c).bind fun t201 => (if t201 = true then (some (d.toList == ([] : List UInt8))) else (some false))) Any1 := EvP.bind (t_dir c hc) (fun b _ => EvP.cond (fun _ => EvP.now _ trivial) (fun _ => EvP.now _ trivial))
  have hN : EvP (fun k => (spec_PathOk.f k c).bind fun t199 => (if t199 = true then ((spec_VersionOk.f k d).bind fun t200 => (if t200 = true then (some true) else ((spec_DirOk.f k c).bind fun t201 => (if t201 = true then (some (d.toList == ([] : List UInt8))) else (some false))))) else ((spec_DirOk.f k c).bind fun t202 => (if t202 = true then (some (d.toList == ([] : List UInt8))) else (some false))))) Any1 :=
    EvP.bind (t_path c hc) (fun b _ => EvP.cond (fun _ => EvP.bind (t_ver d hd) (fun b _ => EvP.cond (fun _ => EvP.now _ trivial) (fun _ => hD))) (fun _ => hD))
  exact EvP.bind (t_path a ha) (fun x _ => EvP.cond (fun _ => EvP.cond (fun _ => hN) (fun _ => EvP.bind (t_ver b hb) (fun y _ => EvP.cond (fun _ => hN) (fun _ => EvP.now _ trivial)))) (fun _ => EvP.now _ trivial))
end Go.Proofs.YtlnmchehnhgfnaaDoor.M
