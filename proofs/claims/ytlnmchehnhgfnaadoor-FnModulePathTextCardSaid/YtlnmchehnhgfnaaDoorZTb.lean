/- What the reference's section and Text answer: they answer, and Text begins with the module's line. Conditions: texts of at most 2147483647 bytes, lists of at most 100. -/
import Derived.Test.YtlnmchehnhgfnaaDoorZTa
import Derived.Test.YtlnmchehnhgfnaaDoorZPContx8
namespace Go.Proofs.YtlnmchehnhgfnaaDoor.M
open Go.RowKit Go.Proofs.YtlnmchehnhgfnaaDoorW.PrintWords Go.Proofs.YtlnmchehnhgfnaaDoor.PCont
set_option linter.unusedSimpArgs false
theorem q0 : (⟨#[]⟩ : ByteArray).size = 0 := rfl
theorem q9 : (⟨#[9]⟩ : ByteArray).size = 1 := rfl
theorem q10 : (⟨#[10]⟩ : ByteArray).size = 1 := rfl
theorem q32 : (⟨#[32]⟩ : ByteArray).size = 1 := rfl
theorem q91 : (⟨#[91]⟩ : ByteArray).size = 1 := rfl
theorem q1 : (⟨#[93]⟩ : ByteArray).size = 1 := rfl
theorem q2 : (⟨#[44, 32]⟩ : ByteArray).size = 2 := rfl
theorem q3 : (⟨#[47, 47, 32]⟩ : ByteArray).size = 3 := rfl
theorem q4 : (⟨#[32, 61, 62, 32]⟩ : ByteArray).size = 4 := rfl
theorem q12 : (⟨#[32, 47, 47, 32, 105, 110, 100, 105, 114, 101, 99, 116]⟩ : ByteArray).size = 12 := rfl
theorem qa1 : (⟨#[32, 40, 10]⟩ : ByteArray).size = 3 := rfl
theorem qa2 : (⟨#[41, 10]⟩ : ByteArray).size = 2 := rfl
theorem qa3 : (⟨#[103, 111, 32]⟩ : ByteArray).size = 3 := rfl
theorem qa4 : (⟨#[116, 111, 111, 108, 99, 104, 97, 105, 110, 32]⟩ : ByteArray).size = 10 := rfl
theorem rd57 (xs : List S57) (i : Nat) (h : i < xs.length) : rd_T57 xs (i : Int) = xs[i] := by
  unfold rd_T57
  have : (i : Int).toNat = i := by omega
  rw [this, List.getD_eq_getElem?_getD, List.getElem?_eq_getElem h]
  rfl
theorem EvP.bindNow {α β : Type} {a : α} {f : Nat → α → Option β} {Q : β → Prop} (h : EvP (fun n => f n a) Q) : EvP (fun n => (some a).bind (f n)) Q := EvP.congr (fun _ => rfl) h
/-- What a section's list is known for. -/
def SecOk (out : List ByteArray) : Prop := out.length ≤ 101 ∧ ∀ p ∈ out, p.size ≤ 2251799813685248
theorem sec_l0 (verb : ByteArray) (hv : verb.size ≤ 100) (l1 : List S57) (b : Bool) (xs : List S57) (hl : xs.length ≤ 100) (hx : ∀ x ∈ xs, x.f0.size ≤ 1099511627776 ∧ x.f1.size ≤ 1099511627776) (d : Nat) :
    ∀ (i : Nat) (acc : List ByteArray) (lines : ByteArray), i ≤ xs.length → xs.length - i = d → acc.length ≤ i → (∀ p ∈ acc, p.size ≤ 2251799813685248) → lines.size ≤ i * 8796093022208 →
      EvP (fun k => spec_section.l0 k verb l1 b acc lines xs (xs.length : Int) (i : Int)) SecOk := by
  induction d with
  | zero =>
    intro i acc lines h1 hd ha hs hz
    have hacc : SecOk acc := ⟨by omega, hs⟩
    refine EvP.step (fun k => spec_section.l0.eq_2 verb l1 b acc lines xs (xs.length : Int) (i : Int) k) (EvP.neg (by omega) (EvP.cond (fun _ => EvP.cond (fun _ => ?_) (fun _ => EvP.now _ hacc)) (fun _ => EvP.now _ hacc)))
    refine EvP.pos (by first | omega | (simp only [size_add, q0, q1, q2, q3, q4, q12, q32, q9, q10, q91, qa1, qa2, qa3, qa4]; omega)) (EvP.pos (by first | omega | (simp only [size_add, q0, q1, q2, q3, q4, q12, q32, q9, q10, q91, qa1, qa2, qa3, qa4]; omega)) (EvP.pos (by first | omega | (simp only [size_add, q0, q1, q2, q3, q4, q12, q32, q9, q10, q91, qa1, qa2, qa3, qa4]; omega)) (EvP.now _ ⟨by simp, fun p hp => ?_⟩)))
    rw [List.mem_singleton.mp hp]
    exact (by first | omega | (simp only [size_add, q0, q1, q2, q3, q4, q12, q32, q9, q10, q91, qa1, qa2, qa3, qa4]; omega))
  | succ d ih =>
    intro i acc lines h1 hd ha hs hz
    have hi : i < xs.length := by omega
    have hx1 := hx xs[i] (List.getElem_mem hi)
    refine EvP.step (fun k => spec_section.l0.eq_2 verb l1 b acc lines xs (xs.length : Int) (i : Int) k) (EvP.pos (by omega) (EvP.pos (by omega) (EvP.pos (by omega) ?_)))
    rw [rd57 xs i hi, wrap_up (by omega)]
    generalize xs[i] = x at hx1
    obtain ⟨why, text⟩ := x
    simp only at hx1 ⊢
    have grow : ∀ (p lines2 : ByteArray), p.size ≤ 2251799813685248 → lines2.size ≤ (i + 1) * 8796093022208 → EvP (fun k => spec_section.l0 k verb l1 b (acc ++ [p]) lines2 xs (xs.length : Int) ((i + 1 : Nat) : Int)) SecOk := by
      intro p lines2 hp h2
      refine ih (i + 1) (acc ++ [p]) lines2 (by omega) (by omega) (by rw [List.length_append]; simp; omega) (fun q hq => ?_) h2
      rcases List.mem_append.mp hq with hq | hq
      · exact hs q hq
      · rw [List.mem_singleton.mp hq]; exact hp
    refine EvP.cond (fun h => ?_) (fun h => ?_)
    · refine EvP.pos (by first | omega | (simp only [size_add, q0, q1, q2, q3, q4, q12, q32, q9, q10, q91, qa1, qa2, qa3, qa4]; omega)) (EvP.pos (by first | omega | (simp only [size_add, q0, q1, q2, q3, q4, q12, q32, q9, q10, q91, qa1, qa2, qa3, qa4]; omega)) (EvP.pos (by first | omega | (simp only [size_add, q0, q1, q2, q3, q4, q12, q32, q9, q10, q91, qa1, qa2, qa3, qa4]; omega)) (EvP.pos (by first | omega | (simp only [size_add, q0, q1, q2, q3, q4, q12, q32, q9, q10, q91, qa1, qa2, qa3, qa4]; omega)) (EvP.pos (by first | omega | (simp only [size_add, q0, q1, q2, q3, q4, q12, q32, q9, q10, q91, qa1, qa2, qa3, qa4]; omega)) ?_))))
      refine EvP.bindNow ?_
      refine EvP.pos (by trivial) (EvP.pos (by first | omega | (simp only [size_add, q0, q1, q2, q3, q4, q12, q32, q9, q10, q91, qa1, qa2, qa3, qa4]; omega)) (EvP.pos (by first | omega | (simp only [size_add, q0, q1, q2, q3, q4, q12, q32, q9, q10, q91, qa1, qa2, qa3, qa4]; omega)) (EvP.pos (by first | omega | (simp only [size_add, q0, q1, q2, q3, q4, q12, q32, q9, q10, q91, qa1, qa2, qa3, qa4]; omega)) ?_)))
      exact grow _ _ (by first | omega | (simp only [size_add, q0, q1, q2, q3, q4, q12, q32, q9, q10, q91, qa1, qa2, qa3, qa4]; omega)) (by first | omega | (simp only [size_add, q0, q1, q2, q3, q4, q12, q32, q9, q10, q91, qa1, qa2, qa3, qa4]; omega))
    · have hw : why.size ≠ 0 := fun h0 => h (by rw [Lib.toList_data]; exact List.eq_nil_of_length_eq_zero (by rw [lst_length]; exact h0))
      refine EvP.pos (by first | omega | (simp only [size_add, q0, q1, q2, q3, q4, q12, q32, q9, q10, q91, qa1, qa2, qa3, qa4]; omega)) (EvP.pos (by first | omega | (simp only [size_add, q0, q1, q2, q3, q4, q12, q32, q9, q10, q91, qa1, qa2, qa3, qa4]; omega)) (EvP.pos (by first | omega | (simp only [size_add, q0, q1, q2, q3, q4, q12, q32, q9, q10, q91, qa1, qa2, qa3, qa4]; omega)) (EvP.pos (by first | omega | (simp only [size_add, q0, q1, q2, q3, q4, q12, q32, q9, q10, q91, qa1, qa2, qa3, qa4]; omega)) (EvP.pos (by first | omega | (simp only [size_add, q0, q1, q2, q3, q4, q12, q32, q9, q10, q91, qa1, qa2, qa3, qa4]; omega)) (EvP.pos (by first | omega | (simp only [size_add, q0, q1, q2, q3, q4, q12, q32, q9, q10, q91, qa1, qa2, qa3, qa4]; omega)) (EvP.pos (by first | omega | (simp only [size_add, q0, q1, q2, q3, q4, q12, q32, q9, q10, q91, qa1, qa2, qa3, qa4]; omega)) ?_))))))
      refine EvP.bindNow ?_
      refine EvP.neg (fun h0 => ?_) (EvP.pos (by first | omega | (simp only [size_add, q0, q1, q2, q3, q4, q12, q32, q9, q10, q91, qa1, qa2, qa3, qa4]; omega)) (EvP.pos (by first | omega | (simp only [size_add, q0, q1, q2, q3, q4, q12, q32, q9, q10, q91, qa1, qa2, qa3, qa4]; omega)) (EvP.pos (by first | omega | (simp only [size_add, q0, q1, q2, q3, q4, q12, q32, q9, q10, q91, qa1, qa2, qa3, qa4]; omega)) (EvP.pos (by first | omega | (simp only [size_add, q0, q1, q2, q3, q4, q12, q32, q9, q10, q91, qa1, qa2, qa3, qa4]; omega)) (EvP.pos (by first | omega | (simp only [size_add, q0, q1, q2, q3, q4, q12, q32, q9, q10, q91, qa1, qa2, qa3, qa4]; omega)) ?_)))))
      · have hz0 : (((⟨#[47, 47, 32]⟩ : ByteArray) ++ why) ++ (⟨#[10]⟩ : ByteArray)).size = 0 := by rw [← lst_length, show lst _ = [] from (Lib.toList_data _).symm.trans h0]; rfl
        simp only [size_add, q3, q10] at hz0
        omega
      · exact grow _ _ (by first | omega | (simp only [size_add, q0, q1, q2, q3, q4, q12, q32, q9, q10, q91, qa1, qa2, qa3, qa4]; omega)) (by first | omega | (simp only [size_add, q0, q1, q2, q3, q4, q12, q32, q9, q10, q91, qa1, qa2, qa3, qa4]; omega))
theorem t_sec (verb : ByteArray) (hv : verb.size ≤ 100) (xs : List S57) (b : Bool) (hl : xs.length ≤ 100) (hx : ∀ x ∈ xs, x.f0.size ≤ 1099511627776 ∧ x.f1.size ≤ 1099511627776) : EvP (fun k => spec_section.f k verb xs b) SecOk :=
  sec_l0 verb hv xs b xs hl hx xs.length 0 [] _ (by omega) (by omega) (by simp) (by simp) (by simp [q0])
/-- The module's line. -/
def modLine (m : ByteArray) : ByteArray := ((((⟨#[]⟩ : ByteArray) ++ (⟨#[109, 111, 100, 117, 108, 101]⟩ : ByteArray)) ++ (⟨#[32]⟩ : ByteArray)) ++ m) ++ (⟨#[10]⟩ : ByteArray)
theorem qm : (⟨#[109, 111, 100, 117, 108, 101]⟩ : ByteArray).size = 6 := rfl
theorem modLine_size (m : ByteArray) : (modLine m).size = m.size + 8 := by
  unfold modLine
  simp only [size_add, q0, qm, q32, q10]
  omega
theorem t_secMod (m : ByteArray) (hm : m.size ≤ 2147483647) : EvP (fun k => spec_section.f k (⟨#[109, 111, 100, 117, 108, 101]⟩ : ByteArray) ([(⟨(⟨#[]⟩ : ByteArray), m⟩ : S57)] : List (S57)) false) (fun out => out = [modLine m]) := by
  have er : rd_T57 ([(⟨(⟨#[]⟩ : ByteArray), m⟩ : S57)] : List (S57)) 0 = ⟨(⟨#[]⟩ : ByteArray), m⟩ := rfl
  have hw : wrap64 ((0 : Int) + 1) = 1 := by unfold wrap64; omega
  refine EvP.step (fun k => spec_section.l0.eq_2 _ _ false [] _ _ _ _ k) (EvP.pos (by simp) (EvP.pos (by simp) (EvP.pos (by simp) ?_)))
  rw [er, hw]
  simp only
  refine EvP.pos (by rw [Lib.toList_data]) (EvP.pos (by decide) (EvP.pos (by decide) (EvP.pos (by simp only [size_add, q0, qm, q32]; omega) (EvP.pos (by simp only [size_add, q0, qm, q32]; omega) (EvP.pos (by decide) ?_)))))
  refine EvP.bindNow ?_
  refine EvP.pos (by trivial) (EvP.pos (by omega) (EvP.pos (by simp only [size_add, q9]; omega) (EvP.pos (by simp only [size_add, q0, q9, q10]; omega) ?_)))
  exact EvP.step (fun k => spec_section.l0.eq_2 _ _ false _ _ _ _ _ k) (EvP.neg (by simp) (EvP.neg (by decide) (EvP.now _ rfl)))
def Sz (B : Nat) (r : ByteArray) : Prop := r.size ≤ B
theorem t_req (a b : ByteArray) (c : Bool) (ha : a.size ≤ 2147483647) (hb : b.size ≤ 2147483647) : EvP (fun _ => spec_RequireText.f a b c) (Sz 1099511627776) := by
  unfold spec_RequireText.f
  refine EvP.cond (fun _ => ?_) (fun _ => ?_)
  · exact EvP.pos (by first | omega | (simp only [size_add, q0, q1, q2, q3, q4, q12, q32, q9, q10, q91, qa1, qa2, qa3, qa4]; omega)) (EvP.pos (by first | omega | (simp only [size_add, q0, q1, q2, q3, q4, q12, q32, q9, q10, q91, qa1, qa2, qa3, qa4]; omega)) (EvP.pos (by first | omega | (simp only [size_add, q0, q1, q2, q3, q4, q12, q32, q9, q10, q91, qa1, qa2, qa3, qa4]; omega)) (EvP.now _ (by unfold Sz; exact (by first | omega | (simp only [size_add, q0, q1, q2, q3, q4, q12, q32, q9, q10, q91, qa1, qa2, qa3, qa4]; omega))))))
  · exact EvP.pos (by first | omega | (simp only [size_add, q0, q1, q2, q3, q4, q12, q32, q9, q10, q91, qa1, qa2, qa3, qa4]; omega)) (EvP.pos (by first | omega | (simp only [size_add, q0, q1, q2, q3, q4, q12, q32, q9, q10, q91, qa1, qa2, qa3, qa4]; omega)) (EvP.now _ (by unfold Sz; exact (by first | omega | (simp only [size_add, q0, q1, q2, q3, q4, q12, q32, q9, q10, q91, qa1, qa2, qa3, qa4]; omega)))))
theorem t_vtext (a b : ByteArray) (ha : a.size ≤ 2147483647) (hb : b.size ≤ 2147483647) : EvP (fun _ => spec_VersionText.f a b) (Sz 8589934592) := by
  unfold spec_VersionText.f
  refine EvP.cond (fun _ => EvP.now _ (by unfold Sz; omega)) (fun _ => ?_)
  exact EvP.pos (by first | omega | (simp only [size_add, q0, q1, q2, q3, q4, q12, q32, q9, q10, q91, qa1, qa2, qa3, qa4]; omega)) (EvP.pos (by first | omega | (simp only [size_add, q0, q1, q2, q3, q4, q12, q32, q9, q10, q91, qa1, qa2, qa3, qa4]; omega)) (EvP.now _ (by unfold Sz; exact (by first | omega | (simp only [size_add, q0, q1, q2, q3, q4, q12, q32, q9, q10, q91, qa1, qa2, qa3, qa4]; omega)))))
theorem t_retr (a b c : ByteArray) (ha : a.size ≤ 2147483647) (hb : b.size ≤ 2147483647) : EvP (fun _ => spec_RetractText.f a b c) (Sz 1099511627776) := by
  unfold spec_RetractText.f
  refine EvP.cond (fun _ => EvP.now _ (by unfold Sz; omega)) (fun _ => ?_)
  exact EvP.pos (by first | omega | (simp only [size_add, q0, q1, q2, q3, q4, q12, q32, q9, q10, q91, qa1, qa2, qa3, qa4]; omega)) (EvP.pos (by first | omega | (simp only [size_add, q0, q1, q2, q3, q4, q12, q32, q9, q10, q91, qa1, qa2, qa3, qa4]; omega)) (EvP.pos (by first | omega | (simp only [size_add, q0, q1, q2, q3, q4, q12, q32, q9, q10, q91, qa1, qa2, qa3, qa4]; omega)) (EvP.pos (by first | omega | (simp only [size_add, q0, q1, q2, q3, q4, q12, q32, q9, q10, q91, qa1, qa2, qa3, qa4]; omega)) (EvP.now _ (by unfold Sz; exact (by first | omega | (simp only [size_add, q0, q1, q2, q3, q4, q12, q32, q9, q10, q91, qa1, qa2, qa3, qa4]; omega)))))))
/-- The statements so far: the module's line ahead. -/
structure Lst (m : ByteArray) (n : Nat) (l : List ByteArray) : Prop where
  head : ∃ t, l = m :: t
  len : l.length ≤ n
  sizes : ∀ p ∈ l, p.size ≤ 2251799813685248
theorem Lst.add {m : ByteArray} {n k : Nat} {l t : List ByteArray} (h : Lst m n l) (ht : t.length ≤ k) (hs : ∀ p ∈ t, p.size ≤ 2251799813685248) : Lst m (n + k) (l ++ t) := by
  obtain ⟨⟨q, rfl⟩, h2, h3⟩ := h
  refine ⟨⟨q ++ t, rfl⟩, by rw [List.length_append]; omega, fun p hp => ?_⟩
  rcases List.mem_append.mp hp with hp | hp
  · exact h3 p hp
  · exact hs p hp
/-- The items so far. -/
def Its (n : Nat) (l : List S57) : Prop := l.length ≤ n ∧ ∀ x ∈ l, x.f0.size ≤ 1099511627776 ∧ x.f1.size ≤ 1099511627776
theorem Its.nil : Its 0 [] := ⟨by simp, by simp⟩
theorem Its.add {n : Nat} {l : List S57} (h : Its n l) (a b : ByteArray) (ha : a.size ≤ 1099511627776) (hb : b.size ≤ 1099511627776) : Its (n + 1) (l ++ [⟨a, b⟩]) := by
  refine ⟨by rw [List.length_append]; have := h.1; simp; omega, fun p hp => ?_⟩
  rcases List.mem_append.mp hp with hp | hp
  · exact h.2 p hp
  · rw [List.mem_singleton.mp hp]; exact ⟨ha, hb⟩
def TextOk (m r : ByteArray) : Prop := lst m <+: lst r ∧ r.size ≤ 9223372036854775800
theorem text_l6 (m : ByteArray) (ps : List ByteArray) (h : Lst m 1000 ps) (d : Nat) : ∀ (i : Nat) (acc : ByteArray), i ≤ ps.length → ps.length - i = d → acc.size ≤ i * 2251799813685249 → (0 < i → lst m <+: lst acc) →
    EvP (fun k => spec_Text.l6 k acc ps (ps.length : Int) (i : Int)) (TextOk m) := by
  obtain ⟨⟨t, ht⟩, hlen, hsz⟩ := h
  have hpos : 0 < ps.length := by rw [ht]; simp
  induction d with
  | zero =>
    intro i acc h1 hd hz hp
    exact EvP.step (fun k => spec_Text.l6.eq_2 acc ps (ps.length : Int) (i : Int) k) (EvP.neg (by omega) (EvP.now _ ⟨hp (by omega), by omega⟩))
  | succ d ih =>
    intro i acc h1 hd hz hp
    have hi : i < ps.length := by omega
    have hz1 := hsz ps[i] (List.getElem_mem hi)
    refine EvP.step (fun k => spec_Text.l6.eq_2 acc ps (ps.length : Int) (i : Int) k) (EvP.pos (by omega) (EvP.pos (by omega) (EvP.pos (by omega) ?_)))
    rw [rdOf_get ps i hi, wrap_up (by omega)]
    refine EvP.cond (fun h0 => ?_) (fun h0 => ?_)
    · refine EvP.pos (by first | omega | (simp only [size_add, q0, q1, q2, q3, q4, q12, q32, q9, q10, q91, qa1, qa2, qa3, qa4]; omega)) (EvP.pos (by first | omega | (simp only [size_add, q0, q1, q2, q3, q4, q12, q32, q9, q10, q91, qa1, qa2, qa3, qa4]; omega)) (ih (i + 1) _ (by omega) (by omega) (by first | omega | (simp only [size_add, q0, q1, q2, q3, q4, q12, q32, q9, q10, q91, qa1, qa2, qa3, qa4]; omega)) (fun _ => ?_)))
      rw [lst_add, lst_add, List.append_assoc]
      exact (hp (by omega)).trans (List.prefix_append _ _)
    · have i0 : i = 0 := by omega
      subst i0
      refine EvP.pos (by first | omega | (simp only [size_add, q0, q1, q2, q3, q4, q12, q32, q9, q10, q91, qa1, qa2, qa3, qa4]; omega)) (ih (0 + 1) _ (by omega) (by omega) (by first | omega | (simp only [size_add, q0, q1, q2, q3, q4, q12, q32, q9, q10, q91, qa1, qa2, qa3, qa4]; omega)) (fun _ => ?_))
      have e : ps[0] = m := by simp [ht]
      have ez : lst acc = [] := List.eq_nil_of_length_eq_zero (by rw [lst_length]; omega)
      rw [lst_add, ez, e]
      exact List.prefix_rfl
theorem verb_next (m verb : ByteArray) (hv : verb.size ≤ 100) (b : Bool) (n : Nat) (hn : n ≤ 800) (x5 : List ByteArray) (x6 : List S57) (h5 : Lst m n x5) (h6 : Its 100 x6) (F : Nat → List ByteArray → Option ByteArray)
    (hF : ∀ l, Lst m (n + 101) l → EvP (fun k => F k l) (TextOk m)) : EvP (fun k => (spec_section.f k verb x6 b).bind fun t => if x5.length + t.length < 8796093022208 then F k (x5 ++ t) else none) (TextOk m) := by
  refine EvP.bind (t_sec verb hv x6 b h6.1 h6.2) (fun t ht => ?_)
  have := h5.len
  have := ht.1
  exact EvP.pos (by omega) (hF _ (h5.add ht.1 ht.2))
theorem text_l5 (m : ByteArray) (b : Bool) (x5 : List ByteArray) (h5 : Lst m 600 x5) (ps : List ByteArray) (hl : ps.length ≤ 100) (hs : ∀ p ∈ ps, p.size ≤ 2147483647) (d : Nat) : ∀ (i : Nat) (x6 : List S57), i ≤ ps.length → ps.length - i = d → Its i x6 →
    EvP (fun k => spec_Text.l5 k b x5 x6 ps (ps.length : Int) (i : Int)) (TextOk m) := by
  induction d with
  | zero =>
    intro i x6 h1 hd h6
    refine EvP.step (fun k => spec_Text.l5.eq_2 b x5 x6 ps (ps.length : Int) (i : Int) k) (EvP.neg (by omega) ?_)
    refine verb_next m _ (by decide) b 600 (by omega) x5 x6 h5 ⟨by have := h6.1; omega, h6.2⟩ (fun k l => (some l : Option (List ByteArray)).bind fun y => spec_Text.l6 k (⟨#[]⟩ : ByteArray) y (y.length : Int) 0) (fun l hl2 => ?_)
    have hl3 : Lst m 1000 l := ⟨hl2.head, by have := hl2.len; omega, hl2.sizes⟩
    refine EvP.bind (EvP.now (P := fun y => y = l) l rfl) (fun y hy => ?_)
    subst hy
    exact text_l6 m y hl3 y.length 0 _ (by omega) (by omega) (by simp [q0]) (fun h => absurd h (by omega))
  | succ d ih =>
    intro i x6 h1 hd h6
    have hi : i < ps.length := by omega
    have hz := hs ps[i] (List.getElem_mem hi)
    have hx := h6.1
    refine EvP.step (fun k => spec_Text.l5.eq_2 b x5 x6 ps (ps.length : Int) (i : Int) k) (EvP.pos (by omega) (EvP.pos (by omega) (EvP.pos (by omega) (EvP.pos (by omega) ?_))))
    rw [rdOf_get ps i hi, wrap_up (by omega)]
    exact ih (i + 1) _ (by omega) (by omega) (h6.add _ _ (by rw [q0]; omega) (by omega))
theorem text_l4 (m : ByteArray) (b : Bool) (x5 : List ByteArray) (h5 : Lst m 499 x5) (s0 s1 s2 : ByteArray) (l3 : List S46) (l4 : List S48) (l5 : List S50) (l6 : List S53) (l7 l8 : List ByteArray)
    (hl8 : l8.length ≤ 100) (hs8 : ∀ p ∈ l8, p.size ≤ 2147483647) (ps : List ByteArray) (hl : ps.length ≤ 100) (hs : ∀ p ∈ ps, p.size ≤ 2147483647) (d : Nat) : ∀ (i : Nat) (x6 : List S57), i ≤ ps.length → ps.length - i = d → Its i x6 →
    EvP (fun k => spec_Text.l4 k b x5 x6 ps (ps.length : Int) (i : Int) s0 s1 s2 l3 l4 l5 l6 l7 l8) (TextOk m) := by
  induction d with
  | zero =>
    intro i x6 h1 hd h6
    refine EvP.step (fun k => spec_Text.l4.eq_2 b x5 x6 ps (ps.length : Int) (i : Int) s0 s1 s2 l3 l4 l5 l6 l7 l8 k) (EvP.neg (by omega) ?_)
    exact verb_next m _ (by decide) b 499 (by omega) x5 x6 h5 ⟨by have := h6.1; omega, h6.2⟩ (fun k l => spec_Text.l5 k b l ([] : List (S57)) l8 (l8.length : Int) 0) (fun l hl2 => text_l5 m b l hl2 l8 hl8 hs8 l8.length 0 [] (by omega) (by omega) Its.nil)
  | succ d ih =>
    intro i x6 h1 hd h6
    have hi : i < ps.length := by omega
    have hz := hs ps[i] (List.getElem_mem hi)
    have hx := h6.1
    refine EvP.step (fun k => spec_Text.l4.eq_2 b x5 x6 ps (ps.length : Int) (i : Int) s0 s1 s2 l3 l4 l5 l6 l7 l8 k) (EvP.pos (by omega) (EvP.pos (by omega) (EvP.pos (by omega) (EvP.pos (by omega) ?_))))
    rw [rdOf_get ps i hi, wrap_up (by omega)]
    exact ih (i + 1) _ (by omega) (by omega) (h6.add _ _ (by rw [q0]; omega) (by omega))
theorem rd53 (xs : List S53) (i : Nat) (h : i < xs.length) : rd_T53 xs (i : Int) = xs[i] := by
  unfold rd_T53
  have : (i : Int).toNat = i := by omega
  rw [this, List.getD_eq_getElem?_getD, List.getElem?_eq_getElem h]
  rfl
theorem text_l3 (m : ByteArray) (b : Bool) (x5 : List ByteArray) (h5 : Lst m 398 x5) (s0 s1 s2 : ByteArray) (l3 : List S46) (l4 : List S48) (l5 : List S50) (l6 : List S53) (l7 l8 : List ByteArray)
    (hl7 : l7.length ≤ 100) (hs7 : ∀ p ∈ l7, p.size ≤ 2147483647) (hl8 : l8.length ≤ 100) (hs8 : ∀ p ∈ l8, p.size ≤ 2147483647) (xs : List S53) (hl : xs.length ≤ 100) (hs : ∀ x ∈ xs, x.f0.size ≤ 2147483647 ∧ x.f1.size ≤ 2147483647 ∧ x.f2.size ≤ 2147483647) (d : Nat) : ∀ (i : Nat) (x6 : List S57), i ≤ xs.length → xs.length - i = d → Its i x6 →
    EvP (fun k => spec_Text.l3 k b x5 x6 xs (xs.length : Int) (i : Int) s0 s1 s2 l3 l4 l5 l6 l7 l8) (TextOk m) := by
  induction d with
  | zero =>
    intro i x6 h1 hd h6
    refine EvP.step (fun k => spec_Text.l3.eq_2 b x5 x6 xs (xs.length : Int) (i : Int) s0 s1 s2 l3 l4 l5 l6 l7 l8 k) (EvP.neg (by omega) ?_)
    exact verb_next m _ (by decide) b 398 (by omega) x5 x6 h5 ⟨by have := h6.1; omega, h6.2⟩ (fun k l => spec_Text.l4 k b l ([] : List (S57)) l7 (l7.length : Int) 0 s0 s1 s2 l3 l4 l5 l6 l7 l8) (fun l hl2 => text_l4 m b l hl2 s0 s1 s2 l3 l4 l5 l6 l7 l8 hl8 hs8 l7 hl7 hs7 l7.length 0 [] (by omega) (by omega) Its.nil)
  | succ d ih =>
    intro i x6 h1 hd h6
    have hi : i < xs.length := by omega
    have hz := hs xs[i] (List.getElem_mem hi)
    have hx := h6.1
    refine EvP.step (fun k => spec_Text.l3.eq_2 b x5 x6 xs (xs.length : Int) (i : Int) s0 s1 s2 l3 l4 l5 l6 l7 l8 k) (EvP.pos (by omega) (EvP.pos (by omega) (EvP.pos (by omega) ?_)))
    rw [rd53 xs i hi, wrap_up (by omega)]
    refine EvP.bind (t_retr _ _ _ hz.1 hz.2.1) (fun t ht => EvP.pos (by omega) ?_)
    exact ih (i + 1) _ (by omega) (by omega) (h6.add _ _ (by omega) ht)
theorem rd50 (xs : List S50) (i : Nat) (h : i < xs.length) : rd_T50 xs (i : Int) = xs[i] := by
  unfold rd_T50
  have : (i : Int).toNat = i := by omega
  rw [this, List.getD_eq_getElem?_getD, List.getElem?_eq_getElem h]
  rfl
theorem text_l2 (m : ByteArray) (b : Bool) (x5 : List ByteArray) (h5 : Lst m 297 x5) (s0 s1 s2 : ByteArray) (l3 : List S46) (l4 : List S48) (l5 : List S50) (l6 : List S53) (l7 l8 : List ByteArray)
    (hl6 : l6.length ≤ 100) (hs6 : ∀ x ∈ l6, x.f0.size ≤ 2147483647 ∧ x.f1.size ≤ 2147483647 ∧ x.f2.size ≤ 2147483647) (hl7 : l7.length ≤ 100) (hs7 : ∀ p ∈ l7, p.size ≤ 2147483647) (hl8 : l8.length ≤ 100) (hs8 : ∀ p ∈ l8, p.size ≤ 2147483647) (xs : List S50) (hl : xs.length ≤ 100) (hs : ∀ x ∈ xs, (x.f0.f0.size ≤ 2147483647 ∧ x.f0.f1.size ≤ 2147483647) ∧ x.f1.f0.size ≤ 2147483647 ∧ x.f1.f1.size ≤ 2147483647) (d : Nat) : ∀ (i : Nat) (x6 : List S57), i ≤ xs.length → xs.length - i = d → Its i x6 →
    EvP (fun k => spec_Text.l2 k b x5 x6 xs (xs.length : Int) (i : Int) s0 s1 s2 l3 l4 l5 l6 l7 l8) (TextOk m) := by
  induction d with
  | zero =>
    intro i x6 h1 hd h6
    refine EvP.step (fun k => spec_Text.l2.eq_2 b x5 x6 xs (xs.length : Int) (i : Int) s0 s1 s2 l3 l4 l5 l6 l7 l8 k) (EvP.neg (by omega) ?_)
    exact verb_next m _ (by decide) b 297 (by omega) x5 x6 h5 ⟨by have := h6.1; omega, h6.2⟩ (fun k l => spec_Text.l3 k b l ([] : List (S57)) l6 (l6.length : Int) 0 s0 s1 s2 l3 l4 l5 l6 l7 l8) (fun l hl2 => text_l3 m b l hl2 s0 s1 s2 l3 l4 l5 l6 l7 l8 hl7 hs7 hl8 hs8 l6 hl6 hs6 l6.length 0 [] (by omega) (by omega) Its.nil)
  | succ d ih =>
    intro i x6 h1 hd h6
    have hi : i < xs.length := by omega
    have hz := hs xs[i] (List.getElem_mem hi)
    have hx := h6.1
    refine EvP.step (fun k => spec_Text.l2.eq_2 b x5 x6 xs (xs.length : Int) (i : Int) s0 s1 s2 l3 l4 l5 l6 l7 l8 k) (EvP.pos (by omega) (EvP.pos (by omega) (EvP.pos (by omega) ?_)))
    rw [rd50 xs i hi, wrap_up (by omega)]
    refine EvP.bind (t_vtext _ _ hz.1.1 hz.1.2) (fun t ht => ?_)
    have ht' : t.size ≤ 8589934592 := ht
    refine EvP.pos (by first | omega | (simp only [size_add, q0, q1, q2, q3, q4, q12, q32, q9, q10, q91, qa1, qa2, qa3, qa4]; omega)) (EvP.bind (t_vtext _ _ hz.2.1 hz.2.2) (fun u hu => ?_))
    have hu' : u.size ≤ 8589934592 := hu
    refine EvP.pos (by first | omega | (simp only [size_add, q0, q1, q2, q3, q4, q12, q32, q9, q10, q91, qa1, qa2, qa3, qa4]; omega)) (EvP.pos (by omega) ?_)
    exact ih (i + 1) _ (by omega) (by omega) (h6.add _ _ (by rw [q0]; omega) (by first | omega | (simp only [size_add, q0, q1, q2, q3, q4, q12, q32, q9, q10, q91, qa1, qa2, qa3, qa4]; omega)))
theorem rd48 (xs : List S48) (i : Nat) (h : i < xs.length) : rd_T48 xs (i : Int) = xs[i] := by
  unfold rd_T48
  have : (i : Int).toNat = i := by omega
  rw [this, List.getD_eq_getElem?_getD, List.getElem?_eq_getElem h]
  rfl
theorem text_l1 (m : ByteArray) (b : Bool) (x5 : List ByteArray) (h5 : Lst m 196 x5) (s0 s1 s2 : ByteArray) (l3 : List S46) (l4 : List S48) (l5 : List S50) (l6 : List S53) (l7 l8 : List ByteArray)
    (hl5 : l5.length ≤ 100) (hs5 : ∀ x ∈ l5, (x.f0.f0.size ≤ 2147483647 ∧ x.f0.f1.size ≤ 2147483647) ∧ x.f1.f0.size ≤ 2147483647 ∧ x.f1.f1.size ≤ 2147483647) (hl6 : l6.length ≤ 100) (hs6 : ∀ x ∈ l6, x.f0.size ≤ 2147483647 ∧ x.f1.size ≤ 2147483647 ∧ x.f2.size ≤ 2147483647) (hl7 : l7.length ≤ 100) (hs7 : ∀ p ∈ l7, p.size ≤ 2147483647) (hl8 : l8.length ≤ 100) (hs8 : ∀ p ∈ l8, p.size ≤ 2147483647) (xs : List S48) (hl : xs.length ≤ 100) (hs : ∀ x ∈ xs, x.f0.size ≤ 2147483647 ∧ x.f1.size ≤ 2147483647) (d : Nat) : ∀ (i : Nat) (x6 : List S57), i ≤ xs.length → xs.length - i = d → Its i x6 →
    EvP (fun k => spec_Text.l1 k b x5 x6 xs (xs.length : Int) (i : Int) s0 s1 s2 l3 l4 l5 l6 l7 l8) (TextOk m) := by
  induction d with
  | zero =>
    intro i x6 h1 hd h6
    refine EvP.step (fun k => spec_Text.l1.eq_2 b x5 x6 xs (xs.length : Int) (i : Int) s0 s1 s2 l3 l4 l5 l6 l7 l8 k) (EvP.neg (by omega) ?_)
    exact verb_next m _ (by decide) b 196 (by omega) x5 x6 h5 ⟨by have := h6.1; omega, h6.2⟩ (fun k l => spec_Text.l2 k b l ([] : List (S57)) l5 (l5.length : Int) 0 s0 s1 s2 l3 l4 l5 l6 l7 l8) (fun l hl2 => text_l2 m b l hl2 s0 s1 s2 l3 l4 l5 l6 l7 l8 hl6 hs6 hl7 hs7 hl8 hs8 l5 hl5 hs5 l5.length 0 [] (by omega) (by omega) Its.nil)
  | succ d ih =>
    intro i x6 h1 hd h6
    have hi : i < xs.length := by omega
    have hz := hs xs[i] (List.getElem_mem hi)
    have hx := h6.1
    refine EvP.step (fun k => spec_Text.l1.eq_2 b x5 x6 xs (xs.length : Int) (i : Int) s0 s1 s2 l3 l4 l5 l6 l7 l8 k) (EvP.pos (by omega) (EvP.pos (by omega) (EvP.pos (by omega) ?_)))
    rw [rd48 xs i hi, wrap_up (by omega)]
    refine EvP.bind (t_vtext _ _ hz.1 hz.2) (fun t ht => EvP.pos (by omega) ?_)
    have ht' : t.size ≤ 8589934592 := ht
    exact ih (i + 1) _ (by omega) (by omega) (h6.add _ _ (by rw [q0]; omega) (by omega))
theorem rd46 (xs : List S46) (i : Nat) (h : i < xs.length) : rd_T46 xs (i : Int) = xs[i] := by
  unfold rd_T46
  have : (i : Int).toNat = i := by omega
  rw [this, List.getD_eq_getElem?_getD, List.getElem?_eq_getElem h]
  rfl
theorem text_l0 (m : ByteArray) (b : Bool) (x5 : List ByteArray) (h5 : Lst m 95 x5) (s0 s1 s2 : ByteArray) (l3 : List S46) (l4 : List S48) (l5 : List S50) (l6 : List S53) (l7 l8 : List ByteArray)
    (hl4 : l4.length ≤ 100) (hs4 : ∀ x ∈ l4, x.f0.size ≤ 2147483647 ∧ x.f1.size ≤ 2147483647) (hl5 : l5.length ≤ 100) (hs5 : ∀ x ∈ l5, (x.f0.f0.size ≤ 2147483647 ∧ x.f0.f1.size ≤ 2147483647) ∧ x.f1.f0.size ≤ 2147483647 ∧ x.f1.f1.size ≤ 2147483647) (hl6 : l6.length ≤ 100) (hs6 : ∀ x ∈ l6, x.f0.size ≤ 2147483647 ∧ x.f1.size ≤ 2147483647 ∧ x.f2.size ≤ 2147483647) (hl7 : l7.length ≤ 100) (hs7 : ∀ p ∈ l7, p.size ≤ 2147483647) (hl8 : l8.length ≤ 100) (hs8 : ∀ p ∈ l8, p.size ≤ 2147483647) (xs : List S46) (hl : xs.length ≤ 100) (hs : ∀ x ∈ xs, x.f0.size ≤ 2147483647 ∧ x.f1.size ≤ 2147483647) (d : Nat) : ∀ (i : Nat) (x6 : List S57), i ≤ xs.length → xs.length - i = d → Its i x6 →
    EvP (fun k => spec_Text.l0 k b x5 x6 xs (xs.length : Int) (i : Int) s0 s1 s2 l3 l4 l5 l6 l7 l8) (TextOk m) := by
  induction d with
  | zero =>
    intro i x6 h1 hd h6
    refine EvP.step (fun k => spec_Text.l0.eq_2 b x5 x6 xs (xs.length : Int) (i : Int) s0 s1 s2 l3 l4 l5 l6 l7 l8 k) (EvP.neg (by omega) ?_)
    exact verb_next m _ (by decide) b 95 (by omega) x5 x6 h5 ⟨by have := h6.1; omega, h6.2⟩ (fun k l => spec_Text.l1 k b l ([] : List (S57)) l4 (l4.length : Int) 0 s0 s1 s2 l3 l4 l5 l6 l7 l8) (fun l hl2 => text_l1 m b l hl2 s0 s1 s2 l3 l4 l5 l6 l7 l8 hl5 hs5 hl6 hs6 hl7 hs7 hl8 hs8 l4 hl4 hs4 l4.length 0 [] (by omega) (by omega) Its.nil)
  | succ d ih =>
    intro i x6 h1 hd h6
    have hi : i < xs.length := by omega
    have hz := hs xs[i] (List.getElem_mem hi)
    have hx := h6.1
    refine EvP.step (fun k => spec_Text.l0.eq_2 b x5 x6 xs (xs.length : Int) (i : Int) s0 s1 s2 l3 l4 l5 l6 l7 l8 k) (EvP.pos (by omega) (EvP.pos (by omega) (EvP.pos (by omega) ?_)))
    rw [rd46 xs i hi, wrap_up (by omega)]
    refine EvP.bind (t_req _ _ _ hz.1 hz.2) (fun t ht => EvP.pos (by omega) ?_)
    exact ih (i + 1) _ (by omega) (by omega) (h6.add _ _ (by rw [q0]; omega) ht)
theorem text_j1 (m : ByteArray) (b : Bool) (x5 : List ByteArray) (h5 : Lst m 95 x5) (s0 s1 s2 : ByteArray) (l3 : List S46) (l4 : List S48) (l5 : List S50) (l6 : List S53) (l7 l8 : List ByteArray) (hl3 : l3.length ≤ 100) (hs3 : ∀ x ∈ l3, x.f0.size ≤ 2147483647 ∧ x.f1.size ≤ 2147483647) (hl4 : l4.length ≤ 100) (hs4 : ∀ x ∈ l4, x.f0.size ≤ 2147483647 ∧ x.f1.size ≤ 2147483647) (hl5 : l5.length ≤ 100) (hs5 : ∀ x ∈ l5, (x.f0.f0.size ≤ 2147483647 ∧ x.f0.f1.size ≤ 2147483647) ∧ x.f1.f0.size ≤ 2147483647 ∧ x.f1.f1.size ≤ 2147483647) (hl6 : l6.length ≤ 100) (hs6 : ∀ x ∈ l6, x.f0.size ≤ 2147483647 ∧ x.f1.size ≤ 2147483647 ∧ x.f2.size ≤ 2147483647) (hl7 : l7.length ≤ 100) (hs7 : ∀ p ∈ l7, p.size ≤ 2147483647) (hl8 : l8.length ≤ 100) (hs8 : ∀ p ∈ l8, p.size ≤ 2147483647) : EvP (fun k => spec_Text.j1 k b x5 s0 s1 s2 l3 l4 l5 l6 l7 l8) (TextOk m) :=
  EvP.step (fun k => spec_Text.j1.eq_2 b x5 s0 s1 s2 l3 l4 l5 l6 l7 l8 k) (text_l0 m b x5 h5 s0 s1 s2 l3 l4 l5 l6 l7 l8 hl4 hs4 hl5 hs5 hl6 hs6 hl7 hs7 hl8 hs8 l3 hl3 hs3 l3.length 0 [] (by omega) (by omega) Its.nil)
theorem text_j0 (m : ByteArray) (b : Bool) (x5 : List ByteArray) (h5 : Lst m 50 x5) (s0 s1 s2 : ByteArray) (l3 : List S46) (l4 : List S48) (l5 : List S50) (l6 : List S53) (l7 l8 : List ByteArray) (h2 : s2.size ≤ 2147483647) (hl3 : l3.length ≤ 100) (hs3 : ∀ x ∈ l3, x.f0.size ≤ 2147483647 ∧ x.f1.size ≤ 2147483647) (hl4 : l4.length ≤ 100) (hs4 : ∀ x ∈ l4, x.f0.size ≤ 2147483647 ∧ x.f1.size ≤ 2147483647) (hl5 : l5.length ≤ 100) (hs5 : ∀ x ∈ l5, (x.f0.f0.size ≤ 2147483647 ∧ x.f0.f1.size ≤ 2147483647) ∧ x.f1.f0.size ≤ 2147483647 ∧ x.f1.f1.size ≤ 2147483647) (hl6 : l6.length ≤ 100) (hs6 : ∀ x ∈ l6, x.f0.size ≤ 2147483647 ∧ x.f1.size ≤ 2147483647 ∧ x.f2.size ≤ 2147483647) (hl7 : l7.length ≤ 100) (hs7 : ∀ p ∈ l7, p.size ≤ 2147483647) (hl8 : l8.length ≤ 100) (hs8 : ∀ p ∈ l8, p.size ≤ 2147483647) : EvP (fun k => spec_Text.j0 k b x5 s0 s1 s2 l3 l4 l5 l6 l7 l8) (TextOk m) := by
  refine EvP.step (fun k => spec_Text.j0.eq_2 b x5 s0 s1 s2 l3 l4 l5 l6 l7 l8 k) (EvP.cond (fun _ => text_j1 m b x5 ⟨h5.head, by have := h5.len; omega, h5.sizes⟩ s0 s1 s2 l3 l4 l5 l6 l7 l8 hl3 hs3 hl4 hs4 hl5 hs5 hl6 hs6 hl7 hs7 hl8 hs8) (fun _ => ?_))
  have := h5.len
  refine EvP.pos (by first | omega | (simp only [size_add, q0, q1, q2, q3, q4, q12, q32, q9, q10, q91, qa1, qa2, qa3, qa4]; omega)) (EvP.pos (by first | omega | (simp only [size_add, q0, q1, q2, q3, q4, q12, q32, q9, q10, q91, qa1, qa2, qa3, qa4]; omega)) (EvP.pos (by omega) (text_j1 m b _ (h5.add (k := 45) (by simp) (fun p hp => ?_)) s0 s1 s2 l3 l4 l5 l6 l7 l8 hl3 hs3 hl4 hs4 hl5 hs5 hl6 hs6 hl7 hs7 hl8 hs8)))
  rw [List.mem_singleton.mp hp]
  exact (by first | omega | (simp only [size_add, q0, q1, q2, q3, q4, q12, q32, q9, q10, q91, qa1, qa2, qa3, qa4]; omega))
theorem t_text (s0 s1 s2 : ByteArray) (l3 : List S46) (l4 : List S48) (l5 : List S50) (l6 : List S53) (l7 l8 : List ByteArray) (b : Bool) (h0 : s0.size ≤ 2147483647) (h1 : s1.size ≤ 2147483647) (h2 : s2.size ≤ 2147483647) (hl3 : l3.length ≤ 100) (hs3 : ∀ x ∈ l3, x.f0.size ≤ 2147483647 ∧ x.f1.size ≤ 2147483647) (hl4 : l4.length ≤ 100) (hs4 : ∀ x ∈ l4, x.f0.size ≤ 2147483647 ∧ x.f1.size ≤ 2147483647) (hl5 : l5.length ≤ 100) (hs5 : ∀ x ∈ l5, (x.f0.f0.size ≤ 2147483647 ∧ x.f0.f1.size ≤ 2147483647) ∧ x.f1.f0.size ≤ 2147483647 ∧ x.f1.f1.size ≤ 2147483647) (hl6 : l6.length ≤ 100) (hs6 : ∀ x ∈ l6, x.f0.size ≤ 2147483647 ∧ x.f1.size ≤ 2147483647 ∧ x.f2.size ≤ 2147483647) (hl7 : l7.length ≤ 100) (hs7 : ∀ p ∈ l7, p.size ≤ 2147483647) (hl8 : l8.length ≤ 100) (hs8 : ∀ p ∈ l8, p.size ≤ 2147483647) :
    EvP (fun k => spec_Text.f k s0 s1 s2 l3 l4 l5 l6 l7 l8 b) (TextOk (modLine s0)) := by
  refine EvP.bind (t_secMod s0 h0) (fun t ht => ?_)
  subst ht
  have hb : Lst (modLine s0) 5 [modLine s0] := ⟨⟨[], rfl⟩, by simp, fun p hp => by rw [List.mem_singleton.mp hp, modLine_size]; omega⟩
  refine EvP.cond (fun _ => text_j0 _ b _ ⟨hb.head, by simp, hb.sizes⟩ s0 s1 s2 l3 l4 l5 l6 l7 l8 h2 hl3 hs3 hl4 hs4 hl5 hs5 hl6 hs6 hl7 hs7 hl8 hs8) (fun _ => ?_)
  refine EvP.pos (by first | omega | (simp only [size_add, q0, q1, q2, q3, q4, q12, q32, q9, q10, q91, qa1, qa2, qa3, qa4]; omega)) (EvP.pos (by first | omega | (simp only [size_add, q0, q1, q2, q3, q4, q12, q32, q9, q10, q91, qa1, qa2, qa3, qa4]; omega)) (EvP.pos (by simp) (text_j0 _ b _ (hb.add (k := 45) (by simp) (fun p hp => ?_)) s0 s1 s2 l3 l4 l5 l6 l7 l8 h2 hl3 hs3 hl4 hs4 hl5 hs5 hl6 hs6 hl7 hs7 hl8 hs8)))
  rw [List.mem_singleton.mp hp]
  exact (by first | omega | (simp only [size_add, q0, q1, q2, q3, q4, q12, q32, q9, q10, q91, qa1, qa2, qa3, qa4]; omega))
theorem modLine_lst (m : ByteArray) : lst (modLine m) = (modSp ++ lst m) ++ [10] := by
  unfold modLine
  rw [lst_add, lst_add, lst_add, lst_add]
  rfl
/-- A text that begins with the module's line tells the module. -/
theorem text_res (m r : ByteArray) (h : PathGood (lst m)) (ht : TextOk (modLine m) r) : Res (lst r) (lst m) := by
  obtain ⟨⟨R, hR⟩, _⟩ := ht
  obtain ⟨h1, h2, h3, h4⟩ := line_mod (lst m) h
  rw [← hR, modLine_lst, List.append_assoc]
  exact Res.hit h2 h3 h1 h4
end Go.Proofs.YtlnmchehnhgfnaaDoor.M
