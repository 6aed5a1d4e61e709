/- Of a list of bytes of ASCII without quotes the path that ModulePath answers is that of the first line that tells one; a line's path in the reference's words. Conditions: the bytes are at most 126, none is a quote. -/
import Derived.Test.YtlnmchehnhgfnaaDoorMd
namespace Go.Proofs.YtlnmchehnhgfnaaDoor.M
open Go.RowKit Go.Proofs.YtlnmchehnhgfnaaDoorW.PrintWords

/-- A byte of such a text. -/
def Good (l : List UInt8) : Prop := ∀ c ∈ l, c.toNat ≤ 126 ∧ c ≠ 34 ∧ c ≠ 96

/-- The path of the first line that tells one. -/
def firstOf : List (List UInt8) → List UInt8
  | [] => []
  | L :: t => match lineRes L with
    | some p => p
    | none => firstOf t

theorem good_ascii {l : List UInt8} (h : Good l) : Ascii l := fun c hc => by have := (h c hc).1; omega

theorem res_mem {L p : List UInt8} (h : lineRes L = some p) : ∀ c ∈ p, c ∈ L := by
  intro c hc
  unfold lineRes at h
  split at h
  · split at h
    · exact absurd h (by simp)
    · have e := Option.some.inj h
      rw [← e] at hc
      have h1 := List.mem_of_mem_drop (trim_mem hc)
      exact cutS_mem (trim_mem h1)
  · exact absurd h (by simp)

theorem res_noquote {L p : List UInt8} (hg : Good L) (h : lineRes L = some p) : NoQuote p := by
  intro c r e
  have := hg c (res_mem h c (by rw [e]; simp))
  exact this.2

theorem res_of (n : Nat) : ∀ l : List UInt8, l.length ≤ n → Good l → Res l (firstOf (cutL 10 l)) := by
  induction n with
  | zero =>
    intro l hl _
    have : l = [] := List.eq_nil_of_length_eq_zero (by omega)
    rw [this]
    have e : firstOf (cutL 10 []) = [] := by
      show firstOf [[]] = []
      unfold firstOf
      rw [lineRes_nil]
      rfl
    rw [e]
    exact Res.nil
  | succ n ih =>
    intro l hl hg
    by_cases h10 : (10 : UInt8) ∈ l
    · obtain ⟨L, R, e, hL⟩ := List.eq_append_cons_of_mem h10
      have hgL : Good L := fun c hc => hg c (by rw [e]; simp [hc])
      have hgR : Good R := fun c hc => hg c (by rw [e]; simp [hc])
      have hlR : R.length ≤ n := by rw [e, List.length_append, List.length_cons] at hl; omega
      rw [e, cutL_at 10 L R hL]
      unfold firstOf
      cases hr : lineRes L with
      | none => exact Res.skip (good_ascii hgL) hL hr (ih R hlR hgR)
      | some p => exact Res.hit (good_ascii hgL) hL hr (res_noquote hgL hr)
    · rw [cutL_plain 10 l h10]
      unfold firstOf
      cases hr : lineRes l with
      | none =>
        by_cases h0 : l = []
        · rw [h0]; exact Res.nil
        · exact Res.skipEnd h0 (good_ascii hg) h10 hr
      | some p => exact Res.hitEnd (good_ascii hg) h10 hr (res_noquote hg hr)

/-! ### a line's path in the reference's words -/

theorem trim_last (x : List UInt8) (y : UInt8) (h : (Lib.trimSpace x).getLast? = some y) : Lib.isSp y = false := by
  unfold Lib.trimSpace at h
  rw [List.getLast?_reverse] at h
  have := List.head?_dropWhile_not Lib.isSp (x.dropWhile Lib.isSp).reverse
  rw [h] at this
  simpa using this

theorem trim_same {d : List UInt8} (c : UInt8) (t : List UInt8) (e : d = c :: t) (hc : Lib.isSp c = false) (hl : ∀ y, d.getLast? = some y → Lib.isSp y = false) : Lib.trimSpace d = d := by
  have hne : d ≠ [] := by rw [e]; simp
  have h2 : d.getLast? = some (d.getLast hne) := List.getLast?_eq_some_getLast hne
  have := trim_ends [] d [] c (d.getLast hne) (by simp) (by simp) (by rw [e]; rfl) h2 hc (hl _ h2)
  simpa using this

theorem trim_front (c : UInt8) (t : List UInt8) (hc : Lib.isSp c = true) : (Lib.trimSpace (c :: t)).length < (c :: t).length := by
  have h : Lib.trimSpace (c :: t) = Lib.trimSpace t := by
    unfold Lib.trimSpace
    rw [List.dropWhile_cons, hc, if_pos rfl]
  have := trim_le t
  rw [h, List.length_cons]
  omega

theorem line_short {L : List UInt8} (h : (core L).drop 6 = []) : lineRes L = none := res_o23 (Or.inl (by rw [h]; rfl))

theorem line_white {L : List UInt8} (c : UInt8) (t : List UInt8) (e : (core L).drop 6 = c :: t) (hc : Lib.isSp c = false) : lineRes L = none := by
  refine res_o23 (Or.inl ?_)
  rw [trim_same c t e hc]
  intro y hy
  rw [List.getLast?_drop] at hy
  split at hy
  · exact absurd hy (by simp)
  · exact trim_last (cutS L) y hy

theorem line_empty {L : List UInt8} (h : Lib.trimSpace ((core L).drop 6) = []) : lineRes L = none := res_o23 (Or.inr (by rw [h]; rfl))

theorem line_yes {L : List UInt8} (hp : modL <+: core L) (c : UInt8) (t : List UInt8) (e : (core L).drop 6 = c :: t) (hc : Lib.isSp c = true) (h : Lib.trimSpace ((core L).drop 6) ≠ []) : lineRes L = some (Lib.trimSpace ((core L).drop 6)) := by
  refine res_o4 hp ?_ (fun h0 => h (List.eq_nil_of_length_eq_zero h0))
  have := trim_front c t hc
  rw [e]
  omega

end Go.Proofs.YtlnmchehnhgfnaaDoor.M
