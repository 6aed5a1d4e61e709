/- The printer's buffer: what WriteString does; the printer's tokens. Conditions: the buffer is one of the call's own that has only been written; the tokens are words. -/
import Derived.Test.YtbifcpokkfiagaaDoorFc3
import Derived.Test.YtbifcpokkfiagaaDoorShelfF
namespace Go.Proofs.YtbifcpokkfiagaaDoor.F
open Go.RowKit Go.Proofs.YtbifcpokkfiagaaDoorW.PrintWords
set_option linter.unusedVariables false

theorem PB.lt {B b : Nat} {l : List UInt8} {cv : Value} {m : Nat} {w : World} (h : PB B b l cv m w) : b < w.heap.size := by
  obtain ⟨p, c, lr, h0, -⟩ := h.parts
  rcases Nat.lt_or_ge b w.heap.size with h' | h'
  · exact h'
  · simp [World.cell?, Array.getElem?_eq_none h'] at h0

theorem write_is {B b : Nat} {l : List UInt8} {cv : Value} {m : Nat} {w : World} (h : Hid (PB B b l cv m w)) (s : ByteArray) (hs : Hid (l.length + s.size ≤ 140737488355328)) :
    Calls Tryd.prog 31 #[.pointer (some ⟨b, 0, none⟩), .string s] w fun e w' => e = .returned (.tuple #[.int .i64 s.size, .nilIface]) ∧ Hid (PB B b (l ++ s.data.toList) cv m w') ∧ Hid (Ok B b w w') := by
  refine (Tryd.Buffer_WriteString_at 53 (Rest cv m) B b 0 (Lib.byteCells l) s w h.out (Nat.le_of_lt (Nat.lt_of_le_of_lt h.out.hB h.out.lt)) (Lib.byteCells_one l) (by rw [bc_len]; exact hs.out)).mono ?_
  rintro e w' ⟨rfl, h1, h2, h3⟩
  refine ⟨rfl, Lib.hid ?_, Lib.hid ⟨h2, h3⟩⟩
  have : Lib.byteCells l ++ Lib.byteCells s.data.toList = Lib.byteCells (l ++ s.data.toList) := by
    unfold Lib.byteCells
    rw [List.map_append]
  rw [this] at h1
  exact h1

/-- A word: letters, digits and points, at most 50. -/
structure Word (l : List UInt8) : Prop where
  ne : l ≠ []
  ok : ∀ c ∈ l, c = 46 ∨ (48 ≤ c.toNat ∧ c.toNat ≤ 57) ∨ (97 ≤ c.toNat ∧ c.toNat ≤ 122)
  len : l.length ≤ 50

theorem Word.not1 {l : List UInt8} (h : Word l) (c : UInt8) (hc : c ≠ 46) (h1 : c.toNat < 48 ∨ 57 < c.toNat) (h2 : c.toNat < 97 ∨ 122 < c.toNat) : (l == [c]) = false := by
  rw [beq_eq_false_iff_ne]
  intro e
  rcases h.ok c (by rw [e]; simp) with h | ⟨h, h'⟩ | ⟨h, h'⟩
  · exact hc h
  · omega
  · omega

theorem toList_data (t : ByteArray) : t.toList = t.data.toList := by
  exact ByteArray.toList_eq t

/-- Words with a space between. -/
def joinW (xs : List ByteArray) : List UInt8 := (xs.flatMap (fun t => 32 :: t.data.toList)).drop 1

theorem joinW_step (xs : List ByteArray) (k : Nat) (t : ByteArray) (h : xs[k]? = some t) : joinW (xs.take (k + 1)) = joinW (xs.take k) ++ ((if k = 0 then [] else [32]) ++ t.data.toList) := by
  unfold joinW
  rw [List.take_add_one, h, Option.toList_some, List.flatMap_append]
  by_cases k0 : k = 0
  · subst k0
    simp
  · obtain ⟨x, xs', rfl⟩ : ∃ x xs', xs = x :: xs' := by
      cases xs with
      | nil => simp at h
      | cons x xs' => exact ⟨x, xs', rfl⟩
    obtain ⟨j, rfl⟩ : ∃ j, k = j + 1 := ⟨k - 1, by omega⟩
    simp

theorem joinW_len (xs : List ByteArray) (h : ∀ t ∈ xs, Word t.data.toList) : (joinW xs).length ≤ 51 * xs.length := by
  have : (xs.flatMap (fun t => (32 : UInt8) :: t.data.toList)).length ≤ 51 * xs.length := by
    induction xs with
    | nil => simp
    | cons x xs ih =>
      have h1 := (h x (by simp)).len
      have h2 := ih (fun t ht => h t (by simp [ht]))
      rw [List.flatMap_cons, List.length_append, List.length_cons, List.length_cons]
      omega
  unfold joinW
  rw [List.length_drop]
  omega

set_option maxRecDepth 100000 in
set_option maxHeartbeats 4000000 in
theorem tokens_is {W : World} {b : Nat} {l : List UInt8} {cv : Value} {m : Nat} {w : World} {A : Option Addr} {c : Nat} {xs : List ByteArray} (HR : Hid (Kd.C Kd.string W A xs.length xs)) (n : Nat) (HN : Hid (n = xs.length)) (HB : Hid (Below W.heap.size W w)) (h : Hid (PB W.heap.size b l cv m w))
    (hx : Hid (∀ t ∈ xs, Word t.data.toList)) (hl : Hid (l.length + 51 * n ≤ 140737488355328)) :
    Calls Tryd.prog 43 #[.pointer (some ⟨b, 0, none⟩), .slice A n c] w fun e w' => e = .returned (.tuple #[]) ∧ Hid (PB W.heap.size b (l ++ joinW xs) cv m w') ∧ Hid (Ok W.heap.size b w w') := by
  have hn64 : n ≤ 140737488355328 := by have := hl.out; omega
  go_enter Tryd.func43, Tryd.ntmps43
  go_wp2
  go_loopg [4, 9] n (fun kq v4 v9 w' => ∃ (k : Nat) (sep : ByteArray), v4 = .string sep ∧ v9 = .int .i64 (k : Int) ∧ k ≤ n ∧ n ≤ kq + k ∧ Hid (sep.data.toList = if k = 0 then [] else [32]) ∧ sep.size ≤ 1 ∧ Hid (PB W.heap.size b (l ++ joinW (xs.take k)) cv m w') ∧ Hid (Ok W.heap.size b w w'))
  case atStart => exact ⟨0, ⟨#[]⟩, rfl, rfl, by omega, by omega, Lib.hid rfl, by decide, Lib.hid (by simp [joinW]; exact h.out), Lib.hid (Ok.refl _ _ _)⟩
  case round =>
    obtain ⟨k, sep, rfl, rfl, hk, hq, HS, hs1, HP, HK⟩ := hrel
    clear h
    by_cases hlt : k < n
    · have b1 : decide ((k : Int) < (n : Int)) = true := decide_eq_true (by omega)
      have HC : Kd.C Kd.string wr A n xs := by
        have := Kd.C_below HR.out (HB.out.trans HK.out.1)
        rw [← HN.out] at this
        exact this
      obtain ⟨ad, rfl, hcell⟩ := Kd.at_string HC (k : Int) (by omega) (by omega)
      have hkl : k < xs.length := by have := HN.out; omega
      obtain ⟨t, ht⟩ : ∃ t, t = rdOf ByteArray.empty xs (k : Int) := ⟨_, rfl⟩
      have hget : xs[k]? = some t := by
        rw [ht]
        unfold rdOf
        rw [Int.toNat_natCast, List.getD_eq_getElem?_getD, List.getElem?_eq_getElem hkl]
        rfl
      rw [← ht] at hcell
      have hw : Word t.data.toList := hx.out t (List.mem_of_getElem? hget)
      have hsz : t.size ≤ 50 := by have := hw.len; rw [Lib.size_eq]; exact this
      have q0 : (t.toList == [44]) = false := by rw [toList_data]; exact hw.not1 44 (by decide) (by decide) (by decide)
      have q1 : (t.toList == [41]) = false := by rw [toList_data]; exact hw.not1 41 (by decide) (by decide) (by decide)
      have q2 : (t.toList == [93]) = false := by rw [toList_data]; exact hw.not1 93 (by decide) (by decide) (by decide)
      have q3 : (t.toList == [125]) = false := by rw [toList_data]; exact hw.not1 125 (by decide) (by decide) (by decide)
      have q4 : (t.toList == [40]) = false := by rw [toList_data]; exact hw.not1 40 (by decide) (by decide) (by decide)
      have q5 : (t.toList == [91]) = false := by rw [toList_data]; exact hw.not1 91 (by decide) (by decide) (by decide)
      have q6 : (t.toList == [123]) = false := by rw [toList_data]; exact hw.not1 123 (by decide) (by decide) (by decide)
      have hjl : (joinW (xs.take k)).length ≤ 51 * k := by
        have := joinW_len (xs.take k) (fun t ht => hx.out t (List.mem_of_mem_take ht))
        rw [List.length_take] at this
        omega
      have hss : (sep ++ t).size = sep.size + t.size := ByteArray.size_append
      have hwr : Hid ((l ++ joinW (xs.take k)).length + (sep ++ t).size ≤ 140737488355328) := Lib.hid (by
        rw [List.length_append, hss]
        have := hl.out
        omega)
      have hfit : sep.size + t.size ≤ 9223372036854775807 := by omega
      have HJ : Hid (l ++ joinW (xs.take k) ++ (sep ++ t).data.toList = l ++ joinW (xs.take (k + 1))) := Lib.hid (by
        rw [joinW_step xs k t hget, List.append_assoc, ← HS.out]
        simp)
      rw [Int.toNat_natCast] at hcell
      clear ht HC hjl hss hw
      go_wp2_with (first | (go_at_call 31; (with_reducible refine (write_is HP (sep ++ t) hwr).mono ?_); rintro e w2 ⟨rfl, hp, ho⟩))
      go_roundg (gk - 1)
      case measure => omega
      case rel => exact ⟨k + 1, ⟨#[32]⟩, rfl, by go_num, by omega, by omega, Lib.hid rfl, by decide, by have := HJ.out; rw [← this]; exact hp, Lib.hid (HK.out.trans ho.out)⟩
    · have b1 : decide ((k : Int) < (n : Int)) = false := decide_eq_false (by omega)
      obtain rfl : k = n := by omega
      go_wp2
      go_end0
      exact ⟨rfl, by
        have := HP.out
        rw [HN.out, List.take_length] at this
        exact Lib.hid this, HK⟩

end Go.Proofs.YtbifcpokkfiagaaDoor.F
