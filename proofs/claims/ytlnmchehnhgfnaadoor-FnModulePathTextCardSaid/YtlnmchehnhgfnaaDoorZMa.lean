/- Plain words for the path of a module in a list of bytes; slices of bytes in memory; what calls of bytes.IndexByte, bytesIndex, bytes.TrimSpace and bytes.HasPrefix do to them. Conditions: the bytes that TrimSpace reads are ASCII, its table lies in memory. -/
import Derived.Test.YtlnmchehnhgfnaaDoorZW
import Derived.Test.YtlnmchehnhgfnaaDoorZShelfM
import Derived.WalkKit
import Derived.KernelRfl
import Derived.Deep.LoopGhost
import Derived.Deep.QuietTactic
import Derived.BigQuiet
import Derived.Deep.DeepCutAuto
import Derived.Laws.BytesArg
import Derived.Lib.IndexLaws
import Derived.Lib.BytesSpace
import Derived.Lib.Hide
import Derived.WalkSpells
import Derived.WalkLawsBesides
namespace Go.Proofs.YtlnmchehnhgfnaaDoor.M
open Go.RowKit Go.Proofs.YtlnmchehnhgfnaaDoorW.PrintWords
abbrev lst (s : ByteArray) : List UInt8 := s.data.toList
theorem lst_length (s : ByteArray) : (lst s).length = s.size := by
  rw [Lib.size_eq]
def nums (l : List UInt8) : List Int := l.map fun c => (c.toNat : Int)
theorem nums_length (l : List UInt8) : (nums l).length = l.length := List.length_map _
theorem nums_back (l : List UInt8) : Lib.bytesOf (nums l) = l := by
  unfold Lib.bytesOf nums
  rw [List.map_map]
  conv => rhs; rw [← List.map_id l]
  apply List.map_congr_left
  intro c _
  simp
theorem nums_get (l : List UInt8) (i : Nat) (h : i < l.length) : (nums l).getD i 0 = ((l[i]'h).toNat : Int) := by
  unfold nums
  rw [List.getD_eq_getElem?_getD, List.getElem?_map, List.getElem?_eq_getElem h]
  rfl
/-- What stands ahead of two slashes. -/
def cutS : List UInt8 → List UInt8
  | [] => []
  | c :: r => if c = 47 ∧ r.head? = some 47 then [] else c :: cutS r
abbrev modL : List UInt8 := [109, 111, 100, 117, 108, 101]
def Ascii (l : List UInt8) : Prop := ∀ c ∈ l, c.toNat < 128
def NoQuote (l : List UInt8) : Prop := ∀ c r, l = c :: r → c ≠ 34 ∧ c ≠ 96
/-- The line without its comment and the white space around it. -/
def core (l : List UInt8) : List UInt8 := Lib.trimSpace (cutS l)
/-- The path that a line tells, or none. -/
def lineRes (l : List UInt8) : Option (List UInt8) :=
  if modL <+: core l then
    if (Lib.trimSpace ((core l).drop 6)).length = ((core l).drop 6).length ∨ Lib.trimSpace ((core l).drop 6) = [] then none else some (Lib.trimSpace ((core l).drop 6))
  else none
/-- What ModulePath answers at a text. -/
inductive Res : List UInt8 → List UInt8 → Prop
  | nil : Res [] []
  | skip {L R r : List UInt8} : Ascii L → 10 ∉ L → lineRes L = none → Res R r → Res (L ++ 10 :: R) r
  | skipEnd {L : List UInt8} : L ≠ [] → Ascii L → 10 ∉ L → lineRes L = none → Res L []
  | hit {L R p : List UInt8} : Ascii L → 10 ∉ L → lineRes L = some p → NoQuote p → Res (L ++ 10 :: R) p
  | hitEnd {L p : List UInt8} : Ascii L → 10 ∉ L → lineRes L = some p → NoQuote p → Res L p
theorem cutS_le (l : List UInt8) : (cutS l).length ≤ l.length := by
  induction l with
  | nil => simp [cutS]
  | cons c r ih =>
    unfold cutS
    split
    · simp
    · simp; omega
theorem cutS_take (l : List UInt8) : l.take (cutS l).length = cutS l := by
  induction l with
  | nil => rfl
  | cons c r ih =>
    unfold cutS
    split
    · rfl
    · rw [List.length_cons, List.take_succ_cons, ih]
theorem cutS_mem {l : List UInt8} {c : UInt8} (h : c ∈ cutS l) : c ∈ l := by
  rw [← cutS_take] at h
  exact List.mem_of_mem_take h
theorem trim_mem {l : List UInt8} {c : UInt8} (h : c ∈ Lib.trimSpace l) : c ∈ l := by
  unfold Lib.trimSpace at h
  have h1 := (List.dropWhile_sublist Lib.isSp).mem (List.mem_reverse.mp h)
  exact (List.dropWhile_sublist Lib.isSp).mem (List.mem_reverse.mp h1)
theorem trim_le (l : List UInt8) : (Lib.trimSpace l).length ≤ l.length := by
  unfold Lib.trimSpace
  rw [List.length_reverse]
  have h1 := (List.dropWhile_sublist Lib.isSp (l := (l.dropWhile Lib.isSp).reverse)).length_le
  have h2 := (List.dropWhile_sublist Lib.isSp (l := l)).length_le
  rw [List.length_reverse] at h1
  omega
/-- The slice at p, of capacity c, holds the bytes l. -/
structure SB (w : World) (p : Option Addr) (c : Nat) (l : List UInt8) : Prop where
  good : (p = none ∧ l = [] ∧ c = 0) ∨ ∃ b o, p = some ⟨b, o, none⟩
  cap : l.length ≤ c
  cells : Lib.BytesIn w p l.length (nums l)
theorem SB.drewN {w : World} {p : Option Addr} {c : Nat} {l : List UInt8} (h : SB w p c l) (n : Nat) : SB (w.drewN n) p c l :=
  ⟨h.good, h.cap, fun h0 => h.cells h0⟩
theorem cell_kept {w w' : World} (hb : Below w.heap.size w w') {a : Addr} {v : Value} (h : w.cell? a = some v) : w'.cell? a = some v := by
  have lt : a.block < w.heap.size := by
    rcases Nat.lt_or_ge a.block w.heap.size with h' | h'
    · exact h'
    · simp [World.cell?, Array.getElem?_eq_none h'] at h
  rw [hb.cell lt]
  exact h
theorem SB.below {w w' : World} {p : Option Addr} {c : Nat} {l : List UInt8} (h : SB w p c l) (hb : Below w.heap.size w w') : SB w' p c l :=
  ⟨h.good, h.cap, fun h0 => by
    obtain ⟨b, o, e, hc⟩ := h.cells h0
    exact ⟨b, o, e, fun i hi => cell_kept hb (hc i hi)⟩⟩
/-- Where a slice lies that begins k bytes on. -/
def adv (p : Option Addr) (c k : Nat) : Option Addr := if c = k then p else p.map (·.add (k * 1))
theorem SB.drop {w : World} {p : Option Addr} {c : Nat} {l : List UInt8} (h : SB w p c l) (k : Nat) (hk : k ≤ l.length) : SB w (adv p c k) (c - k) (l.drop k) := by
  have hcap := h.cap
  refine ⟨?_, by rw [List.length_drop]; omega, ?_⟩
  · unfold adv
    rcases h.good with ⟨rfl, rfl, rfl⟩ | ⟨b, o, rfl⟩
    · left; simp
    · right
      split
      · exact ⟨b, o, rfl⟩
      · exact ⟨b, o + k * 1, by simp [Addr.add]⟩
  · intro h0
    rw [List.length_drop] at h0
    obtain ⟨b, o, e, hc⟩ := h.cells (by omega)
    unfold adv
    rw [if_neg (by omega), e]
    refine ⟨b, o + k * 1, by simp [Addr.add], fun i hi => ?_⟩
    rw [List.length_drop] at hi
    have := hc (k + i) (by omega)
    rw [nums_get l (k + i) (by omega)] at this
    rw [nums_get (l.drop k) i (by rw [List.length_drop]; omega), List.getElem_drop, show o + k * 1 + i = o + (k + i) by omega]
    exact this
theorem SB.take {w : World} {p : Option Addr} {c : Nat} {l : List UInt8} (h : SB w p c l) (j : Nat) (hj : j ≤ l.length) : SB w (adv p c 0) c (l.take j) := by
  have hcap := h.cap
  have e : adv p c 0 = p := by
    unfold adv
    split
    · rfl
    · cases p with
      | none => rfl
      | some a => simp [Addr.add]
  rw [e]
  refine ⟨?_, by rw [List.length_take]; omega, ?_⟩
  · rcases h.good with ⟨rfl, rfl, rfl⟩ | h1
    · left; simp
    · exact Or.inr h1
  · intro h0
    rw [List.length_take] at h0
    obtain ⟨b, o, e, hc⟩ := h.cells (by omega)
    refine ⟨b, o, e, fun i hi => ?_⟩
    rw [List.length_take] at hi
    have := hc i (by omega)
    rw [nums_get l i (by omega)] at this
    rw [nums_get (l.take j) i (by rw [List.length_take]; omega), List.getElem_take]
    exact this
theorem slice_from (p : Option Addr) (n c k : Nat) (hk : k ≤ n) (w : World) : (Instr.slice 37 (.slice p n c) (some (.int .i64 (k : Int))) none none).run Tryd.prog w = .ok (.slice (adv p c k) (n - k) (c - k)) w := by
  rw [run_slice_l w 37 p n c (by kernel_rfl) .i64 (k : Int) (by omega) (by omega)]
  have hz : ∀ w', (sizeOf (Tryd.prog.elem 37)).run Tryd.prog w' = .ok 1 w' := fun w' => by kernel_rfl
  rw [hz]
  show Result.ok (sliced p (k : Int).toNat n c 1) w = _
  unfold sliced adv
  rw [show (k : Int).toNat = k by omega]
theorem slice_to (p : Option Addr) (n c j : Nat) (hj : j ≤ c) (w : World) : (Instr.slice 37 (.slice p n c) none (some (.int .i64 (j : Int))) none).run Tryd.prog w = .ok (.slice (adv p c 0) j c) w := by
  rw [run_slice_h w 37 p n c (by kernel_rfl) .i64 (j : Int) (by omega) (by omega)]
  have hz : ∀ w', (sizeOf (Tryd.prog.elem 37)).run Tryd.prog w' = .ok 1 w' := fun w' => by kernel_rfl
  rw [hz]
  show Result.ok (sliced p 0 (j : Int).toNat c 1) w = _
  unfold sliced adv
  rw [show (j : Int).toNat = j by omega]
  rfl
theorem index_no (w : World) (p : Option Addr) (c : Nat) (l : List UInt8) (h0 : l ≠ []) (h : Hid (SB w p c l)) (hn : Hid (10 ∉ l)) :
    Calls Tryd.prog 34 #[.slice p l.length c, .int .u8 10] w fun e w' => e = .returned (.int .i64 (-1)) ∧ w = w' := by
  obtain ⟨b, o, e, hc⟩ := h.out.cells (List.length_pos_iff.mpr h0)
  rw [e]
  have := Tryd.bytes_IndexByte b o l.length c (nums l) 10 w (nums_length l) hc
  rw [nums_back] at this
  refine this.mono ?_
  rintro e w' ⟨rfl, rfl⟩
  have hi : Lib.indexByte l (10 : Int).toNat.toUInt8 = -1 := by
    have hge := Lib.indexByte_ge l 10
    by_cases hh : Lib.indexByte l 10 = -1
    · exact hh
    · exfalso
      obtain ⟨k, hk⟩ : ∃ k : Nat, Lib.indexByte l 10 = k := ⟨(Lib.indexByte l 10).toNat, by omega⟩
      have := (Lib.indexByte_some hk).1
      exact hn.out (List.mem_of_getElem? this)
  exact ⟨by rw [hi], rfl⟩
theorem index_yes (w : World) (p : Option Addr) (c : Nat) (L R : List UInt8) (h : Hid (SB w p c (L ++ 10 :: R))) (hn : Hid (10 ∉ L)) :
    Calls Tryd.prog 34 #[.slice p (L ++ 10 :: R).length c, .int .u8 10] w fun e w' => e = .returned (.int .i64 (L.length : Int)) ∧ w = w' := by
  obtain ⟨b, o, e, hc⟩ := h.out.cells (by rw [List.length_append, List.length_cons]; omega)
  rw [e]
  have := Tryd.bytes_IndexByte b o (L ++ 10 :: R).length c (nums (L ++ 10 :: R)) 10 w (nums_length _) hc
  rw [nums_back] at this
  refine this.mono ?_
  rintro e w' ⟨rfl, rfl⟩
  have hi : Lib.indexByte (L ++ 10 :: R) (10 : Int).toNat.toUInt8 = (L.length : Int) := by
    have hge := Lib.indexByte_ge (L ++ 10 :: R) 10
    by_cases hh : Lib.indexByte (L ++ 10 :: R) 10 = -1
    · exact absurd (by simp) (Lib.indexByte_none hh L.length)
    · obtain ⟨k, hk⟩ : ∃ k : Nat, Lib.indexByte (L ++ 10 :: R) 10 = k := ⟨(Lib.indexByte (L ++ 10 :: R) 10).toNat, by omega⟩
      obtain ⟨h1, h2⟩ := Lib.indexByte_some hk
      show Lib.indexByte (L ++ 10 :: R) 10 = _
      rw [hk]
      congr 1
      rcases Nat.lt_trichotomy k L.length with h | h | h
      · exfalso
        rw [List.getElem?_append_left h] at h1
        exact hn.out (List.mem_of_getElem? h1)
      · exact h
      · exfalso
        exact h2 L.length h (by simp)
  exact ⟨by rw [hi], rfl⟩
theorem wrap_up {i : Nat} (h : i ≤ 9223372036854775806) : wrap64 ((i : Int) + 1) = ((i + 1 : Nat) : Int) := by
  unfold wrap64
  omega
/-- Where the first two slashes stand from place k on, or -1. -/
def sl (l : List UInt8) (k : Nat) : Int := if (cutS (l.drop k)).length = (l.drop k).length then -1 else ((k + (cutS (l.drop k)).length : Nat) : Int)
theorem sl_end (l : List UInt8) (k : Nat) (hk : l.length < k + 2) : sl l k = -1 := by
  unfold sl
  by_cases h : k < l.length
  · have e := List.drop_eq_getElem_cons h
    have e2 : l.drop (k + 1) = [] := List.drop_eq_nil_of_le (by omega)
    have ez : cutS (l.drop k) = l.drop k := by
      rw [e, e2]
      unfold cutS
      rw [if_neg (by simp)]
      rfl
    rw [ez, if_pos rfl]
  · have e2 : l.drop k = [] := List.drop_eq_nil_of_le (by omega)
    rw [e2]
    rfl
theorem sl_hit (l : List UInt8) (k : Nat) (hk : k + 2 ≤ l.length) (h1 : l[k]? = some 47) (h2 : l[k + 1]? = some 47) : sl l k = (k : Int) := by
  have e := List.drop_eq_getElem_cons (show k < l.length by omega)
  have e2 := List.drop_eq_getElem_cons (show k + 1 < l.length by omega)
  have h3 := (List.getElem?_eq_some_iff.mp h1).2
  have h4 := (List.getElem?_eq_some_iff.mp h2).2
  have ez : cutS (l.drop k) = [] := by
    rw [e]
    unfold cutS
    rw [if_pos ⟨h3, by rw [e2, h4]; rfl⟩]
  unfold sl
  rw [ez, if_neg (by rw [List.length_drop]; simp; omega)]
  rfl
theorem sl_miss (l : List UInt8) (k : Nat) (hk : k + 2 ≤ l.length) (h : ¬ (l[k]? = some 47 ∧ l[k + 1]? = some 47)) : sl l k = sl l (k + 1) := by
  have e := List.drop_eq_getElem_cons (show k < l.length by omega)
  have e2 := List.drop_eq_getElem_cons (show k + 1 < l.length by omega)
  have ez : cutS (l.drop k) = l[k] :: cutS (l.drop (k + 1)) := by
    conv => lhs; rw [e]
    conv => lhs; unfold cutS
    rw [if_neg]
    rintro ⟨h3, h4⟩
    rw [e2] at h4
    simp only [List.head?_cons, Option.some.injEq] at h4
    exact h ⟨by rw [List.getElem?_eq_getElem (by omega), h3], by rw [List.getElem?_eq_getElem (by omega), h4]⟩
  unfold sl
  have el : (l.drop k).length = (l.drop (k + 1)).length + 1 := by rw [List.length_drop, List.length_drop]; omega
  rw [ez, el, List.length_cons]
  by_cases hq : (cutS (l.drop (k + 1))).length = (l.drop (k + 1)).length
  · rw [if_pos hq, if_pos (by omega)]
  · rw [if_neg hq, if_neg (by omega)]
    congr 1
    omega
theorem slice_mid (p : Option Addr) (n c i j : Nat) (hij : i ≤ j) (hj : j ≤ c) (w : World) : (Instr.slice 37 (.slice p n c) (some (.int .i64 (i : Int))) (some (.int .i64 (j : Int))) none).run Tryd.prog w = .ok (.slice (adv p c i) (j - i) (c - i)) w := by
  rw [run_slice_lh w 37 p n c (by kernel_rfl) .i64 .i64 (i : Int) (j : Int) (by omega) (by omega) (by omega)]
  have hz : ∀ w', (sizeOf (Tryd.prog.elem 37)).run Tryd.prog w' = .ok 1 w' := fun w' => by kernel_rfl
  rw [hz]
  show Result.ok (sliced p (i : Int).toNat (j : Int).toNat c 1) w = _
  unfold sliced adv
  rw [show (i : Int).toNat = i by omega, show (j : Int).toNat = j by omega]
theorem conv_of (w : World) (p : Option Addr) (c : Nat) (l : List UInt8) (h : SB w p c l) (h0 : 0 < l.length) : (convert 37 9 (.slice p l.length c)).run Tryd.prog w = .ok (.string (strOfNums (nums l))) w := by
  obtain ⟨b, o, e, hc⟩ := h.cells h0
  rw [e]
  exact run_convert_bytes_arg w 37 5 Tryd.underlying37 Tryd.underlying5 b o l.length c (nums l) (nums_length l) hc 9 Tryd.underlying9
theorem two_iff (l : List UInt8) (k : Nat) (hk : k + 2 ≤ l.length) : ((strOfNums (nums ((l.take (k + 2)).drop k))).toList == (strOfNums (nums [47, 47])).toList) = decide (l[k]? = some 47 ∧ l[k + 1]? = some 47) := by
  have e := List.drop_eq_getElem_cons (show k < l.length by omega)
  have e2 := List.drop_eq_getElem_cons (show k + 1 < l.length by omega)
  have e3 : (l.take (k + 2)).drop k = [l[k], l[k + 1]] := by
    rw [List.drop_take, e, e2, show k + 2 - k = 2 by omega]
    rfl
  have e4 : ∀ x : List UInt8, (strOfNums (nums x)).toList = x := fun x => by
    rw [Lib.toList_data, strOfNums_data]
    exact nums_back x
  rw [e3, e4, e4, Bool.eq_iff_iff, beq_iff_eq, decide_eq_true_eq, List.getElem?_eq_getElem (by omega), List.getElem?_eq_getElem (by omega)]
  simp
theorem ret_int {a b : Int} (h : a = b) : Ending.returned (.int .i64 a) = .returned (.int .i64 b) := by rw [h]
set_option maxHeartbeats 4000000 in
set_option maxRecDepth 100000 in
theorem bidx_is (w : World) (p : Option Addr) (c g : Nat) (l : List UInt8) (r : Int) (h : Hid (SB w p c l)) (hl : l.length ≤ 9223372036854775800) (hg0 : Hid (w.cell? ⟨g, 0, none⟩ = some (.int .u8 47))) (hg1 : Hid (w.cell? ⟨g, 1, none⟩ = some (.int .u8 47)))
    (hr : Hid (sl l 0 = r)) :
    Calls Tryd.prog 35 #[.slice p l.length c, .slice (some ⟨g, 0, none⟩) 2 2] w fun e w' => e = .returned (.int .i64 r) ∧ Drawn0 w w' := by
  have hcap := h.out.cap
  have s47 : Hid (SB w (some ⟨g, 0, none⟩) 2 [47, 47]) := Lib.hid ⟨Or.inr ⟨g, 0, rfl⟩, by simp, fun _ => ⟨g, 0, rfl, fun i hi => by
    have hi2 : i < 2 := hi
    rcases (by omega : i = 0 ∨ i = 1) with rfl | rfl
    · exact hg0.out
    · exact hg1.out⟩⟩
  obtain ⟨n, hn⟩ : ∃ n, n = l.length := ⟨_, rfl⟩
  have HN := Lib.hid hn
  have hl' : n ≤ 9223372036854775800 := by omega
  have hcap' : n ≤ c := by omega
  rw [← hn]
  clear hg0 hg1 hn hl hcap
  go_enter Tryd.func35, Tryd.ntmps35
  go_wp2
  go_loopg [5] n (fun kq v5 w' => ∃ (k : Nat), v5 = .int .i64 (k : Int) ∧ k ≤ n ∧ n ≤ kq + k ∧ Hid (sl l k = r) ∧ Drawn0 w w')
  case atStart => exact ⟨0, rfl, by omega, by omega, hr, Drawn0.refl _⟩
  case round =>
    clear hr
    obtain ⟨k, rfl, hk, hq, HR, ⟨m, rfl⟩⟩ := hrel
    have hk2 : (0 : Int) ≤ (k : Int) + 2 := by omega
    have hk3 : (k : Int) + 2 ≤ 9223372036854775807 := by omega
    by_cases hlt : k + 2 ≤ n
    · have b1 : decide ((k : Int) + 2 ≤ (n : Int)) = true := decide_eq_true (by omega)
      have hle : k + 2 ≤ l.length := by have := HN.out; omega
      have hsub := (h.out.take (k + 2) hle).drop k (by rw [List.length_take]; omega)
      have hlen : ((l.take (k + 2)).drop k).length = 2 := by rw [List.length_drop, List.length_take]; omega
      obtain ⟨p2, hp2⟩ : ∃ p2, p2 = adv (adv p c 0) c k := ⟨_, rfl⟩
      obtain ⟨c2, hc2⟩ : ∃ c2, c2 = c - k := ⟨_, rfl⟩
      rw [← hp2, ← hc2] at hsub
      have e0 : adv p c 0 = p := by
        unfold adv
        split
        · rfl
        · cases p with
          | none => rfl
          | some a => simp [Addr.add]
      have hsl : ∀ W, (Instr.slice 37 (.slice p n c) (some (.int .i64 (k : Int))) (some (.int .i64 ((k : Int) + 2))) none).run Tryd.prog W = .ok (.slice p2 2 c2) W := by
        intro W
        have := slice_mid p n c k (k + 2) (by omega) (by omega) W
        rw [show ((k + 2 : Nat) : Int) = (k : Int) + 2 by omega, show k + 2 - k = 2 by omega] at this
        rw [this, hp2, hc2, e0]
      obtain ⟨S1, hS1⟩ : ∃ S1, S1 = strOfNums (nums ((l.take (k + 2)).drop k)) := ⟨_, rfl⟩
      obtain ⟨S2, hS2⟩ : ∃ S2, S2 = strOfNums (nums [47, 47]) := ⟨_, rfl⟩
      have hc1 : ∀ q, (convert 37 9 (.slice p2 2 c2)).run Tryd.prog (w.drewN q) = .ok (.string S1) (w.drewN q) := fun q => by
        have := conv_of (w.drewN q) p2 c2 _ (hsub.drewN q) (by omega)
        rw [hlen] at this
        rw [this, hS1]
      have hc3 : ∀ q, (convert 37 9 (.slice (some ⟨g, 0, none⟩) 2 2)).run Tryd.prog (w.drewN q) = .ok (.string S2) (w.drewN q) := fun q => by
        have := conv_of (w.drewN q) (some ⟨g, 0, none⟩) 2 [47, 47] (s47.out.drewN q) (by simp)
        rw [hS2]
        exact this
      have hti := two_iff l k hle
      rw [← hS1, ← hS2] at hti
      clear hsub hlen hp2 hc2 e0 hS1 hS2
      by_cases hh : l[k]? = some 47 ∧ l[k + 1]? = some 47
      · have bq : (S1.toList == S2.toList) = true := by rw [hti]; exact decide_eq_true hh
        have RE : Hid ((k : Int) = r) := Lib.hid (by rw [← HR.out, sl_hit l k hle hh.1 hh.2])
        clear hti hh HR hle
        go_wp2
        go_quiet (fail)
        go_wp2
        go_ret
        exact ⟨ret_int RE.out, by repeat (first | exact Drawn0.refl _ | apply Drawn0.step)⟩
      · have bq : (S1.toList == S2.toList) = false := by rw [hti]; exact decide_eq_false hh
        have RE : Hid (sl l (k + 1) = r) := Lib.hid (by rw [← HR.out, sl_miss l k hle hh])
        clear hti hh HR hle
        go_wp2
        go_quiet (fail)
        go_wp2
        go_roundg (gk - 1)
        case measure => omega
        case rel => exact ⟨k + 1, by go_num, by omega, by omega, RE, by repeat (first | exact Drawn0.refl _ | apply Drawn0.step)⟩
    · have b1 : decide ((k : Int) + 2 ≤ (n : Int)) = false := decide_eq_false (by omega)
      have RE : Hid (-1 = r) := Lib.hid (by rw [← HR.out, sl_end l k (by have := HN.out; omega)])
      clear HR
      go_wp2
      go_ret
      exact ⟨ret_int RE.out, by repeat (first | exact Drawn0.refl _ | apply Drawn0.step)⟩
theorem trim_is (w : World) (p : Option Addr) (c : Nat) (l : List UInt8) (h : Hid (SB w p c l)) (hl : l.length ≤ 9223372036854775800) (ha : Hid (Ascii l)) (ht : Hid (Lib.TabIs Tryd.prog w "bytes.asciiSpace" .u8 Lib.asciiSpaceTab)) :
    Calls Tryd.prog 36 #[.slice p l.length c] w fun e w' => ∃ p' c', e = .returned (.slice p' (Lib.trimSpace l).length c') ∧ SB w p' c' (Lib.trimSpace l) ∧ w = w' := by
  obtain ⟨hg, hcap, hcells⟩ := h.out
  rcases hg with ⟨rfl, rfl, rfl⟩ | ⟨b, o, rfl⟩
  · refine (Tryd.bytes_TrimSpace_nil w).mono ?_
    rintro e w' ⟨rfl, rfl⟩
    exact ⟨none, 0, rfl, ⟨Or.inl ⟨rfl, rfl, rfl⟩, Nat.le_refl _, fun h0 => absurd h0 (by simp [Lib.trimSpace])⟩, rfl⟩
  · have hc : ∀ i, i < l.length → w.cell? ⟨b, o + i, none⟩ = some (.int .u8 ((nums l).getD i 0)) := by
      intro i hi
      obtain ⟨b', o', e', hc'⟩ := hcells (by omega)
      have e2 := Option.some.inj e'
      simp only [Addr.mk.injEq, and_true] at e2
      rw [e2.1, e2.2]
      exact hc' i hi
    have := Tryd.bytes_TrimSpace b o l.length c (nums l) w (nums_length l) hcap (by omega) hc (fun i hi => by
      rw [nums_get l i hi]
      exact ⟨by omega, by have := ha.out l[i] (List.getElem_mem hi); omega⟩) ht.out
    rw [nums_back] at this
    refine this.mono ?_
    rintro e w' ⟨rfl, rfl⟩
    unfold Lib.bytesTrimSpace
    by_cases h0 : l.dropWhile Lib.isSp = []
    · rw [if_pos h0]
      have et : Lib.trimSpace l = [] := by unfold Lib.trimSpace; rw [h0]; rfl
      rw [et]
      exact ⟨none, 0, rfl, ⟨Or.inl ⟨rfl, rfl, rfl⟩, Nat.le_refl _, fun h0 => absurd h0 (by simp)⟩, rfl⟩
    · rw [if_neg h0]
      refine ⟨_, _, rfl, ?_, rfl⟩
      -- the bytes that are left begin at spLo
      have hsuf : l.drop (Lib.spLo l) = l.dropWhile Lib.isSp := by
        have hs : l.dropWhile Lib.isSp <:+ l := List.dropWhile_suffix _
        unfold Lib.spLo
        exact (List.suffix_iff_eq_drop.mp hs).symm
      have hpre : Lib.trimSpace l <+: l.drop (Lib.spLo l) := by
        rw [hsuf]
        unfold Lib.trimSpace
        have := List.dropWhile_suffix Lib.isSp (l := (l.dropWhile Lib.isSp).reverse)
        have h2 := List.reverse_prefix.mpr this
        rw [List.reverse_reverse] at h2
        exact h2
      have hlo : Lib.spLo l + (l.drop (Lib.spLo l)).length = l.length := by
        have : Lib.spLo l ≤ l.length := by unfold Lib.spLo; omega
        rw [List.length_drop]; omega
      have hle := hpre.length_le
      refine ⟨Or.inr ⟨b, _, rfl⟩, by omega, fun h1 => ⟨b, _, rfl, fun i hi => ?_⟩⟩
      have hi2 : i < (l.drop (Lib.spLo l)).length := by omega
      have hc2 := hc (Lib.spLo l + i) (by omega)
      rw [nums_get l _ (by omega)] at hc2
      rw [nums_get _ i hi, hpre.getElem hi, List.getElem_drop, show o + Lib.spLo l + i = o + (Lib.spLo l + i) by omega]
      exact hc2
theorem pre_is (w : World) (p : Option Addr) (c g : Nat) (l : List UInt8) (r : Bool) (h : Hid (SB w p c l)) (hm : Hid (∀ i, i < 6 → w.cell? ⟨g, i, none⟩ = some (.int .u8 ((nums modL).getD i 0)))) (hr : Hid (decide (modL <+: l) = r)) :
    Calls Tryd.prog 37 #[.slice p l.length c, .slice (some ⟨g, 0, none⟩) 6 6] w fun e w' => e = .returned (.bool r) ∧ w = w' := by
  have := Tryd.bytes_HasPrefix_all p (some ⟨g, 0, none⟩) l.length c 6 6 (nums l) (nums modL) w (nums_length l) (nums_length _) h.out.cap h.out.cells (fun _ => ⟨g, 0, rfl, fun i hi => by rw [Nat.zero_add]; exact hm.out i hi⟩)
  rw [nums_back, nums_back] at this
  refine this.mono ?_
  rintro e w' ⟨rfl, rfl⟩
  refine ⟨?_, rfl⟩
  rw [← hr.out]
  congr 2
  unfold Lib.hasPrefix
  rw [Bool.eq_iff_iff, List.isPrefixOf_iff_prefix, decide_eq_true_eq]
end Go.Proofs.YtlnmchehnhgfnaaDoor.M
