/- impl.Format, the law's own check, and the law FnExactFormat. Conditions: the table of white space lies in memory. -/
import Derived.Test.YtbifcpokkfiagaaDoorFf3
import Derived.Test.YtbifcpokkfiagaaDoorGb
namespace Go.Proofs.YtbifcpokkfiagaaDoor.F
open Go.RowKit Go.Proofs.YtbifcpokkfiagaaDoorW.PrintWords Go.Proofs.YtbifcpokkfiagaaDoor.PFm
set_option linter.unusedVariables false

/-- The text of bytes. -/
def strB (l : List UInt8) : ByteArray := ⟨l.toArray⟩

theorem strB_nums (l : List UInt8) : strOfNums (l.map (fun b => (b.toNat : Int))) = strB l := by
  have h : (strOfNums (l.map (fun b => (b.toNat : Int)))).data.toList = l := by
    rw [strOfNums_data, List.map_map]
    conv => rhs; rw [← List.map_id l]
    apply List.map_congr_left
    intro b _
    simp
  unfold strB
  have h2 : (strOfNums (l.map (fun b => (b.toNat : Int)))).data = l.toArray := by
    apply Array.ext'
    rw [h]
  cases hs : strOfNums (l.map (fun b => (b.toNat : Int))) with
  | mk d =>
    rw [hs] at h2
    simp only at h2
    rw [h2]

theorem conv_rd {w : World} {p : Option Addr} {c : Nat} {l : List UInt8} (h : Rd w p c l) : (convert 37 9 (.slice p l.length c)).run Tryd.prog w = .ok (.string (strB l)) w := by
  obtain ⟨hc, hr⟩ := h
  rcases hr with ⟨rfl, rfl, rfl⟩ | ⟨g, rfl, hr⟩
  · exact run_convert_bytes_nil w 37 5 Tryd.underlying37 Tryd.underlying5 _ _ 9 Tryd.underlying9
  · have := run_convert_bytes_arg w 37 5 Tryd.underlying37 Tryd.underlying5 g 0 l.length c (l.map (fun b => (b.toNat : Int))) (by simp) (fun i hi => by
      rw [Nat.zero_add, hr i hi, List.getD_eq_getElem?_getD, List.getElem?_map, List.getElem?_eq_getElem hi]
      rfl) 9 Tryd.underlying9
    rw [this, strB_nums]

theorem SynV.parts {w W : World} {go : Nat} {v : Value} {xs : List StD} (h : SynV w W go v xs) (n : Nat) (hn : n = xs.length) : ∃ Av cv, v = .slice Av n cv ∧ W.cell? ⟨go, 1, none⟩ = some (.slice none 0 0) ∧ W.cell? ⟨go, 4, none⟩ = some (.slice Av n cv) ∧ kEx.C W Av n xs ∧ Below w.heap.size w W := by
  subst hn
  obtain ⟨Av, cv, rfl, -, hC⟩ := Kd.R_reads h.2.1
  exact ⟨Av, cv, rfl, by rw [blk_cell h.1 1]; rfl, h.cell, hC, h.2.2.1⟩

theorem rd_len {w : World} {p : Option Addr} {c : Nat} {l : List UInt8} (h : Rd w p c l) (k : Nat) (hk : k = l.length) : ∀ W : World, W.heap = w.heap → (convert 37 9 (.slice p k c)).run Tryd.prog W = .ok (.string (strB l)) W := by
  subst hk
  intro W hW
  have h2 : Rd W p c l := by
    obtain ⟨hc, hr⟩ := h
    refine ⟨hc, ?_⟩
    rcases hr with hr | ⟨g, e, hr⟩
    · exact Or.inl hr
    · refine Or.inr ⟨g, e, fun i hi => ?_⟩
      rw [← hr i hi]
      unfold World.cell?
      rw [hW]
  exact conv_rd h2

set_option maxRecDepth 100000 in
set_option maxHeartbeats 4000000 in
theorem format_is {w : World} {A : Option Addr} {c : Nat} {tree : List S30} (n : Nat) (hn : Hid (n = tree.length)) (HT : Hid (k30.C w A n tree)) (hok : Hid (∀ s ∈ tree, S30Ok s)) (hn50 : n ≤ 50) (hT : Hid (Tab w)) :
    Calls Tryd.prog 7 #[.slice A n c] w fun e w' => e = .returned (.string (strB (joinS (tree.map stOf)))) ∧ Below w.heap.size w w' := by
  have hsm : Hid (∀ s ∈ tree, Small s) := Lib.hid (fun s hs => (hok.out s hs).1)
  have hst : Hid (∀ s ∈ tree.map stOf, StOk s) := Lib.hid (fun s hs => by
    obtain ⟨t, ht, rfl⟩ := List.mem_map.mp hs
    exact (hok.out t ht).2.1)
  have hn2 : Hid (n = (tree.map stOf).length) := Lib.hid (by rw [List.length_map]; exact hn.out)
  go_enter Tryd.func7, Tryd.ntmps7
  go_wp2_with (first
    | (go_at_call 14; (with_reducible refine (syn_is n hn HT hsm hn50).mono ?_); rintro e w2 ⟨go, v, rfl, hS⟩; obtain ⟨Av, cv, rfl, hg1, hg4, hC, hb2⟩ := hS.out.parts n hn2.out; have HC := Lib.hid hC; have HB2 := Lib.hid hb2; have hT2 := Lib.hid (hT.out.below hb2); clear hC hb2)
    | (go_at_call 13; (with_reducible refine (fmt_is go hT2 hg1 n hn2 hg4 HC hst hn50).mono ?_); rintro e w3 ⟨p, k, c3, rfl, hk, hR, hb3⟩; have hcv := rd_len hR k hk w3 rfl; have HB3 := Lib.hid (HB2.out.trans (hb3.mono HB2.out.size)); clear hk hR hb3))
  go_ret
  exact ⟨rfl, HB3.out⟩

/-! ### the law's own check -/
def t1 : S30 := ⟨0, [⟨#[97]⟩], [], [], ⟨#[]⟩⟩

theorem t1_ok : S30Ok t1 := by
  have hw : Word (lst (⟨#[97]⟩ : ByteArray)) := ⟨by simp, by
    intro c hc
    have : c = 97 := by simpa using hc
    subst this
    exact Or.inr (Or.inr (by decide)), by simp⟩
  refine ⟨⟨by simp [t1], by simp [t1], by simp [t1], by simp [t1], by simp [t1]⟩, ?_, Or.inl rfl, fun _ => rfl, fun h => by simp [t1] at h⟩
  rw [stOf_line' (by simp [t1]) (by simp [t1])]
  refine ⟨by simp [t1], fun s hs => ?_, by simp [t1], ?_, by simp [t1], by simp [t1]⟩
  · have hs' : sufO (⟨#[]⟩ : ByteArray) = some s := hs
    have h0 : sufO (⟨#[]⟩ : ByteArray) = none := by unfold sufO; rw [if_pos (by rw [toList_data])]
    rw [h0] at hs'
    simp at hs'
  · intro t ht
    have : t = ⟨#[97]⟩ := by simpa [t1] using ht
    subst this
    exact hw

theorem t1_text : joinS ([t1].map stOf) = [97, 10] := by
  have e : stOf t1 = .line ⟨[], ⟨#[]⟩, [⟨#[97]⟩]⟩ := stOf_line' (by simp [t1]) (by simp [t1])
  rw [List.map_cons, List.map_nil, e]
  have h : stB (.line ⟨[], ⟨#[]⟩, [⟨#[97]⟩]⟩) = [97, 10] := by
    simp only [stB, lnB]
    rw [sfx_nil (by rw [toList_data])]
    rfl
  simp [joinS, h]

theorem t1_lies {W : World} {b g : Nat} {c : Nat} (hb : W.heap[b]? = some (.cells #[.int .i64 0, .slice (some ⟨g, 0, none⟩) 1 c, .slice none 0 0, .slice none 0 0, .string ⟨#[]⟩] 30 (0, 0))) (hc : 1 ≤ c) (hg : W.cell? ⟨g, 0, none⟩ = some (.string ⟨#[97]⟩)) : k30.C W (some ⟨b, 0, none⟩) 1 [t1] := by
  have hs : Kd.string.C W (some ⟨g, 0, none⟩) 1 [(⟨#[97]⟩ : ByteArray)] := ⟨rfl, by omega, fun _ => ⟨_, rfl, fun j p hj => by
    have hj0 : j = 0 := by
      have := (List.getElem?_eq_some_iff.mp hj).1
      simp at this
      omega
    subst hj0
    have hp : p = ⟨#[97]⟩ := by simpa using hj.symm
    subst hp
    refine ⟨[.string ⟨#[97]⟩], rfl, rfl, fun i u hu => ?_⟩
    have hi0 : i = 0 := by
      have := (List.getElem?_eq_some_iff.mp hu).1
      simp at this
      omega
    subst hi0
    have hu' : u = .string ⟨#[97]⟩ := by simpa using hu.symm
    subst hu'
    simpa [Addr.add, Kd.string, Kd.scalar] using hg⟩⟩
  refine ⟨rfl, by omega, fun _ => ⟨_, rfl, fun j p hj => ?_⟩⟩
  have hj0 : j = 0 := by
    have := (List.getElem?_eq_some_iff.mp hj).1
    simp at this
    omega
  subst hj0
  have hp : p = t1 := by simpa using hj.symm
  subst hp
  refine ⟨[.int .i64 0, .slice (some ⟨g, 0, none⟩) 1 c, .slice none 0 0, .slice none 0 0, .string ⟨#[]⟩], rfl, ?_, fun i u hu => ?_⟩
  · exact k30_mk W t1 (A1 := some ⟨g, 0, none⟩) (c1 := c) hc hs (A2 := none) (c2 := 0) (Nat.le_refl _) (Kd.C_nil k35 W) (A3 := none) (c3 := 0) (Nat.le_refl _) (Kd.C_nil Kd.string W)
  · have h2 := cell_of_blk hb i u (by simpa using hu)
    rw [Addr.add_lit, Nat.zero_mul, Nat.zero_add, Nat.zero_add]
    exact h2

abbrev Xa : Obj := .cells #[.string ⟨#[97]⟩] 9 (0, 0)
abbrev Xb (g : Nat) : Obj := .cells #[.int .i64 0, .slice (some ⟨g, 0, none⟩) 1 1, .slice none 0 0, .slice none 0 0, .string ⟨#[]⟩] 30 (0, 0)

theorem format1_is {w : World} (hT : Hid (Tab w)) : Calls Tryd.prog 7 #[.slice (some ⟨w.heap.size + 1, 0, none⟩) 1 1] ((w.alloc Xa).alloc (Xb w.heap.size)) fun e w' => e = .returned (.string ⟨#[97, 10]⟩) ∧ Below w.heap.size w w' := by
  have hb1 := below_allocs w Xa
  have hb2 := below_allocs (w.alloc Xa) (Xb w.heap.size)
  have hb : Below w.heap.size w ((w.alloc Xa).alloc (Xb w.heap.size)) := hb1.trans (hb2.mono hb1.size)
  have hC : k30.C ((w.alloc Xa).alloc (Xb w.heap.size)) (some ⟨w.heap.size + 1, 0, none⟩) 1 [t1] := by
    refine t1_lies (g := w.heap.size) (c := 1) ?_ (Nat.le_refl _) ?_
    · have := heap_alloc_new (w.alloc Xa) (Xb w.heap.size)
      rw [alloc_size] at this
      exact this
    · exact cell_up hb2 (cell_of_blk (heap_alloc_new w Xa) 0 _ rfl)
  refine (format_is 1 (Lib.hid rfl) (Lib.hid hC) (Lib.hid (fun s hs => ?_)) (by omega) (Lib.hid (hT.out.below hb))).mono ?_
  · have : s = t1 := by simpa using hs
    subst this
    exact t1_ok
  · rintro e w' ⟨rfl, h⟩
    refine ⟨?_, hb.trans (h.mono hb.size)⟩
    rw [t1_text]
    rfl

set_option maxRecDepth 100000 in
set_option maxHeartbeats 4000000 in
theorem formats_is {w : World} (hT : Hid (Tab w)) : Calls Tryd.prog 6 #[] w fun e w' => e = .returned (.bool true) ∧ Below w.heap.size w w' := by
  go_enter Tryd.func6, Tryd.ntmps6
  go_wp2_with (first
    | (go_at_call 7; (with_reducible refine (format1_is hT).mono ?_); rintro e w2 ⟨rfl, hb⟩))
  go_ret
  exact ⟨rfl, hb⟩

/-! ### the law -/
theorem fits_at {w0 w : World} {A : Option Addr} {c n : Nat} {tree : List S30} {r : Bool} (h : Hid (∃ k, laws_zzFits11.f k tree = some r)) (hn : Hid (n = tree.length)) (HT : Hid (k30.C w0 A n tree)) (hb : Hid (Below w0.heap.size w0 w)) (hc : n ≤ c) :
    Calls Tryd.prog 4 #[.slice A n c] w fun e w' => e = .returned (.bool r) ∧ Hid (Below w0.heap.size w0 w') := by
  obtain ⟨k, hk⟩ := h.out
  have hn' := hn.out
  subst hn'
  refine (laws_zzFits11.calls k A c tree r w (Kd.C_below HT.out hb.out) hc hk).mono ?_
  rintro e w' ⟨rfl, h⟩
  exact ⟨rfl, Lib.hid (hb.out.trans (h.mono hb.out.size))⟩

theorem treeOk_at {w0 w : World} {A : Option Addr} {c n : Nat} {tree : List S30} {r : Bool} (h : Hid (∃ k, spec_TreeOk.f k tree = some r)) (hn : Hid (n = tree.length)) (HT : Hid (k30.C w0 A n tree)) (hb : Hid (Below w0.heap.size w0 w)) (hc : n ≤ c) :
    Calls Tryd.prog 5 #[.slice A n c] w fun e w' => e = .returned (.bool r) ∧ Hid (Below w0.heap.size w0 w') := by
  obtain ⟨k, hk⟩ := h.out
  have hn' := hn.out
  subst hn'
  refine (spec_TreeOk.calls k A c tree r w (Kd.C_below HT.out hb.out) hc hk).mono ?_
  rintro e w' ⟨rfl, h⟩
  exact ⟨rfl, Lib.hid (hb.out.trans (h.mono hb.out.size))⟩

theorem write_at {w0 w : World} {A : Option Addr} {c n : Nat} {tree : List S30} (hok : Hid (∀ s ∈ tree, S30Ok s)) (hn : Hid (n = tree.length)) (HT : Hid (k30.C w0 A n tree)) (hb : Hid (Below w0.heap.size w0 w)) (hc : n ≤ c) (hn50 : n ≤ 50) :
    Calls Tryd.prog 8 #[.slice A n c, .string ⟨#[32]⟩, .string ⟨#[10]⟩] w fun e w' => e = .returned (.string (strB (joinS (tree.map stOf)))) ∧ Hid (Below w0.heap.size w0 w') := by
  have hn' := hn.out
  subst hn'
  obtain ⟨k, r, hk, hr⟩ := (t_write tree hok.out hn50).rounds
  refine (spec_Write.calls k A c tree _ _ r w (Kd.C_below HT.out hb.out) hc hk).mono ?_
  rintro e w' ⟨rfl, h⟩
  refine ⟨?_, Lib.hid (hb.out.trans (h.mono hb.out.size))⟩
  rw [← hr]
  rfl

theorem format_at {w0 w : World} {A : Option Addr} {c n : Nat} {tree : List S30} (hok : Hid (∀ s ∈ tree, S30Ok s)) (hn : Hid (n = tree.length)) (HT : Hid (k30.C w0 A n tree)) (hb : Hid (Below w0.heap.size w0 w)) (hn50 : n ≤ 50) (hT : Hid (Tab w0)) :
    Calls Tryd.prog 7 #[.slice A n c] w fun e w' => e = .returned (.string (strB (joinS (tree.map stOf)))) ∧ Hid (Below w0.heap.size w0 w') := by
  refine (format_is n hn (Lib.hid (Kd.C_below HT.out hb.out)) hok hn50 (Lib.hid (hT.out.below hb.out))).mono ?_
  rintro e w' ⟨rfl, h⟩
  exact ⟨rfl, Lib.hid (hb.out.trans (h.mono hb.out.size))⟩

theorem formats_at {w0 w : World} (hb : Hid (Below w0.heap.size w0 w)) (hT : Hid (Tab w0)) : Calls Tryd.prog 6 #[] w fun e w' => e = .returned (.bool true) ∧ Hid (Below w0.heap.size w0 w') := by
  refine (formats_is (Lib.hid (hT.out.below hb.out))).mono ?_
  rintro e w' ⟨rfl, h⟩
  exact ⟨rfl, Lib.hid (hb.out.trans (h.mono hb.out.size))⟩

set_option maxRecDepth 100000 in
set_option maxHeartbeats 4000000 in
/-- The law, at a tree that lies in memory. -/
theorem law_is {w : World} {A : Option Addr} {c : Nat} {tree : List S30} (n : Nat) (hn : Hid (n = tree.length)) (HT : Hid (k30.C w A n tree)) (hc : n ≤ c) (hT : Hid (Tab w)) :
    Calls Tryd.prog 3 #[.slice A n c] w fun e w' => e = .returned (.bool true) ∧ Hid (Below w.heap.size w w') := by
  have HB := Lib.hid (Below.refl w.heap.size w)
  obtain ⟨k1, r1, hk1, hr1⟩ := (t_fits11 tree).rounds
  have HF : Hid (∃ k, laws_zzFits11.f k tree = some r1) := Lib.hid ⟨k1, hk1⟩
  cases r1 with
  | false =>
    clear hk1 hr1
    go_enter Tryd.func3, Tryd.ntmps3
    go_wp2_with (first
      | (go_at_call 4; (with_reducible refine (fits_at HF hn HT HB hc).mono ?_); rintro e w2 ⟨rfl, hb⟩))
    go_ret
    exact ⟨rfl, hb⟩
  | true =>
    obtain ⟨hl, hfit⟩ := hr1 rfl
    obtain ⟨k2, r2, hk2, hr2⟩ := (t_tree tree hl hfit).rounds
    have HO : Hid (∃ k, spec_TreeOk.f k tree = some r2) := Lib.hid ⟨k2, hk2⟩
    cases r2 with
    | false =>
      clear hk1 hr1 hk2 hr2 hl hfit
      go_enter Tryd.func3, Tryd.ntmps3
      go_wp2_with (first
        | (go_at_call 4; (with_reducible refine (fits_at HF hn HT HB hc).mono ?_); rintro e w2 ⟨rfl, hb⟩)
        | (go_at_call 5; (with_reducible refine (treeOk_at HO hn HT hb hc).mono ?_); rintro e w3 ⟨rfl, hb3⟩)
        | (go_at_call 6; (with_reducible refine (formats_at hb3 hT).mono ?_); rintro e w4 ⟨rfl, hb4⟩))
      go_ret
      exact ⟨rfl, hb4⟩
    | true =>
      obtain ⟨hok, h50⟩ := hr2 rfl
      have HK := Lib.hid hok
      have hn50 : n ≤ 50 := by rw [hn.out]; exact h50
      clear hk1 hr1 hk2 hr2 hl hfit hok h50
      go_enter Tryd.func3, Tryd.ntmps3
      go_wp2_with (first
        | (go_at_call 4; (with_reducible refine (fits_at HF hn HT HB hc).mono ?_); rintro e w2 ⟨rfl, hb⟩)
        | (go_at_call 5; (with_reducible refine (treeOk_at HO hn HT hb hc).mono ?_); rintro e w3 ⟨rfl, hb3⟩)
        | (go_at_call 7; (with_reducible refine (format_at HK hn HT hb3 hn50 hT).mono ?_); rintro e w4 ⟨rfl, hb4⟩)
        | (go_at_call 8; (with_reducible refine (write_at HK hn HT hb4 hc hn50).mono ?_); rintro e w5 ⟨rfl, hb5⟩)
        | (go_at_call 6; (with_reducible refine (formats_at hb5 hT).mono ?_); rintro e w6 ⟨rfl, hb6⟩))
      go_ret
      exact ⟨rfl, hb6⟩

end Go.Proofs.YtbifcpokkfiagaaDoor.F
