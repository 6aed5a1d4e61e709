/- What the reference's ModulePath answers, in plain words on lists of bytes. Conditions: a string of at most 2147483647 bytes. -/
import Derived.Test.YtlnmchehnhgfnaaDoorNa
import Derived.Test.YtlnmchehnhgfnaaDoorPModulePathx2
namespace Go.Proofs.YtlnmchehnhgfnaaDoor.M
open Go.RowKit Go.Proofs.YtlnmchehnhgfnaaDoorW.PrintWords

theorem sp_eq (c : UInt8) : PModulePath.spec_white.f (c.toNat : Int) = some (Lib.isSp c) := by
  unfold PModulePath.spec_white.f
  have e : Lib.isSp c = (decide ((c.toNat : Int) = 32) || (decide ((c.toNat : Int) ≥ 9) && decide ((c.toNat : Int) ≤ 13))) := by
    rw [Bool.eq_iff_iff]
    unfold Lib.isSp
    simp only [Bool.or_eq_true, Bool.and_eq_true, beq_iff_eq, decide_eq_true_eq, ← UInt8.toNat_inj]
    have k9 : (9 : UInt8).toNat = 9 := rfl
    have k10 : (10 : UInt8).toNat = 10 := rfl
    have k11 : (11 : UInt8).toNat = 11 := rfl
    have k12 : (12 : UInt8).toNat = 12 := rfl
    have k13 : (13 : UInt8).toNat = 13 := rfl
    have k32 : (32 : UInt8).toNat = 32 := rfl
    omega
  rw [e]
  by_cases h1 : (c.toNat : Int) = 32
  · rw [if_pos h1, decide_eq_true h1]; rfl
  · rw [if_neg h1, decide_eq_false h1]
    by_cases h2 : (c.toNat : Int) ≥ 9
    · rw [if_pos h2, decide_eq_true h2]; rfl
    · rw [if_neg h2, decide_eq_false h2]; rfl

theorem size_ex (s : ByteArray) (a b : Nat) (h1 : a ≤ b) (h2 : b ≤ s.size) : (s.extract a b).size = b - a := by
  rw [← lst_length (s.extract a b), lst_extract, List.length_take, List.length_drop, lst_length]
  omega

theorem lst_nil (s : ByteArray) : s.toList = ([] : List UInt8) ↔ lst s = [] := by rw [Lib.toList_data]

theorem strip_l1 (n : Nat) : ∀ (k : Nat) (s : ByteArray), s.size = n → s.size ≤ 2147483647 → n < k →
    ∃ r, PModulePath.spec_strip.l1 k s = some r ∧ lst r = ((lst s).reverse.dropWhile Lib.isSp).reverse := by
  induction n with
  | zero =>
    intro k s h0 hs hk
    obtain ⟨k, rfl⟩ : ∃ m, k = m + 1 := ⟨k - 1, by omega⟩
    have e : lst s = [] := List.eq_nil_of_length_eq_zero (by rw [lst_length]; exact h0)
    simp only [PModulePath.spec_strip.l1]
    rw [if_pos ((lst_nil s).mpr e)]
    exact ⟨s, rfl, by rw [e]; rfl⟩
  | succ n ih =>
    intro k s h0 hs hk
    obtain ⟨k, rfl⟩ : ∃ m, k = m + 1 := ⟨k - 1, by omega⟩
    have hne : lst s ≠ [] := fun e => by have := congrArg List.length e; rw [lst_length, List.length_nil] at this; omega
    have hw : wrap64 ((s.size : Int) - 1) = ((s.size - 1 : Nat) : Int) := by unfold wrap64; omega
    obtain ⟨c, hc, e⟩ := drop_at s (s.size - 1) (by omega)
    have e2 : (lst s).drop (s.size - 1 + 1) = [] := drop_end s _ (by omega)
    have e3 : lst s = (lst s).take (s.size - 1) ++ [c] := by
      conv => lhs; rw [← List.take_append_drop (s.size - 1) (lst s), e, e2]
    have t1 : ((s.size - 1 : Nat) : Int).toNat = s.size - 1 := by omega
    have zz : (s.extract 0 (s.size - 1)).size = n := by rw [size_ex s 0 (s.size - 1) (by omega) (by omega)]; omega
    have ex : lst (s.extract 0 (s.size - 1)) = (lst s).take (s.size - 1) := by rw [lst_extract, List.drop_zero]; rfl
    simp only [PModulePath.spec_strip.l1]
    rw [if_neg (fun h => hne ((lst_nil s).mp h)), hw, if_pos (by omega), if_pos (by omega), hc, sp_eq, Option.bind_some]
    have e4 : (lst s).reverse = c :: ((lst s).take (s.size - 1)).reverse := by
      conv => lhs; rw [e3]
      rw [List.reverse_append]
      rfl
    rw [e4, List.dropWhile_cons]
    by_cases hsp : Lib.isSp c = true
    · rw [if_pos hsp, if_pos hsp, if_pos (by omega), t1]
      obtain ⟨r, h1, h2⟩ := ih k (s.extract 0 (s.size - 1)) zz (by rw [zz]; omega) (by omega)
      exact ⟨r, h1, by rw [h2, ex]⟩
    · rw [if_neg hsp, if_neg hsp]
      exact ⟨s, rfl, by rw [← e4, List.reverse_reverse]⟩

theorem strip_l0 (n : Nat) : ∀ (k : Nat) (s : ByteArray), s.size = n → s.size ≤ 2147483647 → 2 * n + 2 < k →
    ∃ r, PModulePath.spec_strip.l0 k s = some r ∧ lst r = Lib.trimSpace (lst s) := by
  induction n with
  | zero =>
    intro k s h0 hs hk
    obtain ⟨k, rfl⟩ : ∃ m, k = m + 2 := ⟨k - 2, by omega⟩
    have e : lst s = [] := List.eq_nil_of_length_eq_zero (by rw [lst_length]; exact h0)
    simp only [PModulePath.spec_strip.l0, PModulePath.spec_strip.j1]
    rw [if_pos ((lst_nil s).mpr e)]
    obtain ⟨r, h1, h2⟩ := strip_l1 0 k s h0 hs (by omega)
    exact ⟨r, h1, by rw [h2, e]; rfl⟩
  | succ n ih =>
    intro k s h0 hs hk
    obtain ⟨k, rfl⟩ : ∃ m, k = m + 2 := ⟨k - 2, by omega⟩
    have hne : lst s ≠ [] := fun e => by have := congrArg List.length e; rw [lst_length, List.length_nil] at this; omega
    obtain ⟨c, hc, e⟩ := drop_at s 0 (by omega)
    rw [List.drop_zero] at e
    have hc' : bt s 0 = (c.toNat : Int) := hc
    have zz : (s.extract 1 s.size).size = n := by rw [size_ex s 1 s.size (by omega) (by omega)]; omega
    have ex : lst (s.extract 1 s.size) = (lst s).drop 1 := by
      rw [lst_extract, List.take_of_length_le (by rw [List.length_drop, lst_length]; omega)]
    simp only [PModulePath.spec_strip.l0, PModulePath.spec_strip.j1]
    rw [if_neg (fun h => hne ((lst_nil s).mp h)), if_pos (by omega), hc', sp_eq, Option.bind_some]
    by_cases hsp : Lib.isSp c = true
    · rw [if_pos hsp, if_pos (by omega)]
      obtain ⟨r, h1, h2⟩ := ih (k + 1) (s.extract 1 s.size) zz (by rw [zz]; omega) (by omega)
      refine ⟨r, h1, ?_⟩
      rw [h2, ex]
      conv => rhs; rw [e]
      unfold Lib.trimSpace
      rw [List.dropWhile_cons, if_pos hsp]
    · rw [if_neg hsp]
      obtain ⟨r, h1, h2⟩ := strip_l1 (n + 1) k s h0 hs (by omega)
      refine ⟨r, h1, ?_⟩
      rw [h2]
      unfold Lib.trimSpace
      have e5 : (lst s).dropWhile Lib.isSp = lst s := by
        rw [e, List.dropWhile_cons, if_neg hsp]
      rw [e5]

theorem strip_tells (s : ByteArray) (hs : s.size ≤ 2147483647) (k : Nat) (hk : 2 * s.size + 2 < k) : ∃ r, PModulePath.spec_strip.f k s = some r ∧ lst r = Lib.trimSpace (lst s) :=
  strip_l0 s.size k s rfl hs hk

abbrev modB : ByteArray := ⟨#[109, 111, 100, 117, 108, 101]⟩

theorem begins_eq (t : ByteArray) : PModulePath.spec_Begins.f t modB = some (decide (modL <+: lst t)) := by
  unfold PModulePath.spec_Begins.f
  have z : modB.size = 6 := rfl
  rw [z]
  by_cases h : (t.size : Int) ≥ ((6 : Nat) : Int)
  · rw [if_pos h, if_pos (by omega), if_pos (by omega)]
    congr 1
    have ex : lst (t.extract 0 6) = (lst t).take 6 := by rw [lst_extract, List.drop_zero]
    have t6 : (((6 : Nat) : Int) : Int).toNat = 6 := rfl
    rw [t6, Lib.toList_data, Lib.toList_data, Bool.eq_iff_iff, beq_iff_eq, decide_eq_true_eq, List.prefix_iff_eq_take]
    show lst (t.extract 0 6) = modL ↔ _
    rw [ex]
    exact eq_comm
  · rw [if_neg h]
    congr 1
    symm
    rw [decide_eq_false_iff_not]
    intro hp
    have := hp.length_le
    rw [lst_length] at this
    simp at this
    omega

/-! ### the loops -/

/-- What stands behind the inner loop. -/
def tailF (k : Nat) (x4 : ByteArray) (x7 : List ByteArray) (x8 x9 : Int) : Option ByteArray :=
  ((PModulePath.spec_strip.f k x4).bind fun t116 => ((PModulePath.spec_Begins.f t116 (⟨#[109, 111, 100, 117, 108, 101]⟩ : ByteArray)).bind fun t117 => (if t117 = true then (if (t116.size : Int) > 6 then (if 6 < (t116.size : Int) then ((PModulePath.spec_white.f (bt t116 6)).bind fun t118 => (if t118 = true then (if 6 ≤ (t116.size : Int) then ((PModulePath.spec_strip.f k (t116.extract 6 t116.size)).bind fun t119 => (if t119.toList = ([] : List UInt8) then (PModulePath.spec_ModulePath.l0 k x7 x8 (wrap64 (x9 + 1))) else ((PModulePath.spec_strip.f k (t116.extract 6 t116.size)).bind fun t120 => (some t120)))) else (none)) else (PModulePath.spec_ModulePath.l0 k x7 x8 (wrap64 (x9 + 1))))) else (none)) else (PModulePath.spec_ModulePath.l0 k x7 x8 (wrap64 (x9 + 1)))) else (PModulePath.spec_ModulePath.l0 k x7 x8 (wrap64 (x9 + 1))))))

/-- The path of a line, or what the lines behind it tell. -/
def orElse (o : Option (List UInt8)) (r : List UInt8) : List UInt8 := match o with
  | some p => p
  | none => r

theorem tail_tells (L : List UInt8) (k : Nat) (x : ByteArray) (x7 : List ByteArray) (x8 x9 : Int) (rr : ByteArray) (hx : lst x = cutS L) (hs : x.size ≤ 2147483647) (hk : 2 * x.size + 2 < k)
    (hr : PModulePath.spec_ModulePath.l0 k x7 x8 (wrap64 (x9 + 1)) = some rr) : ∃ y, tailF k x x7 x8 x9 = some y ∧ lst y = orElse (lineRes L) (lst rr) := by
  obtain ⟨t, h1, h2⟩ := strip_tells x hs k hk
  have hcore : lst t = core L := by rw [h2, hx]; rfl
  have hts : t.size ≤ x.size := by
    have := trim_le (lst x)
    rw [← h2, lst_length, lst_length] at this
    exact this
  unfold tailF
  rw [h1, Option.bind_some, begins_eq, Option.bind_some, hcore]
  by_cases hp : modL <+: core L
  · rw [decide_eq_true hp, if_pos rfl]
    have h6 : 6 ≤ t.size := by have := hp.length_le; rw [← hcore, lst_length] at this; exact this
    by_cases h7 : (t.size : Int) > 6
    · obtain ⟨c, hc, e⟩ := drop_at t 6 (by omega)
      have hc' : bt t 6 = (c.toNat : Int) := hc
      have ex : lst (t.extract 6 t.size) = (core L).drop 6 := by
        rw [lst_extract, List.take_of_length_le (by rw [List.length_drop, lst_length]; omega), hcore]
      rw [hcore] at e
      rw [if_pos h7, if_pos (by omega), hc', sp_eq, Option.bind_some]
      by_cases hsp : Lib.isSp c = true
      · rw [if_pos hsp, if_pos (by omega)]
        have z6 : (t.extract 6 t.size).size ≤ t.size := by rw [size_ex t 6 t.size (by omega) (by omega)]; omega
        obtain ⟨u, u1, u2⟩ := strip_tells (t.extract 6 t.size) (by omega) k (by omega)
        rw [u1, Option.bind_some, Option.bind_some]
        rw [ex] at u2
        by_cases hu : lst u = []
        · rw [if_pos ((lst_nil u).mpr hu), hr]
          refine ⟨rr, rfl, ?_⟩
          rw [line_empty (by rw [← u2]; exact hu)]
          rfl
        · rw [if_neg (fun h => hu ((lst_nil u).mp h))]
          refine ⟨u, rfl, ?_⟩
          rw [line_yes hp c _ e hsp (by rw [← u2]; exact hu), u2]
          rfl
      · rw [if_neg hsp, hr]
        refine ⟨rr, rfl, ?_⟩
        rw [line_white c _ e (Bool.eq_false_iff.mpr hsp)]
        rfl
    · rw [if_neg h7, hr]
      refine ⟨rr, rfl, ?_⟩
      rw [line_short (List.drop_eq_nil_of_le (by rw [← hcore, lst_length]; omega))]
      rfl
  · rw [decide_eq_false hp, if_neg (by simp), hr]
    refine ⟨rr, rfl, ?_⟩
    rw [res_o1 hp]
    rfl

theorem l1_unfold (k : Nat) (x4 : ByteArray) (x5 : Int) (x7 : List ByteArray) (x8 x9 : Int) : PModulePath.spec_ModulePath.l1 (k + 1) x4 x5 x7 x8 x9 =
    if (wrap64 (x5 + 1)) < (x4.size : Int) then (if 0 ≤ x5 then (if x5 < (x4.size : Int) then (if (bt x4 x5) = 47 then (if 0 ≤ (wrap64 (x5 + 1)) then (if (bt x4 (wrap64 (x5 + 1))) = 47 then (if x5 ≤ (x4.size : Int) then (PModulePath.spec_ModulePath.l1 k (x4.extract 0 (x5 : Int).toNat) (wrap64 (x5 + 1)) x7 x8 x9) else (none)) else (PModulePath.spec_ModulePath.l1 k x4 (wrap64 (x5 + 1)) x7 x8 x9)) else (none)) else (PModulePath.spec_ModulePath.l1 k x4 (wrap64 (x5 + 1)) x7 x8 x9)) else (none)) else (none)) else tailF k x4 x7 x8 x9 := by
  simp only [PModulePath.spec_ModulePath.l1]
  rfl

theorem cutS_hit {l : List UInt8} {a b : UInt8} {t : List UInt8} (e : l = a :: b :: t) (h1 : a = 47) (h2 : b = 47) : cutS l = [] := by
  rw [e]
  unfold cutS
  rw [if_pos ⟨h1, by rw [h2]; rfl⟩]

theorem cutS_miss {l : List UInt8} {a b : UInt8} {t : List UInt8} (e : l = a :: b :: t) (h : ¬ (a = 47 ∧ b = 47)) : cutS l = a :: cutS (b :: t) := by
  rw [e]
  conv => lhs; unfold cutS
  rw [if_neg]
  rintro ⟨h1, h2⟩
  exact h ⟨h1, by simpa using h2⟩

theorem cutS_one {l : List UInt8} (h : l.length ≤ 1) : cutS l = l := by
  cases l with
  | nil => rfl
  | cons a t =>
    have : t = [] := List.eq_nil_of_length_eq_zero (by rw [List.length_cons] at h; omega)
    rw [this]
    unfold cutS
    rw [if_neg (by simp)]
    rfl

theorem l1_tells (L : List UInt8) (K0 : Nat) (r : ByteArray → Prop) (x7 : List ByteArray) (x8 x9 : Int)
    (ht : ∀ k x, K0 ≤ k → lst x = cutS L → ∃ y, tailF k x x7 x8 x9 = some y ∧ r y) (d : Nat) :
    ∀ (k j : Nat) (x : ByteArray), x.size ≤ 2147483647 → j ≤ 2147483648 → cutS L = (lst x).take j ++ cutS ((lst x).drop j) → x.size - j = d → d + K0 < k →
      ∃ y, PModulePath.spec_ModulePath.l1 k x (j : Int) x7 x8 x9 = some y ∧ r y := by
  induction d using Nat.strongRecOn with
  | ind d ih =>
    intro k j x hs hj hinv hd hk
    obtain ⟨k, rfl⟩ : ∃ m, k = m + 1 := ⟨k - 1, by omega⟩
    rw [l1_unfold, wrap_up (by omega)]
    by_cases hlt : ((j + 1 : Nat) : Int) < (x.size : Int)
    · obtain ⟨a, ha, e1⟩ := drop_at x j (by omega)
      obtain ⟨b, hb, e2⟩ := drop_at x (j + 1) (by omega)
      have e3 : (lst x).drop j = a :: b :: (lst x).drop (j + 1 + 1) := by rw [e1, e2]
      rw [if_pos hlt, if_pos (by omega), if_pos (by omega), ha, hb]
      have next : ¬ (a = 47 ∧ b = 47) → ∃ y, PModulePath.spec_ModulePath.l1 k x ((j + 1 : Nat) : Int) x7 x8 x9 = some y ∧ r y := by
        intro hne
        refine ih (x.size - (j + 1)) (by omega) k (j + 1) x hs (by omega) ?_ rfl (by omega)
        rw [hinv, cutS_miss e3 hne, ← e2, List.take_add_one]
        have : (lst x)[j]? = some a := by
          have := congrArg (fun l => l[0]?) e1
          simpa using this
        rw [this]
        simp
      by_cases h1 : (a.toNat : Int) = 47
      · rw [if_pos h1, if_pos (by omega)]
        by_cases h2 : (b.toNat : Int) = 47
        · rw [if_pos h2, if_pos (by omega)]
          have a47 : a = 47 := UInt8.toNat_inj.mp (by have : (47 : UInt8).toNat = 47 := rfl; omega)
          have b47 : b = 47 := UInt8.toNat_inj.mp (by have : (47 : UInt8).toNat = 47 := rfl; omega)
          have tj : (j : Int).toNat = j := by omega
          have ex : lst (x.extract 0 j) = (lst x).take j := by rw [lst_extract, List.drop_zero]; rfl
          have zx : (x.extract 0 j).size = j := by rw [size_ex x 0 j (by omega) (by omega)]; omega
          have y1 : ((lst x).take j).take (j + 1) = (lst x).take j := List.take_of_length_le (by rw [List.length_take]; omega)
          have y2 : ((lst x).take j).drop (j + 1) = [] := List.drop_eq_nil_of_le (by rw [List.length_take]; omega)
          rw [tj]
          refine ih 0 (by omega) k (j + 1) (x.extract 0 j) (by omega) (by omega) ?_ (by omega) (by omega)
          rw [hinv, cutS_hit e3 a47 b47, ex, y1, y2]
          unfold cutS
          simp
        · rw [if_neg h2]
          exact next (fun h => h2 (by rw [h.2]; rfl))
      · rw [if_neg h1]
        exact next (fun h => h1 (by rw [h.1]; rfl))
    · rw [if_neg hlt]
      refine ht k x (by omega) ?_
      rw [hinv, cutS_one (by rw [List.length_drop, lst_length]; omega), List.take_append_drop]

theorem l0_tells (S : Nat) (hS : S ≤ 2147483647) (ps : List ByteArray) (hl : ps.length ≤ 2147483648) (hp : ∀ p ∈ ps, p.size ≤ S) (d : Nat) : ∀ (k i : Nat), i ≤ ps.length → ps.length - i = d → d * (S + 2) + 2 * S + 3 < k →
    ∃ y, PModulePath.spec_ModulePath.l0 k ps (ps.length : Int) (i : Int) = some y ∧ lst y = firstOf ((ps.drop i).map lst) := by
  induction d with
  | zero =>
    intro k i h1 hd hk
    obtain ⟨k, rfl⟩ : ∃ m, k = m + 1 := ⟨k - 1, by omega⟩
    simp only [PModulePath.spec_ModulePath.l0]
    rw [if_neg (by omega), List.drop_eq_nil_of_le (by omega)]
    exact ⟨_, rfl, rfl⟩
  | succ d ih =>
    intro k i h1 hd hk
    obtain ⟨k, rfl⟩ : ∃ m, k = m + 1 := ⟨k - 1, by omega⟩
    have hi : i < ps.length := by omega
    have e := List.drop_eq_getElem_cons hi
    have hz := hp ps[i] (List.getElem_mem hi)
    have hmul : (d + 1) * (S + 2) = d * (S + 2) + (S + 2) := Nat.succ_mul _ _
    simp only [PModulePath.spec_ModulePath.l0]
    rw [if_pos (by omega), if_pos (by omega), if_pos (by omega), rdOf_get ps i hi, e, List.map_cons]
    have z0 : ((0 : Nat) : Int) = 0 := rfl
    rw [← z0]
    refine l1_tells (lst ps[i]) (d * (S + 2) + 2 * S + 4) (fun y => lst y = firstOf (lst ps[i] :: (ps.drop (i + 1)).map lst)) ps (ps.length : Int) (i : Int) ?_ ps[i].size k 0 ps[i] (by omega) (by omega) (by rw [List.take_zero, List.drop_zero, List.nil_append]) rfl (by omega)
    intro k' x hk' hx
    have hxs : x.size ≤ ps[i].size := by
      have := cutS_le (lst ps[i])
      rw [← hx, lst_length, lst_length] at this
      exact this
    obtain ⟨rr, r1, r2⟩ := ih k' (i + 1) (by omega) (by omega) (by omega)
    have hw : wrap64 ((i : Int) + 1) = ((i + 1 : Nat) : Int) := wrap_up (by omega)
    obtain ⟨y, y1, y2⟩ := tail_tells (lst ps[i]) k' x ps (ps.length : Int) (i : Int) rr hx (by omega) (by omega) (by rw [hw]; exact r1)
    refine ⟨y, y1, ?_⟩
    show lst y = firstOf (lst ps[i] :: (ps.drop (i + 1)).map lst)
    rw [y2, r2]
    unfold orElse
    conv => rhs; unfold firstOf
    cases lineRes (lst ps[i]) <;> rfl

theorem cut_same (k : Nat) : ∀ (s : ByteArray) (x : Int) (acc : List ByteArray) (a b : Int), PModulePath.spec_Cut.l0 k s x acc a b = PPathOk.spec_Cut.l0 k s x acc a b := by
  induction k with
  | zero => intro s x acc a b; rfl
  | succ k ih =>
    intro s x acc a b
    simp only [PModulePath.spec_Cut.l0, PPathOk.spec_Cut.l0, ih]

theorem specMP_tells (s : ByteArray) (hs : s.size ≤ 2147483647) : ∃ k y, PModulePath.spec_ModulePath.f k s = some y ∧ lst y = firstOf (cutL 10 (lst s)) := by
  obtain ⟨K, hK⟩ : ∃ K, K = (s.size + 1) * (s.size + 2) + 3 * s.size + 4 := ⟨_, rfl⟩
  obtain ⟨ps, p1, p2⟩ := cut_tells s hs 10 K (by omega)
  have p1' : PModulePath.spec_Cut.f K s 10 = some ps := by
    have : PModulePath.spec_Cut.f K s 10 = PPathOk.spec_Cut.f K s 10 := by
      unfold PModulePath.spec_Cut.f PPathOk.spec_Cut.f
      rw [cut_same]
    rw [this]
    exact p1
  have hlen : ps.length ≤ s.size + 1 := by
    have := cutL_len 10 (lst s)
    rw [← p2, List.length_map, lst_length] at this
    exact this
  have hsz : ∀ p ∈ ps, p.size ≤ s.size := by
    intro p hp
    have : lst p ∈ cutL 10 (lst s) := by rw [← p2]; exact List.mem_map_of_mem hp
    have := cutL_le 10 (lst s) _ this
    rw [lst_length, lst_length] at this
    exact this
  have hmul : ps.length * (s.size + 2) ≤ (s.size + 1) * (s.size + 2) := Nat.mul_le_mul_right _ hlen
  obtain ⟨y, y1, y2⟩ := l0_tells s.size hs ps (by omega) hsz ps.length K 0 (by omega) (by omega) (by omega)
  refine ⟨K, y, ?_, by rw [y2, List.drop_zero, p2]⟩
  unfold PModulePath.spec_ModulePath.f
  rw [p1', Option.bind_some]
  exact y1

end Go.Proofs.YtlnmchehnhgfnaaDoor.M
