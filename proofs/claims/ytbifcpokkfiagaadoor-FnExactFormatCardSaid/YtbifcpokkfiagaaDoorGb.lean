/- The reference's Write of a tree that is ok: the statements, with an empty line between. Conditions: the tree is ok. -/
import Derived.Test.YtbifcpokkfiagaaDoorGa
namespace Go.Proofs.YtbifcpokkfiagaaDoor.F
open Go.RowKit Go.Proofs.YtbifcpokkfiagaaDoorW.PrintWords Go.Proofs.YtbifcpokkfiagaaDoor.PFm
set_option linter.unusedVariables false

theorem lst_add (a b : ByteArray) : lst (a ++ b) = lst a ++ lst b := by
  show (a ++ b).data.toList = _
  rw [ByteArray.data_append, Array.toList_append]
theorem lst_size (s : ByteArray) : s.size = (lst s).length := (lst_length s).symm

/-- Comments as lines, each behind something. -/
def linesB (pre : List UInt8) (l : List ByteArray) : List UInt8 := l.flatMap (fun c => pre ++ lst c ++ [10])

theorem take_step {β : Type} {α : Type} (f : α → List β) (xs : List α) (k : Nat) (t : α) (h : xs[k]? = some t) : (xs.take (k + 1)).flatMap f = (xs.take k).flatMap f ++ f t := by
  rw [List.take_add_one, h, Option.toList_some, List.flatMap_append, List.flatMap_singleton]

theorem linesB_len (pre : List UInt8) (hp : pre.length ≤ 1) (l : List ByteArray) (h : ∀ t ∈ l, Com (lst t)) : (linesB pre l).length ≤ 2002 * l.length := by
  unfold linesB
  induction l with
  | nil => simp
  | cons x xs ih =>
    have h1 := (h x (by simp)).len
    have h2 := ih (fun t ht => h t (by simp [ht]))
    rw [List.flatMap_cons, List.length_append, List.length_append, List.length_append, List.length_cons, List.length_cons, List.length_nil]
    omega

theorem t_lines (l : List ByteArray) (pre : ByteArray) (hp : (lst pre).length ≤ 1) (h : ∀ t ∈ l, Com (lst t)) (h10 : l.length ≤ 10) : EvP (fun k => spec_lines.f k l pre) (fun r => lst r = linesB (lst pre) l) := by
  have H : ∀ d i : Nat, i ≤ l.length → l.length - i = d → ∀ acc : ByteArray, lst acc = linesB (lst pre) (l.take i) → EvP (fun k => spec_lines.l0 k pre acc l (l.length : Int) (i : Int)) (fun r => lst r = linesB (lst pre) l) := by
    intro d
    induction d with
    | zero =>
      intro i h1 hd acc ha
      exact EvP.step (fun k => spec_lines.l0.eq_2 pre acc l (l.length : Int) (i : Int) k) (EvP.neg (by omega) (EvP.now _ (by rw [ha, List.take_of_length_le (by omega)])))
    | succ d ih =>
      intro i h1 hd acc ha
      have hi : i < l.length := by omega
      have hc := h l[i] (List.getElem_mem hi)
      have hcl := hc.len
      have hal : acc.size ≤ 2002 * i := by
        have := linesB_len (lst pre) hp (l.take i) (fun t ht => h t (List.mem_of_mem_take ht))
        rw [← ha, ← lst_size, List.length_take] at this
        omega
      have hpz : pre.size ≤ 1 := by rw [lst_size]; exact hp
      have hcz : l[i].size ≤ 2000 := by rw [lst_size]; exact hcl
      have z1 : (pre ++ l[i]).size = pre.size + l[i].size := ByteArray.size_append
      have z2 : ((pre ++ l[i]) ++ (⟨#[10]⟩ : ByteArray)).size = pre.size + l[i].size + 1 := by rw [ByteArray.size_append, z1]; rfl
      have hn := ih (i + 1) (by omega) (by omega) (acc ++ ((pre ++ l[i]) ++ (⟨#[10]⟩ : ByteArray))) (by
        rw [lst_add, lst_add, lst_add, ha]
        unfold linesB
        rw [take_step _ l i l[i] (List.getElem?_eq_getElem hi)])
      rw [← wrap_up (by omega)] at hn
      refine EvP.step (fun k => spec_lines.l0.eq_2 pre acc l (l.length : Int) (i : Int) k) (EvP.pos (by omega) (EvP.pos (by omega) (EvP.pos (by omega) ?_)))
      rw [rdOf_get l i hi]
      exact EvP.pos (by omega) (EvP.pos (by omega) (EvP.pos (by omega) hn))
  exact H l.length 0 (by omega) (by omega) _ rfl

theorem sfx_nil {s : ByteArray} (h : s.toList = []) : sfx (sufO s) = [] := by unfold sufO; rw [if_pos h]; rfl
theorem sfx_some {s : ByteArray} (h : ¬ s.toList = []) : sfx (sufO s) = 32 :: lst s := by unfold sufO; rw [if_neg h]; rfl

theorem suf_size {s : ByteArray} (h : ∀ x, sufO s = some x → Com (lst x)) : s.size ≤ 2000 := by
  by_cases e : s.toList = []
  · rw [lst_size, (toList_nil s).mp e]
    simp
  · rw [lst_size]
    exact (h s (by unfold sufO; rw [if_neg e])).len

theorem t_words (l : List ByteArray) (suf : ByteArray) (h : ∀ t ∈ l, Word (lst t)) (h10 : l.length ≤ 10) (hs : ∀ x, sufO suf = some x → Com (lst x)) : EvP (fun k => spec_words.f k l (⟨#[32]⟩ : ByteArray) suf) (fun r => lst r = joinW l ++ sfx (sufO suf)) := by
  have hsz := suf_size hs
  have H : ∀ d i : Nat, i ≤ l.length → l.length - i = d → ∀ acc : ByteArray, lst acc = joinW (l.take i) → EvP (fun k => spec_words.l0 k (⟨#[32]⟩ : ByteArray) suf acc l (l.length : Int) (i : Int)) (fun r => lst r = joinW l ++ sfx (sufO suf)) := by
    intro d
    induction d with
    | zero =>
      intro i h1 hd acc ha
      rw [List.take_of_length_le (by omega)] at ha
      have hal : acc.size ≤ 510 := by
        have := joinW_len l h
        rw [lst_size, ha]
        omega
      have z1 : ((⟨#[32]⟩ : ByteArray) ++ suf).size = 1 + suf.size := by rw [ByteArray.size_append]; rfl
      refine EvP.step (fun k => spec_words.l0.eq_2 _ suf acc l (l.length : Int) (i : Int) k) (EvP.neg (by omega) (EvP.cond (fun e => EvP.now _ ?_) (fun e => EvP.pos (by omega) (EvP.pos (by omega) (EvP.now _ ?_)))))
      · rw [ha, sfx_nil e, List.append_nil]
      · rw [lst_add, lst_add, ha, sfx_some e]
        rfl
    | succ d ih =>
      intro i h1 hd acc ha
      have hi : i < l.length := by omega
      have hc := (h l[i] (List.getElem_mem hi)).len
      have hal : acc.size ≤ 51 * i := by
        have := joinW_len (l.take i) (fun t ht => h t (List.mem_of_mem_take ht))
        rw [← ha, ← lst_size, List.length_take] at this
        omega
      have hcz : l[i].size ≤ 50 := by rw [lst_size]; exact hc
      have hst := joinW_step l i l[i] (List.getElem?_eq_getElem hi)
      have z1 : (acc ++ (⟨#[32]⟩ : ByteArray)).size = acc.size + 1 := by rw [ByteArray.size_append]; rfl
      have z0 : (⟨#[32]⟩ : ByteArray).size = 1 := rfl
      refine EvP.step (fun k => spec_words.l0.eq_2 _ suf acc l (l.length : Int) (i : Int) k) (EvP.pos (by omega) (EvP.pos (by omega) (EvP.pos (by omega) ?_)))
      rw [rdOf_get l i hi]
      refine EvP.cond (fun h0 => EvP.pos (by omega) (EvP.pos (by omega) ?_)) (fun h0 => EvP.pos (by omega) ?_)
      · have hn := ih (i + 1) (by omega) (by omega) ((acc ++ (⟨#[32]⟩ : ByteArray)) ++ l[i]) (by
          rw [lst_add, lst_add, ha, hst, if_neg (by omega), List.append_assoc])
        rw [← wrap_up (by omega)] at hn
        exact hn
      · have hn := ih (i + 1) (by omega) (by omega) (acc ++ l[i]) (by
          rw [lst_add, ha, hst, if_pos (by omega)]
          rfl)
        rw [← wrap_up (by omega)] at hn
        exact hn
  exact H l.length 0 (by omega) (by omega) _ rfl

theorem t_paren (suf : ByteArray) (hs : ∀ x, sufO suf = some x → Com (lst x)) : EvP (fun k => spec_words.f k (([(⟨#[41]⟩ : ByteArray)] : List ByteArray)) (⟨#[]⟩ : ByteArray) suf) (fun r => lst r = [41] ++ sfx (sufO suf)) := by
  have hsz := suf_size hs
  have z1 : ((⟨#[32]⟩ : ByteArray) ++ suf).size = 1 + suf.size := by rw [ByteArray.size_append]; rfl
  have z2 : ((⟨#[]⟩ : ByteArray) ++ (⟨#[41]⟩ : ByteArray)).size = 1 := rfl
  unfold spec_words.f
  refine EvP.step (fun k => spec_words.l0.eq_2 _ suf _ _ 1 0 k) (EvP.pos (by first | omega | decide) (EvP.pos (by first | omega | decide) (EvP.pos (by decide) (EvP.neg (by first | omega | decide) (EvP.pos (by decide) ?_)))))
  have w1 : wrap64 (0 + 1) = 1 := by unfold wrap64; omega
  rw [w1]
  refine EvP.step (fun k => spec_words.l0.eq_2 _ suf _ _ 1 1 k) (EvP.neg (by first | omega | decide) (EvP.cond (fun e => EvP.now _ ?_) (fun e => EvP.pos (by first | omega | decide) (EvP.pos ?_ (EvP.now _ ?_)))))
  · rw [sfx_nil e]
    rfl
  · show ((⟨#[]⟩ : ByteArray) ++ (⟨#[41]⟩ : ByteArray)).size + _ ≤ _
    omega
  · rw [lst_add, lst_add, sfx_some e]
    rfl

/-! ### Write -/
theorem linesB_nil (l : List ByteArray) : linesB [] l = befB 0 l := by
  unfold linesB befB
  rfl
theorem linesB_tab (l : List ByteArray) : linesB [9] l ++ [9] = 9 :: befB 1 l := by
  unfold linesB befB
  induction l with
  | nil => rfl
  | cons x xs ih =>
    rw [List.flatMap_cons, List.flatMap_cons, List.append_assoc, ih]
    simp
theorem lns_turn (ls : List LnD) (f : LnD → List UInt8) : 10 :: ls.flatMap (fun d => f d ++ [10]) = ls.flatMap (fun d => 10 :: f d) ++ [10] := by
  induction ls with
  | nil => rfl
  | cons x xs ih =>
    rw [List.flatMap_cons, List.flatMap_cons, List.append_assoc (10 :: f x), ← ih]
    simp

/-- A line of a block, as the reference writes it. -/
def wln (d : LnD) : List UInt8 := (9 :: lnB 1 d) ++ [10]

theorem wln_len {d : LnD} (h : LnOk d) : (wln d).length ≤ 30002 := by
  have := lnB_len h 1 (by omega)
  unfold wln
  simp only [List.length_append, List.length_cons, List.length_nil]
  omega
theorem wlns_len (ls : List LnD) (h : ∀ d ∈ ls, LnOk d) : (ls.flatMap wln).length ≤ 30002 * ls.length := by
  induction ls with
  | nil => simp
  | cons x xs ih =>
    have h1 := wln_len (h x (by simp))
    have h2 := ih (fun t ht => h t (by simp [ht]))
    rw [List.flatMap_cons, List.length_append, List.length_cons]
    omega

theorem blk_text (bs toks : List ByteArray) (ls : List LnD) (suf : ByteArray) : stB (.blk bs toks ls suf) = befB 0 bs ++ (joinW toks ++ [32, 40, 10]) ++ ls.flatMap wln ++ ([41] ++ sfx (sufO suf) ++ [10]) := by
  have h := lns_turn ls (fun d => 9 :: lnB 1 d)
  have h2 : ls.flatMap wln = ls.flatMap (fun d => (fun d => 9 :: lnB 1 d) d ++ [10]) := rfl
  have h3 : ls.flatMap lnF = ls.flatMap (fun d => 10 :: (fun d => 9 :: lnB 1 d) d) := rfl
  show bkT bs toks ls ++ sfx (sufO suf) ++ [10] = _
  unfold bkT
  rw [h2, h3]
  have e : ([32, 40, 10] : List UInt8) = [32, 40] ++ [10] := rfl
  rw [e]
  have h4 : ∀ X : List UInt8, [10] ++ (ls.flatMap (fun d => (fun d => 9 :: lnB 1 d) d ++ [10]) ++ X) = ls.flatMap (fun d => 10 :: (fun d => 9 :: lnB 1 d) d) ++ [10] ++ X := fun X => by
    rw [← h]
    simp
  simp only [List.append_assoc]
  rw [h4]
  simp

theorem joinS_take (xs : List StD) (i : Nat) (t : StD) (h : xs[i]? = some t) (X : List UInt8) (hX : X = joinS (xs.take i) ++ (if i = 0 then [] else [10])) : X ++ stB t = joinS (xs.take (i + 1)) := by
  rw [joinS_step xs i t h, hX, List.append_assoc]

theorem t_write (x0 : List S30) (hok : ∀ t ∈ x0, S30Ok t) (h50 : x0.length ≤ 50) : EvP (fun k => spec_Write.f k x0 (⟨#[32]⟩ : ByteArray) (⟨#[10]⟩ : ByteArray)) (fun r => lst r = joinS (x0.map stOf)) := by
  have hst : ∀ s ∈ x0.map stOf, StOk s := by
    intro s hs
    obtain ⟨t, ht, rfl⟩ := List.mem_map.mp hs
    exact (hok t ht).2.1
  have H : ∀ d i : Nat, i ≤ x0.length → x0.length - i = d → ∀ acc : ByteArray, lst acc = joinS ((x0.map stOf).take i) → EvP (fun k => spec_Write.l0 k (⟨#[32]⟩ : ByteArray) (⟨#[10]⟩ : ByteArray) acc x0 (x0.length : Int) (i : Int)) (fun r => lst r = joinS (x0.map stOf)) := by
    intro d
    induction d with
    | zero =>
      intro i h1 hd acc ha
      exact EvP.step (fun k => spec_Write.l0.eq_2 _ _ acc x0 (x0.length : Int) (i : Int) k) (EvP.neg (by omega) (EvP.now _ (by rw [ha, List.take_of_length_le (by rw [List.length_map]; omega)])))
    | succ d ih =>
      intro i h1 hd acc ha
      have hi : i < x0.length := by omega
      obtain ⟨s, hs⟩ : ∃ s, s = x0[i] := ⟨_, rfl⟩
      have hsm : (x0.map stOf)[i]? = some (stOf s) := by rw [List.getElem?_map, List.getElem?_eq_getElem hi, ← hs]; rfl
      have hok' := hok s (by rw [hs]; exact List.getElem_mem hi)
      obtain ⟨sm, so, k012, k0f, k2f⟩ := hok'
      have hal : acc.size ≤ 700001 * i := by
        have := joinS_len ((x0.map stOf).take i) (fun t ht => hst t (List.mem_of_mem_take ht))
        rw [← ha, ← lst_size, List.length_take] at this
        omega
      -- behind the separator
      have J : ∀ acc2 : ByteArray, lst acc2 = joinS ((x0.map stOf).take i) ++ (if i = 0 then [] else [10]) → acc2.size ≤ 700001 * i + 1 →
          EvP (fun k => spec_Write.j1 k (⟨#[32]⟩ : ByteArray) (⟨#[10]⟩ : ByteArray) acc2 x0 (x0.length : Int) (i : Int) s.f0 s.f1 s.f2 s.f3 s.f4) (fun r => lst r = joinS (x0.map stOf)) := by
        intro acc2 ha2 hal2
        refine EvP.step (fun k => spec_Write.j1.eq_2 _ _ acc2 x0 (x0.length : Int) (i : Int) s.f0 s.f1 s.f2 s.f3 s.f4 k) ?_
        have hcom : ∀ t ∈ s.f3, Com (lst t) := by
          rcases k012 with h | h | h
          · rw [stOf_line' (by omega) (by omega)] at so; exact so.bs
          · rw [stOf_blk' h] at so; exact so.1
          · rw [stOf_com' h] at so; exact so.2.1
        refine EvP.bind (t_lines s.f3 (⟨#[]⟩ : ByteArray) (by simp) hcom sm.bf) (fun t160 h160 => ?_)
        have h160' : lst t160 = befB 0 s.f3 := by rw [h160]; exact linesB_nil s.f3
        have z160 : t160.size ≤ 20010 := by
          have := befB_len 0 s.f3 hcom
          have h5 : (2001 + 0) * s.f3.length ≤ 2001 * 10 := Nat.mul_le_mul (by omega) sm.bf
          rw [lst_size, h160']
          omega
        have za : (acc2 ++ t160).size = acc2.size + t160.size := ByteArray.size_append
        refine EvP.pos (by omega) (EvP.cond (fun k0 => ?_) (fun k0 => EvP.cond (fun k1 => ?_) (fun k1 => ?_)))
        · rw [stOf_line' (by omega) (by omega)] at so hsm
          refine EvP.bind (t_words s.f1 s.f4 so.toks so.lt so.suf) (fun t161 h161 => ?_)
          have z161 : t161.size ≤ 2600 := by
            have h3 := joinW_len s.f1 so.toks
            have h4 := sfx_len so.suf
            have h5 := so.lt
            rw [lst_size, h161, List.length_append]
            simp only at h4 h5
            omega
          have zb : (t161 ++ (⟨#[10]⟩ : ByteArray)).size = t161.size + 1 := by rw [ByteArray.size_append]; rfl
          refine EvP.pos (by omega) (EvP.pos (by omega) ?_)
          rw [wrap_up (by omega)]
          refine ih (i + 1) (by omega) (by omega) _ ?_
          rw [← joinS_take _ i _ hsm (lst acc2) ha2, lst_add, lst_add, lst_add, h160', h161]
          simp [stB, lnB]
        · rw [stOf_blk' k1] at so hsm
          obtain ⟨q1, q2, q3, q4, q5, q6, q7, q8⟩ := so
          refine EvP.bind (t_words s.f1 (⟨#[]⟩ : ByteArray) q4 q5 (fun x hx => by unfold sufO at hx; rw [if_pos (by rw [toList_data])] at hx; simp at hx)) (fun t162 h162 => ?_)
          rw [sfx_nil (by rw [toList_data]), List.append_nil] at h162
          have z162 : t162.size ≤ 510 := by
            have h3 := joinW_len s.f1 q4
            rw [lst_size, h162]
            omega
          have zb : (t162 ++ (⟨#[32, 40, 10]⟩ : ByteArray)).size = t162.size + 3 := by rw [ByteArray.size_append]; rfl
          refine EvP.pos (by omega) (EvP.pos (by omega) ?_)
          obtain ⟨T0, hT0⟩ : ∃ T0, T0 = lst acc2 ++ (befB 0 s.f3 ++ (joinW s.f1 ++ [32, 40, 10])) := ⟨_, rfl⟩
          have hT0l : T0.length ≤ 700001 * i + 21000 := by
            rw [hT0, List.length_append, List.length_append, List.length_append, ← lst_size, ← h160', ← h162, ← lst_size, ← lst_size]
            simp only [List.length_cons, List.length_nil]
            omega
          have L : ∀ d2 j : Nat, j ≤ s.f2.length → s.f2.length - j = d2 → ∀ acc3 : ByteArray, lst acc3 = T0 ++ ((s.f2.take j).map lnOf).flatMap wln → EvP (fun k => spec_Write.l1 k (⟨#[32]⟩ : ByteArray) (⟨#[10]⟩ : ByteArray) acc3 x0 (x0.length : Int) (i : Int) s.f2 (s.f2.length : Int) (j : Int) s.f0 s.f1 s.f2 s.f3 s.f4) (fun r => lst r = joinS (x0.map stOf)) := by
            have h20 := sm.ls
            intro d2
            induction d2 with
            | zero =>
              intro j j1 jd acc3 ha3
              rw [List.take_of_length_le (by omega)] at ha3
              have z3 : acc3.size ≤ 700001 * i + 700000 := by
                have := wlns_len (s.f2.map lnOf) q6
                rw [List.length_map] at this
                rw [lst_size, ha3, List.length_append]
                omega
              refine EvP.step (fun k => spec_Write.l1.eq_2 _ _ acc3 x0 (x0.length : Int) (i : Int) s.f2 (s.f2.length : Int) (j : Int) s.f0 s.f1 s.f2 s.f3 s.f4 k) (EvP.neg (by omega) (EvP.bind (t_paren s.f4 q8) (fun t170 h170 => ?_)))
              have z170 : t170.size ≤ 2002 := by
                have h4 := sfx_len q8
                rw [lst_size, h170, List.length_append]
                simp only [List.length_cons, List.length_nil]
                omega
              have zc : (t170 ++ (⟨#[10]⟩ : ByteArray)).size = t170.size + 1 := by rw [ByteArray.size_append]; rfl
              refine EvP.pos (by omega) (EvP.pos (by omega) ?_)
              rw [wrap_up (by omega)]
              refine ih (i + 1) (by omega) (by omega) _ ?_
              rw [← joinS_take _ i _ hsm (lst acc2) ha2, lst_add, lst_add, ha3, h170, blk_text, hT0]
              simp
            | succ d2 ih2 =>
              intro j j1 jd acc3 ha3
              have hj : j < s.f2.length := by omega
              have hm : lnOf s.f2[j] ∈ s.f2.map lnOf := List.mem_map_of_mem (List.getElem_mem hj)
              have hln := q6 _ hm
              have z3 : acc3.size ≤ 700001 * i + 21000 + 30002 * j := by
                have := wlns_len ((s.f2.take j).map lnOf) (fun d hd => by
                  obtain ⟨l, hl, rfl⟩ := List.mem_map.mp hd
                  exact q6 _ (List.mem_map_of_mem (List.mem_of_mem_take hl)))
                rw [List.length_map, List.length_take] at this
                rw [lst_size, ha3, List.length_append]
                omega
              refine EvP.step (fun k => spec_Write.l1.eq_2 _ _ acc3 x0 (x0.length : Int) (i : Int) s.f2 (s.f2.length : Int) (j : Int) s.f0 s.f1 s.f2 s.f3 s.f4 k) (EvP.pos (by omega) (EvP.pos (by omega) (EvP.pos (by omega) ?_)))
              rw [rd35_get s.f2 j hj]
              refine EvP.bind (t_lines s.f2[j].f1 (⟨#[9]⟩ : ByteArray) (by simp) hln.bs hln.lb) (fun t165 h165 => ?_)
              have z165 : t165.size ≤ 20020 := by
                have := linesB_len [9] (by simp) s.f2[j].f1 hln.bs
                have h5 := hln.lb
                rw [lst_size, h165]
                simp only [lnOf] at h5
                have h6 : (linesB (lst (⟨#[9]⟩ : ByteArray)) s.f2[j].f1).length = (linesB [9] s.f2[j].f1).length := rfl
                omega
              refine EvP.pos (by omega) (EvP.bind (t_words s.f2[j].f0 s.f2[j].f2 hln.toks hln.lt hln.suf) (fun t166 h166 => ?_))
              have z166 : t166.size ≤ 2600 := by
                have h3 := joinW_len s.f2[j].f0 hln.toks
                have h4 := sfx_len hln.suf
                have h5 := hln.lt
                rw [lst_size, h166, List.length_append]
                simp only [lnOf] at h4 h5
                omega
              have zc : (t165 ++ (⟨#[9]⟩ : ByteArray)).size = t165.size + 1 := by rw [ByteArray.size_append]; rfl
              have zd : ((t165 ++ (⟨#[9]⟩ : ByteArray)) ++ t166).size = t165.size + 1 + t166.size := by rw [ByteArray.size_append, zc]
              have ze : (((t165 ++ (⟨#[9]⟩ : ByteArray)) ++ t166) ++ (⟨#[10]⟩ : ByteArray)).size = t165.size + 1 + t166.size + 1 := by rw [ByteArray.size_append, zd]; rfl
              refine EvP.pos (by omega) (EvP.pos (by omega) (EvP.pos (by omega) ?_))
              rw [wrap_up (by omega)]
              refine ih2 (j + 1) (by omega) (by omega) _ ?_
              have e1 : (s.f2.take (j + 1)).map lnOf = (s.f2.take j).map lnOf ++ [lnOf s.f2[j]] := by
                rw [List.take_add_one, List.getElem?_eq_getElem hj, Option.toList_some, List.map_append, List.map_singleton]
              have e2 := linesB_tab s.f2[j].f1
              have h165' : lst t165 = linesB [9] s.f2[j].f1 := h165
              rw [e1, List.flatMap_append, List.flatMap_singleton, ← List.append_assoc, ← ha3, lst_add, lst_add, lst_add, lst_add, h165', h166]
              show lst acc3 ++ (linesB [9] s.f2[j].f1 ++ [9] ++ (joinW s.f2[j].f0 ++ sfx (sufO s.f2[j].f2)) ++ [10]) = _
              rw [e2]
              simp [wln, lnB, lnOf]
          refine L s.f2.length 0 (by omega) (by omega) _ ?_
          rw [hT0, lst_add, lst_add, lst_add, h160', h162]
          simp
        · have k2 : s.f0 = 2 := by omega
          rw [stOf_com' k2] at so hsm
          rw [wrap_up (by omega)]
          refine ih (i + 1) (by omega) (by omega) _ ?_
          rw [← joinS_take _ i _ hsm (lst acc2) ha2, lst_add, h160']
          rfl
      refine EvP.step (fun k => spec_Write.l0.eq_2 _ _ acc x0 (x0.length : Int) (i : Int) k) (EvP.pos (by omega) (EvP.pos (by omega) (EvP.pos (by omega) ?_)))
      rw [rd30_get x0 i hi, ← hs]
      have z1 : (acc ++ (⟨#[10]⟩ : ByteArray)).size = acc.size + 1 := by rw [ByteArray.size_append]; rfl
      have z0 : (⟨#[10]⟩ : ByteArray).size = 1 := rfl
      refine EvP.cond (fun h0 => EvP.pos (by omega) (J _ ?_ (by omega))) (fun h0 => J _ ?_ (by omega))
      · rw [lst_add, ha, if_neg (by omega)]
      · rw [ha, if_pos (by omega), List.append_nil]
  exact H x0.length 0 (by omega) (by omega) _ rfl

end Go.Proofs.YtbifcpokkfiagaaDoor.F
