/- The printer's newline, where one comment waits. Conditions: the table of white space lies in memory; the text is one that no trimming changes. -/
import Derived.Test.YtbifcpokkfiagaaDoorFc5
import Derived.Deep.RegionWith
namespace Go.Proofs.YtbifcpokkfiagaaDoor.F
open Go.RowKit Go.Proofs.YtbifcpokkfiagaaDoorW.PrintWords
set_option linter.unusedVariables false

theorem PB.com {B b : Nat} {l : List UInt8} {cv : Value} {m : Nat} {w : World} (h : PB B b l cv m w) : w.cell? ⟨b, 3, none⟩ = some cv := by
  obtain ⟨p, c, lr, h0, h1, h2, h3, -⟩ := h.parts
  exact h3

theorem Pend.cut {B g c : Nat} {s : ByteArray} {w : World} (h : Pend B (.slice (some ⟨g, 0, none⟩) 1 c) (some s) w) : Pend B (.slice (some ⟨g, 0, none⟩) 0 c) none w := by
  refine ⟨rfl, ?_⟩
  rcases h.2 with ⟨h1, -⟩ | ⟨g', cap, cur, e, hBg, hg, h4, h5, h6, h7⟩
  · simp at h1
  · injection e with e1 e2 e3
    subst e3
    refine Or.inr ⟨g', c, cur, ?_, hBg, hg, Nat.zero_le _, h5, h6, ?_⟩
    · rw [e1]; rfl
    · simp [pn, pcs]

theorem Pend.five {B g c : Nat} {s : ByteArray} {w : World} (h : Pend B (.slice (some ⟨g, 0, none⟩) 1 c) (some s) w) :
    w.cell? ⟨g, 0, none⟩ = some (.int .i64 0) ∧ w.cell? ⟨g, 1, none⟩ = some (.int .i64 0) ∧ w.cell? ⟨g, 2, none⟩ = some (.int .i64 0) ∧ w.cell? ⟨g, 3, none⟩ = some (.string s) ∧ w.cell? ⟨g, 4, none⟩ = some (.bool true) := by
  have hc := h.cells (g := g) rfl
  refine ⟨?_, ?_, ?_, ?_, ?_⟩
  · exact hc 0 _ rfl
  · exact hc 1 _ rfl
  · exact hc 2 _ rfl
  · exact hc 3 _ rfl
  · exact hc 4 _ rfl

set_option maxRecDepth 100000 in
set_option maxHeartbeats 8000000 in
theorem newline_some0 {W : World} {b : Nat} {l0 l : List UInt8} {m : Nat} {w : World} (s : ByteArray) (HB : Hid (Below W.heap.size W w)) (h : Hid (PS W.heap.size b l0 (some s) m w)) (ht : Hid (Tab W)) (hs : Hid (Com s.data.toList)) (hlE : Hid (l = l0 ++ sfx (some s))) (he : Hid (Ends l)) (hl : Hid (l.length + m ≤ 140737488355000)) :
    Calls Tryd.prog 33 #[.pointer (some ⟨b, 0, none⟩)] w fun e w' => e = .returned (.tuple #[]) ∧ Hid (PS W.heap.size b (l ++ 10 :: List.replicate m 9) none m w') ∧ Hid (Ok W.heap.size b w w') := by
  obtain ⟨cv, hp, hq⟩ := h.out
  have HP0 := Lib.hid hp
  have HQ0 := Lib.hid hq
  obtain ⟨g, cc, hcv⟩ : ∃ g cc, cv = .slice (some ⟨g, 0, none⟩) 1 cc := by
    rcases hq.2 with ⟨h1, h2⟩ | ⟨g, cap, cur, h1, -⟩
    · exact absurd h2 (by simp [pn])
    · exact ⟨g, cap, h1⟩
  obtain ⟨p0, c0, lr, h0, h1, h2, h3, h4, hf, hR, hc⟩ := hp.parts
  have H3 := h3
  rw [hcv] at H3
  have hm64 : m ≤ 140737488355000 := by have := hl.out; omega
  have HLA : Hid (l0.length + (⟨#[32]⟩ : ByteArray).size ≤ 140737488355328) := Lib.hid (by
    have h1 : (⟨#[32]⟩ : ByteArray).size = 1 := rfl
    have := hl.out
    rw [hlE.out, List.length_append] at this
    omega)
  clear h0 h1 h2 h3 h4 hf hR hc h hp hq
  go_enter Tryd.func33, Tryd.ntmps33
  go_wp2_with (first | (go_at_call 31; (with_reducible refine (write_is HP0 ⟨#[32]⟩ HLA).mono ?_); rintro e w1 ⟨rfl, hp1, hk1⟩; have hq1 := Lib.hid (HQ0.out.ok HP0.out hk1.out); have hc1 := hp1.out.com; rw [hcv] at hc1))
  clear hq1 hc1
  have HE0 : Hid (l = l0 ++ [32] ++ s.data.toList) := Lib.hid (by rw [hlE.out]; simp [sfx])
  go_loopg [22] 1 (fun kq v22 w' => ∃ k : Nat, v22 = .int .i64 (k : Int) ∧ k ≤ 1 ∧ 1 ≤ kq + k ∧ Hid (PB W.heap.size b (if k = 0 then l0 ++ [32] else l) cv m w') ∧ Hid (Ok W.heap.size b w w'))
  case atStart => exact ⟨0, rfl, by omega, by omega, hp1, hk1⟩
  case round =>
    clear hp1 hk1
    obtain ⟨k, rfl, hk, hq, hp2, hk2⟩ := hrel
    rcases (by omega : k = 0 ∨ k = 1) with rfl | rfl
    · rw [if_pos rfl] at hp2
      have hq2 := HQ0.out.ok HP0.out hk2.out
      rw [hcv] at hq2
      obtain ⟨d0, d1, d2, d3, d4⟩ := hq2.five
      clear hq2
      go_wp2
      obtain ⟨ob, hob⟩ : ∃ ob, ob = Obj.cells #[.int .i64 0, .int .i64 0, .int .i64 0, .string s, .bool true] 79 := ⟨_, rfl⟩
      have hb : Below wr.heap.size wr (wr.alloc ob) := (Below.refl _ _).alloc (Nat.le_refl _) _
      have hd3 : (wr.alloc ob).cell? ⟨wr.heap.size, 3, none⟩ = some (.string s) := by rw [hob, World.cell?_alloc_mark]; rfl
      have hp5 := Lib.hid (hp2.out.old hb)
      have hk5 := thenOk hk2 (Lib.hid (Ok.old (B := W.heap.size) (b := b) hp2.out.le hb))
      rw [← hob]
      clear hob hb hp2 hk2 d0 d1 d2 d3 d4
      generalize wr.alloc ob = w5 at *
      generalize wr.heap.size = gb at *
      have hp5d : Hid (PB W.heap.size b (l0 ++ [32]) cv m w5.drew) := Lib.hid (hp5.out.drewN 1)
      have hk5d : Hid (Ok W.heap.size b w w5.drew) := Lib.hid (hk5.out.drewN 1)
      have HT5 : Hid (Tab w5.drew) := Lib.hid (ht.out.below (HB.out.trans hk5d.out.1))
      clear hp5 hk5
      have HLB : Hid ((l0 ++ [32]).length + s.size ≤ 140737488355328) := Lib.hid (by
        have := hl.out
        rw [HE0.out, List.length_append] at this
        rw [Lib.size_eq]
        omega)
      go_region_with (first | (go_at_call 32; (with_reducible refine (tsp_is s _ HT5 hs).mono ?_); rintro e w6 ⟨rfl, hb6⟩; have hp6 := Lib.hid (hp5d.out.old hb6); have hk6 := thenOk hk5d (Lib.hid (Ok.old (B := W.heap.size) (b := b) hp5d.out.le hb6)); clear hb6) | (go_at_call 31; (with_reducible refine (write_is hp6 s HLB).mono ?_); rintro e w7 ⟨rfl, hp7, hk7⟩))
      all_goals go_wp2
      all_goals (go_roundg (gk - 1))
      case measure => omega
      case rel => exact ⟨1, by go_num, by omega, by omega, by rw [if_neg (by omega), HE0.out]; exact hp7, thenOk hk6 hk7⟩
    · rw [if_neg (by omega)] at hp2
      have hc3 : wr.cell? ⟨b, 3, none⟩ = some (.slice (some ⟨g, 0, none⟩) 1 cc) := by rw [← hcv]; exact hp2.out.com
      have hf3 : wr.frozen? ⟨b, 3, none⟩ = false := by
        obtain ⟨_, _, _, _, _, _, _, _, hf, _⟩ := hp2.out.parts
        exact hf 3
      have hsl : ∀ W, (Instr.slice 51 (.slice (some ⟨g, 0, none⟩) 1 cc) none (some (.int .i64 0)) none).run Tryd.prog W = .ok (.slice (some ⟨g, 0, none⟩) 0 cc) W := by
        intro W
        rw [run_slice_h (P := Tryd.prog) W 51 (some ⟨g, 0, none⟩) 1 cc (by kernel_rfl) .i64 0 (by omega) (by omega)]
        have hz : ∀ w', (sizeOf (Tryd.prog.elem 51)).run Tryd.prog w' = .ok 5 w' := fun w' => by kernel_rfl
        rw [hz]
        show Result.ok (sliced _ 0 _ cc 5) W = _
        unfold sliced
        simp [Addr.add]
      have HP : Hid (PB W.heap.size b l (.slice (some ⟨g, 0, none⟩) 0 cc) m (wr.setCell ⟨b, 3, none⟩ (.slice (some ⟨g, 0, none⟩) 0 cc))) := Lib.hid hp2.out.setCom
      have HK0 : Hid (Ok W.heap.size b w (wr.setCell ⟨b, 3, none⟩ (.slice (some ⟨g, 0, none⟩) 0 cc))) := Lib.hid (hk2.out.set hp2.out.hB 3 _)
      have HQ : Hid (Pend W.heap.size (.slice (some ⟨g, 0, none⟩) 0 cc) none w) := Lib.hid (Pend.cut (by rw [← hcv]; exact HQ0.out))
      obtain ⟨n, hn⟩ : ∃ n, n = l.length := ⟨_, rfl⟩
      have HN := Lib.hid hn
      have HL : Hid (l.length ≤ l.length) := Lib.hid (Nat.le_refl _)
      have HW : Hid (∀ i, l.length ≤ i → (h : i < l.length) → l[i] = 9 ∨ l[i] = 32) := Lib.hid (fun i h1 h2 => by omega)
      have HS : Hid (∀ j, j + 1 = l.length → (h : j < l.length) → l[j] ≠ 9 ∧ l[j] ≠ 32) := Lib.hid (fun j h1 h2 => he.out.last j h1 h2)
      have HTK : Hid (l.take l.length = l) := Lib.hid List.take_length
      have HLIM : Hid (l.length + (⟨#[10]⟩ : ByteArray).size ≤ 140737488355328) := Lib.hid (by
        have h1 : (⟨#[10]⟩ : ByteArray).size = 1 := rfl
        have := hl.out
        omega)
      have hnc : n ≤ 140737488355000 := by have := hl.out; omega
      clear hn hp2 hk2
      rcases he.out.ways n HN.out with rfl | ⟨i, x, rfl, hx, hread⟩ | ⟨i, x, rfl, hx, hread⟩
      · go_wp2_with (first | (go_at_call 41; (with_reducible refine (trim_is HP l.length HL HW HS).mono ?_); rintro e w1 ⟨rfl, hp1, hk1'⟩; rw [HTK.out] at hp1; have hk1 := thenOk HK0 hk1'; clear hk1') | (go_at_call 24; (with_reducible refine (bytes_is hp1 _ HN).mono ?_); rintro e w2 ⟨p, c, rfl, HR, hd⟩; have hp2 := drawnPB hp1 hd; have hk2 := drawnOk hk1 hd; have HR2 := drawnRd HR hd; clear HR hd; skip) | (go_at_call 31; (with_reducible refine (write_is hp2 ⟨#[10]⟩ HLIM).mono ?_); rintro e w3 ⟨rfl, hp3, hk3⟩; have hk4 := thenOk hk2 hk3))
        clear hp1 hk1 hp2 hk2 HR2 hk3
        go_loopg [6] m (fun kq v6 w' => ∃ k : Nat, v6 = .int .i64 (k : Int) ∧ k ≤ m ∧ m ≤ kq + k ∧ Hid (PB W.heap.size b (l ++ 10 :: List.replicate k 9) (.slice (some ⟨g, 0, none⟩) 0 cc) m w') ∧ Hid (Ok W.heap.size b w w'))
        case atStart => exact ⟨0, rfl, by omega, by omega, hp3, hk4⟩
        case round =>
          clear hp3 hk4
          obtain ⟨k, rfl, hk, hq, hp5, hk5⟩ := hrel
          obtain ⟨p5, c5, lr5, g0, g1, g2, g3, g4, gf, gR, gc⟩ := hp5.out.parts
          clear g0 g1 g2 g3 gf gR gc
          by_cases hlt : k < m
          · have b1 : decide ((k : Int) < (m : Int)) = true := decide_eq_true (by omega)
            have HL2 : Hid ((l ++ 10 :: List.replicate k 9).length + (⟨#[9]⟩ : ByteArray).size ≤ 140737488355328) := Lib.hid (by
              have h1 : (⟨#[9]⟩ : ByteArray).size = 1 := rfl
              have := hl.out
              rw [h1, List.length_append, List.length_cons, List.length_replicate]
              omega)
            go_wp2_with (first | (go_at_call 31; (with_reducible refine (write_is hp5 ⟨#[9]⟩ HL2).mono ?_); rintro e w6 ⟨rfl, hp6, hk6⟩))
            go_roundg (gk - 1)
            case measure => omega
            case rel => exact ⟨k + 1, by go_num, by omega, by omega, (by rw [List.replicate_succ', List.append_assoc] at *; simpa using hp6), thenOk hk5 hk6⟩
          · have b1 : decide ((k : Int) < (m : Int)) = false := decide_eq_false (by omega)
            obtain rfl : k = m := by omega
            go_wp2
            go_end0
            exact ⟨rfl, Lib.hid ⟨_, hp5.out, HQ.out.ok HP0.out hk5.out⟩, hk5⟩
      · have hx1 : (((x : Nat) : Int) == 10) = false := by rw [beq_eq_false_iff_ne]; omega
        go_wp2_with (first | (go_at_call 41; (with_reducible refine (trim_is HP l.length HL HW HS).mono ?_); rintro e w1 ⟨rfl, hp1, hk1'⟩; rw [HTK.out] at hp1; have hk1 := thenOk HK0 hk1'; clear hk1') | (go_at_call 24; (with_reducible refine (bytes_is hp1 _ HN).mono ?_); rintro e w2 ⟨p, c, rfl, HR, hd⟩; have hp2 := drawnPB hp1 hd; have hk2 := drawnOk hk1 hd; have HR2 := drawnRd HR hd; clear HR hd; obtain ⟨g2, rfl, hcx⟩ := hread HR2) | (go_at_call 31; (with_reducible refine (write_is hp2 ⟨#[10]⟩ HLIM).mono ?_); rintro e w3 ⟨rfl, hp3, hk3⟩; have hk4 := thenOk hk2 hk3))
        clear hp1 hk1 hp2 hk2 HR2 hk3
        go_loopg [6] m (fun kq v6 w' => ∃ k : Nat, v6 = .int .i64 (k : Int) ∧ k ≤ m ∧ m ≤ kq + k ∧ Hid (PB W.heap.size b (l ++ 10 :: List.replicate k 9) (.slice (some ⟨g, 0, none⟩) 0 cc) m w') ∧ Hid (Ok W.heap.size b w w'))
        case atStart => exact ⟨0, rfl, by omega, by omega, hp3, hk4⟩
        case round =>
          clear hp3 hk4
          obtain ⟨k, rfl, hk, hq, hp5, hk5⟩ := hrel
          obtain ⟨p5, c5, lr5, g0, g1, g2, g3, g4, gf, gR, gc⟩ := hp5.out.parts
          clear g0 g1 g2 g3 gf gR gc
          by_cases hlt : k < m
          · have b1 : decide ((k : Int) < (m : Int)) = true := decide_eq_true (by omega)
            have HL2 : Hid ((l ++ 10 :: List.replicate k 9).length + (⟨#[9]⟩ : ByteArray).size ≤ 140737488355328) := Lib.hid (by
              have h1 : (⟨#[9]⟩ : ByteArray).size = 1 := rfl
              have := hl.out
              rw [h1, List.length_append, List.length_cons, List.length_replicate]
              omega)
            go_wp2_with (first | (go_at_call 31; (with_reducible refine (write_is hp5 ⟨#[9]⟩ HL2).mono ?_); rintro e w6 ⟨rfl, hp6, hk6⟩))
            go_roundg (gk - 1)
            case measure => omega
            case rel => exact ⟨k + 1, by go_num, by omega, by omega, (by rw [List.replicate_succ', List.append_assoc] at *; simpa using hp6), thenOk hk5 hk6⟩
          · have b1 : decide ((k : Int) < (m : Int)) = false := decide_eq_false (by omega)
            obtain rfl : k = m := by omega
            go_wp2
            go_end0
            exact ⟨rfl, Lib.hid ⟨_, hp5.out, HQ.out.ok HP0.out hk5.out⟩, hk5⟩
      · have hx1 : (((x : Nat) : Int) == 10) = false := by rw [beq_eq_false_iff_ne]; omega
        go_wp2_with (first | (go_at_call 41; (with_reducible refine (trim_is HP l.length HL HW HS).mono ?_); rintro e w1 ⟨rfl, hp1, hk1'⟩; rw [HTK.out] at hp1; have hk1 := thenOk HK0 hk1'; clear hk1') | (go_at_call 24; (with_reducible refine (bytes_is hp1 _ HN).mono ?_); rintro e w2 ⟨p, c, rfl, HR, hd⟩; have hp2 := drawnPB hp1 hd; have hk2 := drawnOk hk1 hd; have HR2 := drawnRd HR hd; clear HR hd; obtain ⟨g2, rfl, hcx, hcy⟩ := hread HR2) | (go_at_call 31; (with_reducible refine (write_is hp2 ⟨#[10]⟩ HLIM).mono ?_); rintro e w3 ⟨rfl, hp3, hk3⟩; have hk4 := thenOk hk2 hk3))
        clear hp1 hk1 hp2 hk2 HR2 hk3
        go_loopg [6] m (fun kq v6 w' => ∃ k : Nat, v6 = .int .i64 (k : Int) ∧ k ≤ m ∧ m ≤ kq + k ∧ Hid (PB W.heap.size b (l ++ 10 :: List.replicate k 9) (.slice (some ⟨g, 0, none⟩) 0 cc) m w') ∧ Hid (Ok W.heap.size b w w'))
        case atStart => exact ⟨0, rfl, by omega, by omega, hp3, hk4⟩
        case round =>
          clear hp3 hk4
          obtain ⟨k, rfl, hk, hq, hp5, hk5⟩ := hrel
          obtain ⟨p5, c5, lr5, g0, g1, g2, g3, g4, gf, gR, gc⟩ := hp5.out.parts
          clear g0 g1 g2 g3 gf gR gc
          by_cases hlt : k < m
          · have b1 : decide ((k : Int) < (m : Int)) = true := decide_eq_true (by omega)
            have HL2 : Hid ((l ++ 10 :: List.replicate k 9).length + (⟨#[9]⟩ : ByteArray).size ≤ 140737488355328) := Lib.hid (by
              have h1 : (⟨#[9]⟩ : ByteArray).size = 1 := rfl
              have := hl.out
              rw [h1, List.length_append, List.length_cons, List.length_replicate]
              omega)
            go_wp2_with (first | (go_at_call 31; (with_reducible refine (write_is hp5 ⟨#[9]⟩ HL2).mono ?_); rintro e w6 ⟨rfl, hp6, hk6⟩))
            go_roundg (gk - 1)
            case measure => omega
            case rel => exact ⟨k + 1, by go_num, by omega, by omega, (by rw [List.replicate_succ', List.append_assoc] at *; simpa using hp6), thenOk hk5 hk6⟩
          · have b1 : decide ((k : Int) < (m : Int)) = false := decide_eq_false (by omega)
            obtain rfl : k = m := by omega
            go_wp2
            go_end0
            exact ⟨rfl, Lib.hid ⟨_, hp5.out, HQ.out.ok HP0.out hk5.out⟩, hk5⟩

/-- newline, whatever waits. -/
theorem newline_is {W : World} {b : Nat} {l : List UInt8} {o : Option ByteArray} {m : Nat} {w : World} (HB : Hid (Below W.heap.size W w)) (h : Hid (PS W.heap.size b l o m w)) (ht : Hid (Tab W)) (hs : Hid (∀ s, o = some s → Com s.data.toList)) (he : Hid (Ends (l ++ sfx o))) (hl : Hid ((l ++ sfx o).length + m ≤ 140737488355000)) :
    Calls Tryd.prog 33 #[.pointer (some ⟨b, 0, none⟩)] w fun e w' => e = .returned (.tuple #[]) ∧ Hid (PS W.heap.size b (l ++ sfx o ++ 10 :: List.replicate m 9) none m w') ∧ Hid (Ok W.heap.size b w w') := by
  cases o with
  | none =>
    have e : l ++ sfx none = l := List.append_nil l
    rw [e] at he hl ⊢
    exact newline_none h he hl
  | some s => exact newline_some0 s HB h ht (Lib.hid (hs.out s rfl)) (Lib.hid rfl) he hl

end Go.Proofs.YtbifcpokkfiagaaDoor.F
