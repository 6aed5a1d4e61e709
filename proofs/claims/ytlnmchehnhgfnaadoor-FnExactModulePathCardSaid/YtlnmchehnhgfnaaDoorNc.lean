/- The law FnExactModulePath: its walk. Conditions: the table of white space lies in memory. -/
import Derived.Test.YtlnmchehnhgfnaaDoorNb
import Derived.LoopTactic
namespace Go.Proofs.YtlnmchehnhgfnaaDoor.M
open Go.RowKit Go.Proofs.YtlnmchehnhgfnaaDoorW.PrintWords

theorem btAt (s : ByteArray) (k : Nat) (x : Int) (hx : x = bt s (k : Int)) : ∀ h : k < s.size, ((s[k]'h).toNat : Int) = x := by
  intro h
  rw [hx, bt_get s k h]
  rfl

/-- All bytes so far are good ones. -/
def GoodTo (s : ByteArray) (k : Nat) : Prop := Good ((lst s).take k)

theorem good_next (s : ByteArray) (k : Nat) (x : Int) (h : GoodTo s k) (hk : k < s.size) (hx : x = bt s (k : Int)) (h1 : ¬ 126 < x) (h2 : x ≠ 34) (h3 : x ≠ 96) : GoodTo s (k + 1) := by
  intro c hc
  have hl : k < (lst s).length := by rw [lst_length]; exact hk
  rw [List.take_succ_eq_append_getElem hl] at hc
  rcases List.mem_append.mp hc with h4 | h4
  · exact h c h4
  · have e := List.mem_singleton.mp h4
    rw [bt_get s k hk] at hx
    refine ⟨by rw [e]; omega, ?_, ?_⟩
    · intro h5
      rw [← e, h5] at hx
      have : (34 : UInt8).toNat = 34 := rfl
      omega
    · intro h5
      rw [← e, h5] at hx
      have : (96 : UInt8).toNat = 96 := rfl
      omega

theorem good_all (s : ByteArray) (k : Nat) (h : GoodTo s k) (hk : s.size ≤ k) : Good (lst s) := by
  unfold GoodTo at h
  rw [List.take_of_length_le (by rw [lst_length]; exact hk)] at h
  exact h

theorem impl_str (s y : ByteArray) (w : World) (hs : s.size ≤ 2147483647) (ht : Hid (Tab w)) (hr : Hid (Res (lst s) (lst y))) :
    Calls Tryd.prog 7 #[.string s] w fun e w' => e = .returned (.string y) ∧ Below w.heap.size w w' := by
  have := impl_any s (lst y) w (by omega) ht hr
  rw [str_back] at this
  exact this

set_option maxHeartbeats 4000000 in
set_option maxRecDepth 100000 in
theorem exactMP_any (s : ByteArray) (w : World) (ht : Hid (Tab w)) : Calls Tryd.prog 3 #[.string s] w fun e w' => e = .returned (.bool true) ∧ Below w.heap.size w w' := by
  by_cases c1 : 2147483647 < s.size
  · have b1 : decide (2147483647 < (s.size : Int)) = true := decide_eq_true (by omega)
    have b2 : decide (2147483647 < s.size) = true := decide_eq_true c1
    clear c1
    go_enter Tryd.func3, Tryd.ntmps3
    go_wp2
    go_ret
    exact ⟨rfl, Below.refl _ _⟩
  · have b1 : decide (2147483647 < (s.size : Int)) = false := decide_eq_false (by omega)
    have b2 : decide (2147483647 < s.size) = false := decide_eq_false c1
    have hs : s.size ≤ 2147483647 := by omega
    clear c1
    go_enter Tryd.func3, Tryd.ntmps3
    go_wp2
    go_loop [3] (fun v => ∃ k : Nat, v = .int .i64 (k : Int) ∧ k ≤ s.size ∧ Hid (GoodTo s k)) (fun v => s.size - (intOf v).toNat)
    case atStart => exact ⟨0, rfl, by omega, Lib.hid (by intro c hc; simp at hc)⟩
    case round =>
      obtain ⟨k, rfl, hk, HG⟩ := hrel
      by_cases hlt : k < s.size
      · have q1 : (k < s.size) = True := eq_true hlt
        have qi1 : ((k : Int) < (s.size : Int)) = True := eq_true (by omega)
        have d1 : decide ((k : Int) < (s.size : Int)) = true := decide_eq_true (by omega)
        obtain ⟨x, hx⟩ : ∃ x, x = bt s (k : Int) := ⟨_, rfl⟩
        have hx1 := btAt s k x hx
        have HX := Lib.hid hx
        clear hx
        by_cases e1 : 126 < x
        · have t1 : decide (126 < x) = true := decide_eq_true e1
          clear e1
          go_wp2_with (go_at_call 6; (with_reducible refine (paths_any _ ht).mono ?_); rintro e w2 ⟨rfl, hb2⟩)
          go_ret
          exact ⟨rfl, hb2⟩
        · have t1 : decide (126 < x) = false := decide_eq_false e1
          by_cases e2 : x = 34
          · have t2 : (x == 34) = true := by simp [e2]
            clear e1 e2
            go_wp2_with (go_at_call 6; (with_reducible refine (paths_any _ ht).mono ?_); rintro e w2 ⟨rfl, hb2⟩)
            go_ret
            exact ⟨rfl, hb2⟩
          · have t2 : (x == 34) = false := beq_eq_false_iff_ne.mpr e2
            by_cases e3 : x = 96
            · have t3 : (x == 96) = true := by simp [e3]
              clear e1 e2 e3
              go_wp2_with (go_at_call 6; (with_reducible refine (paths_any _ ht).mono ?_); rintro e w2 ⟨rfl, hb2⟩)
              go_ret
              exact ⟨rfl, hb2⟩
            · have t3 : (x == 96) = false := beq_eq_false_iff_ne.mpr e3
              have HN : Hid (GoodTo s (k + 1)) := Lib.hid (good_next s k x HG.out hlt HX.out e1 e2 e3)
              clear e1 e2 e3
              go_wp2
              go_round
              case rel => exact ⟨k + 1, by go_num, by omega, HN⟩
              case measure => simp [intOf]; omega
      · have d1 : decide ((k : Int) < (s.size : Int)) = false := decide_eq_false (by omega)
        have hg := good_all s k HG.out (by omega)
        obtain ⟨K, y, h1, h2⟩ := specMP_tells s hs
        have hr : Hid (Res (lst s) (lst y)) := Lib.hid (by rw [h2]; exact res_of (lst s).length (lst s) (Nat.le_refl _) hg)
        have HY := Lib.hid h1
        have yy : (y.toList == y.toList) = true := by simp
        clear h1 h2 hg
        go_wp2_with (first | (go_at_call 7; (with_reducible refine (impl_str s y _ hs ht hr).mono ?_); rintro e w1 ⟨rfl, hb1⟩) | (go_at_call 8; (with_reducible refine (PModulePath.spec_ModulePath.calls K s y _ HY.out).mono ?_); rintro e w2 ⟨rfl, hb2⟩) | (go_at_call 6; (with_reducible refine (paths_any _ (Lib.hid (ht.out.below (hb1.trans (hb2.mono hb1.size))))).mono ?_); rintro e w3 ⟨rfl, hb3⟩))
        go_ret
        exact ⟨rfl, (hb1.trans (hb2.mono hb1.size)).trans (hb3.mono (hb1.trans (hb2.mono hb1.size)).size)⟩

end Go.Proofs.YtlnmchehnhgfnaaDoor.M
