/- The walk of matchGoVersion behind two numbers. Conditions: a string of at most 140737488351232 bytes. -/
import Derived.Test.YthgbiopfpjleaaaGvB
namespace Go.Proofs.Ythgbiopfpjleaaa.Gv
open Go.RowKit Go.Proofs.Ythgbiopfpjleaaa.Pnumber Go.Proofs.YthgbiopfpjleaaaW.PrintWords Go.Proofs.YthgbiopfpjleaaaW.PrintLast

theorem ret_bool {a b : Bool} (h : a = b) : Ending.returned (.bool a) = .returned (.bool b) := by rw [h]

set_option maxHeartbeats 8000000 in
set_option maxRecDepth 100000 in
/-- Two numbers, and one sign behind them or none. -/
theorem match_3 (a s1 s2 : ByteArray) (n1 n2 : Nat) (w : World) (ha : a.size ≤ 140737488351232) (h1 : a.size ≠ 0) (h2 : bt a 0 ≠ 48) (N1 : Hid (numLen (lst a) = n1)) (hn : n1 < a.size) (h3 : n1 ≠ 0) (h4 : bt a (n1 : Int) = 46)
    (E1 : a.extract (n1 + 1) a.size = s1) (hs1 : s1.size ≤ 140737488351232) (N2 : Hid (numLen (lst s1) = n2)) (h5 : n2 ≠ 0) (hn2 : n2 ≤ s1.size) (E2 : s1.extract n2 s1.size = s2) (hs2 : s2.size ≤ 140737488351232) (h7 : ¬ 1 < s2.size) (r : Bool) (R : Hid (tailB s2 = r)) :
    Calls Try.prog 22 #[.string a] w fun e w' => e = .returned (.bool r) ∧ Drawn0 w w' := by
  have b1 : (a.toList == []) = false := by simp [empty_iff, h1]
  have q1 : (0 < a.size) = True := eq_true (by omega)
  have qi1 : (0 < (a.size : Int)) = True := eq_true (by omega)
  have hx1 : ∀ h : 0 < a.size, ((a[0]'h).toNat : Int) = bt a 0 := bt_at a 0
  have b2 : (bt a 0 == 48) = false := beq_eq_false_iff_ne.mpr h2
  have b3 : ((n1 : Int) == 0) = false := by simp [h3]
  have b4 : ((n1 : Int) == (a.size : Int)) = false := by simp; omega
  have b5 : (bt a (n1 : Int) != 46) = false := by simp [h4]
  have q2 : (n1 < a.size) = True := eq_true (by omega)
  have qi2 : ((n1 : Int) < (a.size : Int)) = True := eq_true (by omega)
  have qz2 : (0 ≤ (n1 : Int)) := by omega
  have hx2 : ∀ h : n1 < a.size, ((a[n1]'h).toNat : Int) = bt a (n1 : Int) := bt_at a n1
  have b6 : ((n2 : Int) == 0) = false := by simp [h5]
  have i2 : (n2 : Int) ≤ (s1.size : Int) := by omega
  have z2 : 0 ≤ (n2 : Int) := by omega
  clear h1 h2 h3 h4 h5
  have b7 : decide (1 < (s2.size : Int)) = false := decide_eq_false (by omega)
  have b7' : decide (1 < s2.size) = false := decide_eq_false h7
  clear h7
  go_enter Try.func22, Try.ntmps22
  go_upto_region 16 with (go_at_call 24; first | ((with_reducible refine (num_is a n1 _ ha N1).mono ?_); rintro e w' ⟨rfl, ⟨n, rfl⟩⟩) | ((with_reducible refine (num_is s1 n2 _ hs1 N2).mono ?_); rintro e w' ⟨rfl, ⟨n, rfl⟩⟩))
  by_cases t1 : s2.size = 0
  · have tb : (s2.toList == []) = true := by simp [empty_iff, t1]
    have R' : Hid (true = r) := Lib.hid (by rw [← R.out]; unfold tailB; rw [decide_eq_true t1]; rfl)
    clear R t1
    go_wp2
    go_ret
    exact ⟨ret_bool R'.out, by repeat (first | exact Drawn0.refl _ | apply Drawn0.step)⟩
  · have tb : (s2.toList == []) = false := by simp [empty_iff, t1]
    have R' : Hid ((decide (0 < lows s2) && decide (lows s2 < digs s2) && decide (digs s2 = s2.size)) = r) := Lib.hid (by rw [← R.out]; unfold tailB; rw [decide_eq_false t1]; rfl)
    clear R t1
    obtain ⟨p, hp⟩ : ∃ p, p = lows s2 := ⟨_, rfl⟩
    obtain ⟨q, hq⟩ : ∃ q, q = digs s2 := ⟨_, rfl⟩
    have P := Lib.hid hp
    have Q := Lib.hid hq
    have hp1 := lows_le s2
    have hq1 := digs_le s2
    rw [← hp] at hp1
    rw [← hp, ← hq] at hq1
    replace R' : Hid ((decide (0 < p) && decide (p < q) && decide (q = s2.size)) = r) := Lib.hid (by rw [← R'.out, hp, hq])
    clear hp hq
    go_wp2
    go_loop [4] (fun v => ∃ k : Nat, k ≤ p ∧ v = .int .i64 k) (fun v => p - (intOf v).toNat)
    case atStart => exact ⟨0, by omega, rfl⟩
    case round =>
      obtain ⟨k, hk, rfl⟩ := hrel
      by_cases hlt : k < p
      · have hin := lows_in s2 k (by rw [← P.out]; exact hlt)
        have g1 : decide ((k : Int) < (s2.size : Int)) = true := decide_eq_true (by omega)
        have g2 : decide (97 ≤ bt s2 (k : Int)) = true := decide_eq_true hin.1
        have g3 : decide (bt s2 (k : Int) ≤ 122) = true := decide_eq_true hin.2
        have g4 : (k < s2.size) = True := eq_true (by omega)
        have g5 : ((k : Int) < (s2.size : Int)) = True := eq_true (by omega)
        have g6 : ∀ h : k < s2.size, ((s2[k]'h).toNat : Int) = bt s2 (k : Int) := bt_at s2 k
        clear hin
        go_wp2
        go_round
        case rel => exact ⟨k + 1, by omega, by go_num⟩
        case measure => simp [intOf]; omega
      · have hkp : p = k := by omega
        subst hkp
        clear hk hlt
        by_cases ey : p = s2.size
        · have xy : decide ((p : Int) < (s2.size : Int)) = false := decide_eq_false (by omega)
          have ny : decide (p < s2.size) = false := decide_eq_false (by omega)
          clear ey
          go_wp2
          go_loop [5] (fun v => ∃ k : Nat, p ≤ k ∧ k ≤ q ∧ v = .int .i64 k) (fun v => q - (intOf v).toNat)
          case atStart => exact ⟨p, by omega, by omega, rfl⟩
          case round =>
            obtain ⟨k, hk0, hk, rfl⟩ := hrel
            by_cases hlt : k < q
            · have hin := digs_in s2 k (by rw [← P.out]; exact hk0) (by rw [← Q.out]; exact hlt)
              have g1 : decide ((k : Int) < (s2.size : Int)) = true := decide_eq_true (by omega)
              have g2 : decide (48 ≤ bt s2 (k : Int)) = true := decide_eq_true hin.1
              have g3 : decide (bt s2 (k : Int) ≤ 57) = true := decide_eq_true hin.2
              have g4 : (k < s2.size) = True := eq_true (by omega)
              have g5 : ((k : Int) < (s2.size : Int)) = True := eq_true (by omega)
              have g6 : ∀ h : k < s2.size, ((s2[k]'h).toNat : Int) = bt s2 (k : Int) := bt_at s2 k
              clear hin
              go_wp2
              go_round
              case rel => exact ⟨k + 1, by omega, by omega, by go_num⟩
              case measure => simp [intOf]; omega
            · have hkq : q = k := by omega
              subst hkq
              clear hk hlt
              by_cases ez : q = s2.size
              · have xz : decide ((q : Int) < (s2.size : Int)) = false := decide_eq_false (by omega)
                have nz : decide (q < s2.size) = false := decide_eq_false (by omega)
                clear ez
                have fin : Hid ((decide (0 < p) && decide (p < q) && decide (q = s2.size)) = r) := R'
                by_cases f1 : 0 < p
                · have d1 : decide (0 < (p : Int)) = true := decide_eq_true (by omega)
                  have d1' : decide (0 < p) = true := decide_eq_true f1
                  by_cases f2 : p < q
                  · have d2 : decide ((p : Int) < (q : Int)) = true := decide_eq_true (by omega)
                    have d2' : decide (p < q) = true := decide_eq_true f2
                    by_cases f3 : q = s2.size
                    · have d3 : ((q : Int) == (s2.size : Int)) = true := beq_iff_eq.mpr (by omega)
                      have o : Hid (true = r) := Lib.hid (by rw [← fin.out, d1', d2', decide_eq_true f3]; rfl)
                      clear f1 f2 f3 R' fin
                      go_wp2
                      go_ret
                      exact ⟨ret_bool o.out, by repeat (first | exact Drawn0.refl _ | apply Drawn0.step)⟩
                    · have d3 : ((q : Int) == (s2.size : Int)) = false := beq_eq_false_iff_ne.mpr (by omega)
                      have o : Hid (false = r) := Lib.hid (by rw [← fin.out, decide_eq_false f3]; simp)
                      clear f1 f2 f3 R' fin
                      go_wp2
                      go_ret
                      exact ⟨ret_bool o.out, by repeat (first | exact Drawn0.refl _ | apply Drawn0.step)⟩
                  · have d2 : decide ((p : Int) < (q : Int)) = false := decide_eq_false (by omega)
                    have d2' : decide (p < q) = false := decide_eq_false f2
                    have o : Hid (false = r) := Lib.hid (by rw [← fin.out, decide_eq_false f2]; simp)
                    clear f1 f2 R' fin
                    go_wp2
                    go_ret
                    exact ⟨ret_bool o.out, by repeat (first | exact Drawn0.refl _ | apply Drawn0.step)⟩
                · have d1 : decide (0 < (p : Int)) = false := decide_eq_false (by omega)
                  have d1' : decide (0 < p) = false := decide_eq_false f1
                  have o : Hid (false = r) := Lib.hid (by rw [← fin.out, decide_eq_false f1]; rfl)
                  clear f1 R' fin
                  go_wp2
                  go_ret
                  exact ⟨ret_bool o.out, by repeat (first | exact Drawn0.refl _ | apply Drawn0.step)⟩
              · have oz := digs_out s2 (by rw [← Q.out]; omega)
                rw [← Q.out] at oz
                have xz : decide ((q : Int) < (s2.size : Int)) = true := decide_eq_true (by omega)
                have qz : (q < s2.size) = True := eq_true (by omega)
                have iz : ((q : Int) < (s2.size : Int)) = True := eq_true (by omega)
                have hz : ∀ h : q < s2.size, ((s2[q]'h).toNat : Int) = bt s2 (q : Int) := bt_at s2 q
                by_cases lz : 48 ≤ bt s2 (q : Int)
                · have az : decide (48 ≤ bt s2 (q : Int)) = true := decide_eq_true lz
                  have bbz : decide (bt s2 (q : Int) ≤ 57) = false := decide_eq_false (by omega)
                  clear oz lz ez
                  have fin : Hid ((decide (0 < p) && decide (p < q) && decide (q = s2.size)) = r) := R'
                  by_cases f1 : 0 < p
                  · have d1 : decide (0 < (p : Int)) = true := decide_eq_true (by omega)
                    have d1' : decide (0 < p) = true := decide_eq_true f1
                    by_cases f2 : p < q
                    · have d2 : decide ((p : Int) < (q : Int)) = true := decide_eq_true (by omega)
                      have d2' : decide (p < q) = true := decide_eq_true f2
                      by_cases f3 : q = s2.size
                      · have d3 : ((q : Int) == (s2.size : Int)) = true := beq_iff_eq.mpr (by omega)
                        have o : Hid (true = r) := Lib.hid (by rw [← fin.out, d1', d2', decide_eq_true f3]; rfl)
                        clear f1 f2 f3 R' fin
                        go_wp2
                        go_ret
                        exact ⟨ret_bool o.out, by repeat (first | exact Drawn0.refl _ | apply Drawn0.step)⟩
                      · have d3 : ((q : Int) == (s2.size : Int)) = false := beq_eq_false_iff_ne.mpr (by omega)
                        have o : Hid (false = r) := Lib.hid (by rw [← fin.out, decide_eq_false f3]; simp)
                        clear f1 f2 f3 R' fin
                        go_wp2
                        go_ret
                        exact ⟨ret_bool o.out, by repeat (first | exact Drawn0.refl _ | apply Drawn0.step)⟩
                    · have d2 : decide ((p : Int) < (q : Int)) = false := decide_eq_false (by omega)
                      have d2' : decide (p < q) = false := decide_eq_false f2
                      have o : Hid (false = r) := Lib.hid (by rw [← fin.out, decide_eq_false f2]; simp)
                      clear f1 f2 R' fin
                      go_wp2
                      go_ret
                      exact ⟨ret_bool o.out, by repeat (first | exact Drawn0.refl _ | apply Drawn0.step)⟩
                  · have d1 : decide (0 < (p : Int)) = false := decide_eq_false (by omega)
                    have d1' : decide (0 < p) = false := decide_eq_false f1
                    have o : Hid (false = r) := Lib.hid (by rw [← fin.out, decide_eq_false f1]; rfl)
                    clear f1 R' fin
                    go_wp2
                    go_ret
                    exact ⟨ret_bool o.out, by repeat (first | exact Drawn0.refl _ | apply Drawn0.step)⟩
                · have az : decide (48 ≤ bt s2 (q : Int)) = false := decide_eq_false lz
                  clear oz lz ez
                  have fin : Hid ((decide (0 < p) && decide (p < q) && decide (q = s2.size)) = r) := R'
                  by_cases f1 : 0 < p
                  · have d1 : decide (0 < (p : Int)) = true := decide_eq_true (by omega)
                    have d1' : decide (0 < p) = true := decide_eq_true f1
                    by_cases f2 : p < q
                    · have d2 : decide ((p : Int) < (q : Int)) = true := decide_eq_true (by omega)
                      have d2' : decide (p < q) = true := decide_eq_true f2
                      by_cases f3 : q = s2.size
                      · have d3 : ((q : Int) == (s2.size : Int)) = true := beq_iff_eq.mpr (by omega)
                        have o : Hid (true = r) := Lib.hid (by rw [← fin.out, d1', d2', decide_eq_true f3]; rfl)
                        clear f1 f2 f3 R' fin
                        go_wp2
                        go_ret
                        exact ⟨ret_bool o.out, by repeat (first | exact Drawn0.refl _ | apply Drawn0.step)⟩
                      · have d3 : ((q : Int) == (s2.size : Int)) = false := beq_eq_false_iff_ne.mpr (by omega)
                        have o : Hid (false = r) := Lib.hid (by rw [← fin.out, decide_eq_false f3]; simp)
                        clear f1 f2 f3 R' fin
                        go_wp2
                        go_ret
                        exact ⟨ret_bool o.out, by repeat (first | exact Drawn0.refl _ | apply Drawn0.step)⟩
                    · have d2 : decide ((p : Int) < (q : Int)) = false := decide_eq_false (by omega)
                      have d2' : decide (p < q) = false := decide_eq_false f2
                      have o : Hid (false = r) := Lib.hid (by rw [← fin.out, decide_eq_false f2]; simp)
                      clear f1 f2 R' fin
                      go_wp2
                      go_ret
                      exact ⟨ret_bool o.out, by repeat (first | exact Drawn0.refl _ | apply Drawn0.step)⟩
                  · have d1 : decide (0 < (p : Int)) = false := decide_eq_false (by omega)
                    have d1' : decide (0 < p) = false := decide_eq_false f1
                    have o : Hid (false = r) := Lib.hid (by rw [← fin.out, decide_eq_false f1]; rfl)
                    clear f1 R' fin
                    go_wp2
                    go_ret
                    exact ⟨ret_bool o.out, by repeat (first | exact Drawn0.refl _ | apply Drawn0.step)⟩
        · have oy := lows_out s2 (by rw [← P.out]; omega)
          rw [← P.out] at oy
          have xy : decide ((p : Int) < (s2.size : Int)) = true := decide_eq_true (by omega)
          have qy : (p < s2.size) = True := eq_true (by omega)
          have iy : ((p : Int) < (s2.size : Int)) = True := eq_true (by omega)
          have hy : ∀ h : p < s2.size, ((s2[p]'h).toNat : Int) = bt s2 (p : Int) := bt_at s2 p
          by_cases ly : 97 ≤ bt s2 (p : Int)
          · have ay : decide (97 ≤ bt s2 (p : Int)) = true := decide_eq_true ly
            have bby : decide (bt s2 (p : Int) ≤ 122) = false := decide_eq_false (by omega)
            clear oy ly ey
            go_wp2
            go_loop [5] (fun v => ∃ k : Nat, p ≤ k ∧ k ≤ q ∧ v = .int .i64 k) (fun v => q - (intOf v).toNat)
            case atStart => exact ⟨p, by omega, by omega, rfl⟩
            case round =>
              obtain ⟨k, hk0, hk, rfl⟩ := hrel
              by_cases hlt : k < q
              · have hin := digs_in s2 k (by rw [← P.out]; exact hk0) (by rw [← Q.out]; exact hlt)
                have g1 : decide ((k : Int) < (s2.size : Int)) = true := decide_eq_true (by omega)
                have g2 : decide (48 ≤ bt s2 (k : Int)) = true := decide_eq_true hin.1
                have g3 : decide (bt s2 (k : Int) ≤ 57) = true := decide_eq_true hin.2
                have g4 : (k < s2.size) = True := eq_true (by omega)
                have g5 : ((k : Int) < (s2.size : Int)) = True := eq_true (by omega)
                have g6 : ∀ h : k < s2.size, ((s2[k]'h).toNat : Int) = bt s2 (k : Int) := bt_at s2 k
                clear hin
                go_wp2
                go_round
                case rel => exact ⟨k + 1, by omega, by omega, by go_num⟩
                case measure => simp [intOf]; omega
              · have hkq : q = k := by omega
                subst hkq
                clear hk hlt
                by_cases ez : q = s2.size
                · have xz : decide ((q : Int) < (s2.size : Int)) = false := decide_eq_false (by omega)
                  have nz : decide (q < s2.size) = false := decide_eq_false (by omega)
                  clear ez
                  have fin : Hid ((decide (0 < p) && decide (p < q) && decide (q = s2.size)) = r) := R'
                  by_cases f1 : 0 < p
                  · have d1 : decide (0 < (p : Int)) = true := decide_eq_true (by omega)
                    have d1' : decide (0 < p) = true := decide_eq_true f1
                    by_cases f2 : p < q
                    · have d2 : decide ((p : Int) < (q : Int)) = true := decide_eq_true (by omega)
                      have d2' : decide (p < q) = true := decide_eq_true f2
                      by_cases f3 : q = s2.size
                      · have d3 : ((q : Int) == (s2.size : Int)) = true := beq_iff_eq.mpr (by omega)
                        have o : Hid (true = r) := Lib.hid (by rw [← fin.out, d1', d2', decide_eq_true f3]; rfl)
                        clear f1 f2 f3 R' fin
                        go_wp2
                        go_ret
                        exact ⟨ret_bool o.out, by repeat (first | exact Drawn0.refl _ | apply Drawn0.step)⟩
                      · have d3 : ((q : Int) == (s2.size : Int)) = false := beq_eq_false_iff_ne.mpr (by omega)
                        have o : Hid (false = r) := Lib.hid (by rw [← fin.out, decide_eq_false f3]; simp)
                        clear f1 f2 f3 R' fin
                        go_wp2
                        go_ret
                        exact ⟨ret_bool o.out, by repeat (first | exact Drawn0.refl _ | apply Drawn0.step)⟩
                    · have d2 : decide ((p : Int) < (q : Int)) = false := decide_eq_false (by omega)
                      have d2' : decide (p < q) = false := decide_eq_false f2
                      have o : Hid (false = r) := Lib.hid (by rw [← fin.out, decide_eq_false f2]; simp)
                      clear f1 f2 R' fin
                      go_wp2
                      go_ret
                      exact ⟨ret_bool o.out, by repeat (first | exact Drawn0.refl _ | apply Drawn0.step)⟩
                  · have d1 : decide (0 < (p : Int)) = false := decide_eq_false (by omega)
                    have d1' : decide (0 < p) = false := decide_eq_false f1
                    have o : Hid (false = r) := Lib.hid (by rw [← fin.out, decide_eq_false f1]; rfl)
                    clear f1 R' fin
                    go_wp2
                    go_ret
                    exact ⟨ret_bool o.out, by repeat (first | exact Drawn0.refl _ | apply Drawn0.step)⟩
                · have oz := digs_out s2 (by rw [← Q.out]; omega)
                  rw [← Q.out] at oz
                  have xz : decide ((q : Int) < (s2.size : Int)) = true := decide_eq_true (by omega)
                  have qz : (q < s2.size) = True := eq_true (by omega)
                  have iz : ((q : Int) < (s2.size : Int)) = True := eq_true (by omega)
                  have hz : ∀ h : q < s2.size, ((s2[q]'h).toNat : Int) = bt s2 (q : Int) := bt_at s2 q
                  by_cases lz : 48 ≤ bt s2 (q : Int)
                  · have az : decide (48 ≤ bt s2 (q : Int)) = true := decide_eq_true lz
                    have bbz : decide (bt s2 (q : Int) ≤ 57) = false := decide_eq_false (by omega)
                    clear oz lz ez
                    have fin : Hid ((decide (0 < p) && decide (p < q) && decide (q = s2.size)) = r) := R'
                    by_cases f1 : 0 < p
                    · have d1 : decide (0 < (p : Int)) = true := decide_eq_true (by omega)
                      have d1' : decide (0 < p) = true := decide_eq_true f1
                      by_cases f2 : p < q
                      · have d2 : decide ((p : Int) < (q : Int)) = true := decide_eq_true (by omega)
                        have d2' : decide (p < q) = true := decide_eq_true f2
                        by_cases f3 : q = s2.size
                        · have d3 : ((q : Int) == (s2.size : Int)) = true := beq_iff_eq.mpr (by omega)
                          have o : Hid (true = r) := Lib.hid (by rw [← fin.out, d1', d2', decide_eq_true f3]; rfl)
                          clear f1 f2 f3 R' fin
                          go_wp2
                          go_ret
                          exact ⟨ret_bool o.out, by repeat (first | exact Drawn0.refl _ | apply Drawn0.step)⟩
                        · have d3 : ((q : Int) == (s2.size : Int)) = false := beq_eq_false_iff_ne.mpr (by omega)
                          have o : Hid (false = r) := Lib.hid (by rw [← fin.out, decide_eq_false f3]; simp)
                          clear f1 f2 f3 R' fin
                          go_wp2
                          go_ret
                          exact ⟨ret_bool o.out, by repeat (first | exact Drawn0.refl _ | apply Drawn0.step)⟩
                      · have d2 : decide ((p : Int) < (q : Int)) = false := decide_eq_false (by omega)
                        have d2' : decide (p < q) = false := decide_eq_false f2
                        have o : Hid (false = r) := Lib.hid (by rw [← fin.out, decide_eq_false f2]; simp)
                        clear f1 f2 R' fin
                        go_wp2
                        go_ret
                        exact ⟨ret_bool o.out, by repeat (first | exact Drawn0.refl _ | apply Drawn0.step)⟩
                    · have d1 : decide (0 < (p : Int)) = false := decide_eq_false (by omega)
                      have d1' : decide (0 < p) = false := decide_eq_false f1
                      have o : Hid (false = r) := Lib.hid (by rw [← fin.out, decide_eq_false f1]; rfl)
                      clear f1 R' fin
                      go_wp2
                      go_ret
                      exact ⟨ret_bool o.out, by repeat (first | exact Drawn0.refl _ | apply Drawn0.step)⟩
                  · have az : decide (48 ≤ bt s2 (q : Int)) = false := decide_eq_false lz
                    clear oz lz ez
                    have fin : Hid ((decide (0 < p) && decide (p < q) && decide (q = s2.size)) = r) := R'
                    by_cases f1 : 0 < p
                    · have d1 : decide (0 < (p : Int)) = true := decide_eq_true (by omega)
                      have d1' : decide (0 < p) = true := decide_eq_true f1
                      by_cases f2 : p < q
                      · have d2 : decide ((p : Int) < (q : Int)) = true := decide_eq_true (by omega)
                        have d2' : decide (p < q) = true := decide_eq_true f2
                        by_cases f3 : q = s2.size
                        · have d3 : ((q : Int) == (s2.size : Int)) = true := beq_iff_eq.mpr (by omega)
                          have o : Hid (true = r) := Lib.hid (by rw [← fin.out, d1', d2', decide_eq_true f3]; rfl)
                          clear f1 f2 f3 R' fin
                          go_wp2
                          go_ret
                          exact ⟨ret_bool o.out, by repeat (first | exact Drawn0.refl _ | apply Drawn0.step)⟩
                        · have d3 : ((q : Int) == (s2.size : Int)) = false := beq_eq_false_iff_ne.mpr (by omega)
                          have o : Hid (false = r) := Lib.hid (by rw [← fin.out, decide_eq_false f3]; simp)
                          clear f1 f2 f3 R' fin
                          go_wp2
                          go_ret
                          exact ⟨ret_bool o.out, by repeat (first | exact Drawn0.refl _ | apply Drawn0.step)⟩
                      · have d2 : decide ((p : Int) < (q : Int)) = false := decide_eq_false (by omega)
                        have d2' : decide (p < q) = false := decide_eq_false f2
                        have o : Hid (false = r) := Lib.hid (by rw [← fin.out, decide_eq_false f2]; simp)
                        clear f1 f2 R' fin
                        go_wp2
                        go_ret
                        exact ⟨ret_bool o.out, by repeat (first | exact Drawn0.refl _ | apply Drawn0.step)⟩
                    · have d1 : decide (0 < (p : Int)) = false := decide_eq_false (by omega)
                      have d1' : decide (0 < p) = false := decide_eq_false f1
                      have o : Hid (false = r) := Lib.hid (by rw [← fin.out, decide_eq_false f1]; rfl)
                      clear f1 R' fin
                      go_wp2
                      go_ret
                      exact ⟨ret_bool o.out, by repeat (first | exact Drawn0.refl _ | apply Drawn0.step)⟩
          · have ay : decide (97 ≤ bt s2 (p : Int)) = false := decide_eq_false ly
            clear oy ly ey
            go_wp2
            go_loop [5] (fun v => ∃ k : Nat, p ≤ k ∧ k ≤ q ∧ v = .int .i64 k) (fun v => q - (intOf v).toNat)
            case atStart => exact ⟨p, by omega, by omega, rfl⟩
            case round =>
              obtain ⟨k, hk0, hk, rfl⟩ := hrel
              by_cases hlt : k < q
              · have hin := digs_in s2 k (by rw [← P.out]; exact hk0) (by rw [← Q.out]; exact hlt)
                have g1 : decide ((k : Int) < (s2.size : Int)) = true := decide_eq_true (by omega)
                have g2 : decide (48 ≤ bt s2 (k : Int)) = true := decide_eq_true hin.1
                have g3 : decide (bt s2 (k : Int) ≤ 57) = true := decide_eq_true hin.2
                have g4 : (k < s2.size) = True := eq_true (by omega)
                have g5 : ((k : Int) < (s2.size : Int)) = True := eq_true (by omega)
                have g6 : ∀ h : k < s2.size, ((s2[k]'h).toNat : Int) = bt s2 (k : Int) := bt_at s2 k
                clear hin
                go_wp2
                go_round
                case rel => exact ⟨k + 1, by omega, by omega, by go_num⟩
                case measure => simp [intOf]; omega
              · have hkq : q = k := by omega
                subst hkq
                clear hk hlt
                by_cases ez : q = s2.size
                · have xz : decide ((q : Int) < (s2.size : Int)) = false := decide_eq_false (by omega)
                  have nz : decide (q < s2.size) = false := decide_eq_false (by omega)
                  clear ez
                  have fin : Hid ((decide (0 < p) && decide (p < q) && decide (q = s2.size)) = r) := R'
                  by_cases f1 : 0 < p
                  · have d1 : decide (0 < (p : Int)) = true := decide_eq_true (by omega)
                    have d1' : decide (0 < p) = true := decide_eq_true f1
                    by_cases f2 : p < q
                    · have d2 : decide ((p : Int) < (q : Int)) = true := decide_eq_true (by omega)
                      have d2' : decide (p < q) = true := decide_eq_true f2
                      by_cases f3 : q = s2.size
                      · have d3 : ((q : Int) == (s2.size : Int)) = true := beq_iff_eq.mpr (by omega)
                        have o : Hid (true = r) := Lib.hid (by rw [← fin.out, d1', d2', decide_eq_true f3]; rfl)
                        clear f1 f2 f3 R' fin
                        go_wp2
                        go_ret
                        exact ⟨ret_bool o.out, by repeat (first | exact Drawn0.refl _ | apply Drawn0.step)⟩
                      · have d3 : ((q : Int) == (s2.size : Int)) = false := beq_eq_false_iff_ne.mpr (by omega)
                        have o : Hid (false = r) := Lib.hid (by rw [← fin.out, decide_eq_false f3]; simp)
                        clear f1 f2 f3 R' fin
                        go_wp2
                        go_ret
                        exact ⟨ret_bool o.out, by repeat (first | exact Drawn0.refl _ | apply Drawn0.step)⟩
                    · have d2 : decide ((p : Int) < (q : Int)) = false := decide_eq_false (by omega)
                      have d2' : decide (p < q) = false := decide_eq_false f2
                      have o : Hid (false = r) := Lib.hid (by rw [← fin.out, decide_eq_false f2]; simp)
                      clear f1 f2 R' fin
                      go_wp2
                      go_ret
                      exact ⟨ret_bool o.out, by repeat (first | exact Drawn0.refl _ | apply Drawn0.step)⟩
                  · have d1 : decide (0 < (p : Int)) = false := decide_eq_false (by omega)
                    have d1' : decide (0 < p) = false := decide_eq_false f1
                    have o : Hid (false = r) := Lib.hid (by rw [← fin.out, decide_eq_false f1]; rfl)
                    clear f1 R' fin
                    go_wp2
                    go_ret
                    exact ⟨ret_bool o.out, by repeat (first | exact Drawn0.refl _ | apply Drawn0.step)⟩
                · have oz := digs_out s2 (by rw [← Q.out]; omega)
                  rw [← Q.out] at oz
                  have xz : decide ((q : Int) < (s2.size : Int)) = true := decide_eq_true (by omega)
                  have qz : (q < s2.size) = True := eq_true (by omega)
                  have iz : ((q : Int) < (s2.size : Int)) = True := eq_true (by omega)
                  have hz : ∀ h : q < s2.size, ((s2[q]'h).toNat : Int) = bt s2 (q : Int) := bt_at s2 q
                  by_cases lz : 48 ≤ bt s2 (q : Int)
                  · have az : decide (48 ≤ bt s2 (q : Int)) = true := decide_eq_true lz
                    have bbz : decide (bt s2 (q : Int) ≤ 57) = false := decide_eq_false (by omega)
                    clear oz lz ez
                    have fin : Hid ((decide (0 < p) && decide (p < q) && decide (q = s2.size)) = r) := R'
                    by_cases f1 : 0 < p
                    · have d1 : decide (0 < (p : Int)) = true := decide_eq_true (by omega)
                      have d1' : decide (0 < p) = true := decide_eq_true f1
                      by_cases f2 : p < q
                      · have d2 : decide ((p : Int) < (q : Int)) = true := decide_eq_true (by omega)
                        have d2' : decide (p < q) = true := decide_eq_true f2
                        by_cases f3 : q = s2.size
                        · have d3 : ((q : Int) == (s2.size : Int)) = true := beq_iff_eq.mpr (by omega)
                          have o : Hid (true = r) := Lib.hid (by rw [← fin.out, d1', d2', decide_eq_true f3]; rfl)
                          clear f1 f2 f3 R' fin
                          go_wp2
                          go_ret
                          exact ⟨ret_bool o.out, by repeat (first | exact Drawn0.refl _ | apply Drawn0.step)⟩
                        · have d3 : ((q : Int) == (s2.size : Int)) = false := beq_eq_false_iff_ne.mpr (by omega)
                          have o : Hid (false = r) := Lib.hid (by rw [← fin.out, decide_eq_false f3]; simp)
                          clear f1 f2 f3 R' fin
                          go_wp2
                          go_ret
                          exact ⟨ret_bool o.out, by repeat (first | exact Drawn0.refl _ | apply Drawn0.step)⟩
                      · have d2 : decide ((p : Int) < (q : Int)) = false := decide_eq_false (by omega)
                        have d2' : decide (p < q) = false := decide_eq_false f2
                        have o : Hid (false = r) := Lib.hid (by rw [← fin.out, decide_eq_false f2]; simp)
                        clear f1 f2 R' fin
                        go_wp2
                        go_ret
                        exact ⟨ret_bool o.out, by repeat (first | exact Drawn0.refl _ | apply Drawn0.step)⟩
                    · have d1 : decide (0 < (p : Int)) = false := decide_eq_false (by omega)
                      have d1' : decide (0 < p) = false := decide_eq_false f1
                      have o : Hid (false = r) := Lib.hid (by rw [← fin.out, decide_eq_false f1]; rfl)
                      clear f1 R' fin
                      go_wp2
                      go_ret
                      exact ⟨ret_bool o.out, by repeat (first | exact Drawn0.refl _ | apply Drawn0.step)⟩
                  · have az : decide (48 ≤ bt s2 (q : Int)) = false := decide_eq_false lz
                    clear oz lz ez
                    have fin : Hid ((decide (0 < p) && decide (p < q) && decide (q = s2.size)) = r) := R'
                    by_cases f1 : 0 < p
                    · have d1 : decide (0 < (p : Int)) = true := decide_eq_true (by omega)
                      have d1' : decide (0 < p) = true := decide_eq_true f1
                      by_cases f2 : p < q
                      · have d2 : decide ((p : Int) < (q : Int)) = true := decide_eq_true (by omega)
                        have d2' : decide (p < q) = true := decide_eq_true f2
                        by_cases f3 : q = s2.size
                        · have d3 : ((q : Int) == (s2.size : Int)) = true := beq_iff_eq.mpr (by omega)
                          have o : Hid (true = r) := Lib.hid (by rw [← fin.out, d1', d2', decide_eq_true f3]; rfl)
                          clear f1 f2 f3 R' fin
                          go_wp2
                          go_ret
                          exact ⟨ret_bool o.out, by repeat (first | exact Drawn0.refl _ | apply Drawn0.step)⟩
                        · have d3 : ((q : Int) == (s2.size : Int)) = false := beq_eq_false_iff_ne.mpr (by omega)
                          have o : Hid (false = r) := Lib.hid (by rw [← fin.out, decide_eq_false f3]; simp)
                          clear f1 f2 f3 R' fin
                          go_wp2
                          go_ret
                          exact ⟨ret_bool o.out, by repeat (first | exact Drawn0.refl _ | apply Drawn0.step)⟩
                      · have d2 : decide ((p : Int) < (q : Int)) = false := decide_eq_false (by omega)
                        have d2' : decide (p < q) = false := decide_eq_false f2
                        have o : Hid (false = r) := Lib.hid (by rw [← fin.out, decide_eq_false f2]; simp)
                        clear f1 f2 R' fin
                        go_wp2
                        go_ret
                        exact ⟨ret_bool o.out, by repeat (first | exact Drawn0.refl _ | apply Drawn0.step)⟩
                    · have d1 : decide (0 < (p : Int)) = false := decide_eq_false (by omega)
                      have d1' : decide (0 < p) = false := decide_eq_false f1
                      have o : Hid (false = r) := Lib.hid (by rw [← fin.out, decide_eq_false f1]; rfl)
                      clear f1 R' fin
                      go_wp2
                      go_ret
                      exact ⟨ret_bool o.out, by repeat (first | exact Drawn0.refl _ | apply Drawn0.step)⟩

set_option maxHeartbeats 8000000 in
set_option maxRecDepth 100000 in
/-- Two numbers, and no point behind them. -/
theorem match_4 (a s1 s2 : ByteArray) (n1 n2 : Nat) (w : World) (ha : a.size ≤ 140737488351232) (h1 : a.size ≠ 0) (h2 : bt a 0 ≠ 48) (N1 : Hid (numLen (lst a) = n1)) (hn : n1 < a.size) (h3 : n1 ≠ 0) (h4 : bt a (n1 : Int) = 46)
    (E1 : a.extract (n1 + 1) a.size = s1) (hs1 : s1.size ≤ 140737488351232) (N2 : Hid (numLen (lst s1) = n2)) (h5 : n2 ≠ 0) (hn2 : n2 ≤ s1.size) (E2 : s1.extract n2 s1.size = s2) (hs2 : s2.size ≤ 140737488351232) (h7 : 1 < s2.size) (h6 : bt s2 0 ≠ 46) (r : Bool) (R : Hid (tailB s2 = r)) :
    Calls Try.prog 22 #[.string a] w fun e w' => e = .returned (.bool r) ∧ Drawn0 w w' := by
  have b1 : (a.toList == []) = false := by simp [empty_iff, h1]
  have q1 : (0 < a.size) = True := eq_true (by omega)
  have qi1 : (0 < (a.size : Int)) = True := eq_true (by omega)
  have hx1 : ∀ h : 0 < a.size, ((a[0]'h).toNat : Int) = bt a 0 := bt_at a 0
  have b2 : (bt a 0 == 48) = false := beq_eq_false_iff_ne.mpr h2
  have b3 : ((n1 : Int) == 0) = false := by simp [h3]
  have b4 : ((n1 : Int) == (a.size : Int)) = false := by simp; omega
  have b5 : (bt a (n1 : Int) != 46) = false := by simp [h4]
  have q2 : (n1 < a.size) = True := eq_true (by omega)
  have qi2 : ((n1 : Int) < (a.size : Int)) = True := eq_true (by omega)
  have qz2 : (0 ≤ (n1 : Int)) := by omega
  have hx2 : ∀ h : n1 < a.size, ((a[n1]'h).toNat : Int) = bt a (n1 : Int) := bt_at a n1
  have b6 : ((n2 : Int) == 0) = false := by simp [h5]
  have i2 : (n2 : Int) ≤ (s1.size : Int) := by omega
  have z2 : 0 ≤ (n2 : Int) := by omega
  clear h1 h2 h3 h4 h5
  have b7 : decide (1 < (s2.size : Int)) = true := decide_eq_true (by omega)
  have b7' : decide (1 < s2.size) = true := decide_eq_true h7
  have q3 : (0 < s2.size) = True := eq_true (by omega)
  have qi3 : (0 < (s2.size : Int)) = True := eq_true (by omega)
  have hx3 : ∀ h : 0 < s2.size, ((s2[0]'h).toNat : Int) = bt s2 0 := bt_at s2 0
  have b8 : (bt s2 0 == 46) = false := beq_eq_false_iff_ne.mpr h6
  clear h6 h7
  go_enter Try.func22, Try.ntmps22
  go_upto_region 16 with (go_at_call 24; first | ((with_reducible refine (num_is a n1 _ ha N1).mono ?_); rintro e w' ⟨rfl, ⟨n, rfl⟩⟩) | ((with_reducible refine (num_is s1 n2 _ hs1 N2).mono ?_); rintro e w' ⟨rfl, ⟨n, rfl⟩⟩))
  by_cases t1 : s2.size = 0
  · have tb : (s2.toList == []) = true := by simp [empty_iff, t1]
    have R' : Hid (true = r) := Lib.hid (by rw [← R.out]; unfold tailB; rw [decide_eq_true t1]; rfl)
    clear R t1
    go_wp2
    go_ret
    exact ⟨ret_bool R'.out, by repeat (first | exact Drawn0.refl _ | apply Drawn0.step)⟩
  · have tb : (s2.toList == []) = false := by simp [empty_iff, t1]
    have R' : Hid ((decide (0 < lows s2) && decide (lows s2 < digs s2) && decide (digs s2 = s2.size)) = r) := Lib.hid (by rw [← R.out]; unfold tailB; rw [decide_eq_false t1]; rfl)
    clear R t1
    obtain ⟨p, hp⟩ : ∃ p, p = lows s2 := ⟨_, rfl⟩
    obtain ⟨q, hq⟩ : ∃ q, q = digs s2 := ⟨_, rfl⟩
    have P := Lib.hid hp
    have Q := Lib.hid hq
    have hp1 := lows_le s2
    have hq1 := digs_le s2
    rw [← hp] at hp1
    rw [← hp, ← hq] at hq1
    replace R' : Hid ((decide (0 < p) && decide (p < q) && decide (q = s2.size)) = r) := Lib.hid (by rw [← R'.out, hp, hq])
    clear hp hq
    go_wp2
    go_loop [4] (fun v => ∃ k : Nat, k ≤ p ∧ v = .int .i64 k) (fun v => p - (intOf v).toNat)
    case atStart => exact ⟨0, by omega, rfl⟩
    case round =>
      obtain ⟨k, hk, rfl⟩ := hrel
      by_cases hlt : k < p
      · have hin := lows_in s2 k (by rw [← P.out]; exact hlt)
        have g1 : decide ((k : Int) < (s2.size : Int)) = true := decide_eq_true (by omega)
        have g2 : decide (97 ≤ bt s2 (k : Int)) = true := decide_eq_true hin.1
        have g3 : decide (bt s2 (k : Int) ≤ 122) = true := decide_eq_true hin.2
        have g4 : (k < s2.size) = True := eq_true (by omega)
        have g5 : ((k : Int) < (s2.size : Int)) = True := eq_true (by omega)
        have g6 : ∀ h : k < s2.size, ((s2[k]'h).toNat : Int) = bt s2 (k : Int) := bt_at s2 k
        clear hin
        go_wp2
        go_round
        case rel => exact ⟨k + 1, by omega, by go_num⟩
        case measure => simp [intOf]; omega
      · have hkp : p = k := by omega
        subst hkp
        clear hk hlt
        by_cases ey : p = s2.size
        · have xy : decide ((p : Int) < (s2.size : Int)) = false := decide_eq_false (by omega)
          have ny : decide (p < s2.size) = false := decide_eq_false (by omega)
          clear ey
          go_wp2
          go_loop [5] (fun v => ∃ k : Nat, p ≤ k ∧ k ≤ q ∧ v = .int .i64 k) (fun v => q - (intOf v).toNat)
          case atStart => exact ⟨p, by omega, by omega, rfl⟩
          case round =>
            obtain ⟨k, hk0, hk, rfl⟩ := hrel
            by_cases hlt : k < q
            · have hin := digs_in s2 k (by rw [← P.out]; exact hk0) (by rw [← Q.out]; exact hlt)
              have g1 : decide ((k : Int) < (s2.size : Int)) = true := decide_eq_true (by omega)
              have g2 : decide (48 ≤ bt s2 (k : Int)) = true := decide_eq_true hin.1
              have g3 : decide (bt s2 (k : Int) ≤ 57) = true := decide_eq_true hin.2
              have g4 : (k < s2.size) = True := eq_true (by omega)
              have g5 : ((k : Int) < (s2.size : Int)) = True := eq_true (by omega)
              have g6 : ∀ h : k < s2.size, ((s2[k]'h).toNat : Int) = bt s2 (k : Int) := bt_at s2 k
              clear hin
              go_wp2
              go_round
              case rel => exact ⟨k + 1, by omega, by omega, by go_num⟩
              case measure => simp [intOf]; omega
            · have hkq : q = k := by omega
              subst hkq
              clear hk hlt
              by_cases ez : q = s2.size
              · have xz : decide ((q : Int) < (s2.size : Int)) = false := decide_eq_false (by omega)
                have nz : decide (q < s2.size) = false := decide_eq_false (by omega)
                clear ez
                have fin : Hid ((decide (0 < p) && decide (p < q) && decide (q = s2.size)) = r) := R'
                by_cases f1 : 0 < p
                · have d1 : decide (0 < (p : Int)) = true := decide_eq_true (by omega)
                  have d1' : decide (0 < p) = true := decide_eq_true f1
                  by_cases f2 : p < q
                  · have d2 : decide ((p : Int) < (q : Int)) = true := decide_eq_true (by omega)
                    have d2' : decide (p < q) = true := decide_eq_true f2
                    by_cases f3 : q = s2.size
                    · have d3 : ((q : Int) == (s2.size : Int)) = true := beq_iff_eq.mpr (by omega)
                      have o : Hid (true = r) := Lib.hid (by rw [← fin.out, d1', d2', decide_eq_true f3]; rfl)
                      clear f1 f2 f3 R' fin
                      go_wp2
                      go_ret
                      exact ⟨ret_bool o.out, by repeat (first | exact Drawn0.refl _ | apply Drawn0.step)⟩
                    · have d3 : ((q : Int) == (s2.size : Int)) = false := beq_eq_false_iff_ne.mpr (by omega)
                      have o : Hid (false = r) := Lib.hid (by rw [← fin.out, decide_eq_false f3]; simp)
                      clear f1 f2 f3 R' fin
                      go_wp2
                      go_ret
                      exact ⟨ret_bool o.out, by repeat (first | exact Drawn0.refl _ | apply Drawn0.step)⟩
                  · have d2 : decide ((p : Int) < (q : Int)) = false := decide_eq_false (by omega)
                    have d2' : decide (p < q) = false := decide_eq_false f2
                    have o : Hid (false = r) := Lib.hid (by rw [← fin.out, decide_eq_false f2]; simp)
                    clear f1 f2 R' fin
                    go_wp2
                    go_ret
                    exact ⟨ret_bool o.out, by repeat (first | exact Drawn0.refl _ | apply Drawn0.step)⟩
                · have d1 : decide (0 < (p : Int)) = false := decide_eq_false (by omega)
                  have d1' : decide (0 < p) = false := decide_eq_false f1
                  have o : Hid (false = r) := Lib.hid (by rw [← fin.out, decide_eq_false f1]; rfl)
                  clear f1 R' fin
                  go_wp2
                  go_ret
                  exact ⟨ret_bool o.out, by repeat (first | exact Drawn0.refl _ | apply Drawn0.step)⟩
              · have oz := digs_out s2 (by rw [← Q.out]; omega)
                rw [← Q.out] at oz
                have xz : decide ((q : Int) < (s2.size : Int)) = true := decide_eq_true (by omega)
                have qz : (q < s2.size) = True := eq_true (by omega)
                have iz : ((q : Int) < (s2.size : Int)) = True := eq_true (by omega)
                have hz : ∀ h : q < s2.size, ((s2[q]'h).toNat : Int) = bt s2 (q : Int) := bt_at s2 q
                by_cases lz : 48 ≤ bt s2 (q : Int)
                · have az : decide (48 ≤ bt s2 (q : Int)) = true := decide_eq_true lz
                  have bbz : decide (bt s2 (q : Int) ≤ 57) = false := decide_eq_false (by omega)
                  clear oz lz ez
                  have fin : Hid ((decide (0 < p) && decide (p < q) && decide (q = s2.size)) = r) := R'
                  by_cases f1 : 0 < p
                  · have d1 : decide (0 < (p : Int)) = true := decide_eq_true (by omega)
                    have d1' : decide (0 < p) = true := decide_eq_true f1
                    by_cases f2 : p < q
                    · have d2 : decide ((p : Int) < (q : Int)) = true := decide_eq_true (by omega)
                      have d2' : decide (p < q) = true := decide_eq_true f2
                      by_cases f3 : q = s2.size
                      · have d3 : ((q : Int) == (s2.size : Int)) = true := beq_iff_eq.mpr (by omega)
                        have o : Hid (true = r) := Lib.hid (by rw [← fin.out, d1', d2', decide_eq_true f3]; rfl)
                        clear f1 f2 f3 R' fin
                        go_wp2
                        go_ret
                        exact ⟨ret_bool o.out, by repeat (first | exact Drawn0.refl _ | apply Drawn0.step)⟩
                      · have d3 : ((q : Int) == (s2.size : Int)) = false := beq_eq_false_iff_ne.mpr (by omega)
                        have o : Hid (false = r) := Lib.hid (by rw [← fin.out, decide_eq_false f3]; simp)
                        clear f1 f2 f3 R' fin
                        go_wp2
                        go_ret
                        exact ⟨ret_bool o.out, by repeat (first | exact Drawn0.refl _ | apply Drawn0.step)⟩
                    · have d2 : decide ((p : Int) < (q : Int)) = false := decide_eq_false (by omega)
                      have d2' : decide (p < q) = false := decide_eq_false f2
                      have o : Hid (false = r) := Lib.hid (by rw [← fin.out, decide_eq_false f2]; simp)
                      clear f1 f2 R' fin
                      go_wp2
                      go_ret
                      exact ⟨ret_bool o.out, by repeat (first | exact Drawn0.refl _ | apply Drawn0.step)⟩
                  · have d1 : decide (0 < (p : Int)) = false := decide_eq_false (by omega)
                    have d1' : decide (0 < p) = false := decide_eq_false f1
                    have o : Hid (false = r) := Lib.hid (by rw [← fin.out, decide_eq_false f1]; rfl)
                    clear f1 R' fin
                    go_wp2
                    go_ret
                    exact ⟨ret_bool o.out, by repeat (first | exact Drawn0.refl _ | apply Drawn0.step)⟩
                · have az : decide (48 ≤ bt s2 (q : Int)) = false := decide_eq_false lz
                  clear oz lz ez
                  have fin : Hid ((decide (0 < p) && decide (p < q) && decide (q = s2.size)) = r) := R'
                  by_cases f1 : 0 < p
                  · have d1 : decide (0 < (p : Int)) = true := decide_eq_true (by omega)
                    have d1' : decide (0 < p) = true := decide_eq_true f1
                    by_cases f2 : p < q
                    · have d2 : decide ((p : Int) < (q : Int)) = true := decide_eq_true (by omega)
                      have d2' : decide (p < q) = true := decide_eq_true f2
                      by_cases f3 : q = s2.size
                      · have d3 : ((q : Int) == (s2.size : Int)) = true := beq_iff_eq.mpr (by omega)
                        have o : Hid (true = r) := Lib.hid (by rw [← fin.out, d1', d2', decide_eq_true f3]; rfl)
                        clear f1 f2 f3 R' fin
                        go_wp2
                        go_ret
                        exact ⟨ret_bool o.out, by repeat (first | exact Drawn0.refl _ | apply Drawn0.step)⟩
                      · have d3 : ((q : Int) == (s2.size : Int)) = false := beq_eq_false_iff_ne.mpr (by omega)
                        have o : Hid (false = r) := Lib.hid (by rw [← fin.out, decide_eq_false f3]; simp)
                        clear f1 f2 f3 R' fin
                        go_wp2
                        go_ret
                        exact ⟨ret_bool o.out, by repeat (first | exact Drawn0.refl _ | apply Drawn0.step)⟩
                    · have d2 : decide ((p : Int) < (q : Int)) = false := decide_eq_false (by omega)
                      have d2' : decide (p < q) = false := decide_eq_false f2
                      have o : Hid (false = r) := Lib.hid (by rw [← fin.out, decide_eq_false f2]; simp)
                      clear f1 f2 R' fin
                      go_wp2
                      go_ret
                      exact ⟨ret_bool o.out, by repeat (first | exact Drawn0.refl _ | apply Drawn0.step)⟩
                  · have d1 : decide (0 < (p : Int)) = false := decide_eq_false (by omega)
                    have d1' : decide (0 < p) = false := decide_eq_false f1
                    have o : Hid (false = r) := Lib.hid (by rw [← fin.out, decide_eq_false f1]; rfl)
                    clear f1 R' fin
                    go_wp2
                    go_ret
                    exact ⟨ret_bool o.out, by repeat (first | exact Drawn0.refl _ | apply Drawn0.step)⟩
        · have oy := lows_out s2 (by rw [← P.out]; omega)
          rw [← P.out] at oy
          have xy : decide ((p : Int) < (s2.size : Int)) = true := decide_eq_true (by omega)
          have qy : (p < s2.size) = True := eq_true (by omega)
          have iy : ((p : Int) < (s2.size : Int)) = True := eq_true (by omega)
          have hy : ∀ h : p < s2.size, ((s2[p]'h).toNat : Int) = bt s2 (p : Int) := bt_at s2 p
          by_cases ly : 97 ≤ bt s2 (p : Int)
          · have ay : decide (97 ≤ bt s2 (p : Int)) = true := decide_eq_true ly
            have bby : decide (bt s2 (p : Int) ≤ 122) = false := decide_eq_false (by omega)
            clear oy ly ey
            go_wp2
            go_loop [5] (fun v => ∃ k : Nat, p ≤ k ∧ k ≤ q ∧ v = .int .i64 k) (fun v => q - (intOf v).toNat)
            case atStart => exact ⟨p, by omega, by omega, rfl⟩
            case round =>
              obtain ⟨k, hk0, hk, rfl⟩ := hrel
              by_cases hlt : k < q
              · have hin := digs_in s2 k (by rw [← P.out]; exact hk0) (by rw [← Q.out]; exact hlt)
                have g1 : decide ((k : Int) < (s2.size : Int)) = true := decide_eq_true (by omega)
                have g2 : decide (48 ≤ bt s2 (k : Int)) = true := decide_eq_true hin.1
                have g3 : decide (bt s2 (k : Int) ≤ 57) = true := decide_eq_true hin.2
                have g4 : (k < s2.size) = True := eq_true (by omega)
                have g5 : ((k : Int) < (s2.size : Int)) = True := eq_true (by omega)
                have g6 : ∀ h : k < s2.size, ((s2[k]'h).toNat : Int) = bt s2 (k : Int) := bt_at s2 k
                clear hin
                go_wp2
                go_round
                case rel => exact ⟨k + 1, by omega, by omega, by go_num⟩
                case measure => simp [intOf]; omega
              · have hkq : q = k := by omega
                subst hkq
                clear hk hlt
                by_cases ez : q = s2.size
                · have xz : decide ((q : Int) < (s2.size : Int)) = false := decide_eq_false (by omega)
                  have nz : decide (q < s2.size) = false := decide_eq_false (by omega)
                  clear ez
                  have fin : Hid ((decide (0 < p) && decide (p < q) && decide (q = s2.size)) = r) := R'
                  by_cases f1 : 0 < p
                  · have d1 : decide (0 < (p : Int)) = true := decide_eq_true (by omega)
                    have d1' : decide (0 < p) = true := decide_eq_true f1
                    by_cases f2 : p < q
                    · have d2 : decide ((p : Int) < (q : Int)) = true := decide_eq_true (by omega)
                      have d2' : decide (p < q) = true := decide_eq_true f2
                      by_cases f3 : q = s2.size
                      · have d3 : ((q : Int) == (s2.size : Int)) = true := beq_iff_eq.mpr (by omega)
                        have o : Hid (true = r) := Lib.hid (by rw [← fin.out, d1', d2', decide_eq_true f3]; rfl)
                        clear f1 f2 f3 R' fin
                        go_wp2
                        go_ret
                        exact ⟨ret_bool o.out, by repeat (first | exact Drawn0.refl _ | apply Drawn0.step)⟩
                      · have d3 : ((q : Int) == (s2.size : Int)) = false := beq_eq_false_iff_ne.mpr (by omega)
                        have o : Hid (false = r) := Lib.hid (by rw [← fin.out, decide_eq_false f3]; simp)
                        clear f1 f2 f3 R' fin
                        go_wp2
                        go_ret
                        exact ⟨ret_bool o.out, by repeat (first | exact Drawn0.refl _ | apply Drawn0.step)⟩
                    · have d2 : decide ((p : Int) < (q : Int)) = false := decide_eq_false (by omega)
                      have d2' : decide (p < q) = false := decide_eq_false f2
                      have o : Hid (false = r) := Lib.hid (by rw [← fin.out, decide_eq_false f2]; simp)
                      clear f1 f2 R' fin
                      go_wp2
                      go_ret
                      exact ⟨ret_bool o.out, by repeat (first | exact Drawn0.refl _ | apply Drawn0.step)⟩
                  · have d1 : decide (0 < (p : Int)) = false := decide_eq_false (by omega)
                    have d1' : decide (0 < p) = false := decide_eq_false f1
                    have o : Hid (false = r) := Lib.hid (by rw [← fin.out, decide_eq_false f1]; rfl)
                    clear f1 R' fin
                    go_wp2
                    go_ret
                    exact ⟨ret_bool o.out, by repeat (first | exact Drawn0.refl _ | apply Drawn0.step)⟩
                · have oz := digs_out s2 (by rw [← Q.out]; omega)
                  rw [← Q.out] at oz
                  have xz : decide ((q : Int) < (s2.size : Int)) = true := decide_eq_true (by omega)
                  have qz : (q < s2.size) = True := eq_true (by omega)
                  have iz : ((q : Int) < (s2.size : Int)) = True := eq_true (by omega)
                  have hz : ∀ h : q < s2.size, ((s2[q]'h).toNat : Int) = bt s2 (q : Int) := bt_at s2 q
                  by_cases lz : 48 ≤ bt s2 (q : Int)
                  · have az : decide (48 ≤ bt s2 (q : Int)) = true := decide_eq_true lz
                    have bbz : decide (bt s2 (q : Int) ≤ 57) = false := decide_eq_false (by omega)
                    clear oz lz ez
                    have fin : Hid ((decide (0 < p) && decide (p < q) && decide (q = s2.size)) = r) := R'
                    by_cases f1 : 0 < p
                    · have d1 : decide (0 < (p : Int)) = true := decide_eq_true (by omega)
                      have d1' : decide (0 < p) = true := decide_eq_true f1
                      by_cases f2 : p < q
                      · have d2 : decide ((p : Int) < (q : Int)) = true := decide_eq_true (by omega)
                        have d2' : decide (p < q) = true := decide_eq_true f2
                        by_cases f3 : q = s2.size
                        · have d3 : ((q : Int) == (s2.size : Int)) = true := beq_iff_eq.mpr (by omega)
                          have o : Hid (true = r) := Lib.hid (by rw [← fin.out, d1', d2', decide_eq_true f3]; rfl)
                          clear f1 f2 f3 R' fin
                          go_wp2
                          go_ret
                          exact ⟨ret_bool o.out, by repeat (first | exact Drawn0.refl _ | apply Drawn0.step)⟩
                        · have d3 : ((q : Int) == (s2.size : Int)) = false := beq_eq_false_iff_ne.mpr (by omega)
                          have o : Hid (false = r) := Lib.hid (by rw [← fin.out, decide_eq_false f3]; simp)
                          clear f1 f2 f3 R' fin
                          go_wp2
                          go_ret
                          exact ⟨ret_bool o.out, by repeat (first | exact Drawn0.refl _ | apply Drawn0.step)⟩
                      · have d2 : decide ((p : Int) < (q : Int)) = false := decide_eq_false (by omega)
                        have d2' : decide (p < q) = false := decide_eq_false f2
                        have o : Hid (false = r) := Lib.hid (by rw [← fin.out, decide_eq_false f2]; simp)
                        clear f1 f2 R' fin
                        go_wp2
                        go_ret
                        exact ⟨ret_bool o.out, by repeat (first | exact Drawn0.refl _ | apply Drawn0.step)⟩
                    · have d1 : decide (0 < (p : Int)) = false := decide_eq_false (by omega)
                      have d1' : decide (0 < p) = false := decide_eq_false f1
                      have o : Hid (false = r) := Lib.hid (by rw [← fin.out, decide_eq_false f1]; rfl)
                      clear f1 R' fin
                      go_wp2
                      go_ret
                      exact ⟨ret_bool o.out, by repeat (first | exact Drawn0.refl _ | apply Drawn0.step)⟩
                  · have az : decide (48 ≤ bt s2 (q : Int)) = false := decide_eq_false lz
                    clear oz lz ez
                    have fin : Hid ((decide (0 < p) && decide (p < q) && decide (q = s2.size)) = r) := R'
                    by_cases f1 : 0 < p
                    · have d1 : decide (0 < (p : Int)) = true := decide_eq_true (by omega)
                      have d1' : decide (0 < p) = true := decide_eq_true f1
                      by_cases f2 : p < q
                      · have d2 : decide ((p : Int) < (q : Int)) = true := decide_eq_true (by omega)
                        have d2' : decide (p < q) = true := decide_eq_true f2
                        by_cases f3 : q = s2.size
                        · have d3 : ((q : Int) == (s2.size : Int)) = true := beq_iff_eq.mpr (by omega)
                          have o : Hid (true = r) := Lib.hid (by rw [← fin.out, d1', d2', decide_eq_true f3]; rfl)
                          clear f1 f2 f3 R' fin
                          go_wp2
                          go_ret
                          exact ⟨ret_bool o.out, by repeat (first | exact Drawn0.refl _ | apply Drawn0.step)⟩
                        · have d3 : ((q : Int) == (s2.size : Int)) = false := beq_eq_false_iff_ne.mpr (by omega)
                          have o : Hid (false = r) := Lib.hid (by rw [← fin.out, decide_eq_false f3]; simp)
                          clear f1 f2 f3 R' fin
                          go_wp2
                          go_ret
                          exact ⟨ret_bool o.out, by repeat (first | exact Drawn0.refl _ | apply Drawn0.step)⟩
                      · have d2 : decide ((p : Int) < (q : Int)) = false := decide_eq_false (by omega)
                        have d2' : decide (p < q) = false := decide_eq_false f2
                        have o : Hid (false = r) := Lib.hid (by rw [← fin.out, decide_eq_false f2]; simp)
                        clear f1 f2 R' fin
                        go_wp2
                        go_ret
                        exact ⟨ret_bool o.out, by repeat (first | exact Drawn0.refl _ | apply Drawn0.step)⟩
                    · have d1 : decide (0 < (p : Int)) = false := decide_eq_false (by omega)
                      have d1' : decide (0 < p) = false := decide_eq_false f1
                      have o : Hid (false = r) := Lib.hid (by rw [← fin.out, decide_eq_false f1]; rfl)
                      clear f1 R' fin
                      go_wp2
                      go_ret
                      exact ⟨ret_bool o.out, by repeat (first | exact Drawn0.refl _ | apply Drawn0.step)⟩
          · have ay : decide (97 ≤ bt s2 (p : Int)) = false := decide_eq_false ly
            clear oy ly ey
            go_wp2
            go_loop [5] (fun v => ∃ k : Nat, p ≤ k ∧ k ≤ q ∧ v = .int .i64 k) (fun v => q - (intOf v).toNat)
            case atStart => exact ⟨p, by omega, by omega, rfl⟩
            case round =>
              obtain ⟨k, hk0, hk, rfl⟩ := hrel
              by_cases hlt : k < q
              · have hin := digs_in s2 k (by rw [← P.out]; exact hk0) (by rw [← Q.out]; exact hlt)
                have g1 : decide ((k : Int) < (s2.size : Int)) = true := decide_eq_true (by omega)
                have g2 : decide (48 ≤ bt s2 (k : Int)) = true := decide_eq_true hin.1
                have g3 : decide (bt s2 (k : Int) ≤ 57) = true := decide_eq_true hin.2
                have g4 : (k < s2.size) = True := eq_true (by omega)
                have g5 : ((k : Int) < (s2.size : Int)) = True := eq_true (by omega)
                have g6 : ∀ h : k < s2.size, ((s2[k]'h).toNat : Int) = bt s2 (k : Int) := bt_at s2 k
                clear hin
                go_wp2
                go_round
                case rel => exact ⟨k + 1, by omega, by omega, by go_num⟩
                case measure => simp [intOf]; omega
              · have hkq : q = k := by omega
                subst hkq
                clear hk hlt
                by_cases ez : q = s2.size
                · have xz : decide ((q : Int) < (s2.size : Int)) = false := decide_eq_false (by omega)
                  have nz : decide (q < s2.size) = false := decide_eq_false (by omega)
                  clear ez
                  have fin : Hid ((decide (0 < p) && decide (p < q) && decide (q = s2.size)) = r) := R'
                  by_cases f1 : 0 < p
                  · have d1 : decide (0 < (p : Int)) = true := decide_eq_true (by omega)
                    have d1' : decide (0 < p) = true := decide_eq_true f1
                    by_cases f2 : p < q
                    · have d2 : decide ((p : Int) < (q : Int)) = true := decide_eq_true (by omega)
                      have d2' : decide (p < q) = true := decide_eq_true f2
                      by_cases f3 : q = s2.size
                      · have d3 : ((q : Int) == (s2.size : Int)) = true := beq_iff_eq.mpr (by omega)
                        have o : Hid (true = r) := Lib.hid (by rw [← fin.out, d1', d2', decide_eq_true f3]; rfl)
                        clear f1 f2 f3 R' fin
                        go_wp2
                        go_ret
                        exact ⟨ret_bool o.out, by repeat (first | exact Drawn0.refl _ | apply Drawn0.step)⟩
                      · have d3 : ((q : Int) == (s2.size : Int)) = false := beq_eq_false_iff_ne.mpr (by omega)
                        have o : Hid (false = r) := Lib.hid (by rw [← fin.out, decide_eq_false f3]; simp)
                        clear f1 f2 f3 R' fin
                        go_wp2
                        go_ret
                        exact ⟨ret_bool o.out, by repeat (first | exact Drawn0.refl _ | apply Drawn0.step)⟩
                    · have d2 : decide ((p : Int) < (q : Int)) = false := decide_eq_false (by omega)
                      have d2' : decide (p < q) = false := decide_eq_false f2
                      have o : Hid (false = r) := Lib.hid (by rw [← fin.out, decide_eq_false f2]; simp)
                      clear f1 f2 R' fin
                      go_wp2
                      go_ret
                      exact ⟨ret_bool o.out, by repeat (first | exact Drawn0.refl _ | apply Drawn0.step)⟩
                  · have d1 : decide (0 < (p : Int)) = false := decide_eq_false (by omega)
                    have d1' : decide (0 < p) = false := decide_eq_false f1
                    have o : Hid (false = r) := Lib.hid (by rw [← fin.out, decide_eq_false f1]; rfl)
                    clear f1 R' fin
                    go_wp2
                    go_ret
                    exact ⟨ret_bool o.out, by repeat (first | exact Drawn0.refl _ | apply Drawn0.step)⟩
                · have oz := digs_out s2 (by rw [← Q.out]; omega)
                  rw [← Q.out] at oz
                  have xz : decide ((q : Int) < (s2.size : Int)) = true := decide_eq_true (by omega)
                  have qz : (q < s2.size) = True := eq_true (by omega)
                  have iz : ((q : Int) < (s2.size : Int)) = True := eq_true (by omega)
                  have hz : ∀ h : q < s2.size, ((s2[q]'h).toNat : Int) = bt s2 (q : Int) := bt_at s2 q
                  by_cases lz : 48 ≤ bt s2 (q : Int)
                  · have az : decide (48 ≤ bt s2 (q : Int)) = true := decide_eq_true lz
                    have bbz : decide (bt s2 (q : Int) ≤ 57) = false := decide_eq_false (by omega)
                    clear oz lz ez
                    have fin : Hid ((decide (0 < p) && decide (p < q) && decide (q = s2.size)) = r) := R'
                    by_cases f1 : 0 < p
                    · have d1 : decide (0 < (p : Int)) = true := decide_eq_true (by omega)
                      have d1' : decide (0 < p) = true := decide_eq_true f1
                      by_cases f2 : p < q
                      · have d2 : decide ((p : Int) < (q : Int)) = true := decide_eq_true (by omega)
                        have d2' : decide (p < q) = true := decide_eq_true f2
                        by_cases f3 : q = s2.size
                        · have d3 : ((q : Int) == (s2.size : Int)) = true := beq_iff_eq.mpr (by omega)
                          have o : Hid (true = r) := Lib.hid (by rw [← fin.out, d1', d2', decide_eq_true f3]; rfl)
                          clear f1 f2 f3 R' fin
                          go_wp2
                          go_ret
                          exact ⟨ret_bool o.out, by repeat (first | exact Drawn0.refl _ | apply Drawn0.step)⟩
                        · have d3 : ((q : Int) == (s2.size : Int)) = false := beq_eq_false_iff_ne.mpr (by omega)
                          have o : Hid (false = r) := Lib.hid (by rw [← fin.out, decide_eq_false f3]; simp)
                          clear f1 f2 f3 R' fin
                          go_wp2
                          go_ret
                          exact ⟨ret_bool o.out, by repeat (first | exact Drawn0.refl _ | apply Drawn0.step)⟩
                      · have d2 : decide ((p : Int) < (q : Int)) = false := decide_eq_false (by omega)
                        have d2' : decide (p < q) = false := decide_eq_false f2
                        have o : Hid (false = r) := Lib.hid (by rw [← fin.out, decide_eq_false f2]; simp)
                        clear f1 f2 R' fin
                        go_wp2
                        go_ret
                        exact ⟨ret_bool o.out, by repeat (first | exact Drawn0.refl _ | apply Drawn0.step)⟩
                    · have d1 : decide (0 < (p : Int)) = false := decide_eq_false (by omega)
                      have d1' : decide (0 < p) = false := decide_eq_false f1
                      have o : Hid (false = r) := Lib.hid (by rw [← fin.out, decide_eq_false f1]; rfl)
                      clear f1 R' fin
                      go_wp2
                      go_ret
                      exact ⟨ret_bool o.out, by repeat (first | exact Drawn0.refl _ | apply Drawn0.step)⟩
                  · have az : decide (48 ≤ bt s2 (q : Int)) = false := decide_eq_false lz
                    clear oz lz ez
                    have fin : Hid ((decide (0 < p) && decide (p < q) && decide (q = s2.size)) = r) := R'
                    by_cases f1 : 0 < p
                    · have d1 : decide (0 < (p : Int)) = true := decide_eq_true (by omega)
                      have d1' : decide (0 < p) = true := decide_eq_true f1
                      by_cases f2 : p < q
                      · have d2 : decide ((p : Int) < (q : Int)) = true := decide_eq_true (by omega)
                        have d2' : decide (p < q) = true := decide_eq_true f2
                        by_cases f3 : q = s2.size
                        · have d3 : ((q : Int) == (s2.size : Int)) = true := beq_iff_eq.mpr (by omega)
                          have o : Hid (true = r) := Lib.hid (by rw [← fin.out, d1', d2', decide_eq_true f3]; rfl)
                          clear f1 f2 f3 R' fin
                          go_wp2
                          go_ret
                          exact ⟨ret_bool o.out, by repeat (first | exact Drawn0.refl _ | apply Drawn0.step)⟩
                        · have d3 : ((q : Int) == (s2.size : Int)) = false := beq_eq_false_iff_ne.mpr (by omega)
                          have o : Hid (false = r) := Lib.hid (by rw [← fin.out, decide_eq_false f3]; simp)
                          clear f1 f2 f3 R' fin
                          go_wp2
                          go_ret
                          exact ⟨ret_bool o.out, by repeat (first | exact Drawn0.refl _ | apply Drawn0.step)⟩
                      · have d2 : decide ((p : Int) < (q : Int)) = false := decide_eq_false (by omega)
                        have d2' : decide (p < q) = false := decide_eq_false f2
                        have o : Hid (false = r) := Lib.hid (by rw [← fin.out, decide_eq_false f2]; simp)
                        clear f1 f2 R' fin
                        go_wp2
                        go_ret
                        exact ⟨ret_bool o.out, by repeat (first | exact Drawn0.refl _ | apply Drawn0.step)⟩
                    · have d1 : decide (0 < (p : Int)) = false := decide_eq_false (by omega)
                      have d1' : decide (0 < p) = false := decide_eq_false f1
                      have o : Hid (false = r) := Lib.hid (by rw [← fin.out, decide_eq_false f1]; rfl)
                      clear f1 R' fin
                      go_wp2
                      go_ret
                      exact ⟨ret_bool o.out, by repeat (first | exact Drawn0.refl _ | apply Drawn0.step)⟩

set_option maxHeartbeats 8000000 in
set_option maxRecDepth 100000 in
/-- A third number that is none. -/
theorem match_5 (a s1 s2 : ByteArray) (n1 n2 : Nat) (w : World) (ha : a.size ≤ 140737488351232) (h1 : a.size ≠ 0) (h2 : bt a 0 ≠ 48) (N1 : Hid (numLen (lst a) = n1)) (hn : n1 < a.size) (h3 : n1 ≠ 0) (h4 : bt a (n1 : Int) = 46)
    (E1 : a.extract (n1 + 1) a.size = s1) (hs1 : s1.size ≤ 140737488351232) (N2 : Hid (numLen (lst s1) = n2)) (h5 : n2 ≠ 0) (hn2 : n2 ≤ s1.size) (E2 : s1.extract n2 s1.size = s2) (hs2 : s2.size ≤ 140737488351232) (h7 : 1 < s2.size) (h6 : bt s2 0 = 46) (t : ByteArray) (E3 : s2.extract 1 s2.size = t) (ht : t.size ≤ 140737488351232) (N3 : Hid (numLen (lst t) = 0)) :
    Calls Try.prog 22 #[.string a] w fun e w' => e = .returned (.bool false) ∧ Drawn0 w w' := by
  have b1 : (a.toList == []) = false := by simp [empty_iff, h1]
  have q1 : (0 < a.size) = True := eq_true (by omega)
  have qi1 : (0 < (a.size : Int)) = True := eq_true (by omega)
  have hx1 : ∀ h : 0 < a.size, ((a[0]'h).toNat : Int) = bt a 0 := bt_at a 0
  have b2 : (bt a 0 == 48) = false := beq_eq_false_iff_ne.mpr h2
  have b3 : ((n1 : Int) == 0) = false := by simp [h3]
  have b4 : ((n1 : Int) == (a.size : Int)) = false := by simp; omega
  have b5 : (bt a (n1 : Int) != 46) = false := by simp [h4]
  have q2 : (n1 < a.size) = True := eq_true (by omega)
  have qi2 : ((n1 : Int) < (a.size : Int)) = True := eq_true (by omega)
  have qz2 : (0 ≤ (n1 : Int)) := by omega
  have hx2 : ∀ h : n1 < a.size, ((a[n1]'h).toNat : Int) = bt a (n1 : Int) := bt_at a n1
  have b6 : ((n2 : Int) == 0) = false := by simp [h5]
  have i2 : (n2 : Int) ≤ (s1.size : Int) := by omega
  have z2 : 0 ≤ (n2 : Int) := by omega
  clear h1 h2 h3 h4 h5
  have b7 : decide (1 < (s2.size : Int)) = true := decide_eq_true (by omega)
  have b7' : decide (1 < s2.size) = true := decide_eq_true h7
  have q3 : (0 < s2.size) = True := eq_true (by omega)
  have qi3 : (0 < (s2.size : Int)) = True := eq_true (by omega)
  have hx3 : ∀ h : 0 < s2.size, ((s2[0]'h).toNat : Int) = bt s2 0 := bt_at s2 0
  have b8 : (bt s2 0 == 46) = true := by simp [h6]
  clear h6
  go_enter Try.func22, Try.ntmps22
  go_wp2_with (go_at_call 24; first | ((with_reducible refine (num_is a n1 _ ha N1).mono ?_); rintro e w' ⟨rfl, ⟨n, rfl⟩⟩) | ((with_reducible refine (num_is s1 n2 _ hs1 N2).mono ?_); rintro e w' ⟨rfl, ⟨n, rfl⟩⟩) | ((with_reducible refine (num_is t 0 _ ht N3).mono ?_); rintro e w' ⟨rfl, ⟨n, rfl⟩⟩))
  go_ret
  exact ⟨rfl, by repeat (first | exact Drawn0.refl _ | apply Drawn0.step)⟩

set_option maxHeartbeats 8000000 in
set_option maxRecDepth 100000 in
/-- Three numbers. -/
theorem match_6 (a s1 s2 : ByteArray) (n1 n2 : Nat) (w : World) (ha : a.size ≤ 140737488351232) (h1 : a.size ≠ 0) (h2 : bt a 0 ≠ 48) (N1 : Hid (numLen (lst a) = n1)) (hn : n1 < a.size) (h3 : n1 ≠ 0) (h4 : bt a (n1 : Int) = 46)
    (E1 : a.extract (n1 + 1) a.size = s1) (hs1 : s1.size ≤ 140737488351232) (N2 : Hid (numLen (lst s1) = n2)) (h5 : n2 ≠ 0) (hn2 : n2 ≤ s1.size) (E2 : s1.extract n2 s1.size = s2) (hs2 : s2.size ≤ 140737488351232) (h7 : 1 < s2.size) (h6 : bt s2 0 = 46) (t s3 : ByteArray) (n3 : Nat) (E3 : s2.extract 1 s2.size = t) (ht : t.size ≤ 140737488351232) (N3 : Hid (numLen (lst t) = n3)) (h8 : n3 ≠ 0) (h9 : 1 + n3 ≤ s2.size) (E4 : s2.extract (1 + n3) s2.size = s3) (hs3 : s3.size ≤ 140737488351232) (r : Bool) (R : Hid (tailB s3 = r)) :
    Calls Try.prog 22 #[.string a] w fun e w' => e = .returned (.bool r) ∧ Drawn0 w w' := by
  have b1 : (a.toList == []) = false := by simp [empty_iff, h1]
  have q1 : (0 < a.size) = True := eq_true (by omega)
  have qi1 : (0 < (a.size : Int)) = True := eq_true (by omega)
  have hx1 : ∀ h : 0 < a.size, ((a[0]'h).toNat : Int) = bt a 0 := bt_at a 0
  have b2 : (bt a 0 == 48) = false := beq_eq_false_iff_ne.mpr h2
  have b3 : ((n1 : Int) == 0) = false := by simp [h3]
  have b4 : ((n1 : Int) == (a.size : Int)) = false := by simp; omega
  have b5 : (bt a (n1 : Int) != 46) = false := by simp [h4]
  have q2 : (n1 < a.size) = True := eq_true (by omega)
  have qi2 : ((n1 : Int) < (a.size : Int)) = True := eq_true (by omega)
  have qz2 : (0 ≤ (n1 : Int)) := by omega
  have hx2 : ∀ h : n1 < a.size, ((a[n1]'h).toNat : Int) = bt a (n1 : Int) := bt_at a n1
  have b6 : ((n2 : Int) == 0) = false := by simp [h5]
  have i2 : (n2 : Int) ≤ (s1.size : Int) := by omega
  have z2 : 0 ≤ (n2 : Int) := by omega
  clear h1 h2 h3 h4 h5
  have b7 : decide (1 < (s2.size : Int)) = true := decide_eq_true (by omega)
  have b7' : decide (1 < s2.size) = true := decide_eq_true h7
  have q3 : (0 < s2.size) = True := eq_true (by omega)
  have qi3 : (0 < (s2.size : Int)) = True := eq_true (by omega)
  have hx3 : ∀ h : 0 < s2.size, ((s2[0]'h).toNat : Int) = bt s2 0 := bt_at s2 0
  have b8 : (bt s2 0 == 46) = true := by simp [h6]
  have b9 : ((n3 : Int) == 0) = false := by simp [h8]
  have i9 : (1 : Int) + (n3 : Int) ≤ (s2.size : Int) := by omega
  clear h6 h8
  go_enter Try.func22, Try.ntmps22
  go_upto_region 16 with (go_at_call 24; first | ((with_reducible refine (num_is a n1 _ ha N1).mono ?_); rintro e w' ⟨rfl, ⟨n, rfl⟩⟩) | ((with_reducible refine (num_is s1 n2 _ hs1 N2).mono ?_); rintro e w' ⟨rfl, ⟨n, rfl⟩⟩) | ((with_reducible refine (num_is t n3 _ ht N3).mono ?_); rintro e w' ⟨rfl, ⟨n, rfl⟩⟩))
  by_cases t1 : s3.size = 0
  · have tb : (s3.toList == []) = true := by simp [empty_iff, t1]
    have R' : Hid (true = r) := Lib.hid (by rw [← R.out]; unfold tailB; rw [decide_eq_true t1]; rfl)
    clear R t1
    go_wp2
    go_ret
    exact ⟨ret_bool R'.out, by repeat (first | exact Drawn0.refl _ | apply Drawn0.step)⟩
  · have tb : (s3.toList == []) = false := by simp [empty_iff, t1]
    have R' : Hid ((decide (0 < lows s3) && decide (lows s3 < digs s3) && decide (digs s3 = s3.size)) = r) := Lib.hid (by rw [← R.out]; unfold tailB; rw [decide_eq_false t1]; rfl)
    clear R t1
    obtain ⟨p, hp⟩ : ∃ p, p = lows s3 := ⟨_, rfl⟩
    obtain ⟨q, hq⟩ : ∃ q, q = digs s3 := ⟨_, rfl⟩
    have P := Lib.hid hp
    have Q := Lib.hid hq
    have hp1 := lows_le s3
    have hq1 := digs_le s3
    rw [← hp] at hp1
    rw [← hp, ← hq] at hq1
    replace R' : Hid ((decide (0 < p) && decide (p < q) && decide (q = s3.size)) = r) := Lib.hid (by rw [← R'.out, hp, hq])
    clear hp hq
    go_wp2
    go_loop [4] (fun v => ∃ k : Nat, k ≤ p ∧ v = .int .i64 k) (fun v => p - (intOf v).toNat)
    case atStart => exact ⟨0, by omega, rfl⟩
    case round =>
      obtain ⟨k, hk, rfl⟩ := hrel
      by_cases hlt : k < p
      · have hin := lows_in s3 k (by rw [← P.out]; exact hlt)
        have g1 : decide ((k : Int) < (s3.size : Int)) = true := decide_eq_true (by omega)
        have g2 : decide (97 ≤ bt s3 (k : Int)) = true := decide_eq_true hin.1
        have g3 : decide (bt s3 (k : Int) ≤ 122) = true := decide_eq_true hin.2
        have g4 : (k < s3.size) = True := eq_true (by omega)
        have g5 : ((k : Int) < (s3.size : Int)) = True := eq_true (by omega)
        have g6 : ∀ h : k < s3.size, ((s3[k]'h).toNat : Int) = bt s3 (k : Int) := bt_at s3 k
        clear hin
        go_wp2
        go_round
        case rel => exact ⟨k + 1, by omega, by go_num⟩
        case measure => simp [intOf]; omega
      · have hkp : p = k := by omega
        subst hkp
        clear hk hlt
        by_cases ey : p = s3.size
        · have xy : decide ((p : Int) < (s3.size : Int)) = false := decide_eq_false (by omega)
          have ny : decide (p < s3.size) = false := decide_eq_false (by omega)
          clear ey
          go_wp2
          go_loop [5] (fun v => ∃ k : Nat, p ≤ k ∧ k ≤ q ∧ v = .int .i64 k) (fun v => q - (intOf v).toNat)
          case atStart => exact ⟨p, by omega, by omega, rfl⟩
          case round =>
            obtain ⟨k, hk0, hk, rfl⟩ := hrel
            by_cases hlt : k < q
            · have hin := digs_in s3 k (by rw [← P.out]; exact hk0) (by rw [← Q.out]; exact hlt)
              have g1 : decide ((k : Int) < (s3.size : Int)) = true := decide_eq_true (by omega)
              have g2 : decide (48 ≤ bt s3 (k : Int)) = true := decide_eq_true hin.1
              have g3 : decide (bt s3 (k : Int) ≤ 57) = true := decide_eq_true hin.2
              have g4 : (k < s3.size) = True := eq_true (by omega)
              have g5 : ((k : Int) < (s3.size : Int)) = True := eq_true (by omega)
              have g6 : ∀ h : k < s3.size, ((s3[k]'h).toNat : Int) = bt s3 (k : Int) := bt_at s3 k
              clear hin
              go_wp2
              go_round
              case rel => exact ⟨k + 1, by omega, by omega, by go_num⟩
              case measure => simp [intOf]; omega
            · have hkq : q = k := by omega
              subst hkq
              clear hk hlt
              by_cases ez : q = s3.size
              · have xz : decide ((q : Int) < (s3.size : Int)) = false := decide_eq_false (by omega)
                have nz : decide (q < s3.size) = false := decide_eq_false (by omega)
                clear ez
                have fin : Hid ((decide (0 < p) && decide (p < q) && decide (q = s3.size)) = r) := R'
                by_cases f1 : 0 < p
                · have d1 : decide (0 < (p : Int)) = true := decide_eq_true (by omega)
                  have d1' : decide (0 < p) = true := decide_eq_true f1
                  by_cases f2 : p < q
                  · have d2 : decide ((p : Int) < (q : Int)) = true := decide_eq_true (by omega)
                    have d2' : decide (p < q) = true := decide_eq_true f2
                    by_cases f3 : q = s3.size
                    · have d3 : ((q : Int) == (s3.size : Int)) = true := beq_iff_eq.mpr (by omega)
                      have o : Hid (true = r) := Lib.hid (by rw [← fin.out, d1', d2', decide_eq_true f3]; rfl)
                      clear f1 f2 f3 R' fin
                      go_wp2
                      go_ret
                      exact ⟨ret_bool o.out, by repeat (first | exact Drawn0.refl _ | apply Drawn0.step)⟩
                    · have d3 : ((q : Int) == (s3.size : Int)) = false := beq_eq_false_iff_ne.mpr (by omega)
                      have o : Hid (false = r) := Lib.hid (by rw [← fin.out, decide_eq_false f3]; simp)
                      clear f1 f2 f3 R' fin
                      go_wp2
                      go_ret
                      exact ⟨ret_bool o.out, by repeat (first | exact Drawn0.refl _ | apply Drawn0.step)⟩
                  · have d2 : decide ((p : Int) < (q : Int)) = false := decide_eq_false (by omega)
                    have d2' : decide (p < q) = false := decide_eq_false f2
                    have o : Hid (false = r) := Lib.hid (by rw [← fin.out, decide_eq_false f2]; simp)
                    clear f1 f2 R' fin
                    go_wp2
                    go_ret
                    exact ⟨ret_bool o.out, by repeat (first | exact Drawn0.refl _ | apply Drawn0.step)⟩
                · have d1 : decide (0 < (p : Int)) = false := decide_eq_false (by omega)
                  have d1' : decide (0 < p) = false := decide_eq_false f1
                  have o : Hid (false = r) := Lib.hid (by rw [← fin.out, decide_eq_false f1]; rfl)
                  clear f1 R' fin
                  go_wp2
                  go_ret
                  exact ⟨ret_bool o.out, by repeat (first | exact Drawn0.refl _ | apply Drawn0.step)⟩
              · have oz := digs_out s3 (by rw [← Q.out]; omega)
                rw [← Q.out] at oz
                have xz : decide ((q : Int) < (s3.size : Int)) = true := decide_eq_true (by omega)
                have qz : (q < s3.size) = True := eq_true (by omega)
                have iz : ((q : Int) < (s3.size : Int)) = True := eq_true (by omega)
                have hz : ∀ h : q < s3.size, ((s3[q]'h).toNat : Int) = bt s3 (q : Int) := bt_at s3 q
                by_cases lz : 48 ≤ bt s3 (q : Int)
                · have az : decide (48 ≤ bt s3 (q : Int)) = true := decide_eq_true lz
                  have bbz : decide (bt s3 (q : Int) ≤ 57) = false := decide_eq_false (by omega)
                  clear oz lz ez
                  have fin : Hid ((decide (0 < p) && decide (p < q) && decide (q = s3.size)) = r) := R'
                  by_cases f1 : 0 < p
                  · have d1 : decide (0 < (p : Int)) = true := decide_eq_true (by omega)
                    have d1' : decide (0 < p) = true := decide_eq_true f1
                    by_cases f2 : p < q
                    · have d2 : decide ((p : Int) < (q : Int)) = true := decide_eq_true (by omega)
                      have d2' : decide (p < q) = true := decide_eq_true f2
                      by_cases f3 : q = s3.size
                      · have d3 : ((q : Int) == (s3.size : Int)) = true := beq_iff_eq.mpr (by omega)
                        have o : Hid (true = r) := Lib.hid (by rw [← fin.out, d1', d2', decide_eq_true f3]; rfl)
                        clear f1 f2 f3 R' fin
                        go_wp2
                        go_ret
                        exact ⟨ret_bool o.out, by repeat (first | exact Drawn0.refl _ | apply Drawn0.step)⟩
                      · have d3 : ((q : Int) == (s3.size : Int)) = false := beq_eq_false_iff_ne.mpr (by omega)
                        have o : Hid (false = r) := Lib.hid (by rw [← fin.out, decide_eq_false f3]; simp)
                        clear f1 f2 f3 R' fin
                        go_wp2
                        go_ret
                        exact ⟨ret_bool o.out, by repeat (first | exact Drawn0.refl _ | apply Drawn0.step)⟩
                    · have d2 : decide ((p : Int) < (q : Int)) = false := decide_eq_false (by omega)
                      have d2' : decide (p < q) = false := decide_eq_false f2
                      have o : Hid (false = r) := Lib.hid (by rw [← fin.out, decide_eq_false f2]; simp)
                      clear f1 f2 R' fin
                      go_wp2
                      go_ret
                      exact ⟨ret_bool o.out, by repeat (first | exact Drawn0.refl _ | apply Drawn0.step)⟩
                  · have d1 : decide (0 < (p : Int)) = false := decide_eq_false (by omega)
                    have d1' : decide (0 < p) = false := decide_eq_false f1
                    have o : Hid (false = r) := Lib.hid (by rw [← fin.out, decide_eq_false f1]; rfl)
                    clear f1 R' fin
                    go_wp2
                    go_ret
                    exact ⟨ret_bool o.out, by repeat (first | exact Drawn0.refl _ | apply Drawn0.step)⟩
                · have az : decide (48 ≤ bt s3 (q : Int)) = false := decide_eq_false lz
                  clear oz lz ez
                  have fin : Hid ((decide (0 < p) && decide (p < q) && decide (q = s3.size)) = r) := R'
                  by_cases f1 : 0 < p
                  · have d1 : decide (0 < (p : Int)) = true := decide_eq_true (by omega)
                    have d1' : decide (0 < p) = true := decide_eq_true f1
                    by_cases f2 : p < q
                    · have d2 : decide ((p : Int) < (q : Int)) = true := decide_eq_true (by omega)
                      have d2' : decide (p < q) = true := decide_eq_true f2
                      by_cases f3 : q = s3.size
                      · have d3 : ((q : Int) == (s3.size : Int)) = true := beq_iff_eq.mpr (by omega)
                        have o : Hid (true = r) := Lib.hid (by rw [← fin.out, d1', d2', decide_eq_true f3]; rfl)
                        clear f1 f2 f3 R' fin
                        go_wp2
                        go_ret
                        exact ⟨ret_bool o.out, by repeat (first | exact Drawn0.refl _ | apply Drawn0.step)⟩
                      · have d3 : ((q : Int) == (s3.size : Int)) = false := beq_eq_false_iff_ne.mpr (by omega)
                        have o : Hid (false = r) := Lib.hid (by rw [← fin.out, decide_eq_false f3]; simp)
                        clear f1 f2 f3 R' fin
                        go_wp2
                        go_ret
                        exact ⟨ret_bool o.out, by repeat (first | exact Drawn0.refl _ | apply Drawn0.step)⟩
                    · have d2 : decide ((p : Int) < (q : Int)) = false := decide_eq_false (by omega)
                      have d2' : decide (p < q) = false := decide_eq_false f2
                      have o : Hid (false = r) := Lib.hid (by rw [← fin.out, decide_eq_false f2]; simp)
                      clear f1 f2 R' fin
                      go_wp2
                      go_ret
                      exact ⟨ret_bool o.out, by repeat (first | exact Drawn0.refl _ | apply Drawn0.step)⟩
                  · have d1 : decide (0 < (p : Int)) = false := decide_eq_false (by omega)
                    have d1' : decide (0 < p) = false := decide_eq_false f1
                    have o : Hid (false = r) := Lib.hid (by rw [← fin.out, decide_eq_false f1]; rfl)
                    clear f1 R' fin
                    go_wp2
                    go_ret
                    exact ⟨ret_bool o.out, by repeat (first | exact Drawn0.refl _ | apply Drawn0.step)⟩
        · have oy := lows_out s3 (by rw [← P.out]; omega)
          rw [← P.out] at oy
          have xy : decide ((p : Int) < (s3.size : Int)) = true := decide_eq_true (by omega)
          have qy : (p < s3.size) = True := eq_true (by omega)
          have iy : ((p : Int) < (s3.size : Int)) = True := eq_true (by omega)
          have hy : ∀ h : p < s3.size, ((s3[p]'h).toNat : Int) = bt s3 (p : Int) := bt_at s3 p
          by_cases ly : 97 ≤ bt s3 (p : Int)
          · have ay : decide (97 ≤ bt s3 (p : Int)) = true := decide_eq_true ly
            have bby : decide (bt s3 (p : Int) ≤ 122) = false := decide_eq_false (by omega)
            clear oy ly ey
            go_wp2
            go_loop [5] (fun v => ∃ k : Nat, p ≤ k ∧ k ≤ q ∧ v = .int .i64 k) (fun v => q - (intOf v).toNat)
            case atStart => exact ⟨p, by omega, by omega, rfl⟩
            case round =>
              obtain ⟨k, hk0, hk, rfl⟩ := hrel
              by_cases hlt : k < q
              · have hin := digs_in s3 k (by rw [← P.out]; exact hk0) (by rw [← Q.out]; exact hlt)
                have g1 : decide ((k : Int) < (s3.size : Int)) = true := decide_eq_true (by omega)
                have g2 : decide (48 ≤ bt s3 (k : Int)) = true := decide_eq_true hin.1
                have g3 : decide (bt s3 (k : Int) ≤ 57) = true := decide_eq_true hin.2
                have g4 : (k < s3.size) = True := eq_true (by omega)
                have g5 : ((k : Int) < (s3.size : Int)) = True := eq_true (by omega)
                have g6 : ∀ h : k < s3.size, ((s3[k]'h).toNat : Int) = bt s3 (k : Int) := bt_at s3 k
                clear hin
                go_wp2
                go_round
                case rel => exact ⟨k + 1, by omega, by omega, by go_num⟩
                case measure => simp [intOf]; omega
              · have hkq : q = k := by omega
                subst hkq
                clear hk hlt
                by_cases ez : q = s3.size
                · have xz : decide ((q : Int) < (s3.size : Int)) = false := decide_eq_false (by omega)
                  have nz : decide (q < s3.size) = false := decide_eq_false (by omega)
                  clear ez
                  have fin : Hid ((decide (0 < p) && decide (p < q) && decide (q = s3.size)) = r) := R'
                  by_cases f1 : 0 < p
                  · have d1 : decide (0 < (p : Int)) = true := decide_eq_true (by omega)
                    have d1' : decide (0 < p) = true := decide_eq_true f1
                    by_cases f2 : p < q
                    · have d2 : decide ((p : Int) < (q : Int)) = true := decide_eq_true (by omega)
                      have d2' : decide (p < q) = true := decide_eq_true f2
                      by_cases f3 : q = s3.size
                      · have d3 : ((q : Int) == (s3.size : Int)) = true := beq_iff_eq.mpr (by omega)
                        have o : Hid (true = r) := Lib.hid (by rw [← fin.out, d1', d2', decide_eq_true f3]; rfl)
                        clear f1 f2 f3 R' fin
                        go_wp2
                        go_ret
                        exact ⟨ret_bool o.out, by repeat (first | exact Drawn0.refl _ | apply Drawn0.step)⟩
                      · have d3 : ((q : Int) == (s3.size : Int)) = false := beq_eq_false_iff_ne.mpr (by omega)
                        have o : Hid (false = r) := Lib.hid (by rw [← fin.out, decide_eq_false f3]; simp)
                        clear f1 f2 f3 R' fin
                        go_wp2
                        go_ret
                        exact ⟨ret_bool o.out, by repeat (first | exact Drawn0.refl _ | apply Drawn0.step)⟩
                    · have d2 : decide ((p : Int) < (q : Int)) = false := decide_eq_false (by omega)
                      have d2' : decide (p < q) = false := decide_eq_false f2
                      have o : Hid (false = r) := Lib.hid (by rw [← fin.out, decide_eq_false f2]; simp)
                      clear f1 f2 R' fin
                      go_wp2
                      go_ret
                      exact ⟨ret_bool o.out, by repeat (first | exact Drawn0.refl _ | apply Drawn0.step)⟩
                  · have d1 : decide (0 < (p : Int)) = false := decide_eq_false (by omega)
                    have d1' : decide (0 < p) = false := decide_eq_false f1
                    have o : Hid (false = r) := Lib.hid (by rw [← fin.out, decide_eq_false f1]; rfl)
                    clear f1 R' fin
                    go_wp2
                    go_ret
                    exact ⟨ret_bool o.out, by repeat (first | exact Drawn0.refl _ | apply Drawn0.step)⟩
                · have oz := digs_out s3 (by rw [← Q.out]; omega)
                  rw [← Q.out] at oz
                  have xz : decide ((q : Int) < (s3.size : Int)) = true := decide_eq_true (by omega)
                  have qz : (q < s3.size) = True := eq_true (by omega)
                  have iz : ((q : Int) < (s3.size : Int)) = True := eq_true (by omega)
                  have hz : ∀ h : q < s3.size, ((s3[q]'h).toNat : Int) = bt s3 (q : Int) := bt_at s3 q
                  by_cases lz : 48 ≤ bt s3 (q : Int)
                  · have az : decide (48 ≤ bt s3 (q : Int)) = true := decide_eq_true lz
                    have bbz : decide (bt s3 (q : Int) ≤ 57) = false := decide_eq_false (by omega)
                    clear oz lz ez
                    have fin : Hid ((decide (0 < p) && decide (p < q) && decide (q = s3.size)) = r) := R'
                    by_cases f1 : 0 < p
                    · have d1 : decide (0 < (p : Int)) = true := decide_eq_true (by omega)
                      have d1' : decide (0 < p) = true := decide_eq_true f1
                      by_cases f2 : p < q
                      · have d2 : decide ((p : Int) < (q : Int)) = true := decide_eq_true (by omega)
                        have d2' : decide (p < q) = true := decide_eq_true f2
                        by_cases f3 : q = s3.size
                        · have d3 : ((q : Int) == (s3.size : Int)) = true := beq_iff_eq.mpr (by omega)
                          have o : Hid (true = r) := Lib.hid (by rw [← fin.out, d1', d2', decide_eq_true f3]; rfl)
                          clear f1 f2 f3 R' fin
                          go_wp2
                          go_ret
                          exact ⟨ret_bool o.out, by repeat (first | exact Drawn0.refl _ | apply Drawn0.step)⟩
                        · have d3 : ((q : Int) == (s3.size : Int)) = false := beq_eq_false_iff_ne.mpr (by omega)
                          have o : Hid (false = r) := Lib.hid (by rw [← fin.out, decide_eq_false f3]; simp)
                          clear f1 f2 f3 R' fin
                          go_wp2
                          go_ret
                          exact ⟨ret_bool o.out, by repeat (first | exact Drawn0.refl _ | apply Drawn0.step)⟩
                      · have d2 : decide ((p : Int) < (q : Int)) = false := decide_eq_false (by omega)
                        have d2' : decide (p < q) = false := decide_eq_false f2
                        have o : Hid (false = r) := Lib.hid (by rw [← fin.out, decide_eq_false f2]; simp)
                        clear f1 f2 R' fin
                        go_wp2
                        go_ret
                        exact ⟨ret_bool o.out, by repeat (first | exact Drawn0.refl _ | apply Drawn0.step)⟩
                    · have d1 : decide (0 < (p : Int)) = false := decide_eq_false (by omega)
                      have d1' : decide (0 < p) = false := decide_eq_false f1
                      have o : Hid (false = r) := Lib.hid (by rw [← fin.out, decide_eq_false f1]; rfl)
                      clear f1 R' fin
                      go_wp2
                      go_ret
                      exact ⟨ret_bool o.out, by repeat (first | exact Drawn0.refl _ | apply Drawn0.step)⟩
                  · have az : decide (48 ≤ bt s3 (q : Int)) = false := decide_eq_false lz
                    clear oz lz ez
                    have fin : Hid ((decide (0 < p) && decide (p < q) && decide (q = s3.size)) = r) := R'
                    by_cases f1 : 0 < p
                    · have d1 : decide (0 < (p : Int)) = true := decide_eq_true (by omega)
                      have d1' : decide (0 < p) = true := decide_eq_true f1
                      by_cases f2 : p < q
                      · have d2 : decide ((p : Int) < (q : Int)) = true := decide_eq_true (by omega)
                        have d2' : decide (p < q) = true := decide_eq_true f2
                        by_cases f3 : q = s3.size
                        · have d3 : ((q : Int) == (s3.size : Int)) = true := beq_iff_eq.mpr (by omega)
                          have o : Hid (true = r) := Lib.hid (by rw [← fin.out, d1', d2', decide_eq_true f3]; rfl)
                          clear f1 f2 f3 R' fin
                          go_wp2
                          go_ret
                          exact ⟨ret_bool o.out, by repeat (first | exact Drawn0.refl _ | apply Drawn0.step)⟩
                        · have d3 : ((q : Int) == (s3.size : Int)) = false := beq_eq_false_iff_ne.mpr (by omega)
                          have o : Hid (false = r) := Lib.hid (by rw [← fin.out, decide_eq_false f3]; simp)
                          clear f1 f2 f3 R' fin
                          go_wp2
                          go_ret
                          exact ⟨ret_bool o.out, by repeat (first | exact Drawn0.refl _ | apply Drawn0.step)⟩
                      · have d2 : decide ((p : Int) < (q : Int)) = false := decide_eq_false (by omega)
                        have d2' : decide (p < q) = false := decide_eq_false f2
                        have o : Hid (false = r) := Lib.hid (by rw [← fin.out, decide_eq_false f2]; simp)
                        clear f1 f2 R' fin
                        go_wp2
                        go_ret
                        exact ⟨ret_bool o.out, by repeat (first | exact Drawn0.refl _ | apply Drawn0.step)⟩
                    · have d1 : decide (0 < (p : Int)) = false := decide_eq_false (by omega)
                      have d1' : decide (0 < p) = false := decide_eq_false f1
                      have o : Hid (false = r) := Lib.hid (by rw [← fin.out, decide_eq_false f1]; rfl)
                      clear f1 R' fin
                      go_wp2
                      go_ret
                      exact ⟨ret_bool o.out, by repeat (first | exact Drawn0.refl _ | apply Drawn0.step)⟩
          · have ay : decide (97 ≤ bt s3 (p : Int)) = false := decide_eq_false ly
            clear oy ly ey
            go_wp2
            go_loop [5] (fun v => ∃ k : Nat, p ≤ k ∧ k ≤ q ∧ v = .int .i64 k) (fun v => q - (intOf v).toNat)
            case atStart => exact ⟨p, by omega, by omega, rfl⟩
            case round =>
              obtain ⟨k, hk0, hk, rfl⟩ := hrel
              by_cases hlt : k < q
              · have hin := digs_in s3 k (by rw [← P.out]; exact hk0) (by rw [← Q.out]; exact hlt)
                have g1 : decide ((k : Int) < (s3.size : Int)) = true := decide_eq_true (by omega)
                have g2 : decide (48 ≤ bt s3 (k : Int)) = true := decide_eq_true hin.1
                have g3 : decide (bt s3 (k : Int) ≤ 57) = true := decide_eq_true hin.2
                have g4 : (k < s3.size) = True := eq_true (by omega)
                have g5 : ((k : Int) < (s3.size : Int)) = True := eq_true (by omega)
                have g6 : ∀ h : k < s3.size, ((s3[k]'h).toNat : Int) = bt s3 (k : Int) := bt_at s3 k
                clear hin
                go_wp2
                go_round
                case rel => exact ⟨k + 1, by omega, by omega, by go_num⟩
                case measure => simp [intOf]; omega
              · have hkq : q = k := by omega
                subst hkq
                clear hk hlt
                by_cases ez : q = s3.size
                · have xz : decide ((q : Int) < (s3.size : Int)) = false := decide_eq_false (by omega)
                  have nz : decide (q < s3.size) = false := decide_eq_false (by omega)
                  clear ez
                  have fin : Hid ((decide (0 < p) && decide (p < q) && decide (q = s3.size)) = r) := R'
                  by_cases f1 : 0 < p
                  · have d1 : decide (0 < (p : Int)) = true := decide_eq_true (by omega)
                    have d1' : decide (0 < p) = true := decide_eq_true f1
                    by_cases f2 : p < q
                    · have d2 : decide ((p : Int) < (q : Int)) = true := decide_eq_true (by omega)
                      have d2' : decide (p < q) = true := decide_eq_true f2
                      by_cases f3 : q = s3.size
                      · have d3 : ((q : Int) == (s3.size : Int)) = true := beq_iff_eq.mpr (by omega)
                        have o : Hid (true = r) := Lib.hid (by rw [← fin.out, d1', d2', decide_eq_true f3]; rfl)
                        clear f1 f2 f3 R' fin
                        go_wp2
                        go_ret
                        exact ⟨ret_bool o.out, by repeat (first | exact Drawn0.refl _ | apply Drawn0.step)⟩
                      · have d3 : ((q : Int) == (s3.size : Int)) = false := beq_eq_false_iff_ne.mpr (by omega)
                        have o : Hid (false = r) := Lib.hid (by rw [← fin.out, decide_eq_false f3]; simp)
                        clear f1 f2 f3 R' fin
                        go_wp2
                        go_ret
                        exact ⟨ret_bool o.out, by repeat (first | exact Drawn0.refl _ | apply Drawn0.step)⟩
                    · have d2 : decide ((p : Int) < (q : Int)) = false := decide_eq_false (by omega)
                      have d2' : decide (p < q) = false := decide_eq_false f2
                      have o : Hid (false = r) := Lib.hid (by rw [← fin.out, decide_eq_false f2]; simp)
                      clear f1 f2 R' fin
                      go_wp2
                      go_ret
                      exact ⟨ret_bool o.out, by repeat (first | exact Drawn0.refl _ | apply Drawn0.step)⟩
                  · have d1 : decide (0 < (p : Int)) = false := decide_eq_false (by omega)
                    have d1' : decide (0 < p) = false := decide_eq_false f1
                    have o : Hid (false = r) := Lib.hid (by rw [← fin.out, decide_eq_false f1]; rfl)
                    clear f1 R' fin
                    go_wp2
                    go_ret
                    exact ⟨ret_bool o.out, by repeat (first | exact Drawn0.refl _ | apply Drawn0.step)⟩
                · have oz := digs_out s3 (by rw [← Q.out]; omega)
                  rw [← Q.out] at oz
                  have xz : decide ((q : Int) < (s3.size : Int)) = true := decide_eq_true (by omega)
                  have qz : (q < s3.size) = True := eq_true (by omega)
                  have iz : ((q : Int) < (s3.size : Int)) = True := eq_true (by omega)
                  have hz : ∀ h : q < s3.size, ((s3[q]'h).toNat : Int) = bt s3 (q : Int) := bt_at s3 q
                  by_cases lz : 48 ≤ bt s3 (q : Int)
                  · have az : decide (48 ≤ bt s3 (q : Int)) = true := decide_eq_true lz
                    have bbz : decide (bt s3 (q : Int) ≤ 57) = false := decide_eq_false (by omega)
                    clear oz lz ez
                    have fin : Hid ((decide (0 < p) && decide (p < q) && decide (q = s3.size)) = r) := R'
                    by_cases f1 : 0 < p
                    · have d1 : decide (0 < (p : Int)) = true := decide_eq_true (by omega)
                      have d1' : decide (0 < p) = true := decide_eq_true f1
                      by_cases f2 : p < q
                      · have d2 : decide ((p : Int) < (q : Int)) = true := decide_eq_true (by omega)
                        have d2' : decide (p < q) = true := decide_eq_true f2
                        by_cases f3 : q = s3.size
                        · have d3 : ((q : Int) == (s3.size : Int)) = true := beq_iff_eq.mpr (by omega)
                          have o : Hid (true = r) := Lib.hid (by rw [← fin.out, d1', d2', decide_eq_true f3]; rfl)
                          clear f1 f2 f3 R' fin
                          go_wp2
                          go_ret
                          exact ⟨ret_bool o.out, by repeat (first | exact Drawn0.refl _ | apply Drawn0.step)⟩
                        · have d3 : ((q : Int) == (s3.size : Int)) = false := beq_eq_false_iff_ne.mpr (by omega)
                          have o : Hid (false = r) := Lib.hid (by rw [← fin.out, decide_eq_false f3]; simp)
                          clear f1 f2 f3 R' fin
                          go_wp2
                          go_ret
                          exact ⟨ret_bool o.out, by repeat (first | exact Drawn0.refl _ | apply Drawn0.step)⟩
                      · have d2 : decide ((p : Int) < (q : Int)) = false := decide_eq_false (by omega)
                        have d2' : decide (p < q) = false := decide_eq_false f2
                        have o : Hid (false = r) := Lib.hid (by rw [← fin.out, decide_eq_false f2]; simp)
                        clear f1 f2 R' fin
                        go_wp2
                        go_ret
                        exact ⟨ret_bool o.out, by repeat (first | exact Drawn0.refl _ | apply Drawn0.step)⟩
                    · have d1 : decide (0 < (p : Int)) = false := decide_eq_false (by omega)
                      have d1' : decide (0 < p) = false := decide_eq_false f1
                      have o : Hid (false = r) := Lib.hid (by rw [← fin.out, decide_eq_false f1]; rfl)
                      clear f1 R' fin
                      go_wp2
                      go_ret
                      exact ⟨ret_bool o.out, by repeat (first | exact Drawn0.refl _ | apply Drawn0.step)⟩
                  · have az : decide (48 ≤ bt s3 (q : Int)) = false := decide_eq_false lz
                    clear oz lz ez
                    have fin : Hid ((decide (0 < p) && decide (p < q) && decide (q = s3.size)) = r) := R'
                    by_cases f1 : 0 < p
                    · have d1 : decide (0 < (p : Int)) = true := decide_eq_true (by omega)
                      have d1' : decide (0 < p) = true := decide_eq_true f1
                      by_cases f2 : p < q
                      · have d2 : decide ((p : Int) < (q : Int)) = true := decide_eq_true (by omega)
                        have d2' : decide (p < q) = true := decide_eq_true f2
                        by_cases f3 : q = s3.size
                        · have d3 : ((q : Int) == (s3.size : Int)) = true := beq_iff_eq.mpr (by omega)
                          have o : Hid (true = r) := Lib.hid (by rw [← fin.out, d1', d2', decide_eq_true f3]; rfl)
                          clear f1 f2 f3 R' fin
                          go_wp2
                          go_ret
                          exact ⟨ret_bool o.out, by repeat (first | exact Drawn0.refl _ | apply Drawn0.step)⟩
                        · have d3 : ((q : Int) == (s3.size : Int)) = false := beq_eq_false_iff_ne.mpr (by omega)
                          have o : Hid (false = r) := Lib.hid (by rw [← fin.out, decide_eq_false f3]; simp)
                          clear f1 f2 f3 R' fin
                          go_wp2
                          go_ret
                          exact ⟨ret_bool o.out, by repeat (first | exact Drawn0.refl _ | apply Drawn0.step)⟩
                      · have d2 : decide ((p : Int) < (q : Int)) = false := decide_eq_false (by omega)
                        have d2' : decide (p < q) = false := decide_eq_false f2
                        have o : Hid (false = r) := Lib.hid (by rw [← fin.out, decide_eq_false f2]; simp)
                        clear f1 f2 R' fin
                        go_wp2
                        go_ret
                        exact ⟨ret_bool o.out, by repeat (first | exact Drawn0.refl _ | apply Drawn0.step)⟩
                    · have d1 : decide (0 < (p : Int)) = false := decide_eq_false (by omega)
                      have d1' : decide (0 < p) = false := decide_eq_false f1
                      have o : Hid (false = r) := Lib.hid (by rw [← fin.out, decide_eq_false f1]; rfl)
                      clear f1 R' fin
                      go_wp2
                      go_ret
                      exact ⟨ret_bool o.out, by repeat (first | exact Drawn0.refl _ | apply Drawn0.step)⟩

end Go.Proofs.Ythgbiopfpjleaaa.Gv
