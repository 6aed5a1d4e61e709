/- What calls of unicode.IsPrint at ASCII and of the program's MustQuote at ASCII do. Conditions: a string of at most 2147483647 bytes, each at most 126; the table of unicode's properties lies in memory. -/
import Derived.Test.YtkmebbdkiamliaaDoorQa
import Derived.WalkSpells
import Derived.WalkLawsBesides
import Derived.Laws.RangeAny
import Derived.Lib.Hide
namespace Go.Proofs.YtkmebbdkiamliaaDoor.Q
open Go.RowKit Go.Proofs.YtkmebbdkiamliaaDoor.PzzContains Go.Proofs.YtkmebbdkiamliaaDoorW.PrintWords

/-- The first 127 numbers of the table. -/
def propT : List Int := (List.replicate 32 1) ++ [144] ++ (List.range 94).map (fun i => ([130, 130, 130, 136, 130, 130, 130, 130, 130, 130, 136, 130, 130, 130, 130, 132, 132, 132, 132, 132, 132, 132, 132, 132, 132, 130, 130, 136, 136, 136, 130, 130] : List Int).getD i 0)

/-- The table of unicode's properties lies in memory. -/
def Props (T : List Int) (w : World) : Prop := ∀ c : Nat, c ≤ 126 → w.cell? ⟨0, c, none⟩ = some (.int .u8 (T.getD c 0)) ∧ (Go.bits .and .u8 (T.getD c 0) 128 != 0) = decide (32 ≤ (c : Int))

set_option maxHeartbeats 4000000 in
set_option maxRecDepth 100000 in
theorem isPrint_at (c : Int) (p : Int) (w : World) (h0 : 0 ≤ c) (hc : c ≤ 126) (hP : w.cell? ⟨0, c.toNat, none⟩ = some (.int .u8 p)) :
    Calls Tryd.prog 17 #[.int .i32 c] w fun e w' => e = .returned (.bool (Go.bits .and .u8 p 128 != 0)) ∧ w = w' := by
  have e1 : IntKind.u32.wrap c = c := by
    show c % 2 ^ 32 = c
    omega
  have e2 : IntKind.u8.wrap c = c := by
    show c % 2 ^ 8 = c
    omega
  have d1 : decide (c ≤ 255) = true := decide_eq_true (by omega)
  go_enter Tryd.func17, Tryd.ntmps17
  go_wp2
  go_ret
  exact ⟨rfl, rfl⟩

theorem isPrint_is (T : List Int) (c : Int) (b : Bool) (w : World) (h0 : 0 ≤ c) (hc : c ≤ 126) (hP : Hid (Props T w)) (hb : Hid (decide (32 ≤ c) = b)) :
    Calls Tryd.prog 17 #[.int .i32 c] w fun e w' => e = .returned (.bool b) ∧ w = w' := by
  obtain ⟨n, rfl⟩ : ∃ n : Nat, c = (n : Int) := ⟨c.toNat, by omega⟩
  obtain ⟨h1, h2⟩ := hP.out n (by omega)
  have := isPrint_at (n : Int) _ w h0 hc (by rw [show (n : Int).toNat = n by omega]; exact h1)
  rw [h2, hb.out] at this
  exact this

theorem Props.below {T : List Int} {w w' : World} (h : Props T w) (hb : Below w.heap.size w w') : Props T w' := by
  intro c hc
  obtain ⟨h1, h2⟩ := h c hc
  refine ⟨?_, h2⟩
  rw [hb.cell (p := ⟨0, c, none⟩) ?_]
  · exact h1
  · show 0 < w.heap.size
    rcases Nat.eq_zero_or_pos w.heap.size with h0 | h0
    · exfalso
      have : w.heap[(0 : Nat)]? = none := Array.getElem?_eq_none (by omega)
      simp [World.cell?, this] at h1
    · exact h0

theorem below_iter (w : World) (s : ByteArray) (k : Nat) : Below w.heap.size w (w.iter s k) := (Below.refl _ _).alloc (Nat.le_refl _) _

/-- One step of the loop over a string of ASCII. -/
theorem next_at (s : ByteArray) (k : Nat) (w : World) (ty : TypeId) (h : k < s.size) (ha : bt s (k : Int) ≤ 126) : (Instr.next (.pointer (some ⟨w.heap.size, 0, none⟩)) true ty).run Tryd.prog (w.iter s k) = .ok (.tuple #[.bool true, .int .i64 (k : Int), .int .i32 (bt s (k : Int))]) (w.iter s (k + 1)) := by
  have e : ((s[k]'h).toNat : Int) = bt s (k : Int) := by
    unfold bt
    rw [dif_pos (by simpa using h)]
    rfl
  rw [run_next_ascii w s k ty h (by omega), e]

theorem contains_is (s p : ByteArray) (b : Bool) (w : World) (hp : 0 < p.size) (hs : s.size ≤ 2147483647) (hp2 : p.size ≤ 2147483647) (H : Hid (hasL (lst p) (lst s) = b)) : Calls Tryd.prog 18 #[.string s, .string p] w fun e w' => e = .returned (.bool b) ∧ Drawn0 w w' := by
  have h := H.out
  subst h
  exact modfile_zzContains.calls _ s p _ w (contains_tells s p hp hs hp2)

theorem ret_bool {a b : Bool} (h : a = b) : Ending.returned (.bool a) = .returned (.bool b) := by rw [h]

set_option maxHeartbeats 16000000 in
set_option maxRecDepth 100000 in
theorem mustQuote_is (T : List Int) (s : ByteArray) (r : Bool) (w : World) (hs : s.size ≤ 2147483647) (ha : Hid (∀ k : Nat, k < s.size → bt s (k : Int) ≤ 126)) (hP : Hid (Props T w)) (R : Hid (mustB s = r)) :
    Calls Tryd.prog 14 #[.string s] w fun e w' => e = .returned (.bool r) ∧ Below w.heap.size w w' := by
  have R0 : Hid ((((lst s).drop 0).any (stops (decide (1 < s.size))) || behind s) = r) := Lib.hid (by rw [List.drop_zero]; exact R.out)
  clear R
  go_enter Tryd.func14, Tryd.ntmps14
  go_wp2
  go_loopw [4, 10, 14, 19] (fun _ _ _ _ w' => ∃ k : Nat, k ≤ s.size ∧ w' = w.iter s k ∧ Hid ((((lst s).drop k).any (stops (decide (1 < s.size))) || behind s) = r)) (fun _ _ _ _ w' => s.size - w'.iterPos w.heap.size)
  case atStart => exact ⟨0, by omega, rfl, R0⟩
  case round =>
    obtain ⟨k, hk, rfl, RK⟩ := hrel
    clear R0
    have hPk : Hid (Props T (w.iter s (k + 1))) := Lib.hid (hP.out.below (below_iter w s (k + 1)))
    by_cases hlt : k < s.size
    · have hx := ha.out k hlt
      have hnx : ∀ ty, (Instr.next (.pointer (some ⟨w.heap.size, 0, none⟩)) true ty).run Tryd.prog (w.iter s k) = .ok (.tuple #[.bool true, .int .i64 (k : Int), .int .i32 (bt s (k : Int))]) (w.iter s (k + 1)) := fun ty => next_at s k w ty hlt hx
      obtain ⟨c, hc, e⟩ := drop_at s k hlt
      have hc0 : 0 ≤ bt s (k : Int) := by rw [hc]; omega
      have RC : Hid (∀ b : Bool, stops (decide (1 < s.size)) c = b → (b || (((lst s).drop (k + 1)).any (stops (decide (1 < s.size))) || behind s)) = r) := Lib.hid (fun b hb => by rw [← hb, ← RK.out, e, List.any_cons, Bool.or_assoc])
      have HC := Lib.hid hc
      clear hc e RK
      generalize bt s (k : Int) = x at *
      by_cases e32 : x = 32
      · have RE : Hid (true = r) := Lib.hid (by have := RC.out true (by unfold stops spc; rw [← HC.out, e32]; rfl); simpa using this)
        have t32 : (x == 32) = true := by simp [e32]

        clear e32 RC
        go_wp2
        go_ret
        exact ⟨ret_bool RE.out, below_iter w s (k + 1)⟩
      · have n32 : (x == 32) = false := beq_eq_false_iff_ne.mpr (by omega)
        by_cases e34 : x = 34
        · have RE : Hid (true = r) := Lib.hid (by have := RC.out true (by unfold stops spc; rw [← HC.out, e34]; rfl); simpa using this)
          have t34 : (x == 34) = true := by simp [e34]
          have n32 : (x == 32) = false := beq_eq_false_iff_ne.mpr (by omega)
          clear e34 RC
          go_wp2
          go_ret
          exact ⟨ret_bool RE.out, below_iter w s (k + 1)⟩
        · have n34 : (x == 34) = false := beq_eq_false_iff_ne.mpr (by omega)
          by_cases e39 : x = 39
          · have RE : Hid (true = r) := Lib.hid (by have := RC.out true (by unfold stops spc; rw [← HC.out, e39]; rfl); simpa using this)
            have t39 : (x == 39) = true := by simp [e39]
            have n32 : (x == 32) = false := beq_eq_false_iff_ne.mpr (by omega)
            have n34 : (x == 34) = false := beq_eq_false_iff_ne.mpr (by omega)
            clear e39 RC
            go_wp2
            go_ret
            exact ⟨ret_bool RE.out, below_iter w s (k + 1)⟩
          · have n39 : (x == 39) = false := beq_eq_false_iff_ne.mpr (by omega)
            by_cases e96 : x = 96
            · have RE : Hid (true = r) := Lib.hid (by have := RC.out true (by unfold stops spc; rw [← HC.out, e96]; rfl); simpa using this)
              have t96 : (x == 96) = true := by simp [e96]
              have n32 : (x == 32) = false := beq_eq_false_iff_ne.mpr (by omega)
              have n34 : (x == 34) = false := beq_eq_false_iff_ne.mpr (by omega)
              have n39 : (x == 39) = false := beq_eq_false_iff_ne.mpr (by omega)
              clear e96 RC
              go_wp2
              go_ret
              exact ⟨ret_bool RE.out, below_iter w s (k + 1)⟩
            · have n96 : (x == 96) = false := beq_eq_false_iff_ne.mpr (by omega)
              by_cases e40 : x = 40
              · have t40 : (x == 40) = true := by simp [e40]

                by_cases g : 1 < s.size
                · have RE : Hid (true = r) := Lib.hid (by have := RC.out true (by rw [decide_eq_true g]; unfold stops brk; rw [← HC.out, e40]; simp); simpa using this)
                  have g1 : decide (1 < (s.size : Int)) = true := decide_eq_true (by omega)
                  have g2 : decide (1 < s.size) = true := decide_eq_true g
                  clear e40 RC g
                  go_wp2
                  go_ret
                  exact ⟨ret_bool RE.out, below_iter w s (k + 1)⟩
                · have RE : Hid ((((lst s).drop (k + 1)).any (stops (decide (1 < s.size))) || behind s) = r) := Lib.hid (by have := RC.out false (by rw [decide_eq_false g]; unfold stops spc brk; rw [← HC.out, e40]; simp); simpa using this)
                  have g1 : decide (1 < (s.size : Int)) = false := decide_eq_false (by omega)
                  have g2 : decide (1 < s.size) = false := decide_eq_false g
                  clear e40 RC g
                  go_wp2
                  go_roundw
                  case rel => exact ⟨k + 1, by omega, rfl, RE⟩
                  case measure => simp; omega
              · have n40 : (x == 40) = false := beq_eq_false_iff_ne.mpr (by omega)
                by_cases e41 : x = 41
                · have t41 : (x == 41) = true := by simp [e41]
                  have n40 : (x == 40) = false := beq_eq_false_iff_ne.mpr (by omega)
                  by_cases g : 1 < s.size
                  · have RE : Hid (true = r) := Lib.hid (by have := RC.out true (by rw [decide_eq_true g]; unfold stops brk; rw [← HC.out, e41]; simp); simpa using this)
                    have g1 : decide (1 < (s.size : Int)) = true := decide_eq_true (by omega)
                    have g2 : decide (1 < s.size) = true := decide_eq_true g
                    clear e41 RC g
                    go_wp2
                    go_ret
                    exact ⟨ret_bool RE.out, below_iter w s (k + 1)⟩
                  · have RE : Hid ((((lst s).drop (k + 1)).any (stops (decide (1 < s.size))) || behind s) = r) := Lib.hid (by have := RC.out false (by rw [decide_eq_false g]; unfold stops spc brk; rw [← HC.out, e41]; simp); simpa using this)
                    have g1 : decide (1 < (s.size : Int)) = false := decide_eq_false (by omega)
                    have g2 : decide (1 < s.size) = false := decide_eq_false g
                    clear e41 RC g
                    go_wp2
                    go_roundw
                    case rel => exact ⟨k + 1, by omega, rfl, RE⟩
                    case measure => simp; omega
                · have n41 : (x == 41) = false := beq_eq_false_iff_ne.mpr (by omega)
                  by_cases e91 : x = 91
                  · have t91 : (x == 91) = true := by simp [e91]
                    have n40 : (x == 40) = false := beq_eq_false_iff_ne.mpr (by omega)
                    have n41 : (x == 41) = false := beq_eq_false_iff_ne.mpr (by omega)
                    by_cases g : 1 < s.size
                    · have RE : Hid (true = r) := Lib.hid (by have := RC.out true (by rw [decide_eq_true g]; unfold stops brk; rw [← HC.out, e91]; simp); simpa using this)
                      have g1 : decide (1 < (s.size : Int)) = true := decide_eq_true (by omega)
                      have g2 : decide (1 < s.size) = true := decide_eq_true g
                      clear e91 RC g
                      go_wp2
                      go_ret
                      exact ⟨ret_bool RE.out, below_iter w s (k + 1)⟩
                    · have RE : Hid ((((lst s).drop (k + 1)).any (stops (decide (1 < s.size))) || behind s) = r) := Lib.hid (by have := RC.out false (by rw [decide_eq_false g]; unfold stops spc brk; rw [← HC.out, e91]; simp); simpa using this)
                      have g1 : decide (1 < (s.size : Int)) = false := decide_eq_false (by omega)
                      have g2 : decide (1 < s.size) = false := decide_eq_false g
                      clear e91 RC g
                      go_wp2
                      go_roundw
                      case rel => exact ⟨k + 1, by omega, rfl, RE⟩
                      case measure => simp; omega
                  · have n91 : (x == 91) = false := beq_eq_false_iff_ne.mpr (by omega)
                    by_cases e93 : x = 93
                    · have t93 : (x == 93) = true := by simp [e93]
                      have n40 : (x == 40) = false := beq_eq_false_iff_ne.mpr (by omega)
                      have n41 : (x == 41) = false := beq_eq_false_iff_ne.mpr (by omega)
                      have n91 : (x == 91) = false := beq_eq_false_iff_ne.mpr (by omega)
                      by_cases g : 1 < s.size
                      · have RE : Hid (true = r) := Lib.hid (by have := RC.out true (by rw [decide_eq_true g]; unfold stops brk; rw [← HC.out, e93]; simp); simpa using this)
                        have g1 : decide (1 < (s.size : Int)) = true := decide_eq_true (by omega)
                        have g2 : decide (1 < s.size) = true := decide_eq_true g
                        clear e93 RC g
                        go_wp2
                        go_ret
                        exact ⟨ret_bool RE.out, below_iter w s (k + 1)⟩
                      · have RE : Hid ((((lst s).drop (k + 1)).any (stops (decide (1 < s.size))) || behind s) = r) := Lib.hid (by have := RC.out false (by rw [decide_eq_false g]; unfold stops spc brk; rw [← HC.out, e93]; simp); simpa using this)
                        have g1 : decide (1 < (s.size : Int)) = false := decide_eq_false (by omega)
                        have g2 : decide (1 < s.size) = false := decide_eq_false g
                        clear e93 RC g
                        go_wp2
                        go_roundw
                        case rel => exact ⟨k + 1, by omega, rfl, RE⟩
                        case measure => simp; omega
                    · have n93 : (x == 93) = false := beq_eq_false_iff_ne.mpr (by omega)
                      by_cases e123 : x = 123
                      · have t123 : (x == 123) = true := by simp [e123]
                        have n40 : (x == 40) = false := beq_eq_false_iff_ne.mpr (by omega)
                        have n41 : (x == 41) = false := beq_eq_false_iff_ne.mpr (by omega)
                        have n91 : (x == 91) = false := beq_eq_false_iff_ne.mpr (by omega)
                        have n93 : (x == 93) = false := beq_eq_false_iff_ne.mpr (by omega)
                        by_cases g : 1 < s.size
                        · have RE : Hid (true = r) := Lib.hid (by have := RC.out true (by rw [decide_eq_true g]; unfold stops brk; rw [← HC.out, e123]; simp); simpa using this)
                          have g1 : decide (1 < (s.size : Int)) = true := decide_eq_true (by omega)
                          have g2 : decide (1 < s.size) = true := decide_eq_true g
                          clear e123 RC g
                          go_wp2
                          go_ret
                          exact ⟨ret_bool RE.out, below_iter w s (k + 1)⟩
                        · have RE : Hid ((((lst s).drop (k + 1)).any (stops (decide (1 < s.size))) || behind s) = r) := Lib.hid (by have := RC.out false (by rw [decide_eq_false g]; unfold stops spc brk; rw [← HC.out, e123]; simp); simpa using this)
                          have g1 : decide (1 < (s.size : Int)) = false := decide_eq_false (by omega)
                          have g2 : decide (1 < s.size) = false := decide_eq_false g
                          clear e123 RC g
                          go_wp2
                          go_roundw
                          case rel => exact ⟨k + 1, by omega, rfl, RE⟩
                          case measure => simp; omega
                      · have n123 : (x == 123) = false := beq_eq_false_iff_ne.mpr (by omega)
                        by_cases e125 : x = 125
                        · have t125 : (x == 125) = true := by simp [e125]
                          have n40 : (x == 40) = false := beq_eq_false_iff_ne.mpr (by omega)
                          have n41 : (x == 41) = false := beq_eq_false_iff_ne.mpr (by omega)
                          have n91 : (x == 91) = false := beq_eq_false_iff_ne.mpr (by omega)
                          have n93 : (x == 93) = false := beq_eq_false_iff_ne.mpr (by omega)
                          have n123 : (x == 123) = false := beq_eq_false_iff_ne.mpr (by omega)
                          by_cases g : 1 < s.size
                          · have RE : Hid (true = r) := Lib.hid (by have := RC.out true (by rw [decide_eq_true g]; unfold stops brk; rw [← HC.out, e125]; simp); simpa using this)
                            have g1 : decide (1 < (s.size : Int)) = true := decide_eq_true (by omega)
                            have g2 : decide (1 < s.size) = true := decide_eq_true g
                            clear e125 RC g
                            go_wp2
                            go_ret
                            exact ⟨ret_bool RE.out, below_iter w s (k + 1)⟩
                          · have RE : Hid ((((lst s).drop (k + 1)).any (stops (decide (1 < s.size))) || behind s) = r) := Lib.hid (by have := RC.out false (by rw [decide_eq_false g]; unfold stops spc brk; rw [← HC.out, e125]; simp); simpa using this)
                            have g1 : decide (1 < (s.size : Int)) = false := decide_eq_false (by omega)
                            have g2 : decide (1 < s.size) = false := decide_eq_false g
                            clear e125 RC g
                            go_wp2
                            go_roundw
                            case rel => exact ⟨k + 1, by omega, rfl, RE⟩
                            case measure => simp; omega
                        · have n125 : (x == 125) = false := beq_eq_false_iff_ne.mpr (by omega)
                          by_cases e44 : x = 44
                          · have t44 : (x == 44) = true := by simp [e44]
                            have n40 : (x == 40) = false := beq_eq_false_iff_ne.mpr (by omega)
                            have n41 : (x == 41) = false := beq_eq_false_iff_ne.mpr (by omega)
                            have n91 : (x == 91) = false := beq_eq_false_iff_ne.mpr (by omega)
                            have n93 : (x == 93) = false := beq_eq_false_iff_ne.mpr (by omega)
                            have n123 : (x == 123) = false := beq_eq_false_iff_ne.mpr (by omega)
                            have n125 : (x == 125) = false := beq_eq_false_iff_ne.mpr (by omega)
                            by_cases g : 1 < s.size
                            · have RE : Hid (true = r) := Lib.hid (by have := RC.out true (by rw [decide_eq_true g]; unfold stops brk; rw [← HC.out, e44]; simp); simpa using this)
                              have g1 : decide (1 < (s.size : Int)) = true := decide_eq_true (by omega)
                              have g2 : decide (1 < s.size) = true := decide_eq_true g
                              clear e44 RC g
                              go_wp2
                              go_ret
                              exact ⟨ret_bool RE.out, below_iter w s (k + 1)⟩
                            · have RE : Hid ((((lst s).drop (k + 1)).any (stops (decide (1 < s.size))) || behind s) = r) := Lib.hid (by have := RC.out false (by rw [decide_eq_false g]; unfold stops spc brk; rw [← HC.out, e44]; simp); simpa using this)
                              have g1 : decide (1 < (s.size : Int)) = false := decide_eq_false (by omega)
                              have g2 : decide (1 < s.size) = false := decide_eq_false g
                              clear e44 RC g
                              go_wp2
                              go_roundw
                              case rel => exact ⟨k + 1, by omega, rfl, RE⟩
                              case measure => simp; omega
                          · have n44 : (x == 44) = false := beq_eq_false_iff_ne.mpr (by omega)
                            by_cases g : 32 ≤ x
                            · have HB : Hid (decide (32 ≤ x) = true) := Lib.hid (decide_eq_true g)
                              have RE : Hid ((((lst s).drop (k + 1)).any (stops (decide (1 < s.size))) || behind s) = r) := Lib.hid (by have := RC.out false (by unfold stops spc brk; rw [← HC.out]; simp; omega); simpa using this)
                              clear RC
                              go_wp2_with (go_at_call 17; (with_reducible refine (isPrint_is T x _ _ hc0 hx hPk HB).mono ?_); rintro e w' ⟨rfl, rfl⟩)
                              go_roundw
                              case rel => exact ⟨k + 1, by omega, rfl, RE⟩
                              case measure => simp; omega
                            · have HB : Hid (decide (32 ≤ x) = false) := Lib.hid (decide_eq_false g)
                              have RE : Hid (true = r) := Lib.hid (by have := RC.out true (by unfold stops spc; rw [← HC.out, decide_eq_true (show x < 32 by omega)]; simp); simpa using this)
                              clear RC
                              go_wp2_with (go_at_call 17; (with_reducible refine (isPrint_is T x _ _ hc0 hx hPk HB).mono ?_); rintro e w' ⟨rfl, rfl⟩)
                              go_ret
                              exact ⟨ret_bool RE.out, below_iter w s (k + 1)⟩
    · have hkk : k = s.size := by omega
      have hnx : ∀ ty, (Instr.next (.pointer (some ⟨w.heap.size, 0, none⟩)) true ty).run Tryd.prog (w.iter s k) = _ := fun ty => run_next_end w s k ty hlt
      have RB : Hid (behind s = r) := Lib.hid (by have := RK.out; rw [drop_end s k (by omega)] at this; simpa using this)
      clear RK hPk hk hlt
      have z1 : 0 < two1.size := by decide
      have z2 : 0 < two2.size := by decide
      have y1 : two1.size ≤ 2147483647 := by decide
      have y2 : two2.size ≤ 2147483647 := by decide
      by_cases h0 : s.size = 0
      · have b0 : (s.toList == []) = true := by simp [empty_iff, h0]
        have RE : Hid (true = r) := Lib.hid (by rw [← RB.out]; unfold behind; rw [decide_eq_true h0]; rfl)
        clear RB h0 hkk
        go_wp2
        go_ret
        exact ⟨ret_bool RE.out, below_iter w s k⟩
      · have b0 : (s.toList == []) = false := by simp [empty_iff, h0]
        obtain ⟨c1, hc1⟩ : ∃ b, hasL (lst two1) (lst s) = b := ⟨_, rfl⟩
        obtain ⟨c2, hc2⟩ : ∃ b, hasL (lst two2) (lst s) = b := ⟨_, rfl⟩
        have RE : Hid ((c1 || c2) = r) := Lib.hid (by rw [← RB.out]; unfold behind; rw [decide_eq_false h0, hc1, hc2]; rfl)
        have H1 := Lib.hid hc1
        have H2 := Lib.hid hc2
        clear RB h0 hc1 hc2 hkk
        cases c1 with
        | true =>
          go_wp2_with (go_at_call 18; (with_reducible refine (contains_is s two1 true _ z1 hs y1 H1).mono ?_); rintro e w' ⟨rfl, ⟨n, rfl⟩⟩)
          go_ret
          exact ⟨ret_bool RE.out, (below_iter w s k).trans ((Drawn0.step (Drawn0.refl _) n).below.mono (below_iter w s k).size)⟩
        | false =>
          go_wp2_with (go_at_call 18; first | ((with_reducible refine (contains_is s two1 false _ z1 hs y1 H1).mono ?_); rintro e w' ⟨rfl, ⟨n, rfl⟩⟩) | ((with_reducible refine (contains_is s two2 c2 _ z2 hs y2 H2).mono ?_); rintro e w' ⟨rfl, ⟨n, rfl⟩⟩))
          go_ret
          exact ⟨ret_bool RE.out, (below_iter w s k).trans ((Drawn0.step (Drawn0.refl _) _).below.mono (below_iter w s k).size)⟩

end Go.Proofs.YtkmebbdkiamliaaDoor.Q
