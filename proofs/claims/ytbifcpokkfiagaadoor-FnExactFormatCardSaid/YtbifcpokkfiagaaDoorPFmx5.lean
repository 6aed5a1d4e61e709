import Derived.Test.YtbifcpokkfiagaaDoorPFmx0
namespace Go.Proofs.YtbifcpokkfiagaaDoor.PFm
open Go.RowKit Go.Proofs.YtbifcpokkfiagaaDoorW.PrintWords Go.Proofs.YtbifcpokkfiagaaDoorW.PrintLast Go.Proofs.YtbifcpokkfiagaaDoorW.PrintMore
attribute [local go_sem] max2_int min2_int max_two min_two max_three min_three max_four min_four   -- for this text's walks alone
set_option linter.unusedVariables false
set_option linter.unusedSimpArgs false

/-! ### spec_lines: function 15 -/
def spec_lines.l0 : Nat → ByteArray → ByteArray → List ByteArray → Int → Int → Option (ByteArray)
  | 0, _, _, _, _, _ => none
  | k + 1, x1, x5, x8, x9, x10 => if x10 < x9 then (if 0 ≤ x10 then (if x10 < (x8.length : Int) then (if x1.size + (rdOf ByteArray.empty x8 x10).size ≤ 9223372036854775807 then (if (x1 ++ (rdOf ByteArray.empty x8 x10)).size + 1 ≤ 9223372036854775807 then (if x5.size + ((x1 ++ (rdOf ByteArray.empty x8 x10)) ++ (⟨#[10]⟩ : ByteArray)).size ≤ 9223372036854775807 then (spec_lines.l0 k x1 (x5 ++ ((x1 ++ (rdOf ByteArray.empty x8 x10)) ++ (⟨#[10]⟩ : ByteArray))) x8 x9 (wrap64 (x10 + 1))) else (none)) else (none)) else (none)) else (none)) else (none)) else (some x5)
def spec_lines.f (k : Nat) (l0 : List ByteArray) (a1 : ByteArray) : Option (ByteArray) := spec_lines.l0 k a1 (⟨#[]⟩ : ByteArray) l0 (l0.length : Int) 0
theorem spec_lines.mono_l : ∀ k, (∀ y0 y1 y2 y3 y4, LeO (spec_lines.l0 k y0 y1 y2 y3 y4) (spec_lines.l0 (k + 1) y0 y1 y2 y3 y4))
  | 0 => fun _ _ _ _ _ r h => by simp [spec_lines.l0] at h
  | k + 1 => by
    have ih0 := spec_lines.mono_l k
    · intro y0 y1 y2 y3 y4
      unfold spec_lines.l0
      repeat' first
      | (with_reducible exact ih0 _ _ _ _ _)
      | (with_reducible exact LeO.refl _)
      | (with_reducible exact LeO.none _)
      | (with_reducible refine LeO.ite ?_ ?_)
      | (with_reducible refine LeO.bind ?_ (fun _ => ?_))
      | exact ih0 _ _ _ _ _
      | exact LeO.none _
      | refine LeO.ite ?_ ?_
      | refine LeO.bind ?_ (fun _ => ?_)
theorem spec_lines.mono : ∀ a0 a1 k, LeO (spec_lines.f k a0 a1) (spec_lines.f (k + 1) a0 a1) := by
  intro a0 a1 k
  have ih0 := spec_lines.mono_l k
  unfold spec_lines.f
  repeat' first
      | (with_reducible exact ih0 _ _ _ _ _)
      | (with_reducible exact LeO.refl _)
      | (with_reducible exact LeO.none _)
      | (with_reducible refine LeO.ite ?_ ?_)
      | (with_reducible refine LeO.bind ?_ (fun _ => ?_))
      | exact ih0 _ _ _ _ _
      | exact LeO.none _
      | refine LeO.ite ?_ ?_
      | refine LeO.bind ?_ (fun _ => ?_)
set_option maxHeartbeats 8000000 in
set_option maxRecDepth 100000 in
theorem spec_lines.calls (k : Nat) (A0 : Option Addr) (c0 : Nat) (l0 : List ByteArray) (a1 : ByteArray) (r : ByteArray) (w : World) (hr0 : Kd.C Kd.string w A0 l0.length l0) (hc0 : l0.length ≤ c0) (h : spec_lines.f k l0 a1 = some r) :
    Calls Tryd.prog 15 #[.slice A0 l0.length c0, .string a1] w fun e w' => e = .returned (.string r) ∧ Drawn0 w w' := by
  have HR0 := Aside0.mk hr0
  have HC0 := Aside0.mk hc0
  clear hr0 hc0
  have H : (spec_lines.l0 k a1 (⟨#[]⟩ : ByteArray) l0 (l0.length : Int) 0) = some r := h
  clear h
  have H' := Aside0.mk H
  clear H
  go_enter Tryd.func15, Tryd.ntmps15
  go_wp2
  go_loopg [5, 10] k (fun kq v5 v10 w' => ∃ (x5_1 : ByteArray) (x10_1 : Int), v5 = .string x5_1 ∧ v10 = .int .i64 x10_1 ∧ Aside0 (spec_lines.l0 kq a1 x5_1 l0 (l0.length : Int) x10_1 = some r) ∧ Aside0 (kq ≤ k) ∧ Drawn0 w w')
  case atStart => exact ⟨((⟨#[]⟩ : ByteArray)), (0), (by first | rfl | (simp; done) | (simp [*]; done)), (by first | rfl | (simp; done) | (simp [*]; done)), H', ⟨Nat.le_refl _⟩, by repeat (first | exact Drawn0.refl _ | apply Drawn0.step)⟩
  case round =>
    clear H'
    try clear c1
    try clear p2
    obtain ⟨x5_1, x10_1, rfl, rfl, HA, HK1, ⟨m1, rfl⟩⟩ := hrel
    cases gk with
    | zero => exact absurd HA.out (by simp [spec_lines.l0])
    | succ k1 =>
      have H := HA.out
      clear HA
      simp only [spec_lines.l0] at H
      by_cases c3 : x10_1 < (l0.length : Int)
      · rw [if_pos c3] at H
        have c3b0 : decide (x10_1 < (l0.length : Int)) = true := decide_eq_true c3
        clear c3
        by_cases c4 : 0 ≤ x10_1
        · rw [if_pos c4] at H
          have c4b0 : decide (0 ≤ x10_1) = true := decide_eq_true c4
          clear c4
          by_cases c5 : x10_1 < (l0.length : Int)
          · rw [if_pos c5] at H
            have c5b0 : decide (x10_1 < (l0.length : Int)) = true := decide_eq_true c5
            clear c5
            by_cases c6 : a1.size + (rdOf ByteArray.empty l0 x10_1).size ≤ 9223372036854775807
            · rw [if_pos c6] at H
              have c6b0 := eq_true c6
              have c6b1 : decide (a1.size + (rdOf ByteArray.empty l0 x10_1).size ≤ 9223372036854775807) = true := decide_eq_true c6
              try have c6b2 : (9223372036854775807 < a1.size + (rdOf ByteArray.empty l0 x10_1).size) = False := eq_false (Nat.not_lt.2 c6)
              by_cases c7 : (a1 ++ (rdOf ByteArray.empty l0 x10_1)).size + 1 ≤ 9223372036854775807
              · rw [if_pos c7] at H
                have c7b0 := eq_true c7
                have c7b1 : decide ((a1 ++ (rdOf ByteArray.empty l0 x10_1)).size + 1 ≤ 9223372036854775807) = true := decide_eq_true c7
                try have c7b2 : (9223372036854775807 < (a1 ++ (rdOf ByteArray.empty l0 x10_1)).size + 1) = False := eq_false (Nat.not_lt.2 c7)
                try have c7b3 : (9223372036854775807 < a1.size + (rdOf ByteArray.empty l0 x10_1).size + 1) = False := eq_false (Nat.not_lt.2 (by have h_ := c7; simp only [ByteArray.size_append] at h_; exact h_))
                by_cases c8 : x5_1.size + ((a1 ++ (rdOf ByteArray.empty l0 x10_1)) ++ (⟨#[10]⟩ : ByteArray)).size ≤ 9223372036854775807
                · rw [if_pos c8] at H
                  have c8b0 := eq_true c8
                  have c8b1 : decide (x5_1.size + ((a1 ++ (rdOf ByteArray.empty l0 x10_1)) ++ (⟨#[10]⟩ : ByteArray)).size ≤ 9223372036854775807) = true := decide_eq_true c8
                  try have c8b2 : (9223372036854775807 < x5_1.size + ((a1 ++ (rdOf ByteArray.empty l0 x10_1)) ++ (⟨#[10]⟩ : ByteArray)).size) = False := eq_false (Nat.not_lt.2 c8)
                  try have c8b3 : (9223372036854775807 < x5_1.size + (a1.size + (rdOf ByteArray.empty l0 x10_1).size + 1)) = False := eq_false (Nat.not_lt.2 (by have h_ := c8; simp only [ByteArray.size_append] at h_; exact h_))
                  have H' := Aside0.mk H
                  clear H
                  have p156 : 0 ≤ (x10_1 : Int) := of_decide_eq_true (by first | (with_reducible assumption) | assumption)
                  have q156 : x10_1 < (l0.length : Int) := of_decide_eq_true (by first | (with_reducible assumption) | assumption)
                  obtain ⟨ad156, e156, hx156_0⟩ := Kd.at_string HR0.out x10_1 p156 q156
                  cases e156
                  replace p156 := eq_true p156
                  replace q156 := eq_true q156
                  go_wp2
                  go_roundg k1
                  case measure => have := HK1.out; omega
                  case rel => exact ⟨(x5_1 ++ ((a1 ++ (rdOf ByteArray.empty l0 x10_1)) ++ (⟨#[10]⟩ : ByteArray))), (wrap64 (x10_1 + 1)), (by first | rfl | (simp; done) | (simp [*]; done)), (by first | rfl | (simp; done) | (simp [*]; done)), H', ⟨by have := HK1.out; omega⟩, by repeat (first | exact Drawn0.refl _ | apply Drawn0.step)⟩
                · rw [if_neg c8] at H
                  exact absurd H (by simp)
              · rw [if_neg c7] at H
                exact absurd H (by simp)
            · rw [if_neg c6] at H
              exact absurd H (by simp)
          · rw [if_neg c5] at H
            exact absurd H (by simp)
        · rw [if_neg c4] at H
          exact absurd H (by simp)
      · rw [if_neg c3] at H
        have c3b0 : decide (x10_1 < (l0.length : Int)) = false := decide_eq_false c3
        clear c3
        obtain rfl := Option.some.inj H
        go_wp2
        go_ret
        exact ⟨by first | rfl | (simp; done) | (simp [*]; done), by repeat (first | exact Drawn0.refl _ | apply Drawn0.step)⟩

/-! ### spec_words: function 16 -/
def spec_words.l0 : Nat → ByteArray → ByteArray → ByteArray → List ByteArray → Int → Int → Option (ByteArray)
  | 0, _, _, _, _, _, _ => none
  | k + 1, x1, x2, x7, x10, x11, x12 => if x12 < x11 then (if 0 ≤ x12 then (if x12 < (x10.length : Int) then (if x12 > 0 then (if x7.size + x1.size ≤ 9223372036854775807 then (if (x7 ++ x1).size + (rdOf ByteArray.empty x10 x12).size ≤ 9223372036854775807 then (spec_words.l0 k x1 x2 ((x7 ++ x1) ++ (rdOf ByteArray.empty x10 x12)) x10 x11 (wrap64 (x12 + 1))) else (none)) else (none)) else (if x7.size + (rdOf ByteArray.empty x10 x12).size ≤ 9223372036854775807 then (spec_words.l0 k x1 x2 (x7 ++ (rdOf ByteArray.empty x10 x12)) x10 x11 (wrap64 (x12 + 1))) else (none))) else (none)) else (none)) else (if x2.toList = ([] : List UInt8) then (some x7) else (if 1 + x2.size ≤ 9223372036854775807 then (if x7.size + ((⟨#[32]⟩ : ByteArray) ++ x2).size ≤ 9223372036854775807 then (some (x7 ++ ((⟨#[32]⟩ : ByteArray) ++ x2))) else (none)) else (none)))
def spec_words.f (k : Nat) (l0 : List ByteArray) (a1 : ByteArray) (a2 : ByteArray) : Option (ByteArray) := spec_words.l0 k a1 a2 (⟨#[]⟩ : ByteArray) l0 (l0.length : Int) 0
theorem spec_words.mono_l : ∀ k, (∀ y0 y1 y2 y3 y4 y5, LeO (spec_words.l0 k y0 y1 y2 y3 y4 y5) (spec_words.l0 (k + 1) y0 y1 y2 y3 y4 y5))
  | 0 => fun _ _ _ _ _ _ r h => by simp [spec_words.l0] at h
  | k + 1 => by
    have ih0 := spec_words.mono_l k
    · intro y0 y1 y2 y3 y4 y5
      unfold spec_words.l0
      repeat' first
      | (with_reducible exact ih0 _ _ _ _ _ _)
      | (with_reducible exact LeO.refl _)
      | (with_reducible exact LeO.none _)
      | (with_reducible refine LeO.ite ?_ ?_)
      | (with_reducible refine LeO.bind ?_ (fun _ => ?_))
      | exact ih0 _ _ _ _ _ _
      | exact LeO.none _
      | refine LeO.ite ?_ ?_
      | refine LeO.bind ?_ (fun _ => ?_)
theorem spec_words.mono : ∀ a0 a1 a2 k, LeO (spec_words.f k a0 a1 a2) (spec_words.f (k + 1) a0 a1 a2) := by
  intro a0 a1 a2 k
  have ih0 := spec_words.mono_l k
  unfold spec_words.f
  repeat' first
      | (with_reducible exact ih0 _ _ _ _ _ _)
      | (with_reducible exact LeO.refl _)
      | (with_reducible exact LeO.none _)
      | (with_reducible refine LeO.ite ?_ ?_)
      | (with_reducible refine LeO.bind ?_ (fun _ => ?_))
      | exact ih0 _ _ _ _ _ _
      | exact LeO.none _
      | refine LeO.ite ?_ ?_
      | refine LeO.bind ?_ (fun _ => ?_)
set_option maxHeartbeats 8000000 in
set_option maxRecDepth 100000 in
theorem spec_words.calls (k : Nat) (A0 : Option Addr) (c0 : Nat) (l0 : List ByteArray) (a1 : ByteArray) (a2 : ByteArray) (r : ByteArray) (w : World) (hr0 : Kd.C Kd.string w A0 l0.length l0) (hc0 : l0.length ≤ c0) (h : spec_words.f k l0 a1 a2 = some r) :
    Calls Tryd.prog 16 #[.slice A0 l0.length c0, .string a1, .string a2] w fun e w' => e = .returned (.string r) ∧ Drawn0 w w' := by
  have HR0 := Aside0.mk hr0
  have HC0 := Aside0.mk hc0
  clear hr0 hc0
  have H : (spec_words.l0 k a1 a2 (⟨#[]⟩ : ByteArray) l0 (l0.length : Int) 0) = some r := h
  clear h
  have H' := Aside0.mk H
  clear H
  go_enter Tryd.func16, Tryd.ntmps16
  go_wp2
  go_loopg [7, 12] k (fun kq v7 v12 w' => ∃ (x7_1 : ByteArray) (x12_1 : Int), v7 = .string x7_1 ∧ v12 = .int .i64 x12_1 ∧ Aside0 (spec_words.l0 kq a1 a2 x7_1 l0 (l0.length : Int) x12_1 = some r) ∧ Aside0 (kq ≤ k) ∧ Drawn0 w w')
  case atStart => exact ⟨((⟨#[]⟩ : ByteArray)), (0), (by first | rfl | (simp; done) | (simp [*]; done)), (by first | rfl | (simp; done) | (simp [*]; done)), H', ⟨Nat.le_refl _⟩, by repeat (first | exact Drawn0.refl _ | apply Drawn0.step)⟩
  case round =>
    clear H'
    try clear c1
    try clear p2
    obtain ⟨x7_1, x12_1, rfl, rfl, HA, HK1, ⟨m1, rfl⟩⟩ := hrel
    cases gk with
    | zero => exact absurd HA.out (by simp [spec_words.l0])
    | succ k1 =>
      have H := HA.out
      clear HA
      simp only [spec_words.l0] at H
      by_cases c4 : x12_1 < (l0.length : Int)
      · rw [if_pos c4] at H
        have c4b0 : decide (x12_1 < (l0.length : Int)) = true := decide_eq_true c4
        clear c4
        by_cases c5 : 0 ≤ x12_1
        · rw [if_pos c5] at H
          have c5b0 : decide (0 ≤ x12_1) = true := decide_eq_true c5
          clear c5
          by_cases c6 : x12_1 < (l0.length : Int)
          · rw [if_pos c6] at H
            have c6b0 : decide (x12_1 < (l0.length : Int)) = true := decide_eq_true c6
            clear c6
            by_cases c7 : x12_1 > 0
            · rw [if_pos c7] at H
              have c7b0 : decide (0 < x12_1) = true := decide_eq_true c7
              clear c7
              by_cases c8 : x7_1.size + a1.size ≤ 9223372036854775807
              · rw [if_pos c8] at H
                have c8b0 := eq_true c8
                have c8b1 : decide (x7_1.size + a1.size ≤ 9223372036854775807) = true := decide_eq_true c8
                try have c8b2 : (9223372036854775807 < x7_1.size + a1.size) = False := eq_false (Nat.not_lt.2 c8)
                by_cases c9 : (x7_1 ++ a1).size + (rdOf ByteArray.empty l0 x12_1).size ≤ 9223372036854775807
                · rw [if_pos c9] at H
                  have c9b0 := eq_true c9
                  have c9b1 : decide ((x7_1 ++ a1).size + (rdOf ByteArray.empty l0 x12_1).size ≤ 9223372036854775807) = true := decide_eq_true c9
                  try have c9b2 : (9223372036854775807 < (x7_1 ++ a1).size + (rdOf ByteArray.empty l0 x12_1).size) = False := eq_false (Nat.not_lt.2 c9)
                  try have c9b3 : (9223372036854775807 < x7_1.size + a1.size + (rdOf ByteArray.empty l0 x12_1).size) = False := eq_false (Nat.not_lt.2 (by have h_ := c9; simp only [ByteArray.size_append] at h_; exact h_))
                  have H' := Aside0.mk H
                  clear H
                  have p157 : 0 ≤ (x12_1 : Int) := of_decide_eq_true (by first | (with_reducible assumption) | assumption)
                  have q157 : x12_1 < (l0.length : Int) := of_decide_eq_true (by first | (with_reducible assumption) | assumption)
                  obtain ⟨ad157, e157, hx157_0⟩ := Kd.at_string HR0.out x12_1 p157 q157
                  cases e157
                  replace p157 := eq_true p157
                  replace q157 := eq_true q157
                  go_wp2
                  go_roundg k1
                  case measure => have := HK1.out; omega
                  case rel => exact ⟨((x7_1 ++ a1) ++ (rdOf ByteArray.empty l0 x12_1)), (wrap64 (x12_1 + 1)), (by first | rfl | (simp; done) | (simp [*]; done)), (by first | rfl | (simp; done) | (simp [*]; done)), H', ⟨by have := HK1.out; omega⟩, by repeat (first | exact Drawn0.refl _ | apply Drawn0.step)⟩
                · rw [if_neg c9] at H
                  exact absurd H (by simp)
              · rw [if_neg c8] at H
                exact absurd H (by simp)
            · rw [if_neg c7] at H
              have c7b0 : decide (0 < x12_1) = false := decide_eq_false c7
              clear c7
              by_cases c10 : x7_1.size + (rdOf ByteArray.empty l0 x12_1).size ≤ 9223372036854775807
              · rw [if_pos c10] at H
                have c10b0 := eq_true c10
                have c10b1 : decide (x7_1.size + (rdOf ByteArray.empty l0 x12_1).size ≤ 9223372036854775807) = true := decide_eq_true c10
                try have c10b2 : (9223372036854775807 < x7_1.size + (rdOf ByteArray.empty l0 x12_1).size) = False := eq_false (Nat.not_lt.2 c10)
                have H' := Aside0.mk H
                clear H
                have p157 : 0 ≤ (x12_1 : Int) := of_decide_eq_true (by first | (with_reducible assumption) | assumption)
                have q157 : x12_1 < (l0.length : Int) := of_decide_eq_true (by first | (with_reducible assumption) | assumption)
                obtain ⟨ad157, e157, hx157_0⟩ := Kd.at_string HR0.out x12_1 p157 q157
                cases e157
                replace p157 := eq_true p157
                replace q157 := eq_true q157
                go_wp2
                go_roundg k1
                case measure => have := HK1.out; omega
                case rel => exact ⟨(x7_1 ++ (rdOf ByteArray.empty l0 x12_1)), (wrap64 (x12_1 + 1)), (by first | rfl | (simp; done) | (simp [*]; done)), (by first | rfl | (simp; done) | (simp [*]; done)), H', ⟨by have := HK1.out; omega⟩, by repeat (first | exact Drawn0.refl _ | apply Drawn0.step)⟩
              · rw [if_neg c10] at H
                exact absurd H (by simp)
          · rw [if_neg c6] at H
            exact absurd H (by simp)
        · rw [if_neg c5] at H
          exact absurd H (by simp)
      · rw [if_neg c4] at H
        have c4b0 : decide (x12_1 < (l0.length : Int)) = false := decide_eq_false c4
        clear c4
        by_cases c11 : a2.toList = ([] : List UInt8)
        · rw [if_pos c11] at H
          have c11b0 : (a2.toList == ([] : List UInt8)) = true := beq_iff_eq.mpr c11
          have c11b1 : (a2.toList != ([] : List UInt8)) = false := bne_eq_false_iff_eq.mpr c11
          try have c11b5 : a2.toList.isEmpty = true := by simpa using c11b1
          try have c11b6 : (!a2.toList.isEmpty) = false := by simpa using c11b1
          clear c11
          obtain rfl := Option.some.inj H
          go_wp2
          go_ret
          exact ⟨by first | rfl | (simp; done) | (simp [*]; done), by repeat (first | exact Drawn0.refl _ | apply Drawn0.step)⟩
        · rw [if_neg c11] at H
          have c11b0 : (a2.toList == ([] : List UInt8)) = false := beq_eq_false_iff_ne.mpr c11
          have c11b1 : (a2.toList != ([] : List UInt8)) = true := bne_iff_ne.mpr c11
          try have c11b5 : a2.toList.isEmpty = false := by simpa using c11b1
          try have c11b6 : (!a2.toList.isEmpty) = true := by simpa using c11b1
          by_cases c12 : 1 + a2.size ≤ 9223372036854775807
          · rw [if_pos c12] at H
            have c12b0 := eq_true c12
            have c12b1 : decide (1 + a2.size ≤ 9223372036854775807) = true := decide_eq_true c12
            try have c12b2 : (9223372036854775807 < 1 + a2.size) = False := eq_false (Nat.not_lt.2 c12)
            by_cases c13 : x7_1.size + ((⟨#[32]⟩ : ByteArray) ++ a2).size ≤ 9223372036854775807
            · rw [if_pos c13] at H
              have c13b0 := eq_true c13
              have c13b1 : decide (x7_1.size + ((⟨#[32]⟩ : ByteArray) ++ a2).size ≤ 9223372036854775807) = true := decide_eq_true c13
              try have c13b2 : (9223372036854775807 < x7_1.size + ((⟨#[32]⟩ : ByteArray) ++ a2).size) = False := eq_false (Nat.not_lt.2 c13)
              try have c13b3 : (9223372036854775807 < x7_1.size + (1 + a2.size)) = False := eq_false (Nat.not_lt.2 (by have h_ := c13; simp only [ByteArray.size_append] at h_; exact h_))
              obtain rfl := Option.some.inj H
              go_wp2
              go_ret
              exact ⟨by first | rfl | (simp; done) | (simp [*]; done), by repeat (first | exact Drawn0.refl _ | apply Drawn0.step)⟩
            · rw [if_neg c13] at H
              exact absurd H (by simp)
          · rw [if_neg c12] at H
            exact absurd H (by simp)

/-! ### spec_Write: function 8 -/
mutual
def spec_Write.l0 : Nat → ByteArray → ByteArray → ByteArray → List (S30) → Int → Int → Option (ByteArray)
  | 0, _, _, _, _, _, _ => none
  | k + 1, x1, x2, x7, x12, x13, x14 => if x14 < x13 then (if 0 ≤ x14 then (if x14 < (x12.length : Int) then (if x14 > 0 then (if x7.size + x2.size ≤ 9223372036854775807 then (spec_Write.j1 k x1 x2 (x7 ++ x2) x12 x13 x14 ((rd_T30 x12 x14).f0) ((rd_T30 x12 x14).f1) ((rd_T30 x12 x14).f2) ((rd_T30 x12 x14).f3) ((rd_T30 x12 x14).f4)) else (none)) else (spec_Write.j1 k x1 x2 x7 x12 x13 x14 ((rd_T30 x12 x14).f0) ((rd_T30 x12 x14).f1) ((rd_T30 x12 x14).f2) ((rd_T30 x12 x14).f3) ((rd_T30 x12 x14).f4))) else (none)) else (none)) else (some x7)
def spec_Write.j1 : Nat → ByteArray → ByteArray → ByteArray → List (S30) → Int → Int → Int → List ByteArray → List (S35) → List ByteArray → ByteArray → Option (ByteArray)
  | 0, _, _, _, _, _, _, _, _, _, _, _ => none
  | k + 1, x1, x2, x7, x12, x13, x14, x160000, x160001, x160002, x160003, x160004 => (spec_lines.f k x160003 (⟨#[]⟩ : ByteArray)).bind fun t160 => (if x7.size + t160.size ≤ 9223372036854775807 then (if x160000 = 0 then ((spec_words.f k x160001 x1 x160004).bind fun t161 => (if t161.size + 1 ≤ 9223372036854775807 then (if (x7 ++ t160).size + (t161 ++ (⟨#[10]⟩ : ByteArray)).size ≤ 9223372036854775807 then (spec_Write.l0 k x1 x2 ((x7 ++ t160) ++ (t161 ++ (⟨#[10]⟩ : ByteArray))) x12 x13 (wrap64 (x14 + 1))) else (none)) else (none))) else (if x160000 = 1 then ((spec_words.f k x160001 x1 (⟨#[]⟩ : ByteArray)).bind fun t162 => (if t162.size + 3 ≤ 9223372036854775807 then (if (x7 ++ t160).size + (t162 ++ (⟨#[32, 40, 10]⟩ : ByteArray)).size ≤ 9223372036854775807 then (spec_Write.l1 k x1 x2 ((x7 ++ t160) ++ (t162 ++ (⟨#[32, 40, 10]⟩ : ByteArray))) x12 x13 x14 x160002 (x160002.length : Int) 0 x160000 x160001 x160002 x160003 x160004) else (none)) else (none))) else (spec_Write.l0 k x1 x2 (x7 ++ t160) x12 x13 (wrap64 (x14 + 1))))) else (none))
def spec_Write.l1 : Nat → ByteArray → ByteArray → ByteArray → List (S30) → Int → Int → List (S35) → Int → Int → Int → List ByteArray → List (S35) → List ByteArray → ByteArray → Option (ByteArray)
  | 0, _, _, _, _, _, _, _, _, _, _, _, _, _, _ => none
  | k + 1, x1, x2, x7, x12, x13, x14, x52, x53, x54, x160000, x160001, x160002, x160003, x160004 => if x54 < x53 then (if 0 ≤ x54 then (if x54 < (x52.length : Int) then ((spec_lines.f k ((rd_T35 x52 x54).f1) (⟨#[9]⟩ : ByteArray)).bind fun t165 => (if t165.size + 1 ≤ 9223372036854775807 then ((spec_words.f k ((rd_T35 x52 x54).f0) x1 ((rd_T35 x52 x54).f2)).bind fun t166 => (if (t165 ++ (⟨#[9]⟩ : ByteArray)).size + t166.size ≤ 9223372036854775807 then (if ((t165 ++ (⟨#[9]⟩ : ByteArray)) ++ t166).size + 1 ≤ 9223372036854775807 then (if x7.size + (((t165 ++ (⟨#[9]⟩ : ByteArray)) ++ t166) ++ (⟨#[10]⟩ : ByteArray)).size ≤ 9223372036854775807 then (spec_Write.l1 k x1 x2 (x7 ++ (((t165 ++ (⟨#[9]⟩ : ByteArray)) ++ t166) ++ (⟨#[10]⟩ : ByteArray))) x12 x13 x14 x52 x53 (wrap64 (x54 + 1)) x160000 x160001 x160002 x160003 x160004) else (none)) else (none)) else (none))) else (none))) else (none)) else (none)) else ((spec_words.f k (([(⟨#[41]⟩ : ByteArray)] : List ByteArray)) (⟨#[]⟩ : ByteArray) x160004).bind fun t170 => (if t170.size + 1 ≤ 9223372036854775807 then (if x7.size + (t170 ++ (⟨#[10]⟩ : ByteArray)).size ≤ 9223372036854775807 then (spec_Write.l0 k x1 x2 (x7 ++ (t170 ++ (⟨#[10]⟩ : ByteArray))) x12 x13 (wrap64 (x14 + 1))) else (none)) else (none)))
end
def spec_Write.f (k : Nat) (l0 : List (S30)) (a1 : ByteArray) (a2 : ByteArray) : Option (ByteArray) := spec_Write.l0 k a1 a2 (⟨#[]⟩ : ByteArray) l0 (l0.length : Int) 0
theorem spec_Write.mono_l : ∀ k, (∀ y0 y1 y2 y3 y4 y5, LeO (spec_Write.l0 k y0 y1 y2 y3 y4 y5) (spec_Write.l0 (k + 1) y0 y1 y2 y3 y4 y5)) ∧ (∀ y0 y1 y2 y3 y4 y5 y6 y7 y8 y9 y10, LeO (spec_Write.j1 k y0 y1 y2 y3 y4 y5 y6 y7 y8 y9 y10) (spec_Write.j1 (k + 1) y0 y1 y2 y3 y4 y5 y6 y7 y8 y9 y10)) ∧ (∀ y0 y1 y2 y3 y4 y5 y6 y7 y8 y9 y10 y11 y12 y13, LeO (spec_Write.l1 k y0 y1 y2 y3 y4 y5 y6 y7 y8 y9 y10 y11 y12 y13) (spec_Write.l1 (k + 1) y0 y1 y2 y3 y4 y5 y6 y7 y8 y9 y10 y11 y12 y13))
  | 0 => ⟨fun _ _ _ _ _ _ r h => by simp [spec_Write.l0] at h, fun _ _ _ _ _ _ _ _ _ _ _ r h => by simp [spec_Write.j1] at h, fun _ _ _ _ _ _ _ _ _ _ _ _ _ _ r h => by simp [spec_Write.l1] at h⟩
  | k + 1 => by
    obtain ⟨ih0, ih1, ih2⟩ := spec_Write.mono_l k
    refine ⟨?_, ?_, ?_⟩
    · intro y0 y1 y2 y3 y4 y5
      unfold spec_Write.l0
      repeat' first
      | (with_reducible exact ih0 _ _ _ _ _ _)
      | (with_reducible exact ih1 _ _ _ _ _ _ _ _ _ _ _)
      | (with_reducible exact ih2 _ _ _ _ _ _ _ _ _ _ _ _ _ _)
      | (with_reducible exact spec_lines.mono _ _ _)
      | (with_reducible exact spec_words.mono _ _ _ _)
      | (with_reducible exact LeO.refl _)
      | (with_reducible exact LeO.none _)
      | (with_reducible refine LeO.ite ?_ ?_)
      | (with_reducible refine LeO.bind ?_ (fun _ => ?_))
      | exact ih0 _ _ _ _ _ _
      | exact ih1 _ _ _ _ _ _ _ _ _ _ _
      | exact ih2 _ _ _ _ _ _ _ _ _ _ _ _ _ _
      | exact spec_lines.mono _ _ _
      | exact spec_words.mono _ _ _ _
      | exact LeO.none _
      | refine LeO.ite ?_ ?_
      | refine LeO.bind ?_ (fun _ => ?_)
    · intro y0 y1 y2 y3 y4 y5 y6 y7 y8 y9 y10
      unfold spec_Write.j1
      repeat' first
      | (with_reducible exact ih0 _ _ _ _ _ _)
      | (with_reducible exact ih1 _ _ _ _ _ _ _ _ _ _ _)
      | (with_reducible exact ih2 _ _ _ _ _ _ _ _ _ _ _ _ _ _)
      | (with_reducible exact spec_lines.mono _ _ _)
      | (with_reducible exact spec_words.mono _ _ _ _)
      | (with_reducible exact LeO.refl _)
      | (with_reducible exact LeO.none _)
      | (with_reducible refine LeO.ite ?_ ?_)
      | (with_reducible refine LeO.bind ?_ (fun _ => ?_))
      | exact ih0 _ _ _ _ _ _
      | exact ih1 _ _ _ _ _ _ _ _ _ _ _
      | exact ih2 _ _ _ _ _ _ _ _ _ _ _ _ _ _
      | exact spec_lines.mono _ _ _
      | exact spec_words.mono _ _ _ _
      | exact LeO.none _
      | refine LeO.ite ?_ ?_
      | refine LeO.bind ?_ (fun _ => ?_)
    · intro y0 y1 y2 y3 y4 y5 y6 y7 y8 y9 y10 y11 y12 y13
      unfold spec_Write.l1
      repeat' first
      | (with_reducible exact ih0 _ _ _ _ _ _)
      | (with_reducible exact ih1 _ _ _ _ _ _ _ _ _ _ _)
      | (with_reducible exact ih2 _ _ _ _ _ _ _ _ _ _ _ _ _ _)
      | (with_reducible exact spec_lines.mono _ _ _)
      | (with_reducible exact spec_words.mono _ _ _ _)
      | (with_reducible exact LeO.refl _)
      | (with_reducible exact LeO.none _)
      | (with_reducible refine LeO.ite ?_ ?_)
      | (with_reducible refine LeO.bind ?_ (fun _ => ?_))
      | exact ih0 _ _ _ _ _ _
      | exact ih1 _ _ _ _ _ _ _ _ _ _ _
      | exact ih2 _ _ _ _ _ _ _ _ _ _ _ _ _ _
      | exact spec_lines.mono _ _ _
      | exact spec_words.mono _ _ _ _
      | exact LeO.none _
      | refine LeO.ite ?_ ?_
      | refine LeO.bind ?_ (fun _ => ?_)
theorem spec_Write.mono : ∀ a0 a1 a2 k, LeO (spec_Write.f k a0 a1 a2) (spec_Write.f (k + 1) a0 a1 a2) := by
  intro a0 a1 a2 k
  obtain ⟨ih0, ih1, ih2⟩ := spec_Write.mono_l k
  unfold spec_Write.f
  repeat' first
      | (with_reducible exact ih0 _ _ _ _ _ _)
      | (with_reducible exact ih1 _ _ _ _ _ _ _ _ _ _ _)
      | (with_reducible exact ih2 _ _ _ _ _ _ _ _ _ _ _ _ _ _)
      | (with_reducible exact spec_lines.mono _ _ _)
      | (with_reducible exact spec_words.mono _ _ _ _)
      | (with_reducible exact LeO.refl _)
      | (with_reducible exact LeO.none _)
      | (with_reducible refine LeO.ite ?_ ?_)
      | (with_reducible refine LeO.bind ?_ (fun _ => ?_))
      | exact ih0 _ _ _ _ _ _
      | exact ih1 _ _ _ _ _ _ _ _ _ _ _
      | exact ih2 _ _ _ _ _ _ _ _ _ _ _ _ _ _
      | exact spec_lines.mono _ _ _
      | exact spec_words.mono _ _ _ _
      | exact LeO.none _
      | refine LeO.ite ?_ ?_
      | refine LeO.bind ?_ (fun _ => ?_)
set_option maxHeartbeats 8000000 in
set_option maxRecDepth 100000 in
theorem spec_Write.calls (k : Nat) (A0 : Option Addr) (c0 : Nat) (l0 : List (S30)) (a1 : ByteArray) (a2 : ByteArray) (r : ByteArray) (w : World) (hr0 : Kd.C k30 w A0 l0.length l0) (hc0 : l0.length ≤ c0) (h : spec_Write.f k l0 a1 a2 = some r) :
    Calls Tryd.prog 8 #[.slice A0 l0.length c0, .string a1, .string a2] w fun e w' => e = .returned (.string r) ∧ Below w.heap.size w w' := by
  have hu30 := Tryd.underlying30
  have hu35 := Tryd.underlying35
  have HR0 := Aside0.mk hr0
  have HC0 := Aside0.mk hc0
  clear hr0 hc0
  have HB := Aside0.mk (Below.refl w.heap.size w)
  have H : (spec_Write.l0 k a1 a2 (⟨#[]⟩ : ByteArray) l0 (l0.length : Int) 0) = some r := h
  clear h
  have H' := Aside0.mk H
  clear H
  go_enter Tryd.func8, Tryd.ntmps8
  go_wp2
  repeat (go_quiet (fail); try go_wp2)
  go_loopg [7, 14] k (fun kq v7 v14 w' => ∃ (x7_1 : ByteArray) (x14_1 : Int), v7 = .string x7_1 ∧ v14 = .int .i64 x14_1 ∧ Aside0 (spec_Write.l0 kq a1 a2 x7_1 l0 (l0.length : Int) x14_1 = some r) ∧ Aside0 (kq ≤ k) ∧ Aside0 (Below w.heap.size w w'))
  case atStart => exact ⟨((⟨#[]⟩ : ByteArray)), (0), (by first | rfl | (simp; done) | (simp [*]; done)), (by first | rfl | (simp; done) | (simp [*]; done)), H', ⟨Nat.le_refl _⟩, ⟨by repeat (first | (with_reducible first | exact HB.out | apply below_alloc | apply pw_below_drewN | apply below_drew1) | exact HB.out)⟩⟩
  case round =>
    clear H'
    try clear p2
    obtain ⟨x7_1, x14_1, rfl, rfl, HA, HK1, HB⟩ := hrel
    cases gk with
    | zero => exact absurd HA.out (by simp [spec_Write.l0])
    | succ k1 =>
      have H := HA.out
      clear HA
      simp only [spec_Write.l0] at H
      by_cases c4 : x14_1 < (l0.length : Int)
      · rw [if_pos c4] at H
        have c4b0 : decide (x14_1 < (l0.length : Int)) = true := decide_eq_true c4
        clear c4
        by_cases c5 : 0 ≤ x14_1
        · rw [if_pos c5] at H
          have c5b0 : decide (0 ≤ x14_1) = true := decide_eq_true c5
          clear c5
          by_cases c6 : x14_1 < (l0.length : Int)
          · rw [if_pos c6] at H
            have c6b0 : decide (x14_1 < (l0.length : Int)) = true := decide_eq_true c6
            clear c6
            have HC7 := Aside0.mk H
            clear H
            have p158 : 0 ≤ (x14_1 : Int) := of_decide_eq_true (by first | (with_reducible assumption) | assumption)
            have q158 : x14_1 < (l0.length : Int) := of_decide_eq_true (by first | (with_reducible assumption) | assumption)
            obtain ⟨ad158, A158_1, c158_1, A158_2, c158_2, A158_3, c158_3, e158, hx158_0, hx158_1, hx158_2, hx158_3, hx158_4, hl158_1, hi158_1, hl158_2, hi158_2, hl158_3, hi158_3⟩ := at_T30 HR0.out x14_1 p158 q158
            cases e158
            replace hx158_0 := (HB.out.cell (World.block_lt_of_cell? w _ hx158_0)).trans hx158_0
            replace hx158_1 := (HB.out.cell (World.block_lt_of_cell? w _ hx158_1)).trans hx158_1
            replace hx158_2 := (HB.out.cell (World.block_lt_of_cell? w _ hx158_2)).trans hx158_2
            replace hx158_3 := (HB.out.cell (World.block_lt_of_cell? w _ hx158_3)).trans hx158_3
            replace hx158_4 := (HB.out.cell (World.block_lt_of_cell? w _ hx158_4)).trans hx158_4
            have HR158_1 := Aside0.mk hi158_1
            have HC158_1 := Aside0.mk hl158_1
            clear hi158_1 hl158_1
            have HR158_2 := Aside0.mk hi158_2
            have HC158_2 := Aside0.mk hl158_2
            clear hi158_2 hl158_2
            have HR158_3 := Aside0.mk hi158_3
            have HC158_3 := Aside0.mk hl158_3
            clear hi158_3 hl158_3
            replace p158 := eq_true p158
            replace q158 := eq_true q158
            go_upto_if 20 with (first | ((with_reducible refine gate_dst (N := 9) rfl ?_); refine box_event ?hg (N := 9) ?hd (cs := #[.int .i64 0, .slice none 0 0, .slice none 0 0, .slice none 0 0, .string (⟨#[]⟩ : ByteArray)]) (t := 30) ?hr ?_; (case hd => rfl); (case hg => rfl); (case hr => first | (go_simp; done) | (go_simp; rfl)); intro gb159 hg w8 hbox hb; have n0_ := Aside0.mk (below_step (by repeat (first | (with_reducible first | exact HB.out | apply below_alloc | apply pw_below_drewN | apply below_drew1) | exact HB.out)) hb); have n1_ := Aside0.mk (hbox); have n2_ := Aside0.mk ((by rw [hg]; exact (below_size (by repeat (first | (with_reducible first | exact HB.out | apply below_alloc | apply pw_below_drewN | apply below_drew1) | exact HB.out))) : w.heap.size ≤ gb159)); have n3_ := Aside0.mk ((by rw [hg]; exact (below_size (by repeat (first | (with_reducible first | exact HB.out | apply below_alloc | apply pw_below_drewN | apply below_drew1) | exact HB.out))) : w.heap.size ≤ gb159)); clear HB; have HB := n0_; have BK159 := n1_; have GW159 := n2_; have GE159 := n3_; clear n0_ n1_ n2_ n3_; clear hb hbox hg; have hcz9_0 : w8.cell? ⟨gb159, 0, none⟩ = some (.int .i64 0) := (blk_cell BK159.out 0).trans rfl; have hcz9_1 : w8.cell? ⟨gb159, 1, none⟩ = some (.slice none 0 0) := (blk_cell BK159.out 1).trans rfl; have hcz9_2 : w8.cell? ⟨gb159, 2, none⟩ = some (.slice none 0 0) := (blk_cell BK159.out 2).trans rfl; have hcz9_3 : w8.cell? ⟨gb159, 3, none⟩ = some (.slice none 0 0) := (blk_cell BK159.out 3).trans rfl; have hcz9_4 : w8.cell? ⟨gb159, 4, none⟩ = some (.string (⟨#[]⟩ : ByteArray)) := (blk_cell BK159.out 4).trans rfl; have hfz9_0 := blk_frozen BK159.out 0; have hfz9_1 := blk_frozen BK159.out 1; have hfz9_2 := blk_frozen BK159.out 2; have hfz9_3 := blk_frozen BK159.out 3; have hfz9_4 := blk_frozen BK159.out 4))
            repeat (go_quiet (first | ((with_reducible refine gate_dst (N := 9) rfl ?_); refine box_event ?hg (N := 9) ?hd (cs := #[.int .i64 0, .slice none 0 0, .slice none 0 0, .slice none 0 0, .string (⟨#[]⟩ : ByteArray)]) (t := 30) ?hr ?_; (case hd => rfl); (case hg => rfl); (case hr => first | (go_simp; done) | (go_simp; rfl)); intro gb159 hg w8 hbox hb; have n0_ := Aside0.mk (below_step (by repeat (first | (with_reducible first | exact HB.out | apply below_alloc | apply pw_below_drewN | apply below_drew1) | exact HB.out)) hb); have n1_ := Aside0.mk (hbox); have n2_ := Aside0.mk ((by rw [hg]; exact (below_size (by repeat (first | (with_reducible first | exact HB.out | apply below_alloc | apply pw_below_drewN | apply below_drew1) | exact HB.out))) : w.heap.size ≤ gb159)); have n3_ := Aside0.mk ((by rw [hg]; exact (below_size (by repeat (first | (with_reducible first | exact HB.out | apply below_alloc | apply pw_below_drewN | apply below_drew1) | exact HB.out))) : w.heap.size ≤ gb159)); clear HB; have HB := n0_; have BK159 := n1_; have GW159 := n2_; have GE159 := n3_; clear n0_ n1_ n2_ n3_; clear hb hbox hg; have hcz9_0 : w8.cell? ⟨gb159, 0, none⟩ = some (.int .i64 0) := (blk_cell BK159.out 0).trans rfl; have hcz9_1 : w8.cell? ⟨gb159, 1, none⟩ = some (.slice none 0 0) := (blk_cell BK159.out 1).trans rfl; have hcz9_2 : w8.cell? ⟨gb159, 2, none⟩ = some (.slice none 0 0) := (blk_cell BK159.out 2).trans rfl; have hcz9_3 : w8.cell? ⟨gb159, 3, none⟩ = some (.slice none 0 0) := (blk_cell BK159.out 3).trans rfl; have hcz9_4 : w8.cell? ⟨gb159, 4, none⟩ = some (.string (⟨#[]⟩ : ByteArray)) := (blk_cell BK159.out 4).trans rfl; have hfz9_0 := blk_frozen BK159.out 0; have hfz9_1 := blk_frozen BK159.out 1; have hfz9_2 := blk_frozen BK159.out 2; have hfz9_3 := blk_frozen BK159.out 3; have hfz9_4 := blk_frozen BK159.out 4)); go_upto_if 20 with (first | ((with_reducible refine gate_dst (N := 9) rfl ?_); refine box_event ?hg (N := 9) ?hd (cs := #[.int .i64 0, .slice none 0 0, .slice none 0 0, .slice none 0 0, .string (⟨#[]⟩ : ByteArray)]) (t := 30) ?hr ?_; (case hd => rfl); (case hg => rfl); (case hr => first | (go_simp; done) | (go_simp; rfl)); intro gb159 hg w8 hbox hb; have n0_ := Aside0.mk (below_step (by repeat (first | (with_reducible first | exact HB.out | apply below_alloc | apply pw_below_drewN | apply below_drew1) | exact HB.out)) hb); have n1_ := Aside0.mk (hbox); have n2_ := Aside0.mk ((by rw [hg]; exact (below_size (by repeat (first | (with_reducible first | exact HB.out | apply below_alloc | apply pw_below_drewN | apply below_drew1) | exact HB.out))) : w.heap.size ≤ gb159)); have n3_ := Aside0.mk ((by rw [hg]; exact (below_size (by repeat (first | (with_reducible first | exact HB.out | apply below_alloc | apply pw_below_drewN | apply below_drew1) | exact HB.out))) : w.heap.size ≤ gb159)); clear HB; have HB := n0_; have BK159 := n1_; have GW159 := n2_; have GE159 := n3_; clear n0_ n1_ n2_ n3_; clear hb hbox hg; have hcz9_0 : w8.cell? ⟨gb159, 0, none⟩ = some (.int .i64 0) := (blk_cell BK159.out 0).trans rfl; have hcz9_1 : w8.cell? ⟨gb159, 1, none⟩ = some (.slice none 0 0) := (blk_cell BK159.out 1).trans rfl; have hcz9_2 : w8.cell? ⟨gb159, 2, none⟩ = some (.slice none 0 0) := (blk_cell BK159.out 2).trans rfl; have hcz9_3 : w8.cell? ⟨gb159, 3, none⟩ = some (.slice none 0 0) := (blk_cell BK159.out 3).trans rfl; have hcz9_4 : w8.cell? ⟨gb159, 4, none⟩ = some (.string (⟨#[]⟩ : ByteArray)) := (blk_cell BK159.out 4).trans rfl; have hfz9_0 := blk_frozen BK159.out 0; have hfz9_1 := blk_frozen BK159.out 1; have hfz9_2 := blk_frozen BK159.out 2; have hfz9_3 := blk_frozen BK159.out 3; have hfz9_4 := blk_frozen BK159.out 4)))
            (try simp only [Act.put, List.setIfInBounds_toArray, List.set_cons_zero, List.set_cons_succ])
            go_cut [7] (fun v7 wc => ∃ (kq : Nat) (x7_6 : ByteArray), v7 = .string x7_6 ∧ Aside0 (spec_Write.j1 kq a1 a2 x7_6 l0 (l0.length : Int) x14_1 ((rd_T30 l0 x14_1).f0) ((rd_T30 l0 x14_1).f1) ((rd_T30 l0 x14_1).f2) ((rd_T30 l0 x14_1).f3) ((rd_T30 l0 x14_1).f4) = some r) ∧ Aside0 (kq ≤ k1) ∧ Aside0 (wc.heap[gb159]? = some (.cells #[.int .i64 ((rd_T30 l0 x14_1).f0), (.slice A158_1 ((rd_T30 l0 x14_1).f1).length c158_1), (.slice A158_2 ((rd_T30 l0 x14_1).f2).length c158_2), (.slice A158_3 ((rd_T30 l0 x14_1).f3).length c158_3), .string ((rd_T30 l0 x14_1).f4)] 30 (0, 0))) ∧ Aside0 (Below w.heap.size w wc))
            case first =>
              have H := HC7.out
              clear HC7
              by_cases c10 : x14_1 > 0
              · rw [if_pos c10] at H
                have c10b0 : decide (0 < x14_1) = true := decide_eq_true c10
                clear c10
                (first | rw [c10b0] | (simp only [i64_w, i32_w]; rw [c10b0]) | skip)
                by_cases c11 : x7_1.size + a2.size ≤ 9223372036854775807
                · rw [if_pos c11] at H
                  have c11b0 := eq_true c11
                  have c11b1 : decide (x7_1.size + a2.size ≤ 9223372036854775807) = true := decide_eq_true c11
                  try have c11b2 : (9223372036854775807 < x7_1.size + a2.size) = False := eq_false (Nat.not_lt.2 c11)
                  have H' := Aside0.mk H
                  clear H
                  go_wp2
                  repeat (go_quiet (fail); try go_wp2)
                  go_meet
                  case rel => exact ⟨_, (x7_1 ++ a2), (by first | rfl | (simp; done) | (simp [*]; done)), H', ⟨by have := HK1.out; first | omega | exact Nat.le_refl _⟩, ⟨by (with_reducible repeat (first | refine blk_drewN ?_ _ | refine blk_drew ?_ | refine blk_alloc ?_ _)); refine blk_put (cs := #[.int .i64 ((rd_T30 l0 x14_1).f0), .slice A158_1 ((rd_T30 l0 x14_1).f1).length c158_1, .slice A158_2 ((rd_T30 l0 x14_1).f2).length c158_2, .slice A158_3 ((rd_T30 l0 x14_1).f3).length c158_3, .string (⟨#[]⟩ : ByteArray)]) ?_ 4 _ rfl; (with_reducible repeat (first | refine blk_drewN ?_ _ | refine blk_drew ?_ | refine blk_alloc ?_ _)); refine blk_put (cs := #[.int .i64 ((rd_T30 l0 x14_1).f0), .slice A158_1 ((rd_T30 l0 x14_1).f1).length c158_1, .slice A158_2 ((rd_T30 l0 x14_1).f2).length c158_2, .slice none 0 0, .string (⟨#[]⟩ : ByteArray)]) ?_ 3 _ rfl; (with_reducible repeat (first | refine blk_drewN ?_ _ | refine blk_drew ?_ | refine blk_alloc ?_ _)); refine blk_put (cs := #[.int .i64 ((rd_T30 l0 x14_1).f0), .slice A158_1 ((rd_T30 l0 x14_1).f1).length c158_1, .slice none 0 0, .slice none 0 0, .string (⟨#[]⟩ : ByteArray)]) ?_ 2 _ rfl; (with_reducible repeat (first | refine blk_drewN ?_ _ | refine blk_drew ?_ | refine blk_alloc ?_ _)); refine blk_put (cs := #[.int .i64 ((rd_T30 l0 x14_1).f0), .slice none 0 0, .slice none 0 0, .slice none 0 0, .string (⟨#[]⟩ : ByteArray)]) ?_ 1 _ rfl; (with_reducible repeat (first | refine blk_drewN ?_ _ | refine blk_drew ?_ | refine blk_alloc ?_ _)); refine blk_put (cs := #[.int .i64 0, .slice none 0 0, .slice none 0 0, .slice none 0 0, .string (⟨#[]⟩ : ByteArray)]) ?_ 0 _ rfl; (with_reducible repeat (first | refine blk_drewN ?_ _ | refine blk_drew ?_ | refine blk_alloc ?_ _)); exact BK159.out⟩, ⟨by repeat (first | (with_reducible first | exact HB.out | apply below_alloc | apply pw_below_drewN | apply below_drew1 | refine below_set ?_ GE159.out) | exact HB.out)⟩⟩
                · rw [if_neg c11] at H
                  exact absurd H (by simp)
              · rw [if_neg c10] at H
                have c10b0 : decide (0 < x14_1) = false := decide_eq_false c10
                clear c10
                (first | rw [c10b0] | (simp only [i64_w, i32_w]; rw [c10b0]) | skip)
                have H' := Aside0.mk H
                clear H
                go_wp2
                repeat (go_quiet (fail); try go_wp2)
                go_meet
                case rel => exact ⟨_, (x7_1), (by first | rfl | (simp; done) | (simp [*]; done)), H', ⟨by have := HK1.out; first | omega | exact Nat.le_refl _⟩, ⟨by (with_reducible repeat (first | refine blk_drewN ?_ _ | refine blk_drew ?_ | refine blk_alloc ?_ _)); refine blk_put (cs := #[.int .i64 ((rd_T30 l0 x14_1).f0), .slice A158_1 ((rd_T30 l0 x14_1).f1).length c158_1, .slice A158_2 ((rd_T30 l0 x14_1).f2).length c158_2, .slice A158_3 ((rd_T30 l0 x14_1).f3).length c158_3, .string (⟨#[]⟩ : ByteArray)]) ?_ 4 _ rfl; (with_reducible repeat (first | refine blk_drewN ?_ _ | refine blk_drew ?_ | refine blk_alloc ?_ _)); refine blk_put (cs := #[.int .i64 ((rd_T30 l0 x14_1).f0), .slice A158_1 ((rd_T30 l0 x14_1).f1).length c158_1, .slice A158_2 ((rd_T30 l0 x14_1).f2).length c158_2, .slice none 0 0, .string (⟨#[]⟩ : ByteArray)]) ?_ 3 _ rfl; (with_reducible repeat (first | refine blk_drewN ?_ _ | refine blk_drew ?_ | refine blk_alloc ?_ _)); refine blk_put (cs := #[.int .i64 ((rd_T30 l0 x14_1).f0), .slice A158_1 ((rd_T30 l0 x14_1).f1).length c158_1, .slice none 0 0, .slice none 0 0, .string (⟨#[]⟩ : ByteArray)]) ?_ 2 _ rfl; (with_reducible repeat (first | refine blk_drewN ?_ _ | refine blk_drew ?_ | refine blk_alloc ?_ _)); refine blk_put (cs := #[.int .i64 ((rd_T30 l0 x14_1).f0), .slice none 0 0, .slice none 0 0, .slice none 0 0, .string (⟨#[]⟩ : ByteArray)]) ?_ 1 _ rfl; (with_reducible repeat (first | refine blk_drewN ?_ _ | refine blk_drew ?_ | refine blk_alloc ?_ _)); refine blk_put (cs := #[.int .i64 0, .slice none 0 0, .slice none 0 0, .slice none 0 0, .string (⟨#[]⟩ : ByteArray)]) ?_ 0 _ rfl; (with_reducible repeat (first | refine blk_drewN ?_ _ | refine blk_drew ?_ | refine blk_alloc ?_ _)); exact BK159.out⟩, ⟨by repeat (first | (with_reducible first | exact HB.out | apply below_alloc | apply pw_below_drewN | apply below_drew1 | refine below_set ?_ GE159.out) | exact HB.out)⟩⟩
            case rest =>
              clear HC7
              try clear c1
              try clear p1
              try clear q1
              try clear hx1
              try clear p2
              try clear c4
              try clear c4b0
              try clear c5
              try clear c5b0
              try clear c6
              try clear c6b0
              try clear c8
              try clear c10
              try clear c10b0
              try clear c11
              try clear c11b0
              try clear c11b1
              try clear c11b2
              try clear hcz9_0
              try clear hcz9_1
              try clear hcz9_2
              try clear hcz9_3
              try clear hcz9_4
              try clear hfz9_0
              try clear hfz9_1
              try clear hfz9_2
              try clear hfz9_3
              try clear hfz9_4
              try clear hx158_0
              try clear hx158_1
              try clear hx158_2
              try clear hx158_3
              try clear hx158_4
              try clear p158
              try clear p2
              try clear q158
              obtain ⟨kq, x7_6, rfl, HA, HJ6, BK159, HB⟩ := hcut
              cases kq with
              | zero => exact absurd HA.out (by simp [spec_Write.j1])
              | succ kj6 =>
                have H := HA.out
                clear HA
                simp only [spec_Write.j1] at H
                replace H := Option.bind_eq_some_iff.mp H
                obtain ⟨t160, A120, H⟩ := H
                replace H : (if x7_6.size + t160.size ≤ 9223372036854775807 then (if ((rd_T30 l0 x14_1).f0) = 0 then ((spec_words.f kj6 ((rd_T30 l0 x14_1).f1) a1 ((rd_T30 l0 x14_1).f4)).bind fun t161 => (if t161.size + 1 ≤ 9223372036854775807 then (if (x7_6 ++ t160).size + (t161 ++ (⟨#[10]⟩ : ByteArray)).size ≤ 9223372036854775807 then (spec_Write.l0 kj6 a1 a2 ((x7_6 ++ t160) ++ (t161 ++ (⟨#[10]⟩ : ByteArray))) l0 (l0.length : Int) (wrap64 (x14_1 + 1))) else (none)) else (none))) else (if ((rd_T30 l0 x14_1).f0) = 1 then ((spec_words.f kj6 ((rd_T30 l0 x14_1).f1) a1 (⟨#[]⟩ : ByteArray)).bind fun t162 => (if t162.size + 3 ≤ 9223372036854775807 then (if (x7_6 ++ t160).size + (t162 ++ (⟨#[32, 40, 10]⟩ : ByteArray)).size ≤ 9223372036854775807 then (spec_Write.l1 kj6 a1 a2 ((x7_6 ++ t160) ++ (t162 ++ (⟨#[32, 40, 10]⟩ : ByteArray))) l0 (l0.length : Int) x14_1 ((rd_T30 l0 x14_1).f2) (((rd_T30 l0 x14_1).f2).length : Int) 0 ((rd_T30 l0 x14_1).f0) ((rd_T30 l0 x14_1).f1) ((rd_T30 l0 x14_1).f2) ((rd_T30 l0 x14_1).f3) ((rd_T30 l0 x14_1).f4)) else (none)) else (none))) else (spec_Write.l0 kj6 a1 a2 (x7_6 ++ t160) l0 (l0.length : Int) (wrap64 (x14_1 + 1))))) else (none)) = some r := H
                have A12 := Aside0.mk A120
                clear A120
                by_cases c13 : x7_6.size + t160.size ≤ 9223372036854775807
                · rw [if_pos c13] at H
                  have c13b0 := eq_true c13
                  have c13b1 : decide (x7_6.size + t160.size ≤ 9223372036854775807) = true := decide_eq_true c13
                  try have c13b2 : (9223372036854775807 < x7_6.size + t160.size) = False := eq_false (Nat.not_lt.2 c13)
                  by_cases c14 : ((rd_T30 l0 x14_1).f0) = 0
                  · rw [if_pos c14] at H
                    have c14b0 : (((rd_T30 l0 x14_1).f0) == 0) = true := beq_iff_eq.mpr c14
                    have c14b1 : (((rd_T30 l0 x14_1).f0) != 0) = false := bne_eq_false_iff_eq.mpr c14
                    clear c14
                    replace H := Option.bind_eq_some_iff.mp H
                    obtain ⟨t161, A150, H⟩ := H
                    replace H : (if t161.size + 1 ≤ 9223372036854775807 then (if (x7_6 ++ t160).size + (t161 ++ (⟨#[10]⟩ : ByteArray)).size ≤ 9223372036854775807 then (spec_Write.l0 kj6 a1 a2 ((x7_6 ++ t160) ++ (t161 ++ (⟨#[10]⟩ : ByteArray))) l0 (l0.length : Int) (wrap64 (x14_1 + 1))) else (none)) else (none)) = some r := H
                    have A15 := Aside0.mk A150
                    clear A150
                    by_cases c16 : t161.size + 1 ≤ 9223372036854775807
                    · rw [if_pos c16] at H
                      have c16b0 := eq_true c16
                      have c16b1 : decide (t161.size + 1 ≤ 9223372036854775807) = true := decide_eq_true c16
                      try have c16b2 : (9223372036854775807 < t161.size + 1) = False := eq_false (Nat.not_lt.2 c16)
                      by_cases c17 : (x7_6 ++ t160).size + (t161 ++ (⟨#[10]⟩ : ByteArray)).size ≤ 9223372036854775807
                      · rw [if_pos c17] at H
                        have c17b0 := eq_true c17
                        have c17b1 : decide ((x7_6 ++ t160).size + (t161 ++ (⟨#[10]⟩ : ByteArray)).size ≤ 9223372036854775807) = true := decide_eq_true c17
                        try have c17b2 : (9223372036854775807 < (x7_6 ++ t160).size + (t161 ++ (⟨#[10]⟩ : ByteArray)).size) = False := eq_false (Nat.not_lt.2 c17)
                        try have c17b3 : (9223372036854775807 < x7_6.size + t160.size + (t161.size + 1)) = False := eq_false (Nat.not_lt.2 (by have h_ := c17; simp only [ByteArray.size_append] at h_; exact h_))
                        have H' := Aside0.mk H
                        clear H
                        have hcz18_0 : wc.cell? ⟨gb159, 0, none⟩ = some (.int .i64 ((rd_T30 l0 x14_1).f0)) := (blk_cell BK159.out 0).trans rfl
                        have hcz18_1 : wc.cell? ⟨gb159, 1, none⟩ = some (.slice A158_1 ((rd_T30 l0 x14_1).f1).length c158_1) := (blk_cell BK159.out 1).trans rfl
                        have hcz18_2 : wc.cell? ⟨gb159, 2, none⟩ = some (.slice A158_2 ((rd_T30 l0 x14_1).f2).length c158_2) := (blk_cell BK159.out 2).trans rfl
                        have hcz18_3 : wc.cell? ⟨gb159, 3, none⟩ = some (.slice A158_3 ((rd_T30 l0 x14_1).f3).length c158_3) := (blk_cell BK159.out 3).trans rfl
                        have hcz18_4 : wc.cell? ⟨gb159, 4, none⟩ = some (.string ((rd_T30 l0 x14_1).f4)) := (blk_cell BK159.out 4).trans rfl
                        have hfz18_0 := blk_frozen BK159.out 0
                        have hfz18_1 := blk_frozen BK159.out 1
                        have hfz18_2 := blk_frozen BK159.out 2
                        have hfz18_3 := blk_frozen BK159.out 3
                        have hfz18_4 := blk_frozen BK159.out 4
                        go_wp2_with (first | (go_at_call 15; (with_reducible refine (spec_lines.calls kj6 _ _ ((rd_T30 l0 x14_1).f3) (⟨#[]⟩ : ByteArray) t160 _ ?side1 ?side2 A12.out).mono ?_); (case side1 => repeat (first | exact (Kd.C_below HR158_3.out HB.out) | (with_reducible refine Kd.C_alloc ?_ _) | (with_reducible refine Kd.C_drewN ?_ _) | (with_reducible refine Kd.C_drew ?_))); (case side2 => exact HC158_3.out); rintro e w' ⟨rfl, ⟨nd, rfl⟩⟩; (try first | exact ⟨rfl, _, World.drewN_drewN _ _ _⟩ | exact ⟨rfl, _, Eq.trans (World.drewN_drewN _ _ _) (congrArg (World.drewN _) (Nat.add_assoc _ _ _))⟩)) | (go_at_call 16; (with_reducible refine (spec_words.calls kj6 _ _ ((rd_T30 l0 x14_1).f1) a1 ((rd_T30 l0 x14_1).f4) t161 _ ?side1 ?side2 A15.out).mono ?_); (case side1 => repeat (first | exact (Kd.C_below HR158_1.out (by repeat (first | (with_reducible first | exact HB.out | apply below_alloc | apply pw_below_drewN | apply below_drew1 | refine below_set ?_ GE159.out) | exact HB.out))) | (with_reducible refine Kd.C_alloc ?_ _) | (with_reducible refine Kd.C_drewN ?_ _) | (with_reducible refine Kd.C_drew ?_))); (case side2 => exact HC158_1.out); rintro e w' ⟨rfl, ⟨nd, rfl⟩⟩; (try first | exact ⟨rfl, _, World.drewN_drewN _ _ _⟩ | exact ⟨rfl, _, Eq.trans (World.drewN_drewN _ _ _) (congrArg (World.drewN _) (Nat.add_assoc _ _ _))⟩)))
                        repeat (go_quiet (first | (go_at_call 15; (with_reducible refine (spec_lines.calls kj6 _ _ ((rd_T30 l0 x14_1).f3) (⟨#[]⟩ : ByteArray) t160 _ ?side1 ?side2 A12.out).mono ?_); (case side1 => repeat (first | exact (Kd.C_below HR158_3.out HB.out) | (with_reducible refine Kd.C_alloc ?_ _) | (with_reducible refine Kd.C_drewN ?_ _) | (with_reducible refine Kd.C_drew ?_))); (case side2 => exact HC158_3.out); rintro e w' ⟨rfl, ⟨nd, rfl⟩⟩; (try first | exact ⟨rfl, _, World.drewN_drewN _ _ _⟩ | exact ⟨rfl, _, Eq.trans (World.drewN_drewN _ _ _) (congrArg (World.drewN _) (Nat.add_assoc _ _ _))⟩)) | (go_at_call 16; (with_reducible refine (spec_words.calls kj6 _ _ ((rd_T30 l0 x14_1).f1) a1 ((rd_T30 l0 x14_1).f4) t161 _ ?side1 ?side2 A15.out).mono ?_); (case side1 => repeat (first | exact (Kd.C_below HR158_1.out (by repeat (first | (with_reducible first | exact HB.out | apply below_alloc | apply pw_below_drewN | apply below_drew1 | refine below_set ?_ GE159.out) | exact HB.out))) | (with_reducible refine Kd.C_alloc ?_ _) | (with_reducible refine Kd.C_drewN ?_ _) | (with_reducible refine Kd.C_drew ?_))); (case side2 => exact HC158_1.out); rintro e w' ⟨rfl, ⟨nd, rfl⟩⟩; (try first | exact ⟨rfl, _, World.drewN_drewN _ _ _⟩ | exact ⟨rfl, _, Eq.trans (World.drewN_drewN _ _ _) (congrArg (World.drewN _) (Nat.add_assoc _ _ _))⟩))); try go_wp2_with (first | (go_at_call 15; (with_reducible refine (spec_lines.calls kj6 _ _ ((rd_T30 l0 x14_1).f3) (⟨#[]⟩ : ByteArray) t160 _ ?side1 ?side2 A12.out).mono ?_); (case side1 => repeat (first | exact (Kd.C_below HR158_3.out HB.out) | (with_reducible refine Kd.C_alloc ?_ _) | (with_reducible refine Kd.C_drewN ?_ _) | (with_reducible refine Kd.C_drew ?_))); (case side2 => exact HC158_3.out); rintro e w' ⟨rfl, ⟨nd, rfl⟩⟩; (try first | exact ⟨rfl, _, World.drewN_drewN _ _ _⟩ | exact ⟨rfl, _, Eq.trans (World.drewN_drewN _ _ _) (congrArg (World.drewN _) (Nat.add_assoc _ _ _))⟩)) | (go_at_call 16; (with_reducible refine (spec_words.calls kj6 _ _ ((rd_T30 l0 x14_1).f1) a1 ((rd_T30 l0 x14_1).f4) t161 _ ?side1 ?side2 A15.out).mono ?_); (case side1 => repeat (first | exact (Kd.C_below HR158_1.out (by repeat (first | (with_reducible first | exact HB.out | apply below_alloc | apply pw_below_drewN | apply below_drew1 | refine below_set ?_ GE159.out) | exact HB.out))) | (with_reducible refine Kd.C_alloc ?_ _) | (with_reducible refine Kd.C_drewN ?_ _) | (with_reducible refine Kd.C_drew ?_))); (case side2 => exact HC158_1.out); rintro e w' ⟨rfl, ⟨nd, rfl⟩⟩; (try first | exact ⟨rfl, _, World.drewN_drewN _ _ _⟩ | exact ⟨rfl, _, Eq.trans (World.drewN_drewN _ _ _) (congrArg (World.drewN _) (Nat.add_assoc _ _ _))⟩))))
                        go_roundg kj6
                        case measure => have := HK1.out; have := HJ6.out; omega
                        case rel => exact ⟨((x7_6 ++ t160) ++ (t161 ++ (⟨#[10]⟩ : ByteArray))), (wrap64 (x14_1 + 1)), (by first | rfl | (simp; done) | (simp [*]; done)), (by first | rfl | (simp; done) | (simp [*]; done)), H', ⟨by have := HK1.out; have := HJ6.out; omega⟩, ⟨by repeat (first | (with_reducible first | exact HB.out | apply below_alloc | apply pw_below_drewN | apply below_drew1 | refine below_set ?_ GE159.out) | exact HB.out)⟩⟩
                      · rw [if_neg c17] at H
                        exact absurd H (by simp)
                    · rw [if_neg c16] at H
                      exact absurd H (by simp)
                  · rw [if_neg c14] at H
                    have c14b0 : (((rd_T30 l0 x14_1).f0) == 0) = false := beq_eq_false_iff_ne.mpr c14
                    have c14b1 : (((rd_T30 l0 x14_1).f0) != 0) = true := bne_iff_ne.mpr c14
                    by_cases c19 : ((rd_T30 l0 x14_1).f0) = 1
                    · rw [if_pos c19] at H
                      have c19b0 : (((rd_T30 l0 x14_1).f0) == 1) = true := beq_iff_eq.mpr c19
                      have c19b1 : (((rd_T30 l0 x14_1).f0) != 1) = false := bne_eq_false_iff_eq.mpr c19
                      clear c19
                      replace H := Option.bind_eq_some_iff.mp H
                      obtain ⟨t162, A200, H⟩ := H
                      replace H : (if t162.size + 3 ≤ 9223372036854775807 then (if (x7_6 ++ t160).size + (t162 ++ (⟨#[32, 40, 10]⟩ : ByteArray)).size ≤ 9223372036854775807 then (spec_Write.l1 kj6 a1 a2 ((x7_6 ++ t160) ++ (t162 ++ (⟨#[32, 40, 10]⟩ : ByteArray))) l0 (l0.length : Int) x14_1 ((rd_T30 l0 x14_1).f2) (((rd_T30 l0 x14_1).f2).length : Int) 0 ((rd_T30 l0 x14_1).f0) ((rd_T30 l0 x14_1).f1) ((rd_T30 l0 x14_1).f2) ((rd_T30 l0 x14_1).f3) ((rd_T30 l0 x14_1).f4)) else (none)) else (none)) = some r := H
                      have A20 := Aside0.mk A200
                      clear A200
                      by_cases c21 : t162.size + 3 ≤ 9223372036854775807
                      · rw [if_pos c21] at H
                        have c21b0 := eq_true c21
                        have c21b1 : decide (t162.size + 3 ≤ 9223372036854775807) = true := decide_eq_true c21
                        try have c21b2 : (9223372036854775807 < t162.size + 3) = False := eq_false (Nat.not_lt.2 c21)
                        by_cases c22 : (x7_6 ++ t160).size + (t162 ++ (⟨#[32, 40, 10]⟩ : ByteArray)).size ≤ 9223372036854775807
                        · rw [if_pos c22] at H
                          have c22b0 := eq_true c22
                          have c22b1 : decide ((x7_6 ++ t160).size + (t162 ++ (⟨#[32, 40, 10]⟩ : ByteArray)).size ≤ 9223372036854775807) = true := decide_eq_true c22
                          try have c22b2 : (9223372036854775807 < (x7_6 ++ t160).size + (t162 ++ (⟨#[32, 40, 10]⟩ : ByteArray)).size) = False := eq_false (Nat.not_lt.2 c22)
                          try have c22b3 : (9223372036854775807 < x7_6.size + t160.size + (t162.size + 3)) = False := eq_false (Nat.not_lt.2 (by have h_ := c22; simp only [ByteArray.size_append] at h_; exact h_))
                          have H' := Aside0.mk H
                          clear H
                          have hcz23_0 : wc.cell? ⟨gb159, 0, none⟩ = some (.int .i64 ((rd_T30 l0 x14_1).f0)) := (blk_cell BK159.out 0).trans rfl
                          have hcz23_1 : wc.cell? ⟨gb159, 1, none⟩ = some (.slice A158_1 ((rd_T30 l0 x14_1).f1).length c158_1) := (blk_cell BK159.out 1).trans rfl
                          have hcz23_2 : wc.cell? ⟨gb159, 2, none⟩ = some (.slice A158_2 ((rd_T30 l0 x14_1).f2).length c158_2) := (blk_cell BK159.out 2).trans rfl
                          have hcz23_3 : wc.cell? ⟨gb159, 3, none⟩ = some (.slice A158_3 ((rd_T30 l0 x14_1).f3).length c158_3) := (blk_cell BK159.out 3).trans rfl
                          have hcz23_4 : wc.cell? ⟨gb159, 4, none⟩ = some (.string ((rd_T30 l0 x14_1).f4)) := (blk_cell BK159.out 4).trans rfl
                          have hfz23_0 := blk_frozen BK159.out 0
                          have hfz23_1 := blk_frozen BK159.out 1
                          have hfz23_2 := blk_frozen BK159.out 2
                          have hfz23_3 := blk_frozen BK159.out 3
                          have hfz23_4 := blk_frozen BK159.out 4
                          go_wp2_with (first | (go_at_call 15; (with_reducible refine (spec_lines.calls kj6 _ _ ((rd_T30 l0 x14_1).f3) (⟨#[]⟩ : ByteArray) t160 _ ?side1 ?side2 A12.out).mono ?_); (case side1 => repeat (first | exact (Kd.C_below HR158_3.out HB.out) | (with_reducible refine Kd.C_alloc ?_ _) | (with_reducible refine Kd.C_drewN ?_ _) | (with_reducible refine Kd.C_drew ?_))); (case side2 => exact HC158_3.out); rintro e w' ⟨rfl, ⟨nd, rfl⟩⟩; (try first | exact ⟨rfl, _, World.drewN_drewN _ _ _⟩ | exact ⟨rfl, _, Eq.trans (World.drewN_drewN _ _ _) (congrArg (World.drewN _) (Nat.add_assoc _ _ _))⟩)) | (go_at_call 16; (with_reducible refine (spec_words.calls kj6 _ _ ((rd_T30 l0 x14_1).f1) a1 (⟨#[]⟩ : ByteArray) t162 _ ?side1 ?side2 A20.out).mono ?_); (case side1 => repeat (first | exact (Kd.C_below HR158_1.out (by repeat (first | (with_reducible first | exact HB.out | apply below_alloc | apply pw_below_drewN | apply below_drew1 | refine below_set ?_ GE159.out) | exact HB.out))) | (with_reducible refine Kd.C_alloc ?_ _) | (with_reducible refine Kd.C_drewN ?_ _) | (with_reducible refine Kd.C_drew ?_))); (case side2 => exact HC158_1.out); rintro e w' ⟨rfl, ⟨nd, rfl⟩⟩; (try first | exact ⟨rfl, _, World.drewN_drewN _ _ _⟩ | exact ⟨rfl, _, Eq.trans (World.drewN_drewN _ _ _) (congrArg (World.drewN _) (Nat.add_assoc _ _ _))⟩)))
                          repeat (go_quiet (first | (go_at_call 15; (with_reducible refine (spec_lines.calls kj6 _ _ ((rd_T30 l0 x14_1).f3) (⟨#[]⟩ : ByteArray) t160 _ ?side1 ?side2 A12.out).mono ?_); (case side1 => repeat (first | exact (Kd.C_below HR158_3.out HB.out) | (with_reducible refine Kd.C_alloc ?_ _) | (with_reducible refine Kd.C_drewN ?_ _) | (with_reducible refine Kd.C_drew ?_))); (case side2 => exact HC158_3.out); rintro e w' ⟨rfl, ⟨nd, rfl⟩⟩; (try first | exact ⟨rfl, _, World.drewN_drewN _ _ _⟩ | exact ⟨rfl, _, Eq.trans (World.drewN_drewN _ _ _) (congrArg (World.drewN _) (Nat.add_assoc _ _ _))⟩)) | (go_at_call 16; (with_reducible refine (spec_words.calls kj6 _ _ ((rd_T30 l0 x14_1).f1) a1 (⟨#[]⟩ : ByteArray) t162 _ ?side1 ?side2 A20.out).mono ?_); (case side1 => repeat (first | exact (Kd.C_below HR158_1.out (by repeat (first | (with_reducible first | exact HB.out | apply below_alloc | apply pw_below_drewN | apply below_drew1 | refine below_set ?_ GE159.out) | exact HB.out))) | (with_reducible refine Kd.C_alloc ?_ _) | (with_reducible refine Kd.C_drewN ?_ _) | (with_reducible refine Kd.C_drew ?_))); (case side2 => exact HC158_1.out); rintro e w' ⟨rfl, ⟨nd, rfl⟩⟩; (try first | exact ⟨rfl, _, World.drewN_drewN _ _ _⟩ | exact ⟨rfl, _, Eq.trans (World.drewN_drewN _ _ _) (congrArg (World.drewN _) (Nat.add_assoc _ _ _))⟩))); try go_wp2_with (first | (go_at_call 15; (with_reducible refine (spec_lines.calls kj6 _ _ ((rd_T30 l0 x14_1).f3) (⟨#[]⟩ : ByteArray) t160 _ ?side1 ?side2 A12.out).mono ?_); (case side1 => repeat (first | exact (Kd.C_below HR158_3.out HB.out) | (with_reducible refine Kd.C_alloc ?_ _) | (with_reducible refine Kd.C_drewN ?_ _) | (with_reducible refine Kd.C_drew ?_))); (case side2 => exact HC158_3.out); rintro e w' ⟨rfl, ⟨nd, rfl⟩⟩; (try first | exact ⟨rfl, _, World.drewN_drewN _ _ _⟩ | exact ⟨rfl, _, Eq.trans (World.drewN_drewN _ _ _) (congrArg (World.drewN _) (Nat.add_assoc _ _ _))⟩)) | (go_at_call 16; (with_reducible refine (spec_words.calls kj6 _ _ ((rd_T30 l0 x14_1).f1) a1 (⟨#[]⟩ : ByteArray) t162 _ ?side1 ?side2 A20.out).mono ?_); (case side1 => repeat (first | exact (Kd.C_below HR158_1.out (by repeat (first | (with_reducible first | exact HB.out | apply below_alloc | apply pw_below_drewN | apply below_drew1 | refine below_set ?_ GE159.out) | exact HB.out))) | (with_reducible refine Kd.C_alloc ?_ _) | (with_reducible refine Kd.C_drewN ?_ _) | (with_reducible refine Kd.C_drew ?_))); (case side2 => exact HC158_1.out); rintro e w' ⟨rfl, ⟨nd, rfl⟩⟩; (try first | exact ⟨rfl, _, World.drewN_drewN _ _ _⟩ | exact ⟨rfl, _, Eq.trans (World.drewN_drewN _ _ _) (congrArg (World.drewN _) (Nat.add_assoc _ _ _))⟩))))
                          go_loopg [7, 54] kj6 (fun kq v7 v54 w' => ∃ (x7_3 : ByteArray) (x54_3 : Int), v7 = .string x7_3 ∧ v54 = .int .i64 x54_3 ∧ Aside0 (spec_Write.l1 kq a1 a2 x7_3 l0 (l0.length : Int) x14_1 ((rd_T30 l0 x14_1).f2) (((rd_T30 l0 x14_1).f2).length : Int) x54_3 ((rd_T30 l0 x14_1).f0) ((rd_T30 l0 x14_1).f1) ((rd_T30 l0 x14_1).f2) ((rd_T30 l0 x14_1).f3) ((rd_T30 l0 x14_1).f4) = some r) ∧ Aside0 (kq ≤ kj6) ∧ Aside0 (w'.heap[gb159]? = some (.cells #[.int .i64 ((rd_T30 l0 x14_1).f0), (.slice A158_1 ((rd_T30 l0 x14_1).f1).length c158_1), (.slice A158_2 ((rd_T30 l0 x14_1).f2).length c158_2), (.slice A158_3 ((rd_T30 l0 x14_1).f3).length c158_3), .string ((rd_T30 l0 x14_1).f4)] 30 (0, 0))) ∧ Aside0 (Below w.heap.size w w'))
                          case atStart => exact ⟨((x7_6 ++ t160) ++ (t162 ++ (⟨#[32, 40, 10]⟩ : ByteArray))), (0), (by first | rfl | (simp; done) | (simp [*]; done)), (by first | rfl | (simp; done) | (simp [*]; done)), H', ⟨Nat.le_refl _⟩, ⟨by (with_reducible repeat (first | refine blk_drewN ?_ _ | refine blk_drew ?_ | refine blk_alloc ?_ _)); exact BK159.out⟩, ⟨by repeat (first | (with_reducible first | exact HB.out | apply below_alloc | apply pw_below_drewN | apply below_drew1 | refine below_set ?_ GE159.out) | exact HB.out)⟩⟩
                          case round =>
                            clear H'
                            try clear c1
                            try clear p1
                            try clear q1
                            try clear hx1
                            try clear c2
                            try clear p2
                            try clear c4
                            try clear c4b0
                            try clear c5
                            try clear c5b0
                            try clear c6
                            try clear c6b0
                            try clear p6
                            try clear c8
                            try clear c10
                            try clear c10b0
                            try clear c11
                            try clear c11b0
                            try clear c11b1
                            try clear c11b2
                            try clear c13
                            try clear c13b0
                            try clear c13b1
                            try clear c13b2
                            try clear c14
                            try clear c14b0
                            try clear c14b1
                            try clear c15
                            try clear p15
                            try clear q15
                            try clear hx15
                            try clear c16
                            try clear c16b0
                            try clear c16b1
                            try clear c16b2
                            try clear c17
                            try clear c17b0
                            try clear c17b1
                            try clear c17b2
                            try clear c19
                            try clear c19b0
                            try clear c19b1
                            try clear c21
                            try clear c21b0
                            try clear c21b1
                            try clear c21b2
                            try clear c22
                            try clear c22b0
                            try clear c22b1
                            try clear c22b2
                            try clear hcz18_0
                            try clear hcz18_1
                            try clear hcz18_2
                            try clear hcz18_3
                            try clear hcz18_4
                            try clear hcz23_0
                            try clear hcz23_1
                            try clear hcz23_2
                            try clear hcz23_3
                            try clear hcz23_4
                            try clear hcz9_0
                            try clear hcz9_1
                            try clear hcz9_2
                            try clear hcz9_3
                            try clear hcz9_4
                            try clear hfz18_0
                            try clear hfz18_1
                            try clear hfz18_2
                            try clear hfz18_3
                            try clear hfz18_4
                            try clear hfz23_0
                            try clear hfz23_1
                            try clear hfz23_2
                            try clear hfz23_3
                            try clear hfz23_4
                            try clear hfz9_0
                            try clear hfz9_1
                            try clear hfz9_2
                            try clear hfz9_3
                            try clear hfz9_4
                            try clear hx158_0
                            try clear hx158_1
                            try clear hx158_2
                            try clear hx158_3
                            try clear hx158_4
                            try clear p1
                            try clear p158
                            try clear p2
                            try clear q1
                            try clear q158
                            obtain ⟨x7_3, x54_3, rfl, rfl, HA, HK3, BK159, HB⟩ := hrel
                            cases gk with
                            | zero => exact absurd HA.out (by simp [spec_Write.l1])
                            | succ k3 =>
                              have H := HA.out
                              clear HA
                              simp only [spec_Write.l1] at H
                              by_cases c24 : x54_3 < (((rd_T30 l0 x14_1).f2).length : Int)
                              · rw [if_pos c24] at H
                                have c24b0 : decide (x54_3 < (((rd_T30 l0 x14_1).f2).length : Int)) = true := decide_eq_true c24
                                clear c24
                                by_cases c25 : 0 ≤ x54_3
                                · rw [if_pos c25] at H
                                  have c25b0 : decide (0 ≤ x54_3) = true := decide_eq_true c25
                                  clear c25
                                  by_cases c26 : x54_3 < (((rd_T30 l0 x14_1).f2).length : Int)
                                  · rw [if_pos c26] at H
                                    have c26b0 : decide (x54_3 < (((rd_T30 l0 x14_1).f2).length : Int)) = true := decide_eq_true c26
                                    clear c26
                                    replace H := Option.bind_eq_some_iff.mp H
                                    obtain ⟨t165, A270, H⟩ := H
                                    replace H : (if t165.size + 1 ≤ 9223372036854775807 then ((spec_words.f k3 ((rd_T35 ((rd_T30 l0 x14_1).f2) x54_3).f0) a1 ((rd_T35 ((rd_T30 l0 x14_1).f2) x54_3).f2)).bind fun t166 => (if (t165 ++ (⟨#[9]⟩ : ByteArray)).size + t166.size ≤ 9223372036854775807 then (if ((t165 ++ (⟨#[9]⟩ : ByteArray)) ++ t166).size + 1 ≤ 9223372036854775807 then (if x7_3.size + (((t165 ++ (⟨#[9]⟩ : ByteArray)) ++ t166) ++ (⟨#[10]⟩ : ByteArray)).size ≤ 9223372036854775807 then (spec_Write.l1 k3 a1 a2 (x7_3 ++ (((t165 ++ (⟨#[9]⟩ : ByteArray)) ++ t166) ++ (⟨#[10]⟩ : ByteArray))) l0 (l0.length : Int) x14_1 ((rd_T30 l0 x14_1).f2) (((rd_T30 l0 x14_1).f2).length : Int) (wrap64 (x54_3 + 1)) ((rd_T30 l0 x14_1).f0) ((rd_T30 l0 x14_1).f1) ((rd_T30 l0 x14_1).f2) ((rd_T30 l0 x14_1).f3) ((rd_T30 l0 x14_1).f4)) else (none)) else (none)) else (none))) else (none)) = some r := H
                                    have A27 := Aside0.mk A270
                                    clear A270
                                    by_cases c28 : t165.size + 1 ≤ 9223372036854775807
                                    · rw [if_pos c28] at H
                                      have c28b0 := eq_true c28
                                      have c28b1 : decide (t165.size + 1 ≤ 9223372036854775807) = true := decide_eq_true c28
                                      try have c28b2 : (9223372036854775807 < t165.size + 1) = False := eq_false (Nat.not_lt.2 c28)
                                      replace H := Option.bind_eq_some_iff.mp H
                                      obtain ⟨t166, A290, H⟩ := H
                                      replace H : (if (t165 ++ (⟨#[9]⟩ : ByteArray)).size + t166.size ≤ 9223372036854775807 then (if ((t165 ++ (⟨#[9]⟩ : ByteArray)) ++ t166).size + 1 ≤ 9223372036854775807 then (if x7_3.size + (((t165 ++ (⟨#[9]⟩ : ByteArray)) ++ t166) ++ (⟨#[10]⟩ : ByteArray)).size ≤ 9223372036854775807 then (spec_Write.l1 k3 a1 a2 (x7_3 ++ (((t165 ++ (⟨#[9]⟩ : ByteArray)) ++ t166) ++ (⟨#[10]⟩ : ByteArray))) l0 (l0.length : Int) x14_1 ((rd_T30 l0 x14_1).f2) (((rd_T30 l0 x14_1).f2).length : Int) (wrap64 (x54_3 + 1)) ((rd_T30 l0 x14_1).f0) ((rd_T30 l0 x14_1).f1) ((rd_T30 l0 x14_1).f2) ((rd_T30 l0 x14_1).f3) ((rd_T30 l0 x14_1).f4)) else (none)) else (none)) else (none)) = some r := H
                                      have A29 := Aside0.mk A290
                                      clear A290
                                      by_cases c30 : (t165 ++ (⟨#[9]⟩ : ByteArray)).size + t166.size ≤ 9223372036854775807
                                      · rw [if_pos c30] at H
                                        have c30b0 := eq_true c30
                                        have c30b1 : decide ((t165 ++ (⟨#[9]⟩ : ByteArray)).size + t166.size ≤ 9223372036854775807) = true := decide_eq_true c30
                                        try have c30b2 : (9223372036854775807 < (t165 ++ (⟨#[9]⟩ : ByteArray)).size + t166.size) = False := eq_false (Nat.not_lt.2 c30)
                                        try have c30b3 : (9223372036854775807 < t165.size + 1 + t166.size) = False := eq_false (Nat.not_lt.2 (by have h_ := c30; simp only [ByteArray.size_append] at h_; exact h_))
                                        by_cases c31 : ((t165 ++ (⟨#[9]⟩ : ByteArray)) ++ t166).size + 1 ≤ 9223372036854775807
                                        · rw [if_pos c31] at H
                                          have c31b0 := eq_true c31
                                          have c31b1 : decide (((t165 ++ (⟨#[9]⟩ : ByteArray)) ++ t166).size + 1 ≤ 9223372036854775807) = true := decide_eq_true c31
                                          try have c31b2 : (9223372036854775807 < ((t165 ++ (⟨#[9]⟩ : ByteArray)) ++ t166).size + 1) = False := eq_false (Nat.not_lt.2 c31)
                                          try have c31b3 : (9223372036854775807 < t165.size + 1 + t166.size + 1) = False := eq_false (Nat.not_lt.2 (by have h_ := c31; simp only [ByteArray.size_append] at h_; exact h_))
                                          by_cases c32 : x7_3.size + (((t165 ++ (⟨#[9]⟩ : ByteArray)) ++ t166) ++ (⟨#[10]⟩ : ByteArray)).size ≤ 9223372036854775807
                                          · rw [if_pos c32] at H
                                            have c32b0 := eq_true c32
                                            have c32b1 : decide (x7_3.size + (((t165 ++ (⟨#[9]⟩ : ByteArray)) ++ t166) ++ (⟨#[10]⟩ : ByteArray)).size ≤ 9223372036854775807) = true := decide_eq_true c32
                                            try have c32b2 : (9223372036854775807 < x7_3.size + (((t165 ++ (⟨#[9]⟩ : ByteArray)) ++ t166) ++ (⟨#[10]⟩ : ByteArray)).size) = False := eq_false (Nat.not_lt.2 c32)
                                            try have c32b3 : (9223372036854775807 < x7_3.size + (t165.size + 1 + t166.size + 1)) = False := eq_false (Nat.not_lt.2 (by have h_ := c32; simp only [ByteArray.size_append] at h_; exact h_))
                                            have H' := Aside0.mk H
                                            clear H
                                            have p163 : 0 ≤ (x54_3 : Int) := of_decide_eq_true (by first | (with_reducible assumption) | assumption)
                                            have q163 : x54_3 < (((rd_T30 l0 x14_1).f2).length : Int) := of_decide_eq_true (by first | (with_reducible assumption) | assumption)
                                            obtain ⟨ad163, A163_0, c163_0, A163_1, c163_1, e163, hx163_0, hx163_1, hx163_2, hl163_0, hi163_0, hl163_1, hi163_1⟩ := at_T35 HR158_2.out x54_3 p163 q163
                                            cases e163
                                            replace hx163_0 := (HB.out.cell (World.block_lt_of_cell? w _ hx163_0)).trans hx163_0
                                            replace hx163_1 := (HB.out.cell (World.block_lt_of_cell? w _ hx163_1)).trans hx163_1
                                            replace hx163_2 := (HB.out.cell (World.block_lt_of_cell? w _ hx163_2)).trans hx163_2
                                            have HR163_0 := Aside0.mk hi163_0
                                            have HC163_0 := Aside0.mk hl163_0
                                            clear hi163_0 hl163_0
                                            have HR163_1 := Aside0.mk hi163_1
                                            have HC163_1 := Aside0.mk hl163_1
                                            clear hi163_1 hl163_1
                                            replace p163 := eq_true p163
                                            replace q163 := eq_true q163
                                            go_wp2_with (first | ((with_reducible refine gate_dst (N := 11) rfl ?_); refine box_event ?hg (N := 11) ?hd (cs := #[.slice none 0 0, .slice none 0 0, .string (⟨#[]⟩ : ByteArray)]) (t := 35) ?hr ?_; (case hd => rfl); (case hg => rfl); (case hr => first | (go_simp; done) | (go_simp; rfl)); intro gb164 hg w33 hbox hb; have n0_ := Aside0.mk (blk_below (g := gb159) (o := .cells #[.int .i64 ((rd_T30 l0 x14_1).f0), .slice A158_1 ((rd_T30 l0 x14_1).f1).length c158_1, .slice (some ad163) ((rd_T30 l0 x14_1).f2).length c158_2, .slice A158_3 ((rd_T30 l0 x14_1).f3).length c158_3, .string ((rd_T30 l0 x14_1).f4)] 30 (0, 0)) (by (with_reducible repeat (first | refine blk_drewN ?_ _ | refine blk_drew ?_ | refine blk_alloc ?_ _)); exact BK159.out) hb); have n1_ := Aside0.mk (below_step (by repeat (first | (with_reducible first | exact HB.out | apply below_alloc | apply pw_below_drewN | apply below_drew1 | refine below_set ?_ GE159.out) | exact HB.out)) hb); have n2_ := Aside0.mk (hbox); have n3_ := Aside0.mk ((by rw [hg]; exact (below_size (by repeat (first | (with_reducible first | exact HB.out | apply below_alloc | apply pw_below_drewN | apply below_drew1 | refine below_set ?_ GE159.out) | exact HB.out))) : w.heap.size ≤ gb164)); have n4_ := Aside0.mk ((by rw [hg]; exact (below_size (by repeat (first | (with_reducible first | exact HB.out | apply below_alloc | apply pw_below_drewN | apply below_drew1 | refine below_set ?_ GE159.out) | exact HB.out))) : w.heap.size ≤ gb164)); have n5_ := Aside0.mk ((by rw [hg]; exact Nat.ne_of_lt (blk_lt (g := gb159) (o := .cells #[.int .i64 ((rd_T30 l0 x14_1).f0), .slice A158_1 ((rd_T30 l0 x14_1).f1).length c158_1, .slice (some ad163) ((rd_T30 l0 x14_1).f2).length c158_2, .slice A158_3 ((rd_T30 l0 x14_1).f3).length c158_3, .string ((rd_T30 l0 x14_1).f4)] 30 (0, 0)) (by (with_reducible repeat (first | refine blk_drewN ?_ _ | refine blk_drew ?_ | refine blk_alloc ?_ _)); exact BK159.out)) : gb159 ≠ gb164)); have n6_ := Aside0.mk ((by rw [hg]; exact Nat.ne_of_gt (blk_lt (g := gb159) (o := .cells #[.int .i64 ((rd_T30 l0 x14_1).f0), .slice A158_1 ((rd_T30 l0 x14_1).f1).length c158_1, .slice (some ad163) ((rd_T30 l0 x14_1).f2).length c158_2, .slice A158_3 ((rd_T30 l0 x14_1).f3).length c158_3, .string ((rd_T30 l0 x14_1).f4)] 30 (0, 0)) (by (with_reducible repeat (first | refine blk_drewN ?_ _ | refine blk_drew ?_ | refine blk_alloc ?_ _)); exact BK159.out)) : gb164 ≠ gb159)); clear BK159; clear HB; have BK159 := n0_; have HB := n1_; have BK164 := n2_; have GW164 := n3_; have GE164 := n4_; have NB159_164 := n5_; have NB164_159 := n6_; clear n0_ n1_ n2_ n3_ n4_ n5_ n6_; clear hb hbox hg; have hnb34 := NB164_159.out; have hnc34 := NB159_164.out; have hcz35_0 : w33.cell? ⟨gb164, 0, none⟩ = some (.slice none 0 0) := (blk_cell BK164.out 0).trans rfl; have hcz35_1 : w33.cell? ⟨gb164, 1, none⟩ = some (.slice none 0 0) := (blk_cell BK164.out 1).trans rfl; have hcz35_2 : w33.cell? ⟨gb164, 2, none⟩ = some (.string (⟨#[]⟩ : ByteArray)) := (blk_cell BK164.out 2).trans rfl; have hfz35_0 := blk_frozen BK164.out 0; have hfz35_1 := blk_frozen BK164.out 1; have hfz35_2 := blk_frozen BK164.out 2) | (go_at_call 15; (with_reducible refine (spec_lines.calls k3 _ _ ((rd_T35 ((rd_T30 l0 x14_1).f2) x54_3).f1) (⟨#[9]⟩ : ByteArray) t165 _ ?side1 ?side2 A27.out).mono ?_); (case side1 => exact Kd.C_below HR163_1.out (by repeat (first | (with_reducible first | exact HB.out | apply below_alloc | apply pw_below_drewN | apply below_drew1 | refine below_set ?_ GE159.out | refine below_set ?_ GE164.out) | exact HB.out))); (case side2 => exact HC163_1.out); rintro e w' ⟨rfl, ⟨nd, rfl⟩⟩; (try first | exact ⟨rfl, _, World.drewN_drewN _ _ _⟩ | exact ⟨rfl, _, Eq.trans (World.drewN_drewN _ _ _) (congrArg (World.drewN _) (Nat.add_assoc _ _ _))⟩)) | (go_at_call 16; (with_reducible refine (spec_words.calls k3 _ _ ((rd_T35 ((rd_T30 l0 x14_1).f2) x54_3).f0) a1 ((rd_T35 ((rd_T30 l0 x14_1).f2) x54_3).f2) t166 _ ?side1 ?side2 A29.out).mono ?_); (case side1 => exact Kd.C_below HR163_0.out (by repeat (first | (with_reducible first | exact HB.out | apply below_alloc | apply pw_below_drewN | apply below_drew1 | refine below_set ?_ GE159.out | refine below_set ?_ GE164.out) | exact HB.out))); (case side2 => exact HC163_0.out); rintro e w' ⟨rfl, ⟨nd, rfl⟩⟩; (try first | exact ⟨rfl, _, World.drewN_drewN _ _ _⟩ | exact ⟨rfl, _, Eq.trans (World.drewN_drewN _ _ _) (congrArg (World.drewN _) (Nat.add_assoc _ _ _))⟩)))
                                            repeat (go_quiet (first | ((with_reducible refine gate_dst (N := 11) rfl ?_); refine box_event ?hg (N := 11) ?hd (cs := #[.slice none 0 0, .slice none 0 0, .string (⟨#[]⟩ : ByteArray)]) (t := 35) ?hr ?_; (case hd => rfl); (case hg => rfl); (case hr => first | (go_simp; done) | (go_simp; rfl)); intro gb164 hg w33 hbox hb; have n0_ := Aside0.mk (blk_below (g := gb159) (o := .cells #[.int .i64 ((rd_T30 l0 x14_1).f0), .slice A158_1 ((rd_T30 l0 x14_1).f1).length c158_1, .slice (some ad163) ((rd_T30 l0 x14_1).f2).length c158_2, .slice A158_3 ((rd_T30 l0 x14_1).f3).length c158_3, .string ((rd_T30 l0 x14_1).f4)] 30 (0, 0)) (by (with_reducible repeat (first | refine blk_drewN ?_ _ | refine blk_drew ?_ | refine blk_alloc ?_ _)); exact BK159.out) hb); have n1_ := Aside0.mk (below_step (by repeat (first | (with_reducible first | exact HB.out | apply below_alloc | apply pw_below_drewN | apply below_drew1 | refine below_set ?_ GE159.out) | exact HB.out)) hb); have n2_ := Aside0.mk (hbox); have n3_ := Aside0.mk ((by rw [hg]; exact (below_size (by repeat (first | (with_reducible first | exact HB.out | apply below_alloc | apply pw_below_drewN | apply below_drew1 | refine below_set ?_ GE159.out) | exact HB.out))) : w.heap.size ≤ gb164)); have n4_ := Aside0.mk ((by rw [hg]; exact (below_size (by repeat (first | (with_reducible first | exact HB.out | apply below_alloc | apply pw_below_drewN | apply below_drew1 | refine below_set ?_ GE159.out) | exact HB.out))) : w.heap.size ≤ gb164)); have n5_ := Aside0.mk ((by rw [hg]; exact Nat.ne_of_lt (blk_lt (g := gb159) (o := .cells #[.int .i64 ((rd_T30 l0 x14_1).f0), .slice A158_1 ((rd_T30 l0 x14_1).f1).length c158_1, .slice (some ad163) ((rd_T30 l0 x14_1).f2).length c158_2, .slice A158_3 ((rd_T30 l0 x14_1).f3).length c158_3, .string ((rd_T30 l0 x14_1).f4)] 30 (0, 0)) (by (with_reducible repeat (first | refine blk_drewN ?_ _ | refine blk_drew ?_ | refine blk_alloc ?_ _)); exact BK159.out)) : gb159 ≠ gb164)); have n6_ := Aside0.mk ((by rw [hg]; exact Nat.ne_of_gt (blk_lt (g := gb159) (o := .cells #[.int .i64 ((rd_T30 l0 x14_1).f0), .slice A158_1 ((rd_T30 l0 x14_1).f1).length c158_1, .slice (some ad163) ((rd_T30 l0 x14_1).f2).length c158_2, .slice A158_3 ((rd_T30 l0 x14_1).f3).length c158_3, .string ((rd_T30 l0 x14_1).f4)] 30 (0, 0)) (by (with_reducible repeat (first | refine blk_drewN ?_ _ | refine blk_drew ?_ | refine blk_alloc ?_ _)); exact BK159.out)) : gb164 ≠ gb159)); clear BK159; clear HB; have BK159 := n0_; have HB := n1_; have BK164 := n2_; have GW164 := n3_; have GE164 := n4_; have NB159_164 := n5_; have NB164_159 := n6_; clear n0_ n1_ n2_ n3_ n4_ n5_ n6_; clear hb hbox hg; have hnb34 := NB164_159.out; have hnc34 := NB159_164.out; have hcz35_0 : w33.cell? ⟨gb164, 0, none⟩ = some (.slice none 0 0) := (blk_cell BK164.out 0).trans rfl; have hcz35_1 : w33.cell? ⟨gb164, 1, none⟩ = some (.slice none 0 0) := (blk_cell BK164.out 1).trans rfl; have hcz35_2 : w33.cell? ⟨gb164, 2, none⟩ = some (.string (⟨#[]⟩ : ByteArray)) := (blk_cell BK164.out 2).trans rfl; have hfz35_0 := blk_frozen BK164.out 0; have hfz35_1 := blk_frozen BK164.out 1; have hfz35_2 := blk_frozen BK164.out 2) | (go_at_call 15; (with_reducible refine (spec_lines.calls k3 _ _ ((rd_T35 ((rd_T30 l0 x14_1).f2) x54_3).f1) (⟨#[9]⟩ : ByteArray) t165 _ ?side1 ?side2 A27.out).mono ?_); (case side1 => exact Kd.C_below HR163_1.out (by repeat (first | (with_reducible first | exact HB.out | apply below_alloc | apply pw_below_drewN | apply below_drew1 | refine below_set ?_ GE159.out | refine below_set ?_ GE164.out) | exact HB.out))); (case side2 => exact HC163_1.out); rintro e w' ⟨rfl, ⟨nd, rfl⟩⟩; (try first | exact ⟨rfl, _, World.drewN_drewN _ _ _⟩ | exact ⟨rfl, _, Eq.trans (World.drewN_drewN _ _ _) (congrArg (World.drewN _) (Nat.add_assoc _ _ _))⟩)) | (go_at_call 16; (with_reducible refine (spec_words.calls k3 _ _ ((rd_T35 ((rd_T30 l0 x14_1).f2) x54_3).f0) a1 ((rd_T35 ((rd_T30 l0 x14_1).f2) x54_3).f2) t166 _ ?side1 ?side2 A29.out).mono ?_); (case side1 => exact Kd.C_below HR163_0.out (by repeat (first | (with_reducible first | exact HB.out | apply below_alloc | apply pw_below_drewN | apply below_drew1 | refine below_set ?_ GE159.out | refine below_set ?_ GE164.out) | exact HB.out))); (case side2 => exact HC163_0.out); rintro e w' ⟨rfl, ⟨nd, rfl⟩⟩; (try first | exact ⟨rfl, _, World.drewN_drewN _ _ _⟩ | exact ⟨rfl, _, Eq.trans (World.drewN_drewN _ _ _) (congrArg (World.drewN _) (Nat.add_assoc _ _ _))⟩))); try go_wp2_with (first | ((with_reducible refine gate_dst (N := 11) rfl ?_); refine box_event ?hg (N := 11) ?hd (cs := #[.slice none 0 0, .slice none 0 0, .string (⟨#[]⟩ : ByteArray)]) (t := 35) ?hr ?_; (case hd => rfl); (case hg => rfl); (case hr => first | (go_simp; done) | (go_simp; rfl)); intro gb164 hg w33 hbox hb; have n0_ := Aside0.mk (blk_below (g := gb159) (o := .cells #[.int .i64 ((rd_T30 l0 x14_1).f0), .slice A158_1 ((rd_T30 l0 x14_1).f1).length c158_1, .slice (some ad163) ((rd_T30 l0 x14_1).f2).length c158_2, .slice A158_3 ((rd_T30 l0 x14_1).f3).length c158_3, .string ((rd_T30 l0 x14_1).f4)] 30 (0, 0)) (by (with_reducible repeat (first | refine blk_drewN ?_ _ | refine blk_drew ?_ | refine blk_alloc ?_ _)); exact BK159.out) hb); have n1_ := Aside0.mk (below_step (by repeat (first | (with_reducible first | exact HB.out | apply below_alloc | apply pw_below_drewN | apply below_drew1 | refine below_set ?_ GE159.out) | exact HB.out)) hb); have n2_ := Aside0.mk (hbox); have n3_ := Aside0.mk ((by rw [hg]; exact (below_size (by repeat (first | (with_reducible first | exact HB.out | apply below_alloc | apply pw_below_drewN | apply below_drew1 | refine below_set ?_ GE159.out) | exact HB.out))) : w.heap.size ≤ gb164)); have n4_ := Aside0.mk ((by rw [hg]; exact (below_size (by repeat (first | (with_reducible first | exact HB.out | apply below_alloc | apply pw_below_drewN | apply below_drew1 | refine below_set ?_ GE159.out) | exact HB.out))) : w.heap.size ≤ gb164)); have n5_ := Aside0.mk ((by rw [hg]; exact Nat.ne_of_lt (blk_lt (g := gb159) (o := .cells #[.int .i64 ((rd_T30 l0 x14_1).f0), .slice A158_1 ((rd_T30 l0 x14_1).f1).length c158_1, .slice (some ad163) ((rd_T30 l0 x14_1).f2).length c158_2, .slice A158_3 ((rd_T30 l0 x14_1).f3).length c158_3, .string ((rd_T30 l0 x14_1).f4)] 30 (0, 0)) (by (with_reducible repeat (first | refine blk_drewN ?_ _ | refine blk_drew ?_ | refine blk_alloc ?_ _)); exact BK159.out)) : gb159 ≠ gb164)); have n6_ := Aside0.mk ((by rw [hg]; exact Nat.ne_of_gt (blk_lt (g := gb159) (o := .cells #[.int .i64 ((rd_T30 l0 x14_1).f0), .slice A158_1 ((rd_T30 l0 x14_1).f1).length c158_1, .slice (some ad163) ((rd_T30 l0 x14_1).f2).length c158_2, .slice A158_3 ((rd_T30 l0 x14_1).f3).length c158_3, .string ((rd_T30 l0 x14_1).f4)] 30 (0, 0)) (by (with_reducible repeat (first | refine blk_drewN ?_ _ | refine blk_drew ?_ | refine blk_alloc ?_ _)); exact BK159.out)) : gb164 ≠ gb159)); clear BK159; clear HB; have BK159 := n0_; have HB := n1_; have BK164 := n2_; have GW164 := n3_; have GE164 := n4_; have NB159_164 := n5_; have NB164_159 := n6_; clear n0_ n1_ n2_ n3_ n4_ n5_ n6_; clear hb hbox hg; have hnb34 := NB164_159.out; have hnc34 := NB159_164.out; have hcz35_0 : w33.cell? ⟨gb164, 0, none⟩ = some (.slice none 0 0) := (blk_cell BK164.out 0).trans rfl; have hcz35_1 : w33.cell? ⟨gb164, 1, none⟩ = some (.slice none 0 0) := (blk_cell BK164.out 1).trans rfl; have hcz35_2 : w33.cell? ⟨gb164, 2, none⟩ = some (.string (⟨#[]⟩ : ByteArray)) := (blk_cell BK164.out 2).trans rfl; have hfz35_0 := blk_frozen BK164.out 0; have hfz35_1 := blk_frozen BK164.out 1; have hfz35_2 := blk_frozen BK164.out 2) | (go_at_call 15; (with_reducible refine (spec_lines.calls k3 _ _ ((rd_T35 ((rd_T30 l0 x14_1).f2) x54_3).f1) (⟨#[9]⟩ : ByteArray) t165 _ ?side1 ?side2 A27.out).mono ?_); (case side1 => exact Kd.C_below HR163_1.out (by repeat (first | (with_reducible first | exact HB.out | apply below_alloc | apply pw_below_drewN | apply below_drew1 | refine below_set ?_ GE159.out | refine below_set ?_ GE164.out) | exact HB.out))); (case side2 => exact HC163_1.out); rintro e w' ⟨rfl, ⟨nd, rfl⟩⟩; (try first | exact ⟨rfl, _, World.drewN_drewN _ _ _⟩ | exact ⟨rfl, _, Eq.trans (World.drewN_drewN _ _ _) (congrArg (World.drewN _) (Nat.add_assoc _ _ _))⟩)) | (go_at_call 16; (with_reducible refine (spec_words.calls k3 _ _ ((rd_T35 ((rd_T30 l0 x14_1).f2) x54_3).f0) a1 ((rd_T35 ((rd_T30 l0 x14_1).f2) x54_3).f2) t166 _ ?side1 ?side2 A29.out).mono ?_); (case side1 => exact Kd.C_below HR163_0.out (by repeat (first | (with_reducible first | exact HB.out | apply below_alloc | apply pw_below_drewN | apply below_drew1 | refine below_set ?_ GE159.out | refine below_set ?_ GE164.out) | exact HB.out))); (case side2 => exact HC163_0.out); rintro e w' ⟨rfl, ⟨nd, rfl⟩⟩; (try first | exact ⟨rfl, _, World.drewN_drewN _ _ _⟩ | exact ⟨rfl, _, Eq.trans (World.drewN_drewN _ _ _) (congrArg (World.drewN _) (Nat.add_assoc _ _ _))⟩))))
                                            go_roundg k3
                                            case measure => have := HK1.out; have := HJ6.out; have := HK3.out; omega
                                            case rel => exact ⟨(x7_3 ++ (((t165 ++ (⟨#[9]⟩ : ByteArray)) ++ t166) ++ (⟨#[10]⟩ : ByteArray))), (wrap64 (x54_3 + 1)), (by first | rfl | (simp; done) | (simp [*]; done)), (by first | rfl | (simp; done) | (simp [*]; done)), H', ⟨by have := HK1.out; have := HJ6.out; have := HK3.out; omega⟩, ⟨by (with_reducible repeat (first | refine blk_drewN ?_ _ | refine blk_drew ?_ | refine blk_alloc ?_ _)); refine blk_far ?_ NB159_164.out _; (with_reducible repeat (first | refine blk_drewN ?_ _ | refine blk_drew ?_ | refine blk_alloc ?_ _)); refine blk_far ?_ NB159_164.out _; (with_reducible repeat (first | refine blk_drewN ?_ _ | refine blk_drew ?_ | refine blk_alloc ?_ _)); refine blk_far ?_ NB159_164.out _; (with_reducible repeat (first | refine blk_drewN ?_ _ | refine blk_drew ?_ | refine blk_alloc ?_ _)); exact BK159.out⟩, ⟨by repeat (first | (with_reducible first | exact HB.out | apply below_alloc | apply pw_below_drewN | apply below_drew1 | refine below_set ?_ GE159.out | refine below_set ?_ GE164.out) | exact HB.out)⟩⟩
                                          · rw [if_neg c32] at H
                                            exact absurd H (by simp)
                                        · rw [if_neg c31] at H
                                          exact absurd H (by simp)
                                      · rw [if_neg c30] at H
                                        exact absurd H (by simp)
                                    · rw [if_neg c28] at H
                                      exact absurd H (by simp)
                                  · rw [if_neg c26] at H
                                    exact absurd H (by simp)
                                · rw [if_neg c25] at H
                                  exact absurd H (by simp)
                              · rw [if_neg c24] at H
                                have c24b0 : decide (x54_3 < (((rd_T30 l0 x14_1).f2).length : Int)) = false := decide_eq_false c24
                                clear c24
                                obtain ⟨y167, hy167⟩ : ∃ y_ : List ByteArray, y_ = (([(⟨#[41]⟩ : ByteArray)] : List ByteArray)) := ⟨_, rfl⟩
                                replace H : ((spec_words.f k3 y167 (⟨#[]⟩ : ByteArray) ((rd_T30 l0 x14_1).f4)).bind fun t170 => (if t170.size + 1 ≤ 9223372036854775807 then (if x7_3.size + (t170 ++ (⟨#[10]⟩ : ByteArray)).size ≤ 9223372036854775807 then (spec_Write.l0 k3 a1 a2 (x7_3 ++ (t170 ++ (⟨#[10]⟩ : ByteArray))) l0 (l0.length : Int) (wrap64 (x14_1 + 1))) else (none)) else (none))) = some r := by first | (rw [hy167]; with_reducible exact H) | (have H2_ := (Option.bind_some _ _).symm.trans H; rw [hy167]; with_reducible exact H2_) | (have H2_ := (Option.bind_some _ _).symm.trans H; with_reducible exact H2_) | with_reducible exact H | (rw [hy167]; exact H) | exact H
                                have Ny167 := Aside0.mk hy167
                                clear hy167
                                replace H := Option.bind_eq_some_iff.mp H
                                obtain ⟨t170, A360, H⟩ := H
                                replace H : (if t170.size + 1 ≤ 9223372036854775807 then (if x7_3.size + (t170 ++ (⟨#[10]⟩ : ByteArray)).size ≤ 9223372036854775807 then (spec_Write.l0 k3 a1 a2 (x7_3 ++ (t170 ++ (⟨#[10]⟩ : ByteArray))) l0 (l0.length : Int) (wrap64 (x14_1 + 1))) else (none)) else (none)) = some r := H
                                have A36 := Aside0.mk A360
                                clear A360
                                by_cases c37 : t170.size + 1 ≤ 9223372036854775807
                                · rw [if_pos c37] at H
                                  have c37b0 := eq_true c37
                                  have c37b1 : decide (t170.size + 1 ≤ 9223372036854775807) = true := decide_eq_true c37
                                  try have c37b2 : (9223372036854775807 < t170.size + 1) = False := eq_false (Nat.not_lt.2 c37)
                                  by_cases c38 : x7_3.size + (t170 ++ (⟨#[10]⟩ : ByteArray)).size ≤ 9223372036854775807
                                  · rw [if_pos c38] at H
                                    have c38b0 := eq_true c38
                                    have c38b1 : decide (x7_3.size + (t170 ++ (⟨#[10]⟩ : ByteArray)).size ≤ 9223372036854775807) = true := decide_eq_true c38
                                    try have c38b2 : (9223372036854775807 < x7_3.size + (t170 ++ (⟨#[10]⟩ : ByteArray)).size) = False := eq_false (Nat.not_lt.2 c38)
                                    try have c38b3 : (9223372036854775807 < x7_3.size + (t170.size + 1)) = False := eq_false (Nat.not_lt.2 (by have h_ := c38; simp only [ByteArray.size_append] at h_; exact h_))
                                    have H' := Aside0.mk H
                                    clear H
                                    go_wp2_with (first | ((with_reducible refine gate_dst (N := 74) rfl ?_); refine Kd.R_lit Kd.string _ 9 ?hg (N := 74) ?hd (xs := ([(⟨#[41]⟩ : ByteArray)] : List ByteArray)) (inner := [.string (⟨#[41]⟩ : ByteArray)]) (ok := fun _ => True) (okp := fun _ => True) ?hr ?hp (fun _ hk => hk) trivial (Below.refl _ _) (Nat.le_refl _) (by simp) ?_; (case hd => rfl); (case hg => rfl); (case hr => first | (go_simp; done) | (go_simp; rfl)); (case hp => exact (Reps.one (show Kd.M Kd.string _ _ _ (⟨#[41]⟩ : ByteArray) [.string (⟨#[41]⟩ : ByteArray)] from rfl) (Reps.none _ _))); intro v168 w39 ho40 hb hg_ hnew_; clear hg_ hnew_; (first | rw [← Ny167.out] at ho40 | (simp only [Int.reduceToNat] at ho40; rw [← Ny167.out] at ho40)); have n0_ := Aside0.mk (Kd.R_lower ho40 (below_size (by repeat (first | (with_reducible first | exact HB.out | apply below_alloc | apply pw_below_drewN | apply below_drew1 | refine below_set ?_ GE159.out) | exact HB.out)))); have n1_ := Aside0.mk (blk_below (g := gb159) (o := .cells #[.int .i64 ((rd_T30 l0 x14_1).f0), .slice A158_1 ((rd_T30 l0 x14_1).f1).length c158_1, .slice A158_2 ((rd_T30 l0 x14_1).f2).length c158_2, .slice A158_3 ((rd_T30 l0 x14_1).f3).length c158_3, .string ((rd_T30 l0 x14_1).f4)] 30 (0, 0)) (by (with_reducible repeat (first | refine blk_drewN ?_ _ | refine blk_drew ?_ | refine blk_alloc ?_ _)); exact BK159.out) hb); have n2_ := Aside0.mk (below_step (by repeat (first | (with_reducible first | exact HB.out | apply below_alloc | apply pw_below_drewN | apply below_drew1 | refine below_set ?_ GE159.out) | exact HB.out)) hb); clear BK159; clear HB; have HO169 := n0_; have BK159 := n1_; have HB := n2_; clear n0_ n1_ n2_; clear hb ho40; have hcz41_0 : w39.cell? ⟨gb159, 0, none⟩ = some (.int .i64 ((rd_T30 l0 x14_1).f0)) := (blk_cell BK159.out 0).trans rfl; have hcz41_1 : w39.cell? ⟨gb159, 1, none⟩ = some (.slice A158_1 ((rd_T30 l0 x14_1).f1).length c158_1) := (blk_cell BK159.out 1).trans rfl; have hcz41_2 : w39.cell? ⟨gb159, 2, none⟩ = some (.slice A158_2 ((rd_T30 l0 x14_1).f2).length c158_2) := (blk_cell BK159.out 2).trans rfl; have hcz41_3 : w39.cell? ⟨gb159, 3, none⟩ = some (.slice A158_3 ((rd_T30 l0 x14_1).f3).length c158_3) := (blk_cell BK159.out 3).trans rfl; have hcz41_4 : w39.cell? ⟨gb159, 4, none⟩ = some (.string ((rd_T30 l0 x14_1).f4)) := (blk_cell BK159.out 4).trans rfl; have hfz41_0 := blk_frozen BK159.out 0; have hfz41_1 := blk_frozen BK159.out 1; have hfz41_2 := blk_frozen BK159.out 2; have hfz41_3 := blk_frozen BK159.out 3; have hfz41_4 := blk_frozen BK159.out 4; obtain ⟨Ao42, co42, eo42⟩ := Kd.R_slice HO169.out; subst eo42) | (go_at_call 16; (with_reducible refine (spec_words.calls k3 _ _ y167 (⟨#[]⟩ : ByteArray) ((rd_T30 l0 x14_1).f4) t170 _ ?side1 ?side2 A36.out).mono ?_); (case side1 => repeat (first | exact (Kd.R_reads' HO169.out).2.2 | (with_reducible refine Kd.C_alloc ?_ _) | (with_reducible refine Kd.C_drewN ?_ _) | (with_reducible refine Kd.C_drew ?_))); (case side2 => exact (Kd.R_reads' HO169.out).2.1); rintro e w' ⟨rfl, ⟨nd, rfl⟩⟩; (try first | exact ⟨rfl, _, World.drewN_drewN _ _ _⟩ | exact ⟨rfl, _, Eq.trans (World.drewN_drewN _ _ _) (congrArg (World.drewN _) (Nat.add_assoc _ _ _))⟩)))
                                    repeat (go_quiet (first | ((with_reducible refine gate_dst (N := 74) rfl ?_); refine Kd.R_lit Kd.string _ 9 ?hg (N := 74) ?hd (xs := ([(⟨#[41]⟩ : ByteArray)] : List ByteArray)) (inner := [.string (⟨#[41]⟩ : ByteArray)]) (ok := fun _ => True) (okp := fun _ => True) ?hr ?hp (fun _ hk => hk) trivial (Below.refl _ _) (Nat.le_refl _) (by simp) ?_; (case hd => rfl); (case hg => rfl); (case hr => first | (go_simp; done) | (go_simp; rfl)); (case hp => exact (Reps.one (show Kd.M Kd.string _ _ _ (⟨#[41]⟩ : ByteArray) [.string (⟨#[41]⟩ : ByteArray)] from rfl) (Reps.none _ _))); intro v168 w39 ho40 hb hg_ hnew_; clear hg_ hnew_; (first | rw [← Ny167.out] at ho40 | (simp only [Int.reduceToNat] at ho40; rw [← Ny167.out] at ho40)); have n0_ := Aside0.mk (Kd.R_lower ho40 (below_size (by repeat (first | (with_reducible first | exact HB.out | apply below_alloc | apply pw_below_drewN | apply below_drew1 | refine below_set ?_ GE159.out) | exact HB.out)))); have n1_ := Aside0.mk (blk_below (g := gb159) (o := .cells #[.int .i64 ((rd_T30 l0 x14_1).f0), .slice A158_1 ((rd_T30 l0 x14_1).f1).length c158_1, .slice A158_2 ((rd_T30 l0 x14_1).f2).length c158_2, .slice A158_3 ((rd_T30 l0 x14_1).f3).length c158_3, .string ((rd_T30 l0 x14_1).f4)] 30 (0, 0)) (by (with_reducible repeat (first | refine blk_drewN ?_ _ | refine blk_drew ?_ | refine blk_alloc ?_ _)); exact BK159.out) hb); have n2_ := Aside0.mk (below_step (by repeat (first | (with_reducible first | exact HB.out | apply below_alloc | apply pw_below_drewN | apply below_drew1 | refine below_set ?_ GE159.out) | exact HB.out)) hb); clear BK159; clear HB; have HO169 := n0_; have BK159 := n1_; have HB := n2_; clear n0_ n1_ n2_; clear hb ho40; have hcz41_0 : w39.cell? ⟨gb159, 0, none⟩ = some (.int .i64 ((rd_T30 l0 x14_1).f0)) := (blk_cell BK159.out 0).trans rfl; have hcz41_1 : w39.cell? ⟨gb159, 1, none⟩ = some (.slice A158_1 ((rd_T30 l0 x14_1).f1).length c158_1) := (blk_cell BK159.out 1).trans rfl; have hcz41_2 : w39.cell? ⟨gb159, 2, none⟩ = some (.slice A158_2 ((rd_T30 l0 x14_1).f2).length c158_2) := (blk_cell BK159.out 2).trans rfl; have hcz41_3 : w39.cell? ⟨gb159, 3, none⟩ = some (.slice A158_3 ((rd_T30 l0 x14_1).f3).length c158_3) := (blk_cell BK159.out 3).trans rfl; have hcz41_4 : w39.cell? ⟨gb159, 4, none⟩ = some (.string ((rd_T30 l0 x14_1).f4)) := (blk_cell BK159.out 4).trans rfl; have hfz41_0 := blk_frozen BK159.out 0; have hfz41_1 := blk_frozen BK159.out 1; have hfz41_2 := blk_frozen BK159.out 2; have hfz41_3 := blk_frozen BK159.out 3; have hfz41_4 := blk_frozen BK159.out 4; obtain ⟨Ao42, co42, eo42⟩ := Kd.R_slice HO169.out; subst eo42) | (go_at_call 16; (with_reducible refine (spec_words.calls k3 _ _ y167 (⟨#[]⟩ : ByteArray) ((rd_T30 l0 x14_1).f4) t170 _ ?side1 ?side2 A36.out).mono ?_); (case side1 => repeat (first | exact (Kd.R_reads' HO169.out).2.2 | (with_reducible refine Kd.C_alloc ?_ _) | (with_reducible refine Kd.C_drewN ?_ _) | (with_reducible refine Kd.C_drew ?_))); (case side2 => exact (Kd.R_reads' HO169.out).2.1); rintro e w' ⟨rfl, ⟨nd, rfl⟩⟩; (try first | exact ⟨rfl, _, World.drewN_drewN _ _ _⟩ | exact ⟨rfl, _, Eq.trans (World.drewN_drewN _ _ _) (congrArg (World.drewN _) (Nat.add_assoc _ _ _))⟩))); try go_wp2_with (first | ((with_reducible refine gate_dst (N := 74) rfl ?_); refine Kd.R_lit Kd.string _ 9 ?hg (N := 74) ?hd (xs := ([(⟨#[41]⟩ : ByteArray)] : List ByteArray)) (inner := [.string (⟨#[41]⟩ : ByteArray)]) (ok := fun _ => True) (okp := fun _ => True) ?hr ?hp (fun _ hk => hk) trivial (Below.refl _ _) (Nat.le_refl _) (by simp) ?_; (case hd => rfl); (case hg => rfl); (case hr => first | (go_simp; done) | (go_simp; rfl)); (case hp => exact (Reps.one (show Kd.M Kd.string _ _ _ (⟨#[41]⟩ : ByteArray) [.string (⟨#[41]⟩ : ByteArray)] from rfl) (Reps.none _ _))); intro v168 w39 ho40 hb hg_ hnew_; clear hg_ hnew_; (first | rw [← Ny167.out] at ho40 | (simp only [Int.reduceToNat] at ho40; rw [← Ny167.out] at ho40)); have n0_ := Aside0.mk (Kd.R_lower ho40 (below_size (by repeat (first | (with_reducible first | exact HB.out | apply below_alloc | apply pw_below_drewN | apply below_drew1 | refine below_set ?_ GE159.out) | exact HB.out)))); have n1_ := Aside0.mk (blk_below (g := gb159) (o := .cells #[.int .i64 ((rd_T30 l0 x14_1).f0), .slice A158_1 ((rd_T30 l0 x14_1).f1).length c158_1, .slice A158_2 ((rd_T30 l0 x14_1).f2).length c158_2, .slice A158_3 ((rd_T30 l0 x14_1).f3).length c158_3, .string ((rd_T30 l0 x14_1).f4)] 30 (0, 0)) (by (with_reducible repeat (first | refine blk_drewN ?_ _ | refine blk_drew ?_ | refine blk_alloc ?_ _)); exact BK159.out) hb); have n2_ := Aside0.mk (below_step (by repeat (first | (with_reducible first | exact HB.out | apply below_alloc | apply pw_below_drewN | apply below_drew1 | refine below_set ?_ GE159.out) | exact HB.out)) hb); clear BK159; clear HB; have HO169 := n0_; have BK159 := n1_; have HB := n2_; clear n0_ n1_ n2_; clear hb ho40; have hcz41_0 : w39.cell? ⟨gb159, 0, none⟩ = some (.int .i64 ((rd_T30 l0 x14_1).f0)) := (blk_cell BK159.out 0).trans rfl; have hcz41_1 : w39.cell? ⟨gb159, 1, none⟩ = some (.slice A158_1 ((rd_T30 l0 x14_1).f1).length c158_1) := (blk_cell BK159.out 1).trans rfl; have hcz41_2 : w39.cell? ⟨gb159, 2, none⟩ = some (.slice A158_2 ((rd_T30 l0 x14_1).f2).length c158_2) := (blk_cell BK159.out 2).trans rfl; have hcz41_3 : w39.cell? ⟨gb159, 3, none⟩ = some (.slice A158_3 ((rd_T30 l0 x14_1).f3).length c158_3) := (blk_cell BK159.out 3).trans rfl; have hcz41_4 : w39.cell? ⟨gb159, 4, none⟩ = some (.string ((rd_T30 l0 x14_1).f4)) := (blk_cell BK159.out 4).trans rfl; have hfz41_0 := blk_frozen BK159.out 0; have hfz41_1 := blk_frozen BK159.out 1; have hfz41_2 := blk_frozen BK159.out 2; have hfz41_3 := blk_frozen BK159.out 3; have hfz41_4 := blk_frozen BK159.out 4; obtain ⟨Ao42, co42, eo42⟩ := Kd.R_slice HO169.out; subst eo42) | (go_at_call 16; (with_reducible refine (spec_words.calls k3 _ _ y167 (⟨#[]⟩ : ByteArray) ((rd_T30 l0 x14_1).f4) t170 _ ?side1 ?side2 A36.out).mono ?_); (case side1 => repeat (first | exact (Kd.R_reads' HO169.out).2.2 | (with_reducible refine Kd.C_alloc ?_ _) | (with_reducible refine Kd.C_drewN ?_ _) | (with_reducible refine Kd.C_drew ?_))); (case side2 => exact (Kd.R_reads' HO169.out).2.1); rintro e w' ⟨rfl, ⟨nd, rfl⟩⟩; (try first | exact ⟨rfl, _, World.drewN_drewN _ _ _⟩ | exact ⟨rfl, _, Eq.trans (World.drewN_drewN _ _ _) (congrArg (World.drewN _) (Nat.add_assoc _ _ _))⟩))))
                                    go_roundg k3
                                    case measure => have := HK1.out; have := HJ6.out; have := HK3.out; omega
                                    case rel => exact ⟨(x7_3 ++ (t170 ++ (⟨#[10]⟩ : ByteArray))), (wrap64 (x14_1 + 1)), (by first | rfl | (simp; done) | (simp [*]; done)), (by first | rfl | (simp; done) | (simp [*]; done)), H', ⟨by have := HK1.out; have := HJ6.out; have := HK3.out; omega⟩, ⟨by repeat (first | (with_reducible first | exact HB.out | apply below_alloc | apply pw_below_drewN | apply below_drew1 | refine below_set ?_ GE159.out) | exact HB.out)⟩⟩
                                  · rw [if_neg c38] at H
                                    exact absurd H (by simp)
                                · rw [if_neg c37] at H
                                  exact absurd H (by simp)
                        · rw [if_neg c22] at H
                          exact absurd H (by simp)
                      · rw [if_neg c21] at H
                        exact absurd H (by simp)
                    · rw [if_neg c19] at H
                      have c19b0 : (((rd_T30 l0 x14_1).f0) == 1) = false := beq_eq_false_iff_ne.mpr c19
                      have c19b1 : (((rd_T30 l0 x14_1).f0) != 1) = true := bne_iff_ne.mpr c19
                      have H' := Aside0.mk H
                      clear H
                      have hcz43_0 : wc.cell? ⟨gb159, 0, none⟩ = some (.int .i64 ((rd_T30 l0 x14_1).f0)) := (blk_cell BK159.out 0).trans rfl
                      have hcz43_1 : wc.cell? ⟨gb159, 1, none⟩ = some (.slice A158_1 ((rd_T30 l0 x14_1).f1).length c158_1) := (blk_cell BK159.out 1).trans rfl
                      have hcz43_2 : wc.cell? ⟨gb159, 2, none⟩ = some (.slice A158_2 ((rd_T30 l0 x14_1).f2).length c158_2) := (blk_cell BK159.out 2).trans rfl
                      have hcz43_3 : wc.cell? ⟨gb159, 3, none⟩ = some (.slice A158_3 ((rd_T30 l0 x14_1).f3).length c158_3) := (blk_cell BK159.out 3).trans rfl
                      have hcz43_4 : wc.cell? ⟨gb159, 4, none⟩ = some (.string ((rd_T30 l0 x14_1).f4)) := (blk_cell BK159.out 4).trans rfl
                      have hfz43_0 := blk_frozen BK159.out 0
                      have hfz43_1 := blk_frozen BK159.out 1
                      have hfz43_2 := blk_frozen BK159.out 2
                      have hfz43_3 := blk_frozen BK159.out 3
                      have hfz43_4 := blk_frozen BK159.out 4
                      go_wp2_with (first | (go_at_call 15; (with_reducible refine (spec_lines.calls kj6 _ _ ((rd_T30 l0 x14_1).f3) (⟨#[]⟩ : ByteArray) t160 _ ?side1 ?side2 A12.out).mono ?_); (case side1 => repeat (first | exact (Kd.C_below HR158_3.out HB.out) | (with_reducible refine Kd.C_alloc ?_ _) | (with_reducible refine Kd.C_drewN ?_ _) | (with_reducible refine Kd.C_drew ?_))); (case side2 => exact HC158_3.out); rintro e w' ⟨rfl, ⟨nd, rfl⟩⟩; (try first | exact ⟨rfl, _, World.drewN_drewN _ _ _⟩ | exact ⟨rfl, _, Eq.trans (World.drewN_drewN _ _ _) (congrArg (World.drewN _) (Nat.add_assoc _ _ _))⟩)))
                      repeat (go_quiet (first | (go_at_call 15; (with_reducible refine (spec_lines.calls kj6 _ _ ((rd_T30 l0 x14_1).f3) (⟨#[]⟩ : ByteArray) t160 _ ?side1 ?side2 A12.out).mono ?_); (case side1 => repeat (first | exact (Kd.C_below HR158_3.out HB.out) | (with_reducible refine Kd.C_alloc ?_ _) | (with_reducible refine Kd.C_drewN ?_ _) | (with_reducible refine Kd.C_drew ?_))); (case side2 => exact HC158_3.out); rintro e w' ⟨rfl, ⟨nd, rfl⟩⟩; (try first | exact ⟨rfl, _, World.drewN_drewN _ _ _⟩ | exact ⟨rfl, _, Eq.trans (World.drewN_drewN _ _ _) (congrArg (World.drewN _) (Nat.add_assoc _ _ _))⟩))); try go_wp2_with (first | (go_at_call 15; (with_reducible refine (spec_lines.calls kj6 _ _ ((rd_T30 l0 x14_1).f3) (⟨#[]⟩ : ByteArray) t160 _ ?side1 ?side2 A12.out).mono ?_); (case side1 => repeat (first | exact (Kd.C_below HR158_3.out HB.out) | (with_reducible refine Kd.C_alloc ?_ _) | (with_reducible refine Kd.C_drewN ?_ _) | (with_reducible refine Kd.C_drew ?_))); (case side2 => exact HC158_3.out); rintro e w' ⟨rfl, ⟨nd, rfl⟩⟩; (try first | exact ⟨rfl, _, World.drewN_drewN _ _ _⟩ | exact ⟨rfl, _, Eq.trans (World.drewN_drewN _ _ _) (congrArg (World.drewN _) (Nat.add_assoc _ _ _))⟩))))
                      go_roundg kj6
                      case measure => have := HK1.out; have := HJ6.out; omega
                      case rel => exact ⟨(x7_6 ++ t160), (wrap64 (x14_1 + 1)), (by first | rfl | (simp; done) | (simp [*]; done)), (by first | rfl | (simp; done) | (simp [*]; done)), H', ⟨by have := HK1.out; have := HJ6.out; omega⟩, ⟨by repeat (first | (with_reducible first | exact HB.out | apply below_alloc | apply pw_below_drewN | apply below_drew1 | refine below_set ?_ GE159.out) | exact HB.out)⟩⟩
                · rw [if_neg c13] at H
                  exact absurd H (by simp)
          · rw [if_neg c6] at H
            exact absurd H (by simp)
        · rw [if_neg c5] at H
          exact absurd H (by simp)
      · rw [if_neg c4] at H
        have c4b0 : decide (x14_1 < (l0.length : Int)) = false := decide_eq_false c4
        clear c4
        obtain rfl := Option.some.inj H
        go_wp2
        repeat (go_quiet (fail); try go_wp2)
        go_ret
        exact ⟨by first | rfl | (simp [errW_none, errW_some] <;> rfl) | (simp [*, errW_none, errW_some] <;> rfl), by repeat (first | (with_reducible first | exact HB.out | apply below_alloc | apply pw_below_drewN | apply below_drew1) | exact HB.out)⟩

end Go.Proofs.YtbifcpokkfiagaaDoor.PFm
