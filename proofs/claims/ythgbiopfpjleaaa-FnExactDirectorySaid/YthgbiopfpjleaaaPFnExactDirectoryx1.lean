-- PRINTED BY print.sh 35421559b90ae4d0a3588c463048766b98c2df88dd9212a6774a882060cdf62d: not written by this session
import Derived.Test.YthgbiopfpjleaaaPFnExactDirectoryx0
namespace Go.Proofs.Ythgbiopfpjleaaa.PFnExactDirectory
open Go.RowKit Go.Proofs.YthgbiopfpjleaaaW.PrintWords Go.Proofs.YthgbiopfpjleaaaW.PrintLast Go.Proofs.YthgbiopfpjleaaaW.PrintMore
attribute [local go_sem] max2_int min2_int max_two min_two max_three min_three max_four min_four   -- for this text's walks alone
set_option linter.unusedVariables false
set_option linter.unusedSimpArgs false

/-! ### stringslite_HasPrefix: function 23 -/
def stringslite_HasPrefix.f (a0 : ByteArray) (a1 : ByteArray) : Option (Bool) := if (a0.size : Int) ≥ (a1.size : Int) then (if 0 ≤ (a1.size : Int) then (if (a1.size : Int) ≤ (a0.size : Int) then (some ((a0.extract 0 ((a1.size : Int) : Int).toNat).toList == a1.toList)) else (none)) else (none)) else (some false)
set_option maxHeartbeats 8000000 in
set_option maxRecDepth 100000 in
theorem stringslite_HasPrefix.calls (a0 : ByteArray) (a1 : ByteArray) (r : Bool) (w : World) (h : stringslite_HasPrefix.f a0 a1 = some r) :
    Calls Try.prog 23 #[.string a0, .string a1] w fun e w' => e = .returned (.bool r) ∧ Drawn0 w w' := by
  have H : (if (a0.size : Int) ≥ (a1.size : Int) then (if 0 ≤ (a1.size : Int) then (if (a1.size : Int) ≤ (a0.size : Int) then (some ((a0.extract 0 ((a1.size : Int) : Int).toNat).toList == a1.toList)) else (none)) else (none)) else (some false)) = some r := h
  clear h
  by_cases c3 : (a0.size : Int) ≥ (a1.size : Int)
  · rw [if_pos c3] at H
    have c3b0 : decide ((a1.size : Int) ≤ (a0.size : Int)) = true := decide_eq_true c3
    have c3b1 : decide (a1.size ≤ a0.size) = true := decide_eq_true (Int.ofNat_le.mp c3)
    clear c3
    by_cases c4 : 0 ≤ (a1.size : Int)
    · rw [if_pos c4] at H
      have c4b0 := eq_true c4
      have c4b1 : decide (0 ≤ (a1.size : Int)) = true := decide_eq_true c4
      clear c4
      by_cases c5 : (a1.size : Int) ≤ (a0.size : Int)
      · rw [if_pos c5] at H
        have c5b0 := eq_true c5
        have c5b1 : decide ((a1.size : Int) ≤ (a0.size : Int)) = true := decide_eq_true c5
        clear c5
        obtain rfl := Option.some.inj H
        go_enter Try.func23, Try.ntmps23
        go_wp2
        go_ret
        exact ⟨by first | rfl | (simp; done) | (simp [*]; done), by repeat (first | exact Drawn0.refl _ | apply Drawn0.step)⟩
      · rw [if_neg c5] at H
        exact absurd H (by simp)
    · rw [if_neg c4] at H
      exact absurd H (by simp)
  · rw [if_neg c3] at H
    have c3b0 : decide ((a1.size : Int) ≤ (a0.size : Int)) = false := decide_eq_false c3
    have c3b1 : decide (a1.size ≤ a0.size) = false := decide_eq_false (fun h => c3 (Int.ofNat_le.mpr h))
    clear c3
    obtain rfl := Option.some.inj H
    go_enter Try.func23, Try.ntmps23
    go_wp2
    go_ret
    exact ⟨by first | rfl | (simp; done) | (simp [*]; done), by repeat (first | exact Drawn0.refl _ | apply Drawn0.step)⟩

/-! ### strings_HasPrefix: function 21 -/
def strings_HasPrefix.f (a0 : ByteArray) (a1 : ByteArray) : Option (Bool) := (stringslite_HasPrefix.f a0 a1).bind fun t101 => (some t101)
set_option maxHeartbeats 8000000 in
set_option maxRecDepth 100000 in
theorem strings_HasPrefix.calls (a0 : ByteArray) (a1 : ByteArray) (r : Bool) (w : World) (h : strings_HasPrefix.f a0 a1 = some r) :
    Calls Try.prog 21 #[.string a0, .string a1] w fun e w' => e = .returned (.bool r) ∧ Drawn0 w w' := by
  have H : ((stringslite_HasPrefix.f a0 a1).bind fun t101 => (some t101)) = some r := h
  clear h
  replace H := Option.bind_eq_some_iff.mp H
  obtain ⟨t101, A30, H⟩ := H
  replace H : (some t101) = some r := H
  have A3 := Aside0.mk A30
  clear A30
  obtain rfl := Option.some.inj H
  go_enter Try.func21, Try.ntmps21
  go_wp2_with (first | ((with_reducible refine gate_callee (f := 23) rfl ?_); refine goesL_ (some 7) rfl rfl Try.func23 (by kernel_rfl) rfl #[.string a0, .string a1] rfl (by (try simp only [List.map_toArray, List.map_cons, List.map_nil]); first | done | rfl | (simp only [List.length_drop, List.length_take]; rfl)) ?_; (with_reducible refine (stringslite_HasPrefix.calls a0 a1 t101 _ A3.out).mono ?_); rintro e w' ⟨rfl, ⟨nd, rfl⟩⟩; refine ⟨_, rfl, ?_⟩))
  go_ret
  exact ⟨by first | rfl | (simp; done) | (simp [*]; done), by repeat (first | exact Drawn0.refl _ | apply Drawn0.step)⟩

/-! ### modfile_IsDirectoryPath: function 14 -/
def modfile_IsDirectoryPath.f (a0 : ByteArray) : Option (Bool) := if a0.toList = ([46] : List UInt8) then (some true) else ((strings_HasPrefix.f a0 (⟨#[46, 47]⟩ : ByteArray)).bind fun t102 => (if t102 = true then (some true) else ((strings_HasPrefix.f a0 (⟨#[46, 92]⟩ : ByteArray)).bind fun t103 => (if t103 = true then (some true) else (if a0.toList = ([46, 46] : List UInt8) then (some true) else ((strings_HasPrefix.f a0 (⟨#[46, 46, 47]⟩ : ByteArray)).bind fun t104 => (if t104 = true then (some true) else ((strings_HasPrefix.f a0 (⟨#[46, 46, 92]⟩ : ByteArray)).bind fun t105 => (if t105 = true then (some true) else ((strings_HasPrefix.f a0 (⟨#[47]⟩ : ByteArray)).bind fun t106 => (if t106 = true then (some true) else ((strings_HasPrefix.f a0 (⟨#[92]⟩ : ByteArray)).bind fun t107 => (if t107 = true then (some true) else (if (a0.size : Int) ≥ 2 then (if 0 < (a0.size : Int) then (if 65 ≤ (bt a0 0) then (if (bt a0 0) ≤ 90 then (if 1 < (a0.size : Int) then (some ((bt a0 1) == 58)) else (none)) else (if 97 ≤ (bt a0 0) then (if (bt a0 0) ≤ 122 then (if 1 < (a0.size : Int) then (some ((bt a0 1) == 58)) else (none)) else (some false)) else (some false))) else (if 97 ≤ (bt a0 0) then (if (bt a0 0) ≤ 122 then (if 1 < (a0.size : Int) then (some ((bt a0 1) == 58)) else (none)) else (some false)) else (some false))) else (none)) else (some false)))))))))))))))
set_option maxHeartbeats 8000000 in
set_option maxRecDepth 100000 in
theorem modfile_IsDirectoryPath.calls (a0 : ByteArray) (r : Bool) (w : World) (h : modfile_IsDirectoryPath.f a0 = some r) :
    Calls Try.prog 14 #[.string a0] w fun e w' => e = .returned (.bool r) ∧ Drawn0 w w' := by
  have H : (if a0.toList = ([46] : List UInt8) then (some true) else ((strings_HasPrefix.f a0 (⟨#[46, 47]⟩ : ByteArray)).bind fun t102 => (if t102 = true then (some true) else ((strings_HasPrefix.f a0 (⟨#[46, 92]⟩ : ByteArray)).bind fun t103 => (if t103 = true then (some true) else (if a0.toList = ([46, 46] : List UInt8) then (some true) else ((strings_HasPrefix.f a0 (⟨#[46, 46, 47]⟩ : ByteArray)).bind fun t104 => (if t104 = true then (some true) else ((strings_HasPrefix.f a0 (⟨#[46, 46, 92]⟩ : ByteArray)).bind fun t105 => (if t105 = true then (some true) else ((strings_HasPrefix.f a0 (⟨#[47]⟩ : ByteArray)).bind fun t106 => (if t106 = true then (some true) else ((strings_HasPrefix.f a0 (⟨#[92]⟩ : ByteArray)).bind fun t107 => (if t107 = true then (some true) else (if (a0.size : Int) ≥ 2 then (if 0 < (a0.size : Int) then (if 65 ≤ (bt a0 0) then (if (bt a0 0) ≤ 90 then (if 1 < (a0.size : Int) then (some ((bt a0 1) == 58)) else (none)) else (if 97 ≤ (bt a0 0) then (if (bt a0 0) ≤ 122 then (if 1 < (a0.size : Int) then (some ((bt a0 1) == 58)) else (none)) else (some false)) else (some false))) else (if 97 ≤ (bt a0 0) then (if (bt a0 0) ≤ 122 then (if 1 < (a0.size : Int) then (some ((bt a0 1) == 58)) else (none)) else (some false)) else (some false))) else (none)) else (some false)))))))))))))))) = some r := h
  clear h
  by_cases c2 : a0.toList = ([46] : List UInt8)
  · rw [if_pos c2] at H
    have c2b0 : (a0.toList == ([46] : List UInt8)) = true := beq_iff_eq.mpr c2
    have c2b1 : (a0.toList != ([46] : List UInt8)) = false := bne_eq_false_iff_eq.mpr c2
    clear c2
    obtain rfl := Option.some.inj H
    go_enter Try.func14, Try.ntmps14
    go_wp2
    go_ret
    exact ⟨by first | rfl | (simp; done) | (simp [*]; done), by repeat (first | exact Drawn0.refl _ | apply Drawn0.step)⟩
  · rw [if_neg c2] at H
    have c2b0 : (a0.toList == ([46] : List UInt8)) = false := beq_eq_false_iff_ne.mpr c2
    have c2b1 : (a0.toList != ([46] : List UInt8)) = true := bne_iff_ne.mpr c2
    replace H := Option.bind_eq_some_iff.mp H
    obtain ⟨t102, A30, H⟩ := H
    replace H : (if t102 = true then (some true) else ((strings_HasPrefix.f a0 (⟨#[46, 92]⟩ : ByteArray)).bind fun t103 => (if t103 = true then (some true) else (if a0.toList = ([46, 46] : List UInt8) then (some true) else ((strings_HasPrefix.f a0 (⟨#[46, 46, 47]⟩ : ByteArray)).bind fun t104 => (if t104 = true then (some true) else ((strings_HasPrefix.f a0 (⟨#[46, 46, 92]⟩ : ByteArray)).bind fun t105 => (if t105 = true then (some true) else ((strings_HasPrefix.f a0 (⟨#[47]⟩ : ByteArray)).bind fun t106 => (if t106 = true then (some true) else ((strings_HasPrefix.f a0 (⟨#[92]⟩ : ByteArray)).bind fun t107 => (if t107 = true then (some true) else (if (a0.size : Int) ≥ 2 then (if 0 < (a0.size : Int) then (if 65 ≤ (bt a0 0) then (if (bt a0 0) ≤ 90 then (if 1 < (a0.size : Int) then (some ((bt a0 1) == 58)) else (none)) else (if 97 ≤ (bt a0 0) then (if (bt a0 0) ≤ 122 then (if 1 < (a0.size : Int) then (some ((bt a0 1) == 58)) else (none)) else (some false)) else (some false))) else (if 97 ≤ (bt a0 0) then (if (bt a0 0) ≤ 122 then (if 1 < (a0.size : Int) then (some ((bt a0 1) == 58)) else (none)) else (some false)) else (some false))) else (none)) else (some false)))))))))))))) = some r := H
    have A3 := Aside0.mk A30
    clear A30
    by_cases c4 : t102 = true
    · subst c4
      have H1 : (some true) = some r := by rw [if_pos rfl] at H; exact H
      clear H
      have H := H1
      clear H1
      obtain rfl := Option.some.inj H
      go_enter Try.func14, Try.ntmps14
      go_wp2_with (first | (go_at_call 21; (with_reducible refine (strings_HasPrefix.calls a0 (⟨#[46, 47]⟩ : ByteArray) true _ A3.out).mono ?_); rintro e w' ⟨rfl, ⟨nd, rfl⟩⟩))
      go_ret
      exact ⟨by first | rfl | (simp; done) | (simp [*]; done), by repeat (first | exact Drawn0.refl _ | apply Drawn0.step)⟩
    · replace c4 := Bool.eq_false_iff.mpr c4
      subst c4
      have H1 : ((strings_HasPrefix.f a0 (⟨#[46, 92]⟩ : ByteArray)).bind fun t103 => (if t103 = true then (some true) else (if a0.toList = ([46, 46] : List UInt8) then (some true) else ((strings_HasPrefix.f a0 (⟨#[46, 46, 47]⟩ : ByteArray)).bind fun t104 => (if t104 = true then (some true) else ((strings_HasPrefix.f a0 (⟨#[46, 46, 92]⟩ : ByteArray)).bind fun t105 => (if t105 = true then (some true) else ((strings_HasPrefix.f a0 (⟨#[47]⟩ : ByteArray)).bind fun t106 => (if t106 = true then (some true) else ((strings_HasPrefix.f a0 (⟨#[92]⟩ : ByteArray)).bind fun t107 => (if t107 = true then (some true) else (if (a0.size : Int) ≥ 2 then (if 0 < (a0.size : Int) then (if 65 ≤ (bt a0 0) then (if (bt a0 0) ≤ 90 then (if 1 < (a0.size : Int) then (some ((bt a0 1) == 58)) else (none)) else (if 97 ≤ (bt a0 0) then (if (bt a0 0) ≤ 122 then (if 1 < (a0.size : Int) then (some ((bt a0 1) == 58)) else (none)) else (some false)) else (some false))) else (if 97 ≤ (bt a0 0) then (if (bt a0 0) ≤ 122 then (if 1 < (a0.size : Int) then (some ((bt a0 1) == 58)) else (none)) else (some false)) else (some false))) else (none)) else (some false))))))))))))) = some r := by rw [if_neg (show ¬ (false = true) by decide)] at H; exact H
      clear H
      have H := H1
      clear H1
      replace H := Option.bind_eq_some_iff.mp H
      obtain ⟨t103, A50, H⟩ := H
      replace H : (if t103 = true then (some true) else (if a0.toList = ([46, 46] : List UInt8) then (some true) else ((strings_HasPrefix.f a0 (⟨#[46, 46, 47]⟩ : ByteArray)).bind fun t104 => (if t104 = true then (some true) else ((strings_HasPrefix.f a0 (⟨#[46, 46, 92]⟩ : ByteArray)).bind fun t105 => (if t105 = true then (some true) else ((strings_HasPrefix.f a0 (⟨#[47]⟩ : ByteArray)).bind fun t106 => (if t106 = true then (some true) else ((strings_HasPrefix.f a0 (⟨#[92]⟩ : ByteArray)).bind fun t107 => (if t107 = true then (some true) else (if (a0.size : Int) ≥ 2 then (if 0 < (a0.size : Int) then (if 65 ≤ (bt a0 0) then (if (bt a0 0) ≤ 90 then (if 1 < (a0.size : Int) then (some ((bt a0 1) == 58)) else (none)) else (if 97 ≤ (bt a0 0) then (if (bt a0 0) ≤ 122 then (if 1 < (a0.size : Int) then (some ((bt a0 1) == 58)) else (none)) else (some false)) else (some false))) else (if 97 ≤ (bt a0 0) then (if (bt a0 0) ≤ 122 then (if 1 < (a0.size : Int) then (some ((bt a0 1) == 58)) else (none)) else (some false)) else (some false))) else (none)) else (some false)))))))))))) = some r := H
      have A5 := Aside0.mk A50
      clear A50
      by_cases c6 : t103 = true
      · subst c6
        have H1 : (some true) = some r := by rw [if_pos rfl] at H; exact H
        clear H
        have H := H1
        clear H1
        obtain rfl := Option.some.inj H
        go_enter Try.func14, Try.ntmps14
        go_wp2_with (first | (go_at_call 21; (with_reducible refine (strings_HasPrefix.calls a0 (⟨#[46, 47]⟩ : ByteArray) false _ A3.out).mono ?_); rintro e w' ⟨rfl, ⟨nd, rfl⟩⟩) | (go_at_call 21; (with_reducible refine (strings_HasPrefix.calls a0 (⟨#[46, 92]⟩ : ByteArray) true _ A5.out).mono ?_); rintro e w' ⟨rfl, ⟨nd, rfl⟩⟩))
        go_ret
        exact ⟨by first | rfl | (simp; done) | (simp [*]; done), by repeat (first | exact Drawn0.refl _ | apply Drawn0.step)⟩
      · replace c6 := Bool.eq_false_iff.mpr c6
        subst c6
        have H1 : (if a0.toList = ([46, 46] : List UInt8) then (some true) else ((strings_HasPrefix.f a0 (⟨#[46, 46, 47]⟩ : ByteArray)).bind fun t104 => (if t104 = true then (some true) else ((strings_HasPrefix.f a0 (⟨#[46, 46, 92]⟩ : ByteArray)).bind fun t105 => (if t105 = true then (some true) else ((strings_HasPrefix.f a0 (⟨#[47]⟩ : ByteArray)).bind fun t106 => (if t106 = true then (some true) else ((strings_HasPrefix.f a0 (⟨#[92]⟩ : ByteArray)).bind fun t107 => (if t107 = true then (some true) else (if (a0.size : Int) ≥ 2 then (if 0 < (a0.size : Int) then (if 65 ≤ (bt a0 0) then (if (bt a0 0) ≤ 90 then (if 1 < (a0.size : Int) then (some ((bt a0 1) == 58)) else (none)) else (if 97 ≤ (bt a0 0) then (if (bt a0 0) ≤ 122 then (if 1 < (a0.size : Int) then (some ((bt a0 1) == 58)) else (none)) else (some false)) else (some false))) else (if 97 ≤ (bt a0 0) then (if (bt a0 0) ≤ 122 then (if 1 < (a0.size : Int) then (some ((bt a0 1) == 58)) else (none)) else (some false)) else (some false))) else (none)) else (some false))))))))))) = some r := by rw [if_neg (show ¬ (false = true) by decide)] at H; exact H
        clear H
        have H := H1
        clear H1
        by_cases c7 : a0.toList = ([46, 46] : List UInt8)
        · rw [if_pos c7] at H
          have c7b0 : (a0.toList == ([46, 46] : List UInt8)) = true := beq_iff_eq.mpr c7
          have c7b1 : (a0.toList != ([46, 46] : List UInt8)) = false := bne_eq_false_iff_eq.mpr c7
          clear c7
          obtain rfl := Option.some.inj H
          go_enter Try.func14, Try.ntmps14
          go_wp2_with (first | (go_at_call 21; (with_reducible refine (strings_HasPrefix.calls a0 (⟨#[46, 47]⟩ : ByteArray) false _ A3.out).mono ?_); rintro e w' ⟨rfl, ⟨nd, rfl⟩⟩) | (go_at_call 21; (with_reducible refine (strings_HasPrefix.calls a0 (⟨#[46, 92]⟩ : ByteArray) false _ A5.out).mono ?_); rintro e w' ⟨rfl, ⟨nd, rfl⟩⟩))
          go_ret
          exact ⟨by first | rfl | (simp; done) | (simp [*]; done), by repeat (first | exact Drawn0.refl _ | apply Drawn0.step)⟩
        · rw [if_neg c7] at H
          have c7b0 : (a0.toList == ([46, 46] : List UInt8)) = false := beq_eq_false_iff_ne.mpr c7
          have c7b1 : (a0.toList != ([46, 46] : List UInt8)) = true := bne_iff_ne.mpr c7
          replace H := Option.bind_eq_some_iff.mp H
          obtain ⟨t104, A80, H⟩ := H
          replace H : (if t104 = true then (some true) else ((strings_HasPrefix.f a0 (⟨#[46, 46, 92]⟩ : ByteArray)).bind fun t105 => (if t105 = true then (some true) else ((strings_HasPrefix.f a0 (⟨#[47]⟩ : ByteArray)).bind fun t106 => (if t106 = true then (some true) else ((strings_HasPrefix.f a0 (⟨#[92]⟩ : ByteArray)).bind fun t107 => (if t107 = true then (some true) else (if (a0.size : Int) ≥ 2 then (if 0 < (a0.size : Int) then (if 65 ≤ (bt a0 0) then (if (bt a0 0) ≤ 90 then (if 1 < (a0.size : Int) then (some ((bt a0 1) == 58)) else (none)) else (if 97 ≤ (bt a0 0) then (if (bt a0 0) ≤ 122 then (if 1 < (a0.size : Int) then (some ((bt a0 1) == 58)) else (none)) else (some false)) else (some false))) else (if 97 ≤ (bt a0 0) then (if (bt a0 0) ≤ 122 then (if 1 < (a0.size : Int) then (some ((bt a0 1) == 58)) else (none)) else (some false)) else (some false))) else (none)) else (some false))))))))) = some r := H
          have A8 := Aside0.mk A80
          clear A80
          by_cases c9 : t104 = true
          · subst c9
            have H1 : (some true) = some r := by rw [if_pos rfl] at H; exact H
            clear H
            have H := H1
            clear H1
            obtain rfl := Option.some.inj H
            go_enter Try.func14, Try.ntmps14
            go_wp2_with (first | (go_at_call 21; (with_reducible refine (strings_HasPrefix.calls a0 (⟨#[46, 47]⟩ : ByteArray) false _ A3.out).mono ?_); rintro e w' ⟨rfl, ⟨nd, rfl⟩⟩) | (go_at_call 21; (with_reducible refine (strings_HasPrefix.calls a0 (⟨#[46, 92]⟩ : ByteArray) false _ A5.out).mono ?_); rintro e w' ⟨rfl, ⟨nd, rfl⟩⟩) | (go_at_call 21; (with_reducible refine (strings_HasPrefix.calls a0 (⟨#[46, 46, 47]⟩ : ByteArray) true _ A8.out).mono ?_); rintro e w' ⟨rfl, ⟨nd, rfl⟩⟩))
            go_ret
            exact ⟨by first | rfl | (simp; done) | (simp [*]; done), by repeat (first | exact Drawn0.refl _ | apply Drawn0.step)⟩
          · replace c9 := Bool.eq_false_iff.mpr c9
            subst c9
            have H1 : ((strings_HasPrefix.f a0 (⟨#[46, 46, 92]⟩ : ByteArray)).bind fun t105 => (if t105 = true then (some true) else ((strings_HasPrefix.f a0 (⟨#[47]⟩ : ByteArray)).bind fun t106 => (if t106 = true then (some true) else ((strings_HasPrefix.f a0 (⟨#[92]⟩ : ByteArray)).bind fun t107 => (if t107 = true then (some true) else (if (a0.size : Int) ≥ 2 then (if 0 < (a0.size : Int) then (if 65 ≤ (bt a0 0) then (if (bt a0 0) ≤ 90 then (if 1 < (a0.size : Int) then (some ((bt a0 1) == 58)) else (none)) else (if 97 ≤ (bt a0 0) then (if (bt a0 0) ≤ 122 then (if 1 < (a0.size : Int) then (some ((bt a0 1) == 58)) else (none)) else (some false)) else (some false))) else (if 97 ≤ (bt a0 0) then (if (bt a0 0) ≤ 122 then (if 1 < (a0.size : Int) then (some ((bt a0 1) == 58)) else (none)) else (some false)) else (some false))) else (none)) else (some false)))))))) = some r := by rw [if_neg (show ¬ (false = true) by decide)] at H; exact H
            clear H
            have H := H1
            clear H1
            replace H := Option.bind_eq_some_iff.mp H
            obtain ⟨t105, A100, H⟩ := H
            replace H : (if t105 = true then (some true) else ((strings_HasPrefix.f a0 (⟨#[47]⟩ : ByteArray)).bind fun t106 => (if t106 = true then (some true) else ((strings_HasPrefix.f a0 (⟨#[92]⟩ : ByteArray)).bind fun t107 => (if t107 = true then (some true) else (if (a0.size : Int) ≥ 2 then (if 0 < (a0.size : Int) then (if 65 ≤ (bt a0 0) then (if (bt a0 0) ≤ 90 then (if 1 < (a0.size : Int) then (some ((bt a0 1) == 58)) else (none)) else (if 97 ≤ (bt a0 0) then (if (bt a0 0) ≤ 122 then (if 1 < (a0.size : Int) then (some ((bt a0 1) == 58)) else (none)) else (some false)) else (some false))) else (if 97 ≤ (bt a0 0) then (if (bt a0 0) ≤ 122 then (if 1 < (a0.size : Int) then (some ((bt a0 1) == 58)) else (none)) else (some false)) else (some false))) else (none)) else (some false))))))) = some r := H
            have A10 := Aside0.mk A100
            clear A100
            by_cases c11 : t105 = true
            · subst c11
              have H1 : (some true) = some r := by rw [if_pos rfl] at H; exact H
              clear H
              have H := H1
              clear H1
              obtain rfl := Option.some.inj H
              go_enter Try.func14, Try.ntmps14
              go_wp2_with (first | (go_at_call 21; (with_reducible refine (strings_HasPrefix.calls a0 (⟨#[46, 47]⟩ : ByteArray) false _ A3.out).mono ?_); rintro e w' ⟨rfl, ⟨nd, rfl⟩⟩) | (go_at_call 21; (with_reducible refine (strings_HasPrefix.calls a0 (⟨#[46, 92]⟩ : ByteArray) false _ A5.out).mono ?_); rintro e w' ⟨rfl, ⟨nd, rfl⟩⟩) | (go_at_call 21; (with_reducible refine (strings_HasPrefix.calls a0 (⟨#[46, 46, 47]⟩ : ByteArray) false _ A8.out).mono ?_); rintro e w' ⟨rfl, ⟨nd, rfl⟩⟩) | (go_at_call 21; (with_reducible refine (strings_HasPrefix.calls a0 (⟨#[46, 46, 92]⟩ : ByteArray) true _ A10.out).mono ?_); rintro e w' ⟨rfl, ⟨nd, rfl⟩⟩))
              go_ret
              exact ⟨by first | rfl | (simp; done) | (simp [*]; done), by repeat (first | exact Drawn0.refl _ | apply Drawn0.step)⟩
            · replace c11 := Bool.eq_false_iff.mpr c11
              subst c11
              have H1 : ((strings_HasPrefix.f a0 (⟨#[47]⟩ : ByteArray)).bind fun t106 => (if t106 = true then (some true) else ((strings_HasPrefix.f a0 (⟨#[92]⟩ : ByteArray)).bind fun t107 => (if t107 = true then (some true) else (if (a0.size : Int) ≥ 2 then (if 0 < (a0.size : Int) then (if 65 ≤ (bt a0 0) then (if (bt a0 0) ≤ 90 then (if 1 < (a0.size : Int) then (some ((bt a0 1) == 58)) else (none)) else (if 97 ≤ (bt a0 0) then (if (bt a0 0) ≤ 122 then (if 1 < (a0.size : Int) then (some ((bt a0 1) == 58)) else (none)) else (some false)) else (some false))) else (if 97 ≤ (bt a0 0) then (if (bt a0 0) ≤ 122 then (if 1 < (a0.size : Int) then (some ((bt a0 1) == 58)) else (none)) else (some false)) else (some false))) else (none)) else (some false)))))) = some r := by rw [if_neg (show ¬ (false = true) by decide)] at H; exact H
              clear H
              have H := H1
              clear H1
              replace H := Option.bind_eq_some_iff.mp H
              obtain ⟨t106, A120, H⟩ := H
              replace H : (if t106 = true then (some true) else ((strings_HasPrefix.f a0 (⟨#[92]⟩ : ByteArray)).bind fun t107 => (if t107 = true then (some true) else (if (a0.size : Int) ≥ 2 then (if 0 < (a0.size : Int) then (if 65 ≤ (bt a0 0) then (if (bt a0 0) ≤ 90 then (if 1 < (a0.size : Int) then (some ((bt a0 1) == 58)) else (none)) else (if 97 ≤ (bt a0 0) then (if (bt a0 0) ≤ 122 then (if 1 < (a0.size : Int) then (some ((bt a0 1) == 58)) else (none)) else (some false)) else (some false))) else (if 97 ≤ (bt a0 0) then (if (bt a0 0) ≤ 122 then (if 1 < (a0.size : Int) then (some ((bt a0 1) == 58)) else (none)) else (some false)) else (some false))) else (none)) else (some false))))) = some r := H
              have A12 := Aside0.mk A120
              clear A120
              by_cases c13 : t106 = true
              · subst c13
                have H1 : (some true) = some r := by rw [if_pos rfl] at H; exact H
                clear H
                have H := H1
                clear H1
                obtain rfl := Option.some.inj H
                go_enter Try.func14, Try.ntmps14
                go_wp2_with (first | (go_at_call 21; (with_reducible refine (strings_HasPrefix.calls a0 (⟨#[46, 47]⟩ : ByteArray) false _ A3.out).mono ?_); rintro e w' ⟨rfl, ⟨nd, rfl⟩⟩) | (go_at_call 21; (with_reducible refine (strings_HasPrefix.calls a0 (⟨#[46, 92]⟩ : ByteArray) false _ A5.out).mono ?_); rintro e w' ⟨rfl, ⟨nd, rfl⟩⟩) | (go_at_call 21; (with_reducible refine (strings_HasPrefix.calls a0 (⟨#[46, 46, 47]⟩ : ByteArray) false _ A8.out).mono ?_); rintro e w' ⟨rfl, ⟨nd, rfl⟩⟩) | (go_at_call 21; (with_reducible refine (strings_HasPrefix.calls a0 (⟨#[46, 46, 92]⟩ : ByteArray) false _ A10.out).mono ?_); rintro e w' ⟨rfl, ⟨nd, rfl⟩⟩) | (go_at_call 21; (with_reducible refine (strings_HasPrefix.calls a0 (⟨#[47]⟩ : ByteArray) true _ A12.out).mono ?_); rintro e w' ⟨rfl, ⟨nd, rfl⟩⟩))
                go_ret
                exact ⟨by first | rfl | (simp; done) | (simp [*]; done), by repeat (first | exact Drawn0.refl _ | apply Drawn0.step)⟩
              · replace c13 := Bool.eq_false_iff.mpr c13
                subst c13
                have H1 : ((strings_HasPrefix.f a0 (⟨#[92]⟩ : ByteArray)).bind fun t107 => (if t107 = true then (some true) else (if (a0.size : Int) ≥ 2 then (if 0 < (a0.size : Int) then (if 65 ≤ (bt a0 0) then (if (bt a0 0) ≤ 90 then (if 1 < (a0.size : Int) then (some ((bt a0 1) == 58)) else (none)) else (if 97 ≤ (bt a0 0) then (if (bt a0 0) ≤ 122 then (if 1 < (a0.size : Int) then (some ((bt a0 1) == 58)) else (none)) else (some false)) else (some false))) else (if 97 ≤ (bt a0 0) then (if (bt a0 0) ≤ 122 then (if 1 < (a0.size : Int) then (some ((bt a0 1) == 58)) else (none)) else (some false)) else (some false))) else (none)) else (some false)))) = some r := by rw [if_neg (show ¬ (false = true) by decide)] at H; exact H
                clear H
                have H := H1
                clear H1
                replace H := Option.bind_eq_some_iff.mp H
                obtain ⟨t107, A140, H⟩ := H
                replace H : (if t107 = true then (some true) else (if (a0.size : Int) ≥ 2 then (if 0 < (a0.size : Int) then (if 65 ≤ (bt a0 0) then (if (bt a0 0) ≤ 90 then (if 1 < (a0.size : Int) then (some ((bt a0 1) == 58)) else (none)) else (if 97 ≤ (bt a0 0) then (if (bt a0 0) ≤ 122 then (if 1 < (a0.size : Int) then (some ((bt a0 1) == 58)) else (none)) else (some false)) else (some false))) else (if 97 ≤ (bt a0 0) then (if (bt a0 0) ≤ 122 then (if 1 < (a0.size : Int) then (some ((bt a0 1) == 58)) else (none)) else (some false)) else (some false))) else (none)) else (some false))) = some r := H
                have A14 := Aside0.mk A140
                clear A140
                by_cases c15 : t107 = true
                · subst c15
                  have H1 : (some true) = some r := by rw [if_pos rfl] at H; exact H
                  clear H
                  have H := H1
                  clear H1
                  obtain rfl := Option.some.inj H
                  go_enter Try.func14, Try.ntmps14
                  go_wp2_with (first | (go_at_call 21; (with_reducible refine (strings_HasPrefix.calls a0 (⟨#[46, 47]⟩ : ByteArray) false _ A3.out).mono ?_); rintro e w' ⟨rfl, ⟨nd, rfl⟩⟩) | (go_at_call 21; (with_reducible refine (strings_HasPrefix.calls a0 (⟨#[46, 92]⟩ : ByteArray) false _ A5.out).mono ?_); rintro e w' ⟨rfl, ⟨nd, rfl⟩⟩) | (go_at_call 21; (with_reducible refine (strings_HasPrefix.calls a0 (⟨#[46, 46, 47]⟩ : ByteArray) false _ A8.out).mono ?_); rintro e w' ⟨rfl, ⟨nd, rfl⟩⟩) | (go_at_call 21; (with_reducible refine (strings_HasPrefix.calls a0 (⟨#[46, 46, 92]⟩ : ByteArray) false _ A10.out).mono ?_); rintro e w' ⟨rfl, ⟨nd, rfl⟩⟩) | (go_at_call 21; (with_reducible refine (strings_HasPrefix.calls a0 (⟨#[47]⟩ : ByteArray) false _ A12.out).mono ?_); rintro e w' ⟨rfl, ⟨nd, rfl⟩⟩) | (go_at_call 21; (with_reducible refine (strings_HasPrefix.calls a0 (⟨#[92]⟩ : ByteArray) true _ A14.out).mono ?_); rintro e w' ⟨rfl, ⟨nd, rfl⟩⟩))
                  go_ret
                  exact ⟨by first | rfl | (simp; done) | (simp [*]; done), by repeat (first | exact Drawn0.refl _ | apply Drawn0.step)⟩
                · replace c15 := Bool.eq_false_iff.mpr c15
                  subst c15
                  have H1 : (if (a0.size : Int) ≥ 2 then (if 0 < (a0.size : Int) then (if 65 ≤ (bt a0 0) then (if (bt a0 0) ≤ 90 then (if 1 < (a0.size : Int) then (some ((bt a0 1) == 58)) else (none)) else (if 97 ≤ (bt a0 0) then (if (bt a0 0) ≤ 122 then (if 1 < (a0.size : Int) then (some ((bt a0 1) == 58)) else (none)) else (some false)) else (some false))) else (if 97 ≤ (bt a0 0) then (if (bt a0 0) ≤ 122 then (if 1 < (a0.size : Int) then (some ((bt a0 1) == 58)) else (none)) else (some false)) else (some false))) else (none)) else (some false)) = some r := by rw [if_neg (show ¬ (false = true) by decide)] at H; exact H
                  clear H
                  have H := H1
                  clear H1
                  by_cases c16 : (a0.size : Int) ≥ 2
                  · rw [if_pos c16] at H
                    have c16b0 : decide (2 ≤ (a0.size : Int)) = true := decide_eq_true c16
                    have c16b1 : decide (2 ≤ a0.size) = true := decide_eq_true (by omega)
                    clear c16
                    by_cases c17 : 0 < (a0.size : Int)
                    · rw [if_pos c17] at H
                      have c17b0 : decide (0 < (a0.size : Int)) = true := decide_eq_true c17
                      have c17b1 : decide (0 < a0.size) = true := decide_eq_true (by omega)
                      clear c17
                      by_cases c19 : 65 ≤ (bt a0 0)
                      · rw [if_pos c19] at H
                        have c19b0 : decide (65 ≤ (bt a0 0)) = true := decide_eq_true c19
                        clear c19
                        by_cases c21 : (bt a0 0) ≤ 90
                        · rw [if_pos c21] at H
                          have c21b0 : decide ((bt a0 0) ≤ 90) = true := decide_eq_true c21
                          clear c21
                          by_cases c22 : 1 < (a0.size : Int)
                          · rw [if_pos c22] at H
                            have c22b0 : decide (1 < (a0.size : Int)) = true := decide_eq_true c22
                            have c22b1 : decide (1 < a0.size) = true := decide_eq_true (by omega)
                            clear c22
                            obtain rfl := Option.some.inj H
                            go_enter Try.func14, Try.ntmps14
                            go_wp2_with (first | (go_at_call 21; (with_reducible refine (strings_HasPrefix.calls a0 (⟨#[46, 47]⟩ : ByteArray) false _ A3.out).mono ?_); rintro e w' ⟨rfl, ⟨nd, rfl⟩⟩) | (go_at_call 21; (with_reducible refine (strings_HasPrefix.calls a0 (⟨#[46, 92]⟩ : ByteArray) false _ A5.out).mono ?_); rintro e w' ⟨rfl, ⟨nd, rfl⟩⟩) | (go_at_call 21; (with_reducible refine (strings_HasPrefix.calls a0 (⟨#[46, 46, 47]⟩ : ByteArray) false _ A8.out).mono ?_); rintro e w' ⟨rfl, ⟨nd, rfl⟩⟩) | (go_at_call 21; (with_reducible refine (strings_HasPrefix.calls a0 (⟨#[46, 46, 92]⟩ : ByteArray) false _ A10.out).mono ?_); rintro e w' ⟨rfl, ⟨nd, rfl⟩⟩) | (go_at_call 21; (with_reducible refine (strings_HasPrefix.calls a0 (⟨#[47]⟩ : ByteArray) false _ A12.out).mono ?_); rintro e w' ⟨rfl, ⟨nd, rfl⟩⟩) | (go_at_call 21; (with_reducible refine (strings_HasPrefix.calls a0 (⟨#[92]⟩ : ByteArray) false _ A14.out).mono ?_); rintro e w' ⟨rfl, ⟨nd, rfl⟩⟩; have p18 : 0 ≤ (0 : Int) := (by omega); have q18 : 0 < a0.size := (by have : (0 : Int) < (a0.size : Int) := of_decide_eq_true (by first | (with_reducible assumption) | assumption); omega); have hx18 : ∀ h : 0 < a0.size, ((a0[0]'h).toNat : Int) = bt a0 0 := bt_at a0 0; clear p18; have qi18 : (0 < (a0.size : Int)) = True := eq_true (of_decide_eq_true (by first | (with_reducible assumption) | assumption)); replace q18 := eq_true q18; have p20 : 0 ≤ (0 : Int) := (by omega); have q20 : 0 < a0.size := (by have : (0 : Int) < (a0.size : Int) := of_decide_eq_true (by first | (with_reducible assumption) | assumption); omega); have hx20 : ∀ h : 0 < a0.size, ((a0[0]'h).toNat : Int) = bt a0 0 := bt_at a0 0; clear p20; have qi20 : (0 < (a0.size : Int)) = True := eq_true (of_decide_eq_true (by first | (with_reducible assumption) | assumption)); replace q20 := eq_true q20; have p23 : 0 ≤ (1 : Int) := (by omega); have q23 : 1 < a0.size := (by have : (1 : Int) < (a0.size : Int) := of_decide_eq_true (by first | (with_reducible assumption) | assumption); omega); have hx23 : ∀ h : 1 < a0.size, ((a0[1]'h).toNat : Int) = bt a0 1 := bt_at a0 1; clear p23; have qi23 : (1 < (a0.size : Int)) = True := eq_true (of_decide_eq_true (by first | (with_reducible assumption) | assumption)); replace q23 := eq_true q23))
                            go_ret
                            exact ⟨by first | rfl | (simp; done) | (simp [*]; done), by repeat (first | exact Drawn0.refl _ | apply Drawn0.step)⟩
                          · rw [if_neg c22] at H
                            exact absurd H (by simp)
                        · rw [if_neg c21] at H
                          have c21b0 : decide ((bt a0 0) ≤ 90) = false := decide_eq_false c21
                          clear c21
                          by_cases c25 : 97 ≤ (bt a0 0)
                          · rw [if_pos c25] at H
                            have c25b0 : decide (97 ≤ (bt a0 0)) = true := decide_eq_true c25
                            clear c25
                            by_cases c27 : (bt a0 0) ≤ 122
                            · rw [if_pos c27] at H
                              have c27b0 : decide ((bt a0 0) ≤ 122) = true := decide_eq_true c27
                              clear c27
                              by_cases c28 : 1 < (a0.size : Int)
                              · rw [if_pos c28] at H
                                have c28b0 : decide (1 < (a0.size : Int)) = true := decide_eq_true c28
                                have c28b1 : decide (1 < a0.size) = true := decide_eq_true (by omega)
                                clear c28
                                obtain rfl := Option.some.inj H
                                go_enter Try.func14, Try.ntmps14
                                go_wp2_with (first | (go_at_call 21; (with_reducible refine (strings_HasPrefix.calls a0 (⟨#[46, 47]⟩ : ByteArray) false _ A3.out).mono ?_); rintro e w' ⟨rfl, ⟨nd, rfl⟩⟩) | (go_at_call 21; (with_reducible refine (strings_HasPrefix.calls a0 (⟨#[46, 92]⟩ : ByteArray) false _ A5.out).mono ?_); rintro e w' ⟨rfl, ⟨nd, rfl⟩⟩) | (go_at_call 21; (with_reducible refine (strings_HasPrefix.calls a0 (⟨#[46, 46, 47]⟩ : ByteArray) false _ A8.out).mono ?_); rintro e w' ⟨rfl, ⟨nd, rfl⟩⟩) | (go_at_call 21; (with_reducible refine (strings_HasPrefix.calls a0 (⟨#[46, 46, 92]⟩ : ByteArray) false _ A10.out).mono ?_); rintro e w' ⟨rfl, ⟨nd, rfl⟩⟩) | (go_at_call 21; (with_reducible refine (strings_HasPrefix.calls a0 (⟨#[47]⟩ : ByteArray) false _ A12.out).mono ?_); rintro e w' ⟨rfl, ⟨nd, rfl⟩⟩) | (go_at_call 21; (with_reducible refine (strings_HasPrefix.calls a0 (⟨#[92]⟩ : ByteArray) false _ A14.out).mono ?_); rintro e w' ⟨rfl, ⟨nd, rfl⟩⟩; have p18 : 0 ≤ (0 : Int) := (by omega); have q18 : 0 < a0.size := (by have : (0 : Int) < (a0.size : Int) := of_decide_eq_true (by first | (with_reducible assumption) | assumption); omega); have hx18 : ∀ h : 0 < a0.size, ((a0[0]'h).toNat : Int) = bt a0 0 := bt_at a0 0; clear p18; have qi18 : (0 < (a0.size : Int)) = True := eq_true (of_decide_eq_true (by first | (with_reducible assumption) | assumption)); replace q18 := eq_true q18; have p20 : 0 ≤ (0 : Int) := (by omega); have q20 : 0 < a0.size := (by have : (0 : Int) < (a0.size : Int) := of_decide_eq_true (by first | (with_reducible assumption) | assumption); omega); have hx20 : ∀ h : 0 < a0.size, ((a0[0]'h).toNat : Int) = bt a0 0 := bt_at a0 0; clear p20; have qi20 : (0 < (a0.size : Int)) = True := eq_true (of_decide_eq_true (by first | (with_reducible assumption) | assumption)); replace q20 := eq_true q20; have p24 : 0 ≤ (0 : Int) := (by omega); have q24 : 0 < a0.size := (by have : (0 : Int) < (a0.size : Int) := of_decide_eq_true (by first | (with_reducible assumption) | assumption); omega); have hx24 : ∀ h : 0 < a0.size, ((a0[0]'h).toNat : Int) = bt a0 0 := bt_at a0 0; clear p24; have qi24 : (0 < (a0.size : Int)) = True := eq_true (of_decide_eq_true (by first | (with_reducible assumption) | assumption)); replace q24 := eq_true q24; have p26 : 0 ≤ (0 : Int) := (by omega); have q26 : 0 < a0.size := (by have : (0 : Int) < (a0.size : Int) := of_decide_eq_true (by first | (with_reducible assumption) | assumption); omega); have hx26 : ∀ h : 0 < a0.size, ((a0[0]'h).toNat : Int) = bt a0 0 := bt_at a0 0; clear p26; have qi26 : (0 < (a0.size : Int)) = True := eq_true (of_decide_eq_true (by first | (with_reducible assumption) | assumption)); replace q26 := eq_true q26; have p29 : 0 ≤ (1 : Int) := (by omega); have q29 : 1 < a0.size := (by have : (1 : Int) < (a0.size : Int) := of_decide_eq_true (by first | (with_reducible assumption) | assumption); omega); have hx29 : ∀ h : 1 < a0.size, ((a0[1]'h).toNat : Int) = bt a0 1 := bt_at a0 1; clear p29; have qi29 : (1 < (a0.size : Int)) = True := eq_true (of_decide_eq_true (by first | (with_reducible assumption) | assumption)); replace q29 := eq_true q29))
                                go_ret
                                exact ⟨by first | rfl | (simp; done) | (simp [*]; done), by repeat (first | exact Drawn0.refl _ | apply Drawn0.step)⟩
                              · rw [if_neg c28] at H
                                exact absurd H (by simp)
                            · rw [if_neg c27] at H
                              have c27b0 : decide ((bt a0 0) ≤ 122) = false := decide_eq_false c27
                              clear c27
                              obtain rfl := Option.some.inj H
                              go_enter Try.func14, Try.ntmps14
                              go_wp2_with (first | (go_at_call 21; (with_reducible refine (strings_HasPrefix.calls a0 (⟨#[46, 47]⟩ : ByteArray) false _ A3.out).mono ?_); rintro e w' ⟨rfl, ⟨nd, rfl⟩⟩) | (go_at_call 21; (with_reducible refine (strings_HasPrefix.calls a0 (⟨#[46, 92]⟩ : ByteArray) false _ A5.out).mono ?_); rintro e w' ⟨rfl, ⟨nd, rfl⟩⟩) | (go_at_call 21; (with_reducible refine (strings_HasPrefix.calls a0 (⟨#[46, 46, 47]⟩ : ByteArray) false _ A8.out).mono ?_); rintro e w' ⟨rfl, ⟨nd, rfl⟩⟩) | (go_at_call 21; (with_reducible refine (strings_HasPrefix.calls a0 (⟨#[46, 46, 92]⟩ : ByteArray) false _ A10.out).mono ?_); rintro e w' ⟨rfl, ⟨nd, rfl⟩⟩) | (go_at_call 21; (with_reducible refine (strings_HasPrefix.calls a0 (⟨#[47]⟩ : ByteArray) false _ A12.out).mono ?_); rintro e w' ⟨rfl, ⟨nd, rfl⟩⟩) | (go_at_call 21; (with_reducible refine (strings_HasPrefix.calls a0 (⟨#[92]⟩ : ByteArray) false _ A14.out).mono ?_); rintro e w' ⟨rfl, ⟨nd, rfl⟩⟩; have p18 : 0 ≤ (0 : Int) := (by omega); have q18 : 0 < a0.size := (by have : (0 : Int) < (a0.size : Int) := of_decide_eq_true (by first | (with_reducible assumption) | assumption); omega); have hx18 : ∀ h : 0 < a0.size, ((a0[0]'h).toNat : Int) = bt a0 0 := bt_at a0 0; clear p18; have qi18 : (0 < (a0.size : Int)) = True := eq_true (of_decide_eq_true (by first | (with_reducible assumption) | assumption)); replace q18 := eq_true q18; have p20 : 0 ≤ (0 : Int) := (by omega); have q20 : 0 < a0.size := (by have : (0 : Int) < (a0.size : Int) := of_decide_eq_true (by first | (with_reducible assumption) | assumption); omega); have hx20 : ∀ h : 0 < a0.size, ((a0[0]'h).toNat : Int) = bt a0 0 := bt_at a0 0; clear p20; have qi20 : (0 < (a0.size : Int)) = True := eq_true (of_decide_eq_true (by first | (with_reducible assumption) | assumption)); replace q20 := eq_true q20; have p24 : 0 ≤ (0 : Int) := (by omega); have q24 : 0 < a0.size := (by have : (0 : Int) < (a0.size : Int) := of_decide_eq_true (by first | (with_reducible assumption) | assumption); omega); have hx24 : ∀ h : 0 < a0.size, ((a0[0]'h).toNat : Int) = bt a0 0 := bt_at a0 0; clear p24; have qi24 : (0 < (a0.size : Int)) = True := eq_true (of_decide_eq_true (by first | (with_reducible assumption) | assumption)); replace q24 := eq_true q24; have p26 : 0 ≤ (0 : Int) := (by omega); have q26 : 0 < a0.size := (by have : (0 : Int) < (a0.size : Int) := of_decide_eq_true (by first | (with_reducible assumption) | assumption); omega); have hx26 : ∀ h : 0 < a0.size, ((a0[0]'h).toNat : Int) = bt a0 0 := bt_at a0 0; clear p26; have qi26 : (0 < (a0.size : Int)) = True := eq_true (of_decide_eq_true (by first | (with_reducible assumption) | assumption)); replace q26 := eq_true q26))
                              go_ret
                              exact ⟨by first | rfl | (simp; done) | (simp [*]; done), by repeat (first | exact Drawn0.refl _ | apply Drawn0.step)⟩
                          · rw [if_neg c25] at H
                            have c25b0 : decide (97 ≤ (bt a0 0)) = false := decide_eq_false c25
                            clear c25
                            obtain rfl := Option.some.inj H
                            go_enter Try.func14, Try.ntmps14
                            go_wp2_with (first | (go_at_call 21; (with_reducible refine (strings_HasPrefix.calls a0 (⟨#[46, 47]⟩ : ByteArray) false _ A3.out).mono ?_); rintro e w' ⟨rfl, ⟨nd, rfl⟩⟩) | (go_at_call 21; (with_reducible refine (strings_HasPrefix.calls a0 (⟨#[46, 92]⟩ : ByteArray) false _ A5.out).mono ?_); rintro e w' ⟨rfl, ⟨nd, rfl⟩⟩) | (go_at_call 21; (with_reducible refine (strings_HasPrefix.calls a0 (⟨#[46, 46, 47]⟩ : ByteArray) false _ A8.out).mono ?_); rintro e w' ⟨rfl, ⟨nd, rfl⟩⟩) | (go_at_call 21; (with_reducible refine (strings_HasPrefix.calls a0 (⟨#[46, 46, 92]⟩ : ByteArray) false _ A10.out).mono ?_); rintro e w' ⟨rfl, ⟨nd, rfl⟩⟩) | (go_at_call 21; (with_reducible refine (strings_HasPrefix.calls a0 (⟨#[47]⟩ : ByteArray) false _ A12.out).mono ?_); rintro e w' ⟨rfl, ⟨nd, rfl⟩⟩) | (go_at_call 21; (with_reducible refine (strings_HasPrefix.calls a0 (⟨#[92]⟩ : ByteArray) false _ A14.out).mono ?_); rintro e w' ⟨rfl, ⟨nd, rfl⟩⟩; have p18 : 0 ≤ (0 : Int) := (by omega); have q18 : 0 < a0.size := (by have : (0 : Int) < (a0.size : Int) := of_decide_eq_true (by first | (with_reducible assumption) | assumption); omega); have hx18 : ∀ h : 0 < a0.size, ((a0[0]'h).toNat : Int) = bt a0 0 := bt_at a0 0; clear p18; have qi18 : (0 < (a0.size : Int)) = True := eq_true (of_decide_eq_true (by first | (with_reducible assumption) | assumption)); replace q18 := eq_true q18; have p20 : 0 ≤ (0 : Int) := (by omega); have q20 : 0 < a0.size := (by have : (0 : Int) < (a0.size : Int) := of_decide_eq_true (by first | (with_reducible assumption) | assumption); omega); have hx20 : ∀ h : 0 < a0.size, ((a0[0]'h).toNat : Int) = bt a0 0 := bt_at a0 0; clear p20; have qi20 : (0 < (a0.size : Int)) = True := eq_true (of_decide_eq_true (by first | (with_reducible assumption) | assumption)); replace q20 := eq_true q20; have p24 : 0 ≤ (0 : Int) := (by omega); have q24 : 0 < a0.size := (by have : (0 : Int) < (a0.size : Int) := of_decide_eq_true (by first | (with_reducible assumption) | assumption); omega); have hx24 : ∀ h : 0 < a0.size, ((a0[0]'h).toNat : Int) = bt a0 0 := bt_at a0 0; clear p24; have qi24 : (0 < (a0.size : Int)) = True := eq_true (of_decide_eq_true (by first | (with_reducible assumption) | assumption)); replace q24 := eq_true q24))
                            go_ret
                            exact ⟨by first | rfl | (simp; done) | (simp [*]; done), by repeat (first | exact Drawn0.refl _ | apply Drawn0.step)⟩
                      · rw [if_neg c19] at H
                        have c19b0 : decide (65 ≤ (bt a0 0)) = false := decide_eq_false c19
                        clear c19
                        by_cases c31 : 97 ≤ (bt a0 0)
                        · rw [if_pos c31] at H
                          have c31b0 : decide (97 ≤ (bt a0 0)) = true := decide_eq_true c31
                          clear c31
                          by_cases c33 : (bt a0 0) ≤ 122
                          · rw [if_pos c33] at H
                            have c33b0 : decide ((bt a0 0) ≤ 122) = true := decide_eq_true c33
                            clear c33
                            by_cases c34 : 1 < (a0.size : Int)
                            · rw [if_pos c34] at H
                              have c34b0 : decide (1 < (a0.size : Int)) = true := decide_eq_true c34
                              have c34b1 : decide (1 < a0.size) = true := decide_eq_true (by omega)
                              clear c34
                              obtain rfl := Option.some.inj H
                              go_enter Try.func14, Try.ntmps14
                              go_wp2_with (first | (go_at_call 21; (with_reducible refine (strings_HasPrefix.calls a0 (⟨#[46, 47]⟩ : ByteArray) false _ A3.out).mono ?_); rintro e w' ⟨rfl, ⟨nd, rfl⟩⟩) | (go_at_call 21; (with_reducible refine (strings_HasPrefix.calls a0 (⟨#[46, 92]⟩ : ByteArray) false _ A5.out).mono ?_); rintro e w' ⟨rfl, ⟨nd, rfl⟩⟩) | (go_at_call 21; (with_reducible refine (strings_HasPrefix.calls a0 (⟨#[46, 46, 47]⟩ : ByteArray) false _ A8.out).mono ?_); rintro e w' ⟨rfl, ⟨nd, rfl⟩⟩) | (go_at_call 21; (with_reducible refine (strings_HasPrefix.calls a0 (⟨#[46, 46, 92]⟩ : ByteArray) false _ A10.out).mono ?_); rintro e w' ⟨rfl, ⟨nd, rfl⟩⟩) | (go_at_call 21; (with_reducible refine (strings_HasPrefix.calls a0 (⟨#[47]⟩ : ByteArray) false _ A12.out).mono ?_); rintro e w' ⟨rfl, ⟨nd, rfl⟩⟩) | (go_at_call 21; (with_reducible refine (strings_HasPrefix.calls a0 (⟨#[92]⟩ : ByteArray) false _ A14.out).mono ?_); rintro e w' ⟨rfl, ⟨nd, rfl⟩⟩; have p18 : 0 ≤ (0 : Int) := (by omega); have q18 : 0 < a0.size := (by have : (0 : Int) < (a0.size : Int) := of_decide_eq_true (by first | (with_reducible assumption) | assumption); omega); have hx18 : ∀ h : 0 < a0.size, ((a0[0]'h).toNat : Int) = bt a0 0 := bt_at a0 0; clear p18; have qi18 : (0 < (a0.size : Int)) = True := eq_true (of_decide_eq_true (by first | (with_reducible assumption) | assumption)); replace q18 := eq_true q18; have p30 : 0 ≤ (0 : Int) := (by omega); have q30 : 0 < a0.size := (by have : (0 : Int) < (a0.size : Int) := of_decide_eq_true (by first | (with_reducible assumption) | assumption); omega); have hx30 : ∀ h : 0 < a0.size, ((a0[0]'h).toNat : Int) = bt a0 0 := bt_at a0 0; clear p30; have qi30 : (0 < (a0.size : Int)) = True := eq_true (of_decide_eq_true (by first | (with_reducible assumption) | assumption)); replace q30 := eq_true q30; have p32 : 0 ≤ (0 : Int) := (by omega); have q32 : 0 < a0.size := (by have : (0 : Int) < (a0.size : Int) := of_decide_eq_true (by first | (with_reducible assumption) | assumption); omega); have hx32 : ∀ h : 0 < a0.size, ((a0[0]'h).toNat : Int) = bt a0 0 := bt_at a0 0; clear p32; have qi32 : (0 < (a0.size : Int)) = True := eq_true (of_decide_eq_true (by first | (with_reducible assumption) | assumption)); replace q32 := eq_true q32; have p35 : 0 ≤ (1 : Int) := (by omega); have q35 : 1 < a0.size := (by have : (1 : Int) < (a0.size : Int) := of_decide_eq_true (by first | (with_reducible assumption) | assumption); omega); have hx35 : ∀ h : 1 < a0.size, ((a0[1]'h).toNat : Int) = bt a0 1 := bt_at a0 1; clear p35; have qi35 : (1 < (a0.size : Int)) = True := eq_true (of_decide_eq_true (by first | (with_reducible assumption) | assumption)); replace q35 := eq_true q35))
                              go_ret
                              exact ⟨by first | rfl | (simp; done) | (simp [*]; done), by repeat (first | exact Drawn0.refl _ | apply Drawn0.step)⟩
                            · rw [if_neg c34] at H
                              exact absurd H (by simp)
                          · rw [if_neg c33] at H
                            have c33b0 : decide ((bt a0 0) ≤ 122) = false := decide_eq_false c33
                            clear c33
                            obtain rfl := Option.some.inj H
                            go_enter Try.func14, Try.ntmps14
                            go_wp2_with (first | (go_at_call 21; (with_reducible refine (strings_HasPrefix.calls a0 (⟨#[46, 47]⟩ : ByteArray) false _ A3.out).mono ?_); rintro e w' ⟨rfl, ⟨nd, rfl⟩⟩) | (go_at_call 21; (with_reducible refine (strings_HasPrefix.calls a0 (⟨#[46, 92]⟩ : ByteArray) false _ A5.out).mono ?_); rintro e w' ⟨rfl, ⟨nd, rfl⟩⟩) | (go_at_call 21; (with_reducible refine (strings_HasPrefix.calls a0 (⟨#[46, 46, 47]⟩ : ByteArray) false _ A8.out).mono ?_); rintro e w' ⟨rfl, ⟨nd, rfl⟩⟩) | (go_at_call 21; (with_reducible refine (strings_HasPrefix.calls a0 (⟨#[46, 46, 92]⟩ : ByteArray) false _ A10.out).mono ?_); rintro e w' ⟨rfl, ⟨nd, rfl⟩⟩) | (go_at_call 21; (with_reducible refine (strings_HasPrefix.calls a0 (⟨#[47]⟩ : ByteArray) false _ A12.out).mono ?_); rintro e w' ⟨rfl, ⟨nd, rfl⟩⟩) | (go_at_call 21; (with_reducible refine (strings_HasPrefix.calls a0 (⟨#[92]⟩ : ByteArray) false _ A14.out).mono ?_); rintro e w' ⟨rfl, ⟨nd, rfl⟩⟩; have p18 : 0 ≤ (0 : Int) := (by omega); have q18 : 0 < a0.size := (by have : (0 : Int) < (a0.size : Int) := of_decide_eq_true (by first | (with_reducible assumption) | assumption); omega); have hx18 : ∀ h : 0 < a0.size, ((a0[0]'h).toNat : Int) = bt a0 0 := bt_at a0 0; clear p18; have qi18 : (0 < (a0.size : Int)) = True := eq_true (of_decide_eq_true (by first | (with_reducible assumption) | assumption)); replace q18 := eq_true q18; have p30 : 0 ≤ (0 : Int) := (by omega); have q30 : 0 < a0.size := (by have : (0 : Int) < (a0.size : Int) := of_decide_eq_true (by first | (with_reducible assumption) | assumption); omega); have hx30 : ∀ h : 0 < a0.size, ((a0[0]'h).toNat : Int) = bt a0 0 := bt_at a0 0; clear p30; have qi30 : (0 < (a0.size : Int)) = True := eq_true (of_decide_eq_true (by first | (with_reducible assumption) | assumption)); replace q30 := eq_true q30; have p32 : 0 ≤ (0 : Int) := (by omega); have q32 : 0 < a0.size := (by have : (0 : Int) < (a0.size : Int) := of_decide_eq_true (by first | (with_reducible assumption) | assumption); omega); have hx32 : ∀ h : 0 < a0.size, ((a0[0]'h).toNat : Int) = bt a0 0 := bt_at a0 0; clear p32; have qi32 : (0 < (a0.size : Int)) = True := eq_true (of_decide_eq_true (by first | (with_reducible assumption) | assumption)); replace q32 := eq_true q32))
                            go_ret
                            exact ⟨by first | rfl | (simp; done) | (simp [*]; done), by repeat (first | exact Drawn0.refl _ | apply Drawn0.step)⟩
                        · rw [if_neg c31] at H
                          have c31b0 : decide (97 ≤ (bt a0 0)) = false := decide_eq_false c31
                          clear c31
                          obtain rfl := Option.some.inj H
                          go_enter Try.func14, Try.ntmps14
                          go_wp2_with (first | (go_at_call 21; (with_reducible refine (strings_HasPrefix.calls a0 (⟨#[46, 47]⟩ : ByteArray) false _ A3.out).mono ?_); rintro e w' ⟨rfl, ⟨nd, rfl⟩⟩) | (go_at_call 21; (with_reducible refine (strings_HasPrefix.calls a0 (⟨#[46, 92]⟩ : ByteArray) false _ A5.out).mono ?_); rintro e w' ⟨rfl, ⟨nd, rfl⟩⟩) | (go_at_call 21; (with_reducible refine (strings_HasPrefix.calls a0 (⟨#[46, 46, 47]⟩ : ByteArray) false _ A8.out).mono ?_); rintro e w' ⟨rfl, ⟨nd, rfl⟩⟩) | (go_at_call 21; (with_reducible refine (strings_HasPrefix.calls a0 (⟨#[46, 46, 92]⟩ : ByteArray) false _ A10.out).mono ?_); rintro e w' ⟨rfl, ⟨nd, rfl⟩⟩) | (go_at_call 21; (with_reducible refine (strings_HasPrefix.calls a0 (⟨#[47]⟩ : ByteArray) false _ A12.out).mono ?_); rintro e w' ⟨rfl, ⟨nd, rfl⟩⟩) | (go_at_call 21; (with_reducible refine (strings_HasPrefix.calls a0 (⟨#[92]⟩ : ByteArray) false _ A14.out).mono ?_); rintro e w' ⟨rfl, ⟨nd, rfl⟩⟩; have p18 : 0 ≤ (0 : Int) := (by omega); have q18 : 0 < a0.size := (by have : (0 : Int) < (a0.size : Int) := of_decide_eq_true (by first | (with_reducible assumption) | assumption); omega); have hx18 : ∀ h : 0 < a0.size, ((a0[0]'h).toNat : Int) = bt a0 0 := bt_at a0 0; clear p18; have qi18 : (0 < (a0.size : Int)) = True := eq_true (of_decide_eq_true (by first | (with_reducible assumption) | assumption)); replace q18 := eq_true q18; have p30 : 0 ≤ (0 : Int) := (by omega); have q30 : 0 < a0.size := (by have : (0 : Int) < (a0.size : Int) := of_decide_eq_true (by first | (with_reducible assumption) | assumption); omega); have hx30 : ∀ h : 0 < a0.size, ((a0[0]'h).toNat : Int) = bt a0 0 := bt_at a0 0; clear p30; have qi30 : (0 < (a0.size : Int)) = True := eq_true (of_decide_eq_true (by first | (with_reducible assumption) | assumption)); replace q30 := eq_true q30))
                          go_ret
                          exact ⟨by first | rfl | (simp; done) | (simp [*]; done), by repeat (first | exact Drawn0.refl _ | apply Drawn0.step)⟩
                    · rw [if_neg c17] at H
                      exact absurd H (by simp)
                  · rw [if_neg c16] at H
                    have c16b0 : decide (2 ≤ (a0.size : Int)) = false := decide_eq_false c16
                    have c16b1 : decide (2 ≤ a0.size) = false := decide_eq_false (by omega)
                    clear c16
                    obtain rfl := Option.some.inj H
                    go_enter Try.func14, Try.ntmps14
                    go_wp2_with (first | (go_at_call 21; (with_reducible refine (strings_HasPrefix.calls a0 (⟨#[46, 47]⟩ : ByteArray) false _ A3.out).mono ?_); rintro e w' ⟨rfl, ⟨nd, rfl⟩⟩) | (go_at_call 21; (with_reducible refine (strings_HasPrefix.calls a0 (⟨#[46, 92]⟩ : ByteArray) false _ A5.out).mono ?_); rintro e w' ⟨rfl, ⟨nd, rfl⟩⟩) | (go_at_call 21; (with_reducible refine (strings_HasPrefix.calls a0 (⟨#[46, 46, 47]⟩ : ByteArray) false _ A8.out).mono ?_); rintro e w' ⟨rfl, ⟨nd, rfl⟩⟩) | (go_at_call 21; (with_reducible refine (strings_HasPrefix.calls a0 (⟨#[46, 46, 92]⟩ : ByteArray) false _ A10.out).mono ?_); rintro e w' ⟨rfl, ⟨nd, rfl⟩⟩) | (go_at_call 21; (with_reducible refine (strings_HasPrefix.calls a0 (⟨#[47]⟩ : ByteArray) false _ A12.out).mono ?_); rintro e w' ⟨rfl, ⟨nd, rfl⟩⟩) | (go_at_call 21; (with_reducible refine (strings_HasPrefix.calls a0 (⟨#[92]⟩ : ByteArray) false _ A14.out).mono ?_); rintro e w' ⟨rfl, ⟨nd, rfl⟩⟩))
                    go_ret
                    exact ⟨by first | rfl | (simp; done) | (simp [*]; done), by repeat (first | exact Drawn0.refl _ | apply Drawn0.step)⟩

/-! ### impl_IsDirectoryPath: function 8 -/
def impl_IsDirectoryPath.f (a0 : ByteArray) : Option (Bool) := (modfile_IsDirectoryPath.f a0).bind fun t108 => (some t108)
set_option maxHeartbeats 8000000 in
set_option maxRecDepth 100000 in
theorem impl_IsDirectoryPath.calls (a0 : ByteArray) (r : Bool) (w : World) (h : impl_IsDirectoryPath.f a0 = some r) :
    Calls Try.prog 8 #[.string a0] w fun e w' => e = .returned (.bool r) ∧ Drawn0 w w' := by
  have H : ((modfile_IsDirectoryPath.f a0).bind fun t108 => (some t108)) = some r := h
  clear h
  replace H := Option.bind_eq_some_iff.mp H
  obtain ⟨t108, A20, H⟩ := H
  replace H : (some t108) = some r := H
  have A2 := Aside0.mk A20
  clear A20
  obtain rfl := Option.some.inj H
  go_enter Try.func8, Try.ntmps8
  go_wp2_with (first | ((with_reducible refine gate_callee (f := 14) rfl ?_); refine goesL_ (some 4) rfl rfl Try.func14 (by kernel_rfl) rfl #[.string a0] rfl (by (try simp only [List.map_toArray, List.map_cons, List.map_nil]); first | done | rfl | (simp only [List.length_drop, List.length_take]; rfl)) ?_; (with_reducible refine (modfile_IsDirectoryPath.calls a0 t108 _ A2.out).mono ?_); rintro e w' ⟨rfl, ⟨nd, rfl⟩⟩; refine ⟨_, rfl, ?_⟩))
  go_ret
  exact ⟨by first | rfl | (simp; done) | (simp [*]; done), by repeat (first | exact Drawn0.refl _ | apply Drawn0.step)⟩

/-! ### spec_Begins: function 13 -/
def spec_Begins.f (a0 : ByteArray) (a1 : ByteArray) : Option (Bool) := if (a0.size : Int) ≥ (a1.size : Int) then (if 0 ≤ (a1.size : Int) then (if (a1.size : Int) ≤ (a0.size : Int) then (some ((a0.extract 0 ((a1.size : Int) : Int).toNat).toList == a1.toList)) else (none)) else (none)) else (some false)
set_option maxHeartbeats 8000000 in
set_option maxRecDepth 100000 in
theorem spec_Begins.calls (a0 : ByteArray) (a1 : ByteArray) (r : Bool) (w : World) (h : spec_Begins.f a0 a1 = some r) :
    Calls Try.prog 13 #[.string a0, .string a1] w fun e w' => e = .returned (.bool r) ∧ Drawn0 w w' := by
  have H : (if (a0.size : Int) ≥ (a1.size : Int) then (if 0 ≤ (a1.size : Int) then (if (a1.size : Int) ≤ (a0.size : Int) then (some ((a0.extract 0 ((a1.size : Int) : Int).toNat).toList == a1.toList)) else (none)) else (none)) else (some false)) = some r := h
  clear h
  by_cases c3 : (a0.size : Int) ≥ (a1.size : Int)
  · rw [if_pos c3] at H
    have c3b0 : decide ((a1.size : Int) ≤ (a0.size : Int)) = true := decide_eq_true c3
    have c3b1 : decide (a1.size ≤ a0.size) = true := decide_eq_true (Int.ofNat_le.mp c3)
    clear c3
    by_cases c4 : 0 ≤ (a1.size : Int)
    · rw [if_pos c4] at H
      have c4b0 := eq_true c4
      have c4b1 : decide (0 ≤ (a1.size : Int)) = true := decide_eq_true c4
      clear c4
      by_cases c5 : (a1.size : Int) ≤ (a0.size : Int)
      · rw [if_pos c5] at H
        have c5b0 := eq_true c5
        have c5b1 : decide ((a1.size : Int) ≤ (a0.size : Int)) = true := decide_eq_true c5
        clear c5
        obtain rfl := Option.some.inj H
        go_enter Try.func13, Try.ntmps13
        go_wp2
        go_ret
        exact ⟨by first | rfl | (simp; done) | (simp [*]; done), by repeat (first | exact Drawn0.refl _ | apply Drawn0.step)⟩
      · rw [if_neg c5] at H
        exact absurd H (by simp)
    · rw [if_neg c4] at H
      exact absurd H (by simp)
  · rw [if_neg c3] at H
    have c3b0 : decide ((a1.size : Int) ≤ (a0.size : Int)) = false := decide_eq_false c3
    have c3b1 : decide (a1.size ≤ a0.size) = false := decide_eq_false (fun h => c3 (Int.ofNat_le.mpr h))
    clear c3
    obtain rfl := Option.some.inj H
    go_enter Try.func13, Try.ntmps13
    go_wp2
    go_ret
    exact ⟨by first | rfl | (simp; done) | (simp [*]; done), by repeat (first | exact Drawn0.refl _ | apply Drawn0.step)⟩

/-! ### spec_letter: function 15 -/
def spec_letter.f (a0 : Int) : Option (Bool) := if a0 ≥ 97 then (some (decide (a0 ≤ 122))) else (some false)
set_option maxHeartbeats 8000000 in
set_option maxRecDepth 100000 in
theorem spec_letter.calls (a0 : Int) (r : Bool) (w : World) (h : spec_letter.f a0 = some r) :
    Calls Try.prog 15 #[.int .u8 a0] w fun e w' => e = .returned (.bool r) ∧ Drawn0 w w' := by
  have H : (if a0 ≥ 97 then (some (decide (a0 ≤ 122))) else (some false)) = some r := h
  clear h
  by_cases c2 : a0 ≥ 97
  · rw [if_pos c2] at H
    have c2b0 : decide (97 ≤ a0) = true := decide_eq_true c2
    clear c2
    obtain rfl := Option.some.inj H
    go_enter Try.func15, Try.ntmps15
    go_wp2
    go_ret
    exact ⟨by first | rfl | (simp; done) | (simp [*]; done), by repeat (first | exact Drawn0.refl _ | apply Drawn0.step)⟩
  · rw [if_neg c2] at H
    have c2b0 : decide (97 ≤ a0) = false := decide_eq_false c2
    clear c2
    obtain rfl := Option.some.inj H
    go_enter Try.func15, Try.ntmps15
    go_wp2
    go_ret
    exact ⟨by first | rfl | (simp; done) | (simp [*]; done), by repeat (first | exact Drawn0.refl _ | apply Drawn0.step)⟩

/-! ### spec_Directory: function 9 -/
mutual
def spec_Directory.j0 : Nat → ByteArray → Bool → Option (Bool)
  | 0, _, _ => none
  | k + 1, x0, x10 => if x10 = true then (some true) else ((some (([(⟨#[46, 47]⟩ : ByteArray), (⟨#[46, 46, 47]⟩ : ByteArray), (⟨#[47]⟩ : ByteArray), (⟨#[46, 92]⟩ : ByteArray), (⟨#[46, 46, 92]⟩ : ByteArray), (⟨#[92]⟩ : ByteArray)] : List ByteArray) : List ByteArray)).bind fun y109 => (spec_Directory.l0 k x0 y109 (y109.length : Int) 0))
def spec_Directory.l0 : Nat → ByteArray → List ByteArray → Int → Int → Option (Bool)
  | 0, _, _, _, _ => none
  | k + 1, x0, x11, x12, x13 => if x13 < x12 then (if 0 ≤ x13 then (if x13 < (x11.length : Int) then ((spec_Begins.f x0 (rdOf ByteArray.empty x11 x13)).bind fun t113 => (if t113 = true then (some true) else (spec_Directory.l0 k x0 x11 x12 (wrap64 (x13 + 1))))) else (none)) else (none)) else (if (x0.size : Int) > 1 then (if 0 < (x0.size : Int) then (if (bt x0 0) ≥ 65 then (if (bt x0 0) ≤ 90 then (if 1 < (x0.size : Int) then (some ((bt x0 1) == 58)) else (none)) else ((spec_letter.f (bt x0 0)).bind fun t114 => (if t114 = true then (if 1 < (x0.size : Int) then (some ((bt x0 1) == 58)) else (none)) else (some false)))) else ((spec_letter.f (bt x0 0)).bind fun t115 => (if t115 = true then (if 1 < (x0.size : Int) then (some ((bt x0 1) == 58)) else (none)) else (some false)))) else (none)) else (some false))
end
def spec_Directory.f (k : Nat) (a0 : ByteArray) : Option (Bool) := if a0.toList = ([46] : List UInt8) then (spec_Directory.j0 k a0 true) else (spec_Directory.j0 k a0 (a0.toList == ([46, 46] : List UInt8)))
theorem spec_Directory.mono_l : ∀ k, (∀ y0 y1, LeO (spec_Directory.j0 k y0 y1) (spec_Directory.j0 (k + 1) y0 y1)) ∧ (∀ y0 y1 y2 y3, LeO (spec_Directory.l0 k y0 y1 y2 y3) (spec_Directory.l0 (k + 1) y0 y1 y2 y3))
  | 0 => ⟨fun _ _ r h => by simp [spec_Directory.j0] at h, fun _ _ _ _ r h => by simp [spec_Directory.l0] at h⟩
  | k + 1 => by
    obtain ⟨ih0, ih1⟩ := spec_Directory.mono_l k
    refine ⟨?_, ?_⟩
    · intro y0 y1
      unfold spec_Directory.j0
      repeat' first
      | (with_reducible exact ih0 _ _)
      | (with_reducible exact ih1 _ _ _ _)
      | (with_reducible exact LeO.refl _)
      | (with_reducible exact LeO.none _)
      | (with_reducible refine LeO.ite ?_ ?_)
      | (with_reducible refine LeO.bind ?_ (fun _ => ?_))
      | exact ih0 _ _
      | exact ih1 _ _ _ _
      | exact LeO.none _
      | refine LeO.ite ?_ ?_
      | refine LeO.bind ?_ (fun _ => ?_)
    · intro y0 y1 y2 y3
      unfold spec_Directory.l0
      repeat' first
      | (with_reducible exact ih0 _ _)
      | (with_reducible exact ih1 _ _ _ _)
      | (with_reducible exact LeO.refl _)
      | (with_reducible exact LeO.none _)
      | (with_reducible refine LeO.ite ?_ ?_)
      | (with_reducible refine LeO.bind ?_ (fun _ => ?_))
      | exact ih0 _ _
      | exact ih1 _ _ _ _
      | exact LeO.none _
      | refine LeO.ite ?_ ?_
      | refine LeO.bind ?_ (fun _ => ?_)
theorem spec_Directory.mono : ∀ a0 k, LeO (spec_Directory.f k a0) (spec_Directory.f (k + 1) a0) := by
  intro a0 k
  obtain ⟨ih0, ih1⟩ := spec_Directory.mono_l k
  unfold spec_Directory.f
  repeat' first
      | (with_reducible exact ih0 _ _)
      | (with_reducible exact ih1 _ _ _ _)
      | (with_reducible exact LeO.refl _)
      | (with_reducible exact LeO.none _)
      | (with_reducible refine LeO.ite ?_ ?_)
      | (with_reducible refine LeO.bind ?_ (fun _ => ?_))
      | exact ih0 _ _
      | exact ih1 _ _ _ _
      | exact LeO.none _
      | refine LeO.ite ?_ ?_
      | refine LeO.bind ?_ (fun _ => ?_)
set_option maxHeartbeats 8000000 in
set_option maxRecDepth 100000 in
theorem spec_Directory.calls (k : Nat) (a0 : ByteArray) (r : Bool) (w : World) (h : spec_Directory.f k a0 = some r) :
    Calls Try.prog 9 #[.string a0] w fun e w' => e = .returned (.bool r) ∧ Below w.heap.size w w' := by
  have HB := Aside0.mk (Below.refl w.heap.size w)
  have H : (if a0.toList = ([46] : List UInt8) then (spec_Directory.j0 k a0 true) else (spec_Directory.j0 k a0 (a0.toList == ([46, 46] : List UInt8)))) = some r := h
  clear h
  have HC2 := Aside0.mk H
  clear H
  go_enter Try.func9, Try.ntmps9
  go_upto_region 1 with (fail)
  go_cut [10] (fun v10 wc => ∃ (kq : Nat) (x10_1 : Bool), v10 = .bool x10_1 ∧ Aside0 (spec_Directory.j0 kq a0 x10_1 = some r) ∧ Aside0 (kq ≤ k) ∧ Aside0 (Below w.heap.size w wc))
  case first =>
    have H := HC2.out
    clear HC2
    by_cases c3 : a0.toList = ([46] : List UInt8)
    · rw [if_pos c3] at H
      have c3b0 : (a0.toList == ([46] : List UInt8)) = true := beq_iff_eq.mpr c3
      have c3b1 : (a0.toList != ([46] : List UInt8)) = false := bne_eq_false_iff_eq.mpr c3
      clear c3
      (first | rw [c3b0] | (simp only [i64_w, i32_w]; rw [c3b0]) | skip)
      have H' := Aside0.mk H
      clear H
      go_wp2
      go_meet
      case rel => exact ⟨_, (true), (by first | rfl | (simp; done) | (simp [*]; done)), H', ⟨by first | omega | exact Nat.le_refl _⟩, ⟨by repeat (first | (with_reducible first | exact HB.out | apply below_alloc | apply pw_below_drewN | apply below_drew1) | exact HB.out)⟩⟩
    · rw [if_neg c3] at H
      have c3b0 : (a0.toList == ([46] : List UInt8)) = false := beq_eq_false_iff_ne.mpr c3
      have c3b1 : (a0.toList != ([46] : List UInt8)) = true := bne_iff_ne.mpr c3
      (first | rw [c3b0] | (simp only [i64_w, i32_w]; rw [c3b0]) | skip)
      have H' := Aside0.mk H
      clear H
      go_wp2
      go_meet
      case rel => exact ⟨_, ((a0.toList == ([46, 46] : List UInt8))), (by first | rfl | (simp; done) | (simp [*]; done)), H', ⟨by first | omega | exact Nat.le_refl _⟩, ⟨by repeat (first | (with_reducible first | exact HB.out | apply below_alloc | apply pw_below_drewN | apply below_drew1) | exact HB.out)⟩⟩
  case rest =>
    clear HC2
    try clear p2
    try clear c3
    try clear c3b0
    try clear c3b1
    obtain ⟨kq, x10_1, rfl, HA, HJ1, HB⟩ := hcut
    cases kq with
    | zero => exact absurd HA.out (by simp [spec_Directory.j0])
    | succ kj1 =>
      have H := HA.out
      clear HA
      simp only [spec_Directory.j0] at H
      by_cases c4 : x10_1 = true
      · subst c4
        have H1 : (some true) = some r := by rw [if_pos rfl] at H; exact H
        clear H
        have H := H1
        clear H1
        obtain rfl := Option.some.inj H
        go_wp2
        go_ret
        exact ⟨by first | rfl | (simp [errW_none, errW_some] <;> rfl) | (simp [*, errW_none, errW_some] <;> rfl), by repeat (first | (with_reducible first | exact HB.out | apply below_alloc | apply pw_below_drewN | apply below_drew1) | exact HB.out)⟩
      · replace c4 := Bool.eq_false_iff.mpr c4
        subst c4
        have H1 : ((some (([(⟨#[46, 47]⟩ : ByteArray), (⟨#[46, 46, 47]⟩ : ByteArray), (⟨#[47]⟩ : ByteArray), (⟨#[46, 92]⟩ : ByteArray), (⟨#[46, 46, 92]⟩ : ByteArray), (⟨#[92]⟩ : ByteArray)] : List ByteArray) : List ByteArray)).bind fun y109 => (spec_Directory.l0 kj1 a0 y109 (y109.length : Int) 0)) = some r := by rw [if_neg (show ¬ (false = true) by decide)] at H; exact H
        clear H
        have H := H1
        clear H1
        obtain ⟨y109, hy109⟩ : ∃ y_ : List ByteArray, y_ = (([(⟨#[46, 47]⟩ : ByteArray), (⟨#[46, 46, 47]⟩ : ByteArray), (⟨#[47]⟩ : ByteArray), (⟨#[46, 92]⟩ : ByteArray), (⟨#[46, 46, 92]⟩ : ByteArray), (⟨#[92]⟩ : ByteArray)] : List ByteArray)) := ⟨_, rfl⟩
        replace H : (spec_Directory.l0 kj1 a0 y109 (y109.length : Int) 0) = some r := by first | (rw [hy109]; with_reducible exact H) | (have H2_ := (Option.bind_some _ _).symm.trans H; rw [hy109]; with_reducible exact H2_) | (have H2_ := (Option.bind_some _ _).symm.trans H; with_reducible exact H2_) | with_reducible exact H | (rw [hy109]; exact H) | exact H
        have Ny109 := Aside0.mk hy109
        clear hy109
        have H' := Aside0.mk H
        clear H
        go_wp2_with (first | ((with_reducible refine gate_dst (N := 11) rfl ?_); refine Kd.R_lit Kd.string _ 9 ?hg (N := 11) ?hd (xs := ([(⟨#[46, 47]⟩ : ByteArray), (⟨#[46, 46, 47]⟩ : ByteArray), (⟨#[47]⟩ : ByteArray), (⟨#[46, 92]⟩ : ByteArray), (⟨#[46, 46, 92]⟩ : ByteArray), (⟨#[92]⟩ : ByteArray)] : List ByteArray)) (inner := [.string (⟨#[46, 47]⟩ : ByteArray), .string (⟨#[46, 46, 47]⟩ : ByteArray), .string (⟨#[47]⟩ : ByteArray), .string (⟨#[46, 92]⟩ : ByteArray), .string (⟨#[46, 46, 92]⟩ : ByteArray), .string (⟨#[92]⟩ : ByteArray)]) (ok := fun _ => True) (okp := fun _ => True) ?hr ?hp (fun _ hk => hk) trivial (Below.refl _ _) (Nat.le_refl _) (by simp) ?_; (case hd => rfl); (case hg => rfl); (case hr => first | (go_simp; done) | (go_simp; rfl)); (case hp => exact (Reps.one (show Kd.M Kd.string _ _ _ (⟨#[46, 47]⟩ : ByteArray) [.string (⟨#[46, 47]⟩ : ByteArray)] from rfl) (Reps.one (show Kd.M Kd.string _ _ _ (⟨#[46, 46, 47]⟩ : ByteArray) [.string (⟨#[46, 46, 47]⟩ : ByteArray)] from rfl) (Reps.one (show Kd.M Kd.string _ _ _ (⟨#[47]⟩ : ByteArray) [.string (⟨#[47]⟩ : ByteArray)] from rfl) (Reps.one (show Kd.M Kd.string _ _ _ (⟨#[46, 92]⟩ : ByteArray) [.string (⟨#[46, 92]⟩ : ByteArray)] from rfl) (Reps.one (show Kd.M Kd.string _ _ _ (⟨#[46, 46, 92]⟩ : ByteArray) [.string (⟨#[46, 46, 92]⟩ : ByteArray)] from rfl) (Reps.one (show Kd.M Kd.string _ _ _ (⟨#[92]⟩ : ByteArray) [.string (⟨#[92]⟩ : ByteArray)] from rfl) (Reps.none _ _)))))))); intro v110 w5 ho6 hb hg_ hnew_; clear hg_ hnew_; (first | rw [← Ny109.out] at ho6 | (simp only [Int.reduceToNat] at ho6; rw [← Ny109.out] at ho6)); have n0_ := Aside0.mk (Kd.R_lower ho6 (below_size (by repeat (first | (with_reducible first | exact HB.out | apply below_alloc | apply pw_below_drewN | apply below_drew1) | exact HB.out)))); have n1_ := Aside0.mk (below_step (by repeat (first | (with_reducible first | exact HB.out | apply below_alloc | apply pw_below_drewN | apply below_drew1) | exact HB.out)) hb); clear HB; have HO111 := n0_; have HB := n1_; clear n0_ n1_; clear hb ho6; obtain ⟨Ao7, co7, eo7⟩ := Kd.R_slice HO111.out; subst eo7))
        go_loopg [13] kj1 (fun kq v13 w' => ∃ (x13_2 : Int), v13 = .int .i64 x13_2 ∧ Aside0 (spec_Directory.l0 kq a0 y109 (y109.length : Int) x13_2 = some r) ∧ Aside0 (kq ≤ kj1) ∧ Aside0 (Kd.R Kd.string 9 w' w.heap.size (fun _ => True) (.slice Ao7 y109.length co7) y109) ∧ Aside0 (Below w.heap.size w w'))
        case atStart => exact ⟨(0), (by first | rfl | (simp; done) | (simp [*]; done)), H', ⟨Nat.le_refl _⟩, ⟨by (with_reducible repeat (first | apply Kd.R_alloc | apply Kd.R_drewN | apply Kd.R_drew)); exact HO111.out⟩, ⟨by repeat (first | (with_reducible first | exact HB.out | apply below_alloc | apply pw_below_drewN | apply below_drew1) | exact HB.out)⟩⟩
        case round =>
          clear H'
          try clear p2
          try clear c3
          try clear c3b0
          try clear c3b1
          try clear c4
          try clear p2
          obtain ⟨x13_2, rfl, HA, HK2, HO_11, HB⟩ := hrel
          cases gk with
          | zero => exact absurd HA.out (by simp [spec_Directory.l0])
          | succ k2 =>
            have H := HA.out
            clear HA
            simp only [spec_Directory.l0] at H
            by_cases c8 : x13_2 < (y109.length : Int)
            · rw [if_pos c8] at H
              have c8b0 : decide (x13_2 < (y109.length : Int)) = true := decide_eq_true c8
              clear c8
              by_cases c9 : 0 ≤ x13_2
              · rw [if_pos c9] at H
                have c9b0 : decide (0 ≤ x13_2) = true := decide_eq_true c9
                clear c9
                by_cases c10 : x13_2 < (y109.length : Int)
                · rw [if_pos c10] at H
                  have c10b0 : decide (x13_2 < (y109.length : Int)) = true := decide_eq_true c10
                  clear c10
                  replace H := Option.bind_eq_some_iff.mp H
                  obtain ⟨t113, A110, H⟩ := H
                  replace H : (if t113 = true then (some true) else (spec_Directory.l0 k2 a0 y109 (y109.length : Int) (wrap64 (x13_2 + 1)))) = some r := H
                  have A11 := Aside0.mk A110
                  clear A110
                  by_cases c12 : t113 = true
                  · subst c12
                    have H1 : (some true) = some r := by rw [if_pos rfl] at H; exact H
                    clear H
                    have H := H1
                    clear H1
                    obtain rfl := Option.some.inj H
                    have p112 : 0 ≤ (x13_2 : Int) := of_decide_eq_true (by first | (with_reducible assumption) | assumption)
                    have q112 : x13_2 < (y109.length : Int) := of_decide_eq_true (by first | (with_reducible assumption) | assumption)
                    obtain ⟨ad112, e112, hx112_0⟩ := Kd.at_string (Kd.R_reads' HO_11.out).2.2 x13_2 p112 q112
                    cases e112
                    replace p112 := eq_true p112
                    replace q112 := eq_true q112
                    go_wp2_with (first | ((with_reducible refine gate_callee (f := 13) rfl ?_); refine goesL_ (some 19) rfl rfl Try.func13 (by kernel_rfl) rfl #[.string a0, .string (rdOf ByteArray.empty y109 x13_2)] rfl (by (try simp only [List.map_toArray, List.map_cons, List.map_nil]); first | done | rfl | (simp only [List.length_drop, List.length_take]; rfl)) ?_; (with_reducible refine (spec_Begins.calls a0 (rdOf ByteArray.empty y109 x13_2) true _ A11.out).mono ?_); rintro e w' ⟨rfl, ⟨nd, rfl⟩⟩; refine ⟨_, rfl, ?_⟩))
                    go_ret
                    exact ⟨by first | rfl | (simp [errW_none, errW_some] <;> rfl) | (simp [*, errW_none, errW_some] <;> rfl), by repeat (first | (with_reducible first | exact HB.out | apply below_alloc | apply pw_below_drewN | apply below_drew1) | exact HB.out)⟩
                  · replace c12 := Bool.eq_false_iff.mpr c12
                    subst c12
                    have H1 : (spec_Directory.l0 k2 a0 y109 (y109.length : Int) (wrap64 (x13_2 + 1))) = some r := by rw [if_neg (show ¬ (false = true) by decide)] at H; exact H
                    clear H
                    have H := H1
                    clear H1
                    have H' := Aside0.mk H
                    clear H
                    have p112 : 0 ≤ (x13_2 : Int) := of_decide_eq_true (by first | (with_reducible assumption) | assumption)
                    have q112 : x13_2 < (y109.length : Int) := of_decide_eq_true (by first | (with_reducible assumption) | assumption)
                    obtain ⟨ad112, e112, hx112_0⟩ := Kd.at_string (Kd.R_reads' HO_11.out).2.2 x13_2 p112 q112
                    cases e112
                    replace p112 := eq_true p112
                    replace q112 := eq_true q112
                    go_wp2_with (first | ((with_reducible refine gate_callee (f := 13) rfl ?_); refine goesL_ (some 19) rfl rfl Try.func13 (by kernel_rfl) rfl #[.string a0, .string (rdOf ByteArray.empty y109 x13_2)] rfl (by (try simp only [List.map_toArray, List.map_cons, List.map_nil]); first | done | rfl | (simp only [List.length_drop, List.length_take]; rfl)) ?_; (with_reducible refine (spec_Begins.calls a0 (rdOf ByteArray.empty y109 x13_2) false _ A11.out).mono ?_); rintro e w' ⟨rfl, ⟨nd, rfl⟩⟩; refine ⟨_, rfl, ?_⟩))
                    go_roundg k2
                    case measure => have := HJ1.out; have := HK2.out; omega
                    case rel => exact ⟨(wrap64 (x13_2 + 1)), (by first | rfl | (simp; done) | (simp [*]; done)), H', ⟨by have := HJ1.out; have := HK2.out; omega⟩, ⟨by (with_reducible repeat (first | apply Kd.R_alloc | apply Kd.R_drewN | apply Kd.R_drew)); exact HO_11.out⟩, ⟨by repeat (first | (with_reducible first | exact HB.out | apply below_alloc | apply pw_below_drewN | apply below_drew1) | exact HB.out)⟩⟩
                · rw [if_neg c10] at H
                  exact absurd H (by simp)
              · rw [if_neg c9] at H
                exact absurd H (by simp)
            · rw [if_neg c8] at H
              have c8b0 : decide (x13_2 < (y109.length : Int)) = false := decide_eq_false c8
              clear c8
              by_cases c13 : (a0.size : Int) > 1
              · rw [if_pos c13] at H
                have c13b0 : decide (1 < (a0.size : Int)) = true := decide_eq_true c13
                have c13b1 : decide (1 < a0.size) = true := decide_eq_true (by omega)
                clear c13
                by_cases c14 : 0 < (a0.size : Int)
                · rw [if_pos c14] at H
                  have c14b0 : decide (0 < (a0.size : Int)) = true := decide_eq_true c14
                  have c14b1 : decide (0 < a0.size) = true := decide_eq_true (by omega)
                  clear c14
                  by_cases c16 : (bt a0 0) ≥ 65
                  · rw [if_pos c16] at H
                    have c16b0 : decide (65 ≤ (bt a0 0)) = true := decide_eq_true c16
                    clear c16
                    by_cases c18 : (bt a0 0) ≤ 90
                    · rw [if_pos c18] at H
                      have c18b0 : decide ((bt a0 0) ≤ 90) = true := decide_eq_true c18
                      clear c18
                      by_cases c19 : 1 < (a0.size : Int)
                      · rw [if_pos c19] at H
                        have c19b0 : decide (1 < (a0.size : Int)) = true := decide_eq_true c19
                        have c19b1 : decide (1 < a0.size) = true := decide_eq_true (by omega)
                        clear c19
                        obtain rfl := Option.some.inj H
                        have p15 : 0 ≤ (0 : Int) := (by omega)
                        have q15 : 0 < a0.size := (by have : (0 : Int) < (a0.size : Int) := of_decide_eq_true (by first | (with_reducible assumption) | assumption); omega)
                        have hx15 : ∀ h : 0 < a0.size, ((a0[0]'h).toNat : Int) = bt a0 0 := bt_at a0 0
                        clear p15
                        have qi15 : (0 < (a0.size : Int)) = True := eq_true (of_decide_eq_true (by first | (with_reducible assumption) | assumption))
                        replace q15 := eq_true q15
                        have p17 : 0 ≤ (0 : Int) := (by omega)
                        have q17 : 0 < a0.size := (by have : (0 : Int) < (a0.size : Int) := of_decide_eq_true (by first | (with_reducible assumption) | assumption); omega)
                        have hx17 : ∀ h : 0 < a0.size, ((a0[0]'h).toNat : Int) = bt a0 0 := bt_at a0 0
                        clear p17
                        have qi17 : (0 < (a0.size : Int)) = True := eq_true (of_decide_eq_true (by first | (with_reducible assumption) | assumption))
                        replace q17 := eq_true q17
                        have p20 : 0 ≤ (1 : Int) := (by omega)
                        have q20 : 1 < a0.size := (by have : (1 : Int) < (a0.size : Int) := of_decide_eq_true (by first | (with_reducible assumption) | assumption); omega)
                        have hx20 : ∀ h : 1 < a0.size, ((a0[1]'h).toNat : Int) = bt a0 1 := bt_at a0 1
                        clear p20
                        have qi20 : (1 < (a0.size : Int)) = True := eq_true (of_decide_eq_true (by first | (with_reducible assumption) | assumption))
                        replace q20 := eq_true q20
                        go_wp2
                        go_ret
                        exact ⟨by first | rfl | (simp [errW_none, errW_some] <;> rfl) | (simp [*, errW_none, errW_some] <;> rfl), by repeat (first | (with_reducible first | exact HB.out | apply below_alloc | apply pw_below_drewN | apply below_drew1) | exact HB.out)⟩
                      · rw [if_neg c19] at H
                        exact absurd H (by simp)
                    · rw [if_neg c18] at H
                      have c18b0 : decide ((bt a0 0) ≤ 90) = false := decide_eq_false c18
                      clear c18
                      replace H := Option.bind_eq_some_iff.mp H
                      obtain ⟨t114, A220, H⟩ := H
                      replace H : (if t114 = true then (if 1 < (a0.size : Int) then (some ((bt a0 1) == 58)) else (none)) else (some false)) = some r := H
                      have A22 := Aside0.mk A220
                      clear A220
                      by_cases c23 : t114 = true
                      · subst c23
                        have H1 : (if 1 < (a0.size : Int) then (some ((bt a0 1) == 58)) else (none)) = some r := by rw [if_pos rfl] at H; exact H
                        clear H
                        have H := H1
                        clear H1
                        by_cases c24 : 1 < (a0.size : Int)
                        · rw [if_pos c24] at H
                          have c24b0 : decide (1 < (a0.size : Int)) = true := decide_eq_true c24
                          have c24b1 : decide (1 < a0.size) = true := decide_eq_true (by omega)
                          clear c24
                          obtain rfl := Option.some.inj H
                          have p15 : 0 ≤ (0 : Int) := (by omega)
                          have q15 : 0 < a0.size := (by have : (0 : Int) < (a0.size : Int) := of_decide_eq_true (by first | (with_reducible assumption) | assumption); omega)
                          have hx15 : ∀ h : 0 < a0.size, ((a0[0]'h).toNat : Int) = bt a0 0 := bt_at a0 0
                          clear p15
                          have qi15 : (0 < (a0.size : Int)) = True := eq_true (of_decide_eq_true (by first | (with_reducible assumption) | assumption))
                          replace q15 := eq_true q15
                          have p17 : 0 ≤ (0 : Int) := (by omega)
                          have q17 : 0 < a0.size := (by have : (0 : Int) < (a0.size : Int) := of_decide_eq_true (by first | (with_reducible assumption) | assumption); omega)
                          have hx17 : ∀ h : 0 < a0.size, ((a0[0]'h).toNat : Int) = bt a0 0 := bt_at a0 0
                          clear p17
                          have qi17 : (0 < (a0.size : Int)) = True := eq_true (of_decide_eq_true (by first | (with_reducible assumption) | assumption))
                          replace q17 := eq_true q17
                          have p21 : 0 ≤ (0 : Int) := (by omega)
                          have q21 : 0 < a0.size := (by have : (0 : Int) < (a0.size : Int) := of_decide_eq_true (by first | (with_reducible assumption) | assumption); omega)
                          have hx21 : ∀ h : 0 < a0.size, ((a0[0]'h).toNat : Int) = bt a0 0 := bt_at a0 0
                          clear p21
                          have qi21 : (0 < (a0.size : Int)) = True := eq_true (of_decide_eq_true (by first | (with_reducible assumption) | assumption))
                          replace q21 := eq_true q21
                          go_wp2_with (first | (go_at_call 15; (with_reducible refine (spec_letter.calls (bt a0 0) true _ A22.out).mono ?_); rintro e w' ⟨rfl, ⟨nd, rfl⟩⟩; have p25 : 0 ≤ (1 : Int) := (by omega); have q25 : 1 < a0.size := (by have : (1 : Int) < (a0.size : Int) := of_decide_eq_true (by first | (with_reducible assumption) | assumption); omega); have hx25 : ∀ h : 1 < a0.size, ((a0[1]'h).toNat : Int) = bt a0 1 := bt_at a0 1; clear p25; have qi25 : (1 < (a0.size : Int)) = True := eq_true (of_decide_eq_true (by first | (with_reducible assumption) | assumption)); replace q25 := eq_true q25))
                          go_ret
                          exact ⟨by first | rfl | (simp [errW_none, errW_some] <;> rfl) | (simp [*, errW_none, errW_some] <;> rfl), by repeat (first | (with_reducible first | exact HB.out | apply below_alloc | apply pw_below_drewN | apply below_drew1) | exact HB.out)⟩
                        · rw [if_neg c24] at H
                          exact absurd H (by simp)
                      · replace c23 := Bool.eq_false_iff.mpr c23
                        subst c23
                        have H1 : (some false) = some r := by rw [if_neg (show ¬ (false = true) by decide)] at H; exact H
                        clear H
                        have H := H1
                        clear H1
                        obtain rfl := Option.some.inj H
                        have p15 : 0 ≤ (0 : Int) := (by omega)
                        have q15 : 0 < a0.size := (by have : (0 : Int) < (a0.size : Int) := of_decide_eq_true (by first | (with_reducible assumption) | assumption); omega)
                        have hx15 : ∀ h : 0 < a0.size, ((a0[0]'h).toNat : Int) = bt a0 0 := bt_at a0 0
                        clear p15
                        have qi15 : (0 < (a0.size : Int)) = True := eq_true (of_decide_eq_true (by first | (with_reducible assumption) | assumption))
                        replace q15 := eq_true q15
                        have p17 : 0 ≤ (0 : Int) := (by omega)
                        have q17 : 0 < a0.size := (by have : (0 : Int) < (a0.size : Int) := of_decide_eq_true (by first | (with_reducible assumption) | assumption); omega)
                        have hx17 : ∀ h : 0 < a0.size, ((a0[0]'h).toNat : Int) = bt a0 0 := bt_at a0 0
                        clear p17
                        have qi17 : (0 < (a0.size : Int)) = True := eq_true (of_decide_eq_true (by first | (with_reducible assumption) | assumption))
                        replace q17 := eq_true q17
                        have p21 : 0 ≤ (0 : Int) := (by omega)
                        have q21 : 0 < a0.size := (by have : (0 : Int) < (a0.size : Int) := of_decide_eq_true (by first | (with_reducible assumption) | assumption); omega)
                        have hx21 : ∀ h : 0 < a0.size, ((a0[0]'h).toNat : Int) = bt a0 0 := bt_at a0 0
                        clear p21
                        have qi21 : (0 < (a0.size : Int)) = True := eq_true (of_decide_eq_true (by first | (with_reducible assumption) | assumption))
                        replace q21 := eq_true q21
                        go_wp2_with (first | (go_at_call 15; (with_reducible refine (spec_letter.calls (bt a0 0) false _ A22.out).mono ?_); rintro e w' ⟨rfl, ⟨nd, rfl⟩⟩))
                        go_ret
                        exact ⟨by first | rfl | (simp [errW_none, errW_some] <;> rfl) | (simp [*, errW_none, errW_some] <;> rfl), by repeat (first | (with_reducible first | exact HB.out | apply below_alloc | apply pw_below_drewN | apply below_drew1) | exact HB.out)⟩
                  · rw [if_neg c16] at H
                    have c16b0 : decide (65 ≤ (bt a0 0)) = false := decide_eq_false c16
                    clear c16
                    replace H := Option.bind_eq_some_iff.mp H
                    obtain ⟨t115, A270, H⟩ := H
                    replace H : (if t115 = true then (if 1 < (a0.size : Int) then (some ((bt a0 1) == 58)) else (none)) else (some false)) = some r := H
                    have A27 := Aside0.mk A270
                    clear A270
                    by_cases c28 : t115 = true
                    · subst c28
                      have H1 : (if 1 < (a0.size : Int) then (some ((bt a0 1) == 58)) else (none)) = some r := by rw [if_pos rfl] at H; exact H
                      clear H
                      have H := H1
                      clear H1
                      by_cases c29 : 1 < (a0.size : Int)
                      · rw [if_pos c29] at H
                        have c29b0 : decide (1 < (a0.size : Int)) = true := decide_eq_true c29
                        have c29b1 : decide (1 < a0.size) = true := decide_eq_true (by omega)
                        clear c29
                        obtain rfl := Option.some.inj H
                        have p15 : 0 ≤ (0 : Int) := (by omega)
                        have q15 : 0 < a0.size := (by have : (0 : Int) < (a0.size : Int) := of_decide_eq_true (by first | (with_reducible assumption) | assumption); omega)
                        have hx15 : ∀ h : 0 < a0.size, ((a0[0]'h).toNat : Int) = bt a0 0 := bt_at a0 0
                        clear p15
                        have qi15 : (0 < (a0.size : Int)) = True := eq_true (of_decide_eq_true (by first | (with_reducible assumption) | assumption))
                        replace q15 := eq_true q15
                        have p26 : 0 ≤ (0 : Int) := (by omega)
                        have q26 : 0 < a0.size := (by have : (0 : Int) < (a0.size : Int) := of_decide_eq_true (by first | (with_reducible assumption) | assumption); omega)
                        have hx26 : ∀ h : 0 < a0.size, ((a0[0]'h).toNat : Int) = bt a0 0 := bt_at a0 0
                        clear p26
                        have qi26 : (0 < (a0.size : Int)) = True := eq_true (of_decide_eq_true (by first | (with_reducible assumption) | assumption))
                        replace q26 := eq_true q26
                        go_wp2_with (first | (go_at_call 15; (with_reducible refine (spec_letter.calls (bt a0 0) true _ A27.out).mono ?_); rintro e w' ⟨rfl, ⟨nd, rfl⟩⟩; have p30 : 0 ≤ (1 : Int) := (by omega); have q30 : 1 < a0.size := (by have : (1 : Int) < (a0.size : Int) := of_decide_eq_true (by first | (with_reducible assumption) | assumption); omega); have hx30 : ∀ h : 1 < a0.size, ((a0[1]'h).toNat : Int) = bt a0 1 := bt_at a0 1; clear p30; have qi30 : (1 < (a0.size : Int)) = True := eq_true (of_decide_eq_true (by first | (with_reducible assumption) | assumption)); replace q30 := eq_true q30))
                        go_ret
                        exact ⟨by first | rfl | (simp [errW_none, errW_some] <;> rfl) | (simp [*, errW_none, errW_some] <;> rfl), by repeat (first | (with_reducible first | exact HB.out | apply below_alloc | apply pw_below_drewN | apply below_drew1) | exact HB.out)⟩
                      · rw [if_neg c29] at H
                        exact absurd H (by simp)
                    · replace c28 := Bool.eq_false_iff.mpr c28
                      subst c28
                      have H1 : (some false) = some r := by rw [if_neg (show ¬ (false = true) by decide)] at H; exact H
                      clear H
                      have H := H1
                      clear H1
                      obtain rfl := Option.some.inj H
                      have p15 : 0 ≤ (0 : Int) := (by omega)
                      have q15 : 0 < a0.size := (by have : (0 : Int) < (a0.size : Int) := of_decide_eq_true (by first | (with_reducible assumption) | assumption); omega)
                      have hx15 : ∀ h : 0 < a0.size, ((a0[0]'h).toNat : Int) = bt a0 0 := bt_at a0 0
                      clear p15
                      have qi15 : (0 < (a0.size : Int)) = True := eq_true (of_decide_eq_true (by first | (with_reducible assumption) | assumption))
                      replace q15 := eq_true q15
                      have p26 : 0 ≤ (0 : Int) := (by omega)
                      have q26 : 0 < a0.size := (by have : (0 : Int) < (a0.size : Int) := of_decide_eq_true (by first | (with_reducible assumption) | assumption); omega)
                      have hx26 : ∀ h : 0 < a0.size, ((a0[0]'h).toNat : Int) = bt a0 0 := bt_at a0 0
                      clear p26
                      have qi26 : (0 < (a0.size : Int)) = True := eq_true (of_decide_eq_true (by first | (with_reducible assumption) | assumption))
                      replace q26 := eq_true q26
                      go_wp2_with (first | (go_at_call 15; (with_reducible refine (spec_letter.calls (bt a0 0) false _ A27.out).mono ?_); rintro e w' ⟨rfl, ⟨nd, rfl⟩⟩))
                      go_ret
                      exact ⟨by first | rfl | (simp [errW_none, errW_some] <;> rfl) | (simp [*, errW_none, errW_some] <;> rfl), by repeat (first | (with_reducible first | exact HB.out | apply below_alloc | apply pw_below_drewN | apply below_drew1) | exact HB.out)⟩
                · rw [if_neg c14] at H
                  exact absurd H (by simp)
              · rw [if_neg c13] at H
                have c13b0 : decide (1 < (a0.size : Int)) = false := decide_eq_false c13
                have c13b1 : decide (1 < a0.size) = false := decide_eq_false (by omega)
                clear c13
                obtain rfl := Option.some.inj H
                go_wp2
                go_ret
                exact ⟨by first | rfl | (simp [errW_none, errW_some] <;> rfl) | (simp [*, errW_none, errW_some] <;> rfl), by repeat (first | (with_reducible first | exact HB.out | apply below_alloc | apply pw_below_drewN | apply below_drew1) | exact HB.out)⟩

end Go.Proofs.Ythgbiopfpjleaaa.PFnExactDirectory
