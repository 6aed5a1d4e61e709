/- For every string the law FnExactDirectory answers true: the program's IsDirectoryPath and the reference's Directory ask the same beginnings, in another order, and the same letter with a colon. Conditions: none. -/
import Derived.Test.YthgbiopfpjleaaaPFnExactDirectoryx2
namespace Go.Proofs.Ythgbiopfpjleaaa.Pure
open Go.RowKit Go.Proofs.Ythgbiopfpjleaaa.PFnExactDirectory Go.Proofs.YthgbiopfpjleaaaW.PrintWords Go.Proofs.YthgbiopfpjleaaaW.PrintLast

theorem begins_eq (a b : ByteArray) : spec_Begins.f a b = stringslite_HasPrefix.f a b := rfl

theorem hasPrefix_some (a b : ByteArray) : ∃ r, stringslite_HasPrefix.f a b = some r := by
  unfold stringslite_HasPrefix.f
  by_cases h : (a.size : Int) ≥ (b.size : Int)
  · rw [if_pos h, if_pos (by omega), if_pos (by omega)]; exact ⟨_, rfl⟩
  · rw [if_neg h]; exact ⟨_, rfl⟩

/-- A letter with a colon behind it, as the program asks for it. -/
def drive (a : ByteArray) : Option Bool := if (a.size : Int) ≥ 2 then (if 0 < (a.size : Int) then (if 65 ≤ (bt a 0) then (if (bt a 0) ≤ 90 then (if 1 < (a.size : Int) then (some ((bt a 1) == 58)) else (none)) else (if 97 ≤ (bt a 0) then (if (bt a 0) ≤ 122 then (if 1 < (a.size : Int) then (some ((bt a 1) == 58)) else (none)) else (some false)) else (some false))) else (if 97 ≤ (bt a 0) then (if (bt a 0) ≤ 122 then (if 1 < (a.size : Int) then (some ((bt a 1) == 58)) else (none)) else (some false)) else (some false))) else (none)) else (some false)

/-- The same, as the reference asks for it. -/
def driveS (x0 : ByteArray) : Option Bool := if (x0.size : Int) > 1 then (if 0 < (x0.size : Int) then (if (bt x0 0) ≥ 65 then (if (bt x0 0) ≤ 90 then (if 1 < (x0.size : Int) then (some ((bt x0 1) == 58)) else (none)) else ((spec_letter.f (bt x0 0)).bind fun t114 => (if t114 = true then (if 1 < (x0.size : Int) then (some ((bt x0 1) == 58)) else (none)) else (some false)))) else ((spec_letter.f (bt x0 0)).bind fun t115 => (if t115 = true then (if 1 < (x0.size : Int) then (some ((bt x0 1) == 58)) else (none)) else (some false)))) else (none)) else (some false)

theorem drive_eq (a : ByteArray) : ∃ r, drive a = some r ∧ driveS a = some r := by
  unfold drive driveS spec_letter.f
  by_cases h : (a.size : Int) ≥ 2
  · have p0 : ((0 : Int) < (a.size : Int)) = True := eq_true (by omega)
    have p1 : ((1 : Int) < (a.size : Int)) = True := eq_true (by omega)
    have p3 : ((a.size : Int) ≥ 2) = True := eq_true h
    simp only [p0, p1, p3, if_true]
    clear p0 p1 p3
    generalize bt a 0 = c
    generalize (bt a 1 == 58) = d
    by_cases h1 : 65 ≤ c <;> by_cases h2 : c ≤ 90 <;> by_cases h3 : 97 ≤ c <;> by_cases h4 : c ≤ 122 <;> first | omega | simp [h1, h2, h3, h4]
  · rw [if_neg h, if_neg (by omega)]; exact ⟨false, rfl, rfl⟩

/-- One round of the reference's loop over the six beginnings. -/
theorem round (a : ByteArray) (k : Nat) (i : Int) (x : ByteArray) (xs : List ByteArray) (b : Bool) (h0 : 0 ≤ i) (h1 : i < 6) (hx : xs.length = 6) (e : rdOf ByteArray.empty xs i = x) (hb : stringslite_HasPrefix.f a x = some b) :
    spec_Directory.l0 (k + 1) a xs 6 i = if b = true then some true else spec_Directory.l0 k a xs 6 (i + 1) := by
  have hw : wrap64 (i + 1) = i + 1 := by unfold wrap64; omega
  simp only [spec_Directory.l0]
  rw [if_pos h1, if_pos h0, if_pos (by omega), e, begins_eq, hb, hw]
  rfl

theorem last (a : ByteArray) (k : Nat) (xs : List ByteArray) : spec_Directory.l0 (k + 1) a xs 6 6 = driveS a := by
  simp only [spec_Directory.l0]
  rw [if_neg (by omega)]
  rfl

abbrev ways : List ByteArray := [(⟨#[46, 47]⟩ : ByteArray), (⟨#[46, 46, 47]⟩ : ByteArray), (⟨#[47]⟩ : ByteArray), (⟨#[46, 92]⟩ : ByteArray), (⟨#[46, 46, 92]⟩ : ByteArray), (⟨#[92]⟩ : ByteArray)]

/-- What the reference answers, in the six answers of its beginnings. -/
theorem loop_eq (a : ByteArray) (b1 b2 b3 b4 b5 b6 r : Bool) (h1 : stringslite_HasPrefix.f a (⟨#[46, 47]⟩ : ByteArray) = some b1) (h2 : stringslite_HasPrefix.f a (⟨#[46, 46, 47]⟩ : ByteArray) = some b2) (h3 : stringslite_HasPrefix.f a (⟨#[47]⟩ : ByteArray) = some b3) (h4 : stringslite_HasPrefix.f a (⟨#[46, 92]⟩ : ByteArray) = some b4) (h5 : stringslite_HasPrefix.f a (⟨#[46, 46, 92]⟩ : ByteArray) = some b5) (h6 : stringslite_HasPrefix.f a (⟨#[92]⟩ : ByteArray) = some b6) (hr : driveS a = some r) :
    spec_Directory.l0 7 a ways 6 0 = some (b1 || b2 || b3 || b4 || b5 || b6 || r) := by
  rw [round a 6 0 (⟨#[46, 47]⟩ : ByteArray) ways b1 (by omega) (by omega) rfl rfl h1, round a 5 (0 + 1) (⟨#[46, 46, 47]⟩ : ByteArray) ways b2 (by omega) (by omega) rfl rfl h2, round a 4 (0 + 1 + 1) (⟨#[47]⟩ : ByteArray) ways b3 (by omega) (by omega) rfl rfl h3, round a 3 (0 + 1 + 1 + 1) (⟨#[46, 92]⟩ : ByteArray) ways b4 (by omega) (by omega) rfl rfl h4, round a 2 (0 + 1 + 1 + 1 + 1) (⟨#[46, 46, 92]⟩ : ByteArray) ways b5 (by omega) (by omega) rfl rfl h5, round a 1 (0 + 1 + 1 + 1 + 1 + 1) (⟨#[92]⟩ : ByteArray) ways b6 (by omega) (by omega) rfl rfl h6]
  rw [show (0 + 1 + 1 + 1 + 1 + 1 + 1 : Int) = 6 from rfl, last, hr]
  cases b1 <;> cases b2 <;> cases b3 <;> cases b4 <;> cases b5 <;> cases b6 <;> simp

/-- What the reference answers. -/
theorem spec_tells (a : ByteArray) (b1 b2 b3 b4 b5 b6 r : Bool) (h1 : stringslite_HasPrefix.f a (⟨#[46, 47]⟩ : ByteArray) = some b1) (h2 : stringslite_HasPrefix.f a (⟨#[46, 46, 47]⟩ : ByteArray) = some b2) (h3 : stringslite_HasPrefix.f a (⟨#[47]⟩ : ByteArray) = some b3) (h4 : stringslite_HasPrefix.f a (⟨#[46, 92]⟩ : ByteArray) = some b4) (h5 : stringslite_HasPrefix.f a (⟨#[46, 46, 92]⟩ : ByteArray) = some b5) (h6 : stringslite_HasPrefix.f a (⟨#[92]⟩ : ByteArray) = some b6) (hr : driveS a = some r) :
    spec_Directory.f 8 a = some (decide (a.toList = [46]) || decide (a.toList = [46, 46]) || (b1 || b2 || b3 || b4 || b5 || b6 || r)) := by
  have hl := loop_eq a b1 b2 b3 b4 b5 b6 r h1 h2 h3 h4 h5 h6 hr
  unfold spec_Directory.f
  by_cases e1 : a.toList = [46]
  · rw [if_pos e1]; simp [spec_Directory.j0, e1]
  · rw [if_neg e1]
    by_cases e2 : a.toList = [46, 46]
    · simp [spec_Directory.j0, e2]
    · have e3 : (a.toList == ([46, 46] : List UInt8)) = false := by simpa using e2
      rw [e3]
      simp only [spec_Directory.j0, Option.bind_some]
      rw [if_neg (by simp)]
      rw [show ((ways.length : Nat) : Int) = 6 from rfl, hl]
      simp [e1, e2]

/-- What the program answers. -/
theorem impl_tells (a : ByteArray) (b1 b2 b3 b4 b5 b6 r : Bool) (h1 : stringslite_HasPrefix.f a (⟨#[46, 47]⟩ : ByteArray) = some b1) (h2 : stringslite_HasPrefix.f a (⟨#[46, 46, 47]⟩ : ByteArray) = some b2) (h3 : stringslite_HasPrefix.f a (⟨#[47]⟩ : ByteArray) = some b3) (h4 : stringslite_HasPrefix.f a (⟨#[46, 92]⟩ : ByteArray) = some b4) (h5 : stringslite_HasPrefix.f a (⟨#[46, 46, 92]⟩ : ByteArray) = some b5) (h6 : stringslite_HasPrefix.f a (⟨#[92]⟩ : ByteArray) = some b6) (hr : drive a = some r) :
    impl_IsDirectoryPath.f a = some (decide (a.toList = [46]) || decide (a.toList = [46, 46]) || (b1 || b2 || b3 || b4 || b5 || b6 || r)) := by
  unfold impl_IsDirectoryPath.f modfile_IsDirectoryPath.f strings_HasPrefix.f
  rw [h1, h2, h3, h4, h5, h6]
  simp only [Option.bind_some]
  have hr' := hr
  unfold drive at hr'
  rw [hr']
  by_cases e1 : a.toList = [46] <;> by_cases e2 : a.toList = [46, 46] <;> simp only [e1, e2, if_true, if_false, decide_true, decide_false] <;> cases b1 <;> cases b2 <;> cases b3 <;> cases b4 <;> cases b5 <;> cases b6 <;> simp

theorem point_true : impl_IsDirectoryPath.f (⟨#[46, 47, 120]⟩ : ByteArray) = some true := by
  obtain ⟨b2, h2⟩ := hasPrefix_some (⟨#[46, 47, 120]⟩ : ByteArray) (⟨#[46, 46, 47]⟩ : ByteArray)
  obtain ⟨b3, h3⟩ := hasPrefix_some (⟨#[46, 47, 120]⟩ : ByteArray) (⟨#[47]⟩ : ByteArray)
  obtain ⟨b4, h4⟩ := hasPrefix_some (⟨#[46, 47, 120]⟩ : ByteArray) (⟨#[46, 92]⟩ : ByteArray)
  obtain ⟨b5, h5⟩ := hasPrefix_some (⟨#[46, 47, 120]⟩ : ByteArray) (⟨#[46, 46, 92]⟩ : ByteArray)
  obtain ⟨b6, h6⟩ := hasPrefix_some (⟨#[46, 47, 120]⟩ : ByteArray) (⟨#[92]⟩ : ByteArray)
  obtain ⟨r, hr, _⟩ := drive_eq (⟨#[46, 47, 120]⟩ : ByteArray)
  have h1 : stringslite_HasPrefix.f (⟨#[46, 47, 120]⟩ : ByteArray) (⟨#[46, 47]⟩ : ByteArray) = some true := by
    unfold stringslite_HasPrefix.f
    rw [if_pos (by decide), if_pos (by decide), if_pos (by decide)]
    have e : (⟨#[46, 47, 120]⟩ : ByteArray).extract 0 (((⟨#[46, 47]⟩ : ByteArray).size : Int)).toNat = ⟨#[46, 47]⟩ := by rfl
    rw [e]; simp
  rw [impl_tells _ true b2 b3 b4 b5 b6 r h1 h2 h3 h4 h5 h6 hr]
  simp

theorem FnExactDirectory : laws_FnExactDirectory.Pure := by
  intro a _
  refine ⟨8, ?_⟩
  unfold laws_FnExactDirectory.f
  split
  · rfl
  · obtain ⟨b1, h1⟩ := hasPrefix_some a (⟨#[46, 47]⟩ : ByteArray)
    obtain ⟨b2, h2⟩ := hasPrefix_some a (⟨#[46, 46, 47]⟩ : ByteArray)
    obtain ⟨b3, h3⟩ := hasPrefix_some a (⟨#[47]⟩ : ByteArray)
    obtain ⟨b4, h4⟩ := hasPrefix_some a (⟨#[46, 92]⟩ : ByteArray)
    obtain ⟨b5, h5⟩ := hasPrefix_some a (⟨#[46, 46, 92]⟩ : ByteArray)
    obtain ⟨b6, h6⟩ := hasPrefix_some a (⟨#[92]⟩ : ByteArray)
    obtain ⟨r, hr, hs⟩ := drive_eq a
    rw [impl_tells a b1 b2 b3 b4 b5 b6 r h1 h2 h3 h4 h5 h6 hr, spec_tells a b1 b2 b3 b4 b5 b6 r h1 h2 h3 h4 h5 h6 hs, point_true]
    simp

end Go.Proofs.Ythgbiopfpjleaaa.Pure
