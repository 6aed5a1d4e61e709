/- For every string the law FnExactToolchain answers true: the program's MatchToolchain and the reference's Toolchain test the same three cases. Conditions: none. -/
import Derived.Test.YthgbiopfpjleaaaPFnExactToolchainx1
namespace Go.Proofs.Ythgbiopfpjleaaa.Pure
open Go.RowKit Go.Proofs.Ythgbiopfpjleaaa.PFnExactToolchain Go.Proofs.YthgbiopfpjleaaaW.PrintWords Go.Proofs.YthgbiopfpjleaaaW.PrintLast

theorem begins_eq (a b : ByteArray) : spec_Begins.f a b = stringslite_HasPrefix.f a b := rfl

theorem hasPrefix_some (a b : ByteArray) : ∃ r, stringslite_HasPrefix.f a b = some r := by
  unfold stringslite_HasPrefix.f
  by_cases h : (a.size : Int) ≥ (b.size : Int)
  · rw [if_pos h, if_pos (by omega), if_pos (by omega)]; exact ⟨_, rfl⟩
  · rw [if_neg h]; exact ⟨_, rfl⟩

theorem spec_eq (a : ByteArray) : spec_Toolchain.f a = modfile_matchToolchain.f a := by
  unfold spec_Toolchain.f modfile_matchToolchain.f strings_HasPrefix.f
  simp only [begins_eq]
  obtain ⟨r, hr⟩ := hasPrefix_some a (⟨#[103, 111, 49, 46]⟩ : ByteArray)
  rw [hr]; rfl

theorem match_some (a : ByteArray) : ∃ r, modfile_matchToolchain.f a = some r := by
  unfold modfile_matchToolchain.f strings_HasPrefix.f
  obtain ⟨r, hr⟩ := hasPrefix_some a (⟨#[103, 111, 49, 46]⟩ : ByteArray)
  rw [hr]
  simp only [Option.bind_some]
  split
  · exact ⟨_, rfl⟩
  · split
    · exact ⟨_, rfl⟩
    · exact ⟨_, rfl⟩

theorem match_default : modfile_matchToolchain.f (⟨#[100, 101, 102, 97, 117, 108, 116]⟩ : ByteArray) = some true := by
  unfold modfile_matchToolchain.f
  rw [if_pos (by simp)]

theorem FnExactToolchain : laws_FnExactToolchain.Pure := by
  intro a _
  unfold laws_FnExactToolchain.f
  split
  · rfl
  · unfold impl_MatchToolchain.f modfile_MatchToolchain.f
    obtain ⟨r, hr⟩ := match_some a
    rw [match_default, spec_eq, hr]
    simp

end Go.Proofs.Ythgbiopfpjleaaa.Pure
