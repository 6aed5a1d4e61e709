/- What calls of the thin package's ModulePath and of the law's paths do. Conditions: the lines that are read are ASCII, the table of white space lies in memory. -/
import Derived.Test.YtlnmchehnhgfnaaDoorZMb
import Derived.Lib.ConvBytes
import Derived.Laws.AppendOwn
namespace Go.Proofs.YtlnmchehnhgfnaaDoor.M
open Go.RowKit Go.Proofs.YtlnmchehnhgfnaaDoorW.PrintWords
theorem bytes_sb (w : World) (s : ByteArray) : SB (Lib.bytesWorld w 5 s) (some ⟨w.heap.size, 0, none⟩) (grownCap w s.size 0 5) (lst s) := by
  refine ⟨Or.inr ⟨_, _, rfl⟩, ?_, fun h0 => ⟨_, _, rfl, fun i hi => ?_⟩⟩
  · rw [lst_length]
    exact grownCap_ge w s.size 0 5
  · have hi' : i < s.size := by rw [← lst_length]; exact hi
    have := Lib.bytesWorld_cell w 5 s i hi'
    rw [nums_get (lst s) i hi, Nat.zero_add]
    rw [this, List.getD_eq_getElem?_getD, List.getElem?_eq_getElem hi]
    rfl
theorem bytes_bel (w : World) (s : ByteArray) : Below w.heap.size w (Lib.bytesWorld w 5 s) := bytes_below (Below.refl _ _) (Nat.le_refl _) 5 s
set_option maxHeartbeats 4000000 in
set_option maxRecDepth 100000 in
theorem impl_any (s : ByteArray) (r : List UInt8) (w : World) (hs : s.size ≤ 9223372036854775800) (ht : Hid (Tab w)) (hr : Hid (Res (lst s) r)) :
    Calls Tryd.prog 7 #[.string s] w fun e w' => e = .returned (.string ⟨r.toArray⟩) ∧ Below w.heap.size w w' := by
  have hcv := Lib.run_convert_string_bytes (P := Tryd.prog) w 9 37 5 s Tryd.underlying9 Tryd.underlying37 Tryd.underlying5
  have hsb := Lib.hid (bytes_sb w s)
  have hbl := Lib.hid (bytes_bel w s)
  obtain ⟨c, hc⟩ : ∃ c, c = grownCap w s.size 0 5 := ⟨_, rfl⟩
  obtain ⟨W1, hW⟩ : ∃ W1, W1 = Lib.bytesWorld w 5 s := ⟨_, rfl⟩
  rw [← hc, ← hW] at hcv hsb
  rw [← hW] at hbl
  have hn : Hid (s.size = (lst s).length) := Lib.hid (lst_length s).symm
  have htW := Lib.hid (ht.out.below hbl.out)
  clear hc hW
  go_enter Tryd.func7, Tryd.ntmps7
  go_wp2_with (go_at_call 13; (with_reducible refine (mp_any W1 (some ⟨w.heap.size, 0, none⟩) c s.size (lst s) r hn hsb hs htW hr).mono ?_); rintro e w1 ⟨rfl, hb1⟩)
  go_ret
  exact ⟨rfl, hbl.out.trans (hb1.mono hbl.out.size)⟩
abbrev mtext : ByteArray := ⟨#[109, 111, 100, 117, 108, 101, 32, 109, 10]⟩
theorem mtext_res : Res (lst mtext) [109] := by
  have : lst mtext = [109, 111, 100, 117, 108, 101, 32, 109] ++ 10 :: [] := rfl
  rw [this]
  refine Res.hit ?_ (by decide) (by decide) ?_
  · intro c hc
    simp at hc
    rcases hc with rfl | rfl | rfl | rfl | rfl | rfl | rfl | rfl <;> decide
  · intro c r h
    simp only [List.cons.injEq] at h
    rw [← h.1]
    decide
set_option maxHeartbeats 4000000 in
set_option maxRecDepth 100000 in
theorem paths_any (w : World) (ht : Hid (Tab w)) : Calls Tryd.prog 6 #[] w fun e w' => e = .returned (.bool true) ∧ Below w.heap.size w w' := by
  have hr : Hid (Res (lst mtext) [109]) := Lib.hid mtext_res
  have hz : mtext.size ≤ 9223372036854775800 := by decide
  go_enter Tryd.func6, Tryd.ntmps6
  go_wp2_with (go_at_call 7; (with_reducible refine (impl_any mtext [109] _ hz ht hr).mono ?_); rintro e w1 ⟨rfl, hb1⟩)
  go_ret
  exact ⟨by first | rfl | simp, hb1⟩
end Go.Proofs.YtlnmchehnhgfnaaDoor.M
