/-
  No cell of these rows narrows 'for every input' (looked for: loops, veiled, ifaces, maps, wideKeys, modest, calm, conditions, laid).
  DERIVED. THE GIVEN ROWS OF THIS SEAT. 3 by the template 'for every input the law returns true; each argument reads behind the call as it read before'; 0 by the template 'total and deterministic' (their statements: YthgbiopfpjleaaaTotals.lean).
  GIVEN WITH THE SEED: the statements are not yours to turn. If you find one false, say at which input.
  Laid BY PROGRAM, IN A SANDBOX (cutbox-rows.mjs): the forced cells as the released guide's own fill.sh prints them over the translation b6c774b37c3c3701… (all of the seat's roots in one cut). By AI agents, Wed Nov 11 2026. No macro, syntax, notation, axiom, sorry.
-/
import Derived.Test.YthgbiopfpjleaaaChecked
import GoSem.Claim
import GoSem.ClaimJoined
import GoSem.ClaimMapViews
import Derived.JoinedTies
import Derived.KernelRfl
namespace Go.Proofs.Ythgbiopfpjleaaa
/- THE CELL 'sum', in the pinned program and in every row, IS THE sha256 OF THE DUMP (.gsa) THAT YthgbiopfpjleaaaProg.lean LOADS. Nothing in Lean hashes anything: it is a label: what it is worth is what the hold of that sum in a sandbox is worth. -/
noncomputable def Try.pinned : Pinned := { name := "ythgbiopfpjleaaa", sum := "b6c774b37c3c37012fc8e0aa180a78413445792ffb515a70afe6da2ce3e90f71", checked := Try.checked }
namespace Rows
def none {H : Type} : Left H := { results := [], args := [] }

/-- 'laws.FnExactToolchain': WHATEVER THE INPUT: true; the input reads as it did. -/
def fnExactToolchainSpec : ChangeSpec := { name := "fnExactToolchain", fn := fun _ => fun
  | [d] => { results := [.lit (.bool true)], args := [d] }
  | _ => none }
def fnExactToolchainRow : OpenClaim := { program := "ythgbiopfpjleaaa", sum := "b6c774b37c3c37012fc8e0aa180a78413445792ffb515a70afe6da2ce3e90f71", func := "loop.example/pub-modulefiles/laws.FnExactToolchain", spec := "fnExactToolchain", apart := false }
def FnExactToolchainSaid : Prop := fnExactToolchainRow.holds Try.pinned (OpenSpec.ofChange fnExactToolchainSpec)

/-- ITS FALSE NEIGHBOUR: 'it returns false'. Refute it at one input. -/
def fnExactToolchainWrong : ChangeSpec := { name := "fnExactToolchain", fn := fun _ => fun
  | [d] => { results := [.lit (.bool false)], args := [d] }
  | _ => none }
def FnExactToolchainWrongFalsely : Prop := fnExactToolchainRow.holds Try.pinned (OpenSpec.ofChange fnExactToolchainWrong)

/-- 'laws.FnExactDirectory': WHATEVER THE INPUT: true; the input reads as it did. -/
def fnExactDirectorySpec : ChangeSpec := { name := "fnExactDirectory", fn := fun _ => fun
  | [d] => { results := [.lit (.bool true)], args := [d] }
  | _ => none }
def fnExactDirectoryRow : OpenClaim := { program := "ythgbiopfpjleaaa", sum := "b6c774b37c3c37012fc8e0aa180a78413445792ffb515a70afe6da2ce3e90f71", func := "loop.example/pub-modulefiles/laws.FnExactDirectory", spec := "fnExactDirectory", apart := false }
def FnExactDirectorySaid : Prop := fnExactDirectoryRow.holds Try.pinned (OpenSpec.ofChange fnExactDirectorySpec)

/-- ITS FALSE NEIGHBOUR: 'it returns false'. Refute it at one input. -/
def fnExactDirectoryWrong : ChangeSpec := { name := "fnExactDirectory", fn := fun _ => fun
  | [d] => { results := [.lit (.bool false)], args := [d] }
  | _ => none }
def FnExactDirectoryWrongFalsely : Prop := fnExactDirectoryRow.holds Try.pinned (OpenSpec.ofChange fnExactDirectoryWrong)

/-- 'laws.FnExactGoVersion': WHATEVER THE INPUT: true; the input reads as it did. -/
def fnExactGoVersionSpec : ChangeSpec := { name := "fnExactGoVersion", fn := fun _ => fun
  | [d] => { results := [.lit (.bool true)], args := [d] }
  | _ => none }
def fnExactGoVersionRow : OpenClaim := { program := "ythgbiopfpjleaaa", sum := "b6c774b37c3c37012fc8e0aa180a78413445792ffb515a70afe6da2ce3e90f71", func := "loop.example/pub-modulefiles/laws.FnExactGoVersion", spec := "fnExactGoVersion", apart := false }
def FnExactGoVersionSaid : Prop := fnExactGoVersionRow.holds Try.pinned (OpenSpec.ofChange fnExactGoVersionSpec)

/-- ITS FALSE NEIGHBOUR: 'it returns false'. Refute it at one input. -/
def fnExactGoVersionWrong : ChangeSpec := { name := "fnExactGoVersion", fn := fun _ => fun
  | [d] => { results := [.lit (.bool false)], args := [d] }
  | _ => none }
def FnExactGoVersionWrongFalsely : Prop := fnExactGoVersionRow.holds Try.pinned (OpenSpec.ofChange fnExactGoVersionWrong)

/- THE SECOND FORM. 'bulk': how many values and letters a reading holds, each counted each time it is reached (what is shared counts as often as it is met; a slice's spare places count too). A statement '..UptoSaid' is the law's where the arguments, and the package variables that the reading takes, are together of bulk at most 1048576: NARROWER than '..Said'. Prove '..Said' where nothing that the law and all that it calls make is longer than what came in: it says more and counts as full. Else prove '..UptoSaid'. A law counts once. -/
mutual
def uptoBulk {H : Type} : DataW H → Nat
  | .lit (.string bytes) => bytes.length + 1
  | .lit _ => 1
  | .nil => 1
  | .ptr d => uptoBulk d + 1
  | .slice elems spare => uptoBulkAll elems + uptoBulkAll spare + 1
  | .agg parts => uptoBulkAll parts + 1
  | .iface _ d => uptoBulk d + 1
  | .map entries => uptoBulkEntries entries + 1
  | .held _ => 1
def uptoBulkAll {H : Type} : List (DataW H) → Nat
  | [] => 0
  | d :: r => uptoBulk d + uptoBulkAll r
def uptoBulkEntries {H : Type} : List (Lit × DataW H) → Nat
  | [] => 0
  | x :: r => uptoBulkEntry x + uptoBulkEntries r
def uptoBulkEntry {H : Type} : Lit × DataW H → Nat
  | (.string bytes, d) => bytes.length + uptoBulk d + 1
  | (_, d) => uptoBulk d + 1
 end
def uptoSmall : (H : Type) → List (DataW H) → Bool := fun _ ds => decide (uptoBulkAll ds ≤ 1048576)
def OpenSpec.upto (s : _root_.Go.ChangeSpec) : _root_.Go.OpenSpec := { _root_.Go.OpenSpec.ofChange s with cond := some uptoSmall }

/-- 'laws.FnExactToolchain', WHERE WHAT IT READS IS OF BULK AT MOST 1048576: true; the input reads as it did. -/
def fnExactToolchainUptoRow : OpenClaim := { program := "ythgbiopfpjleaaa", sum := "b6c774b37c3c37012fc8e0aa180a78413445792ffb515a70afe6da2ce3e90f71", func := "loop.example/pub-modulefiles/laws.FnExactToolchain", spec := "fnExactToolchain", apart := false, narrowed := true }
def FnExactToolchainUptoSaid : Prop := fnExactToolchainUptoRow.holds Try.pinned (OpenSpec.upto fnExactToolchainSpec)

/-- 'laws.FnExactDirectory', WHERE WHAT IT READS IS OF BULK AT MOST 1048576: true; the input reads as it did. -/
def fnExactDirectoryUptoRow : OpenClaim := { program := "ythgbiopfpjleaaa", sum := "b6c774b37c3c37012fc8e0aa180a78413445792ffb515a70afe6da2ce3e90f71", func := "loop.example/pub-modulefiles/laws.FnExactDirectory", spec := "fnExactDirectory", apart := false, narrowed := true }
def FnExactDirectoryUptoSaid : Prop := fnExactDirectoryUptoRow.holds Try.pinned (OpenSpec.upto fnExactDirectorySpec)

/-- 'laws.FnExactGoVersion', WHERE WHAT IT READS IS OF BULK AT MOST 1048576: true; the input reads as it did. -/
def fnExactGoVersionUptoRow : OpenClaim := { program := "ythgbiopfpjleaaa", sum := "b6c774b37c3c37012fc8e0aa180a78413445792ffb515a70afe6da2ce3e90f71", func := "loop.example/pub-modulefiles/laws.FnExactGoVersion", spec := "fnExactGoVersion", apart := false, narrowed := true }
def FnExactGoVersionUptoSaid : Prop := fnExactGoVersionUptoRow.holds Try.pinned (OpenSpec.upto fnExactGoVersionSpec)

end Rows
end Go.Proofs.Ythgbiopfpjleaaa
