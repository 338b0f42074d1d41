/-
  No cell of these rows narrows 'for every input' (looked for: loops, veiled, ifaces, maps, wideKeys, modest, calm, conditions, laid).
  DERIVED. THE GIVEN ROWS OF THIS SEAT. 4 by the template 'for every input the law returns true; each argument reads behind the call as it read before'; 0 by the template 'total and deterministic' (their statements: YtiofpkfcinfhiaaTotals.lean).
  GIVEN WITH THE SEED: the statements are not yours to turn. If you find one false, say at which input.
  Laid BY PROGRAM, IN A SANDBOX (cutbox-rows.mjs): the forced cells as the released guide's own fill.sh prints them over the translation 1160c8c2d226c960… (all of the seat's roots in one cut). By AI agents, Wed Nov 11 2026. No macro, syntax, notation, axiom, sorry.
-/
import Derived.Test.YtiofpkfcinfhiaaChecked
import GoSem.Claim
import GoSem.ClaimJoined
import GoSem.ClaimMapViews
import Derived.JoinedTies
import Derived.KernelRfl
namespace Go.Proofs.Ytiofpkfcinfhiaa
/- THE CELL 'sum', in the pinned program and in every row, IS THE sha256 OF THE DUMP (.gsa) THAT YtiofpkfcinfhiaaProg.lean LOADS. Nothing in Lean hashes anything: it is a label: what it is worth is what the hold of that sum in a sandbox is worth. -/
noncomputable def Try.pinned : Pinned := { name := "ytiofpkfcinfhiaa", sum := "1160c8c2d226c960310ae3eb40df1cf43be5d82f8c427662c8fe24d107b102da", checked := Try.checked }
namespace Rows
def none {H : Type} : Left H := { results := [], args := [] }

/-- 'laws.FnOwnWords': WHATEVER THE INPUT: true; the input reads as it did. -/
def fnOwnWordsSpec : ChangeSpec := { name := "fnOwnWords", fn := fun _ => fun
  | [d] => { results := [.lit (.bool true)], args := [d] }
  | _ => none }
def fnOwnWordsRow : OpenClaim := { program := "ytiofpkfcinfhiaa", sum := "1160c8c2d226c960310ae3eb40df1cf43be5d82f8c427662c8fe24d107b102da", func := "lib-tumbler/laws.FnOwnWords", spec := "fnOwnWords", inPlace := ["internal/chacha8rand.block"], unfollowed := true, recurses := true, apart := false }
def FnOwnWordsSaid : Prop := fnOwnWordsRow.holds Try.pinned (OpenSpec.ofChange fnOwnWordsSpec)

/-- ITS FALSE NEIGHBOUR: 'it returns false'. Refute it at one input. -/
def fnOwnWordsWrong : ChangeSpec := { name := "fnOwnWords", fn := fun _ => fun
  | [d] => { results := [.lit (.bool false)], args := [d] }
  | _ => none }
def FnOwnWordsWrongFalsely : Prop := fnOwnWordsRow.holds Try.pinned (OpenSpec.ofChange fnOwnWordsWrong)

/-- 'laws.FnRead': WHATEVER THE INPUT: true; the input reads as it did. -/
def fnReadSpec : ChangeSpec := { name := "fnRead", fn := fun _ => fun
  | [d1, d2] => { results := [.lit (.bool true)], args := [d1, d2] }
  | _ => none }
def fnReadRow : OpenClaim := { program := "ytiofpkfcinfhiaa", sum := "1160c8c2d226c960310ae3eb40df1cf43be5d82f8c427662c8fe24d107b102da", func := "lib-tumbler/laws.FnRead", spec := "fnRead", inPlace := ["internal/chacha8rand.block", "math.Float64bits"], unfollowed := true, recurses := true, apart := false }
def FnReadSaid : Prop := fnReadRow.holds Try.pinned (OpenSpec.ofChange fnReadSpec)

/-- ITS FALSE NEIGHBOUR: 'it returns false'. Refute it at one input. -/
def fnReadWrong : ChangeSpec := { name := "fnRead", fn := fun _ => fun
  | [d1, d2] => { results := [.lit (.bool false)], args := [d1, d2] }
  | _ => none }
def FnReadWrongFalsely : Prop := fnReadRow.holds Try.pinned (OpenSpec.ofChange fnReadWrong)

/-- 'laws.FnZero': WHATEVER THE INPUT: true; the input reads as it did. -/
def fnZeroSpec : ChangeSpec := { name := "fnZero", fn := fun _ => fun
  | [d] => { results := [.lit (.bool true)], args := [d] }
  | _ => none }
def fnZeroRow : OpenClaim := { program := "ytiofpkfcinfhiaa", sum := "1160c8c2d226c960310ae3eb40df1cf43be5d82f8c427662c8fe24d107b102da", func := "lib-tumbler/laws.FnZero", spec := "fnZero", inPlace := ["internal/chacha8rand.block", "math.Float64bits"], unfollowed := true, recurses := true, apart := false }
def FnZeroSaid : Prop := fnZeroRow.holds Try.pinned (OpenSpec.ofChange fnZeroSpec)

/-- ITS FALSE NEIGHBOUR: 'it returns false'. Refute it at one input. -/
def fnZeroWrong : ChangeSpec := { name := "fnZero", fn := fun _ => fun
  | [d] => { results := [.lit (.bool false)], args := [d] }
  | _ => none }
def FnZeroWrongFalsely : Prop := fnZeroRow.holds Try.pinned (OpenSpec.ofChange fnZeroWrong)

/-- 'laws.FnRefusedStays': WHATEVER THE INPUT: true; the input reads as it did. -/
def fnRefusedStaysSpec : ChangeSpec := { name := "fnRefusedStays", fn := fun _ => fun
  | [d1, d2, d3, d4] => { results := [.lit (.bool true)], args := [d1, d2, d3, d4] }
  | _ => none }
def fnRefusedStaysRow : OpenClaim := { program := "ytiofpkfcinfhiaa", sum := "1160c8c2d226c960310ae3eb40df1cf43be5d82f8c427662c8fe24d107b102da", func := "lib-tumbler/laws.FnRefusedStays", spec := "fnRefusedStays", inPlace := ["internal/chacha8rand.block", "math.Float64bits"], unfollowed := true, recurses := true, apart := false }
def FnRefusedStaysSaid : Prop := fnRefusedStaysRow.holds Try.pinned (OpenSpec.ofChange fnRefusedStaysSpec)

/-- ITS FALSE NEIGHBOUR: 'it returns false'. Refute it at one input. -/
def fnRefusedStaysWrong : ChangeSpec := { name := "fnRefusedStays", fn := fun _ => fun
  | [d1, d2, d3, d4] => { results := [.lit (.bool false)], args := [d1, d2, d3, d4] }
  | _ => none }
def FnRefusedStaysWrongFalsely : Prop := fnRefusedStaysRow.holds Try.pinned (OpenSpec.ofChange fnRefusedStaysWrong)

/- THE SECOND FORM. 'bulk': how many values and letters a reading holds, each counted each time it is reached (what is shared counts as often as it is met; a slice's spare places count too). A statement '..UptoSaid' is the law's where the arguments, and the package variables that the reading takes, are together of bulk at most 1048576: NARROWER than '..Said'. Prove '..Said' where nothing that the law and all that it calls make is longer than what came in: it says more and counts as full. Else prove '..UptoSaid'. A law counts once. -/
mutual
def uptoBulk {H : Type} : DataW H → Nat
  | .lit (.string bytes) => bytes.length + 1
  | .lit _ => 1
  | .nil => 1
  | .ptr d => uptoBulk d + 1
  | .slice elems spare => uptoBulkAll elems + uptoBulkAll spare + 1
  | .agg parts => uptoBulkAll parts + 1
  | .iface _ d => uptoBulk d + 1
  | .map entries => uptoBulkEntries entries + 1
  | .held _ => 1
def uptoBulkAll {H : Type} : List (DataW H) → Nat
  | [] => 0
  | d :: r => uptoBulk d + uptoBulkAll r
def uptoBulkEntries {H : Type} : List (Lit × DataW H) → Nat
  | [] => 0
  | x :: r => uptoBulkEntry x + uptoBulkEntries r
def uptoBulkEntry {H : Type} : Lit × DataW H → Nat
  | (.string bytes, d) => bytes.length + uptoBulk d + 1
  | (_, d) => uptoBulk d + 1
 end
def uptoSmall : (H : Type) → List (DataW H) → Bool := fun _ ds => decide (uptoBulkAll ds ≤ 1048576)
def OpenSpec.upto (s : _root_.Go.ChangeSpec) : _root_.Go.OpenSpec := { _root_.Go.OpenSpec.ofChange s with cond := some uptoSmall }

/-- 'laws.FnOwnWords', WHERE WHAT IT READS IS OF BULK AT MOST 1048576: true; the input reads as it did. -/
def fnOwnWordsUptoRow : OpenClaim := { program := "ytiofpkfcinfhiaa", sum := "1160c8c2d226c960310ae3eb40df1cf43be5d82f8c427662c8fe24d107b102da", func := "lib-tumbler/laws.FnOwnWords", spec := "fnOwnWords", inPlace := ["internal/chacha8rand.block"], unfollowed := true, recurses := true, apart := false, narrowed := true }
def FnOwnWordsUptoSaid : Prop := fnOwnWordsUptoRow.holds Try.pinned (OpenSpec.upto fnOwnWordsSpec)

/-- 'laws.FnRead', WHERE WHAT IT READS IS OF BULK AT MOST 1048576: true; the input reads as it did. -/
def fnReadUptoRow : OpenClaim := { program := "ytiofpkfcinfhiaa", sum := "1160c8c2d226c960310ae3eb40df1cf43be5d82f8c427662c8fe24d107b102da", func := "lib-tumbler/laws.FnRead", spec := "fnRead", inPlace := ["internal/chacha8rand.block", "math.Float64bits"], unfollowed := true, recurses := true, apart := false, narrowed := true }
def FnReadUptoSaid : Prop := fnReadUptoRow.holds Try.pinned (OpenSpec.upto fnReadSpec)

/-- 'laws.FnZero', WHERE WHAT IT READS IS OF BULK AT MOST 1048576: true; the input reads as it did. -/
def fnZeroUptoRow : OpenClaim := { program := "ytiofpkfcinfhiaa", sum := "1160c8c2d226c960310ae3eb40df1cf43be5d82f8c427662c8fe24d107b102da", func := "lib-tumbler/laws.FnZero", spec := "fnZero", inPlace := ["internal/chacha8rand.block", "math.Float64bits"], unfollowed := true, recurses := true, apart := false, narrowed := true }
def FnZeroUptoSaid : Prop := fnZeroUptoRow.holds Try.pinned (OpenSpec.upto fnZeroSpec)

/-- 'laws.FnRefusedStays', WHERE WHAT IT READS IS OF BULK AT MOST 1048576: true; the input reads as it did. -/
def fnRefusedStaysUptoRow : OpenClaim := { program := "ytiofpkfcinfhiaa", sum := "1160c8c2d226c960310ae3eb40df1cf43be5d82f8c427662c8fe24d107b102da", func := "lib-tumbler/laws.FnRefusedStays", spec := "fnRefusedStays", inPlace := ["internal/chacha8rand.block", "math.Float64bits"], unfollowed := true, recurses := true, apart := false, narrowed := true }
def FnRefusedStaysUptoSaid : Prop := fnRefusedStaysUptoRow.holds Try.pinned (OpenSpec.upto fnRefusedStaysSpec)

end Rows
end Go.Proofs.Ytiofpkfcinfhiaa
