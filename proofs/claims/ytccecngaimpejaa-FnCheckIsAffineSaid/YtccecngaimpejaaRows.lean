/-
  No cell of these rows narrows 'for every input' (looked for: loops, veiled, ifaces, maps, wideKeys, modest, calm, conditions, laid).
  DERIVED. THE GIVEN ROWS OF THIS SEAT. 8 by the template 'for every input the law returns true; each argument reads behind the call as it read before'; 0 by the template 'total and deterministic' (their statements: YtccecngaimpejaaTotals.lean).
  GIVEN WITH THE SEED: the statements are not yours to turn. If you find one false, say at which input.
  Laid BY PROGRAM, IN A SANDBOX (cutbox-rows.mjs): the forced cells as the released guide's own fill.sh prints them over the translation d7a64c50d34d3032… (all of the seat's roots in one cut). By AI agents, Wed Nov 11 2026. No macro, syntax, notation, axiom, sorry.
-/
import Derived.Test.YtccecngaimpejaaChecked
import GoSem.Claim
import GoSem.ClaimJoined
import GoSem.ClaimMapViews
import Derived.JoinedTies
import Derived.KernelRfl
namespace Go.Proofs.Ytccecngaimpejaa
/- THE CELL 'sum', in the pinned program and in every row, IS THE sha256 OF THE DUMP (.gsa) THAT YtccecngaimpejaaProg.lean LOADS. Nothing in Lean hashes anything: it is a label: what it is worth is what the hold of that sum in a sandbox is worth. -/
noncomputable def Try.pinned : Pinned := { name := "ytccecngaimpejaa", sum := "d7a64c50d34d30324b1e0885790c747d904857dd159c4eef00b62e66170997af", checked := Try.checked }
namespace Rows
def none {H : Type} : Left H := { results := [], args := [] }

/-- 'laws.FnTableIsDivision': WHATEVER THE INPUT: true; the input reads as it did. -/
def fnTableIsDivisionSpec : ChangeSpec := { name := "fnTableIsDivision", fn := fun _ => fun
  | [d] => { results := [.lit (.bool true)], args := [d] }
  | _ => none }
def fnTableIsDivisionRow : OpenClaim := { program := "ytccecngaimpejaa", sum := "d7a64c50d34d30324b1e0885790c747d904857dd159c4eef00b62e66170997af", func := "gzipfiles/laws.FnTableIsDivision", spec := "fnTableIsDivision", apart := false }
def FnTableIsDivisionSaid : Prop := fnTableIsDivisionRow.holds Try.pinned (OpenSpec.ofChange fnTableIsDivisionSpec)

/-- ITS FALSE NEIGHBOUR: 'it returns false'. Refute it at one input. -/
def fnTableIsDivisionWrong : ChangeSpec := { name := "fnTableIsDivision", fn := fun _ => fun
  | [d] => { results := [.lit (.bool false)], args := [d] }
  | _ => none }
def FnTableIsDivisionWrongFalsely : Prop := fnTableIsDivisionRow.holds Try.pinned (OpenSpec.ofChange fnTableIsDivisionWrong)

/-- 'laws.FnSimpleIsDivision': WHATEVER THE INPUT: true; the input reads as it did. -/
def fnSimpleIsDivisionSpec : ChangeSpec := { name := "fnSimpleIsDivision", fn := fun _ => fun
  | [d1, d2, d3] => { results := [.lit (.bool true)], args := [d1, d2, d3] }
  | _ => none }
def fnSimpleIsDivisionRow : OpenClaim := { program := "ytccecngaimpejaa", sum := "d7a64c50d34d30324b1e0885790c747d904857dd159c4eef00b62e66170997af", func := "gzipfiles/laws.FnSimpleIsDivision", spec := "fnSimpleIsDivision", apart := false }
def FnSimpleIsDivisionSaid : Prop := fnSimpleIsDivisionRow.holds Try.pinned (OpenSpec.ofChange fnSimpleIsDivisionSpec)

/-- ITS FALSE NEIGHBOUR: 'it returns false'. Refute it at one input. -/
def fnSimpleIsDivisionWrong : ChangeSpec := { name := "fnSimpleIsDivision", fn := fun _ => fun
  | [d1, d2, d3] => { results := [.lit (.bool false)], args := [d1, d2, d3] }
  | _ => none }
def FnSimpleIsDivisionWrongFalsely : Prop := fnSimpleIsDivisionRow.holds Try.pinned (OpenSpec.ofChange fnSimpleIsDivisionWrong)

/-- 'laws.FnSlicingGoesOn': WHATEVER THE INPUT: true; the input reads as it did. -/
def fnSlicingGoesOnSpec : ChangeSpec := { name := "fnSlicingGoesOn", fn := fun _ => fun
  | [d1, d2, d3, d4] => { results := [.lit (.bool true)], args := [d1, d2, d3, d4] }
  | _ => none }
def fnSlicingGoesOnRow : OpenClaim := { program := "ytccecngaimpejaa", sum := "d7a64c50d34d30324b1e0885790c747d904857dd159c4eef00b62e66170997af", func := "gzipfiles/laws.FnSlicingGoesOn", spec := "fnSlicingGoesOn", apart := false }
def FnSlicingGoesOnSaid : Prop := fnSlicingGoesOnRow.holds Try.pinned (OpenSpec.ofChange fnSlicingGoesOnSpec)

/-- ITS FALSE NEIGHBOUR: 'it returns false'. Refute it at one input. -/
def fnSlicingGoesOnWrong : ChangeSpec := { name := "fnSlicingGoesOn", fn := fun _ => fun
  | [d1, d2, d3, d4] => { results := [.lit (.bool false)], args := [d1, d2, d3, d4] }
  | _ => none }
def FnSlicingGoesOnWrongFalsely : Prop := fnSlicingGoesOnRow.holds Try.pinned (OpenSpec.ofChange fnSlicingGoesOnWrong)

/-- 'laws.FnSlicingIsDivision': WHATEVER THE INPUT: true; the input reads as it did. -/
def fnSlicingIsDivisionSpec : ChangeSpec := { name := "fnSlicingIsDivision", fn := fun _ => fun
  | [d1, d2, d3] => { results := [.lit (.bool true)], args := [d1, d2, d3] }
  | _ => none }
def fnSlicingIsDivisionRow : OpenClaim := { program := "ytccecngaimpejaa", sum := "d7a64c50d34d30324b1e0885790c747d904857dd159c4eef00b62e66170997af", func := "gzipfiles/laws.FnSlicingIsDivision", spec := "fnSlicingIsDivision", apart := false }
def FnSlicingIsDivisionSaid : Prop := fnSlicingIsDivisionRow.holds Try.pinned (OpenSpec.ofChange fnSlicingIsDivisionSpec)

/-- ITS FALSE NEIGHBOUR: 'it returns false'. Refute it at one input. -/
def fnSlicingIsDivisionWrong : ChangeSpec := { name := "fnSlicingIsDivision", fn := fun _ => fun
  | [d1, d2, d3] => { results := [.lit (.bool false)], args := [d1, d2, d3] }
  | _ => none }
def FnSlicingIsDivisionWrongFalsely : Prop := fnSlicingIsDivisionRow.holds Try.pinned (OpenSpec.ofChange fnSlicingIsDivisionWrong)

/-- 'laws.FnCheckIsAffine': WHATEVER THE INPUT: true; the input reads as it did. -/
def fnCheckIsAffineSpec : ChangeSpec := { name := "fnCheckIsAffine", fn := fun _ => fun
  | [d1, d2, d3] => { results := [.lit (.bool true)], args := [d1, d2, d3] }
  | _ => none }
def fnCheckIsAffineRow : OpenClaim := { program := "ytccecngaimpejaa", sum := "d7a64c50d34d30324b1e0885790c747d904857dd159c4eef00b62e66170997af", func := "gzipfiles/laws.FnCheckIsAffine", spec := "fnCheckIsAffine", apart := false }
def FnCheckIsAffineSaid : Prop := fnCheckIsAffineRow.holds Try.pinned (OpenSpec.ofChange fnCheckIsAffineSpec)

/-- ITS FALSE NEIGHBOUR: 'it returns false'. Refute it at one input. -/
def fnCheckIsAffineWrong : ChangeSpec := { name := "fnCheckIsAffine", fn := fun _ => fun
  | [d1, d2, d3] => { results := [.lit (.bool false)], args := [d1, d2, d3] }
  | _ => none }
def FnCheckIsAffineWrongFalsely : Prop := fnCheckIsAffineRow.holds Try.pinned (OpenSpec.ofChange fnCheckIsAffineWrong)

/-- 'laws.FnCheckIsTheSum': WHATEVER THE INPUT: true; the input reads as it did. -/
def fnCheckIsTheSumSpec : ChangeSpec := { name := "fnCheckIsTheSum", fn := fun _ => fun
  | [d] => { results := [.lit (.bool true)], args := [d] }
  | _ => none }
def fnCheckIsTheSumRow : OpenClaim := { program := "ytccecngaimpejaa", sum := "d7a64c50d34d30324b1e0885790c747d904857dd159c4eef00b62e66170997af", func := "gzipfiles/laws.FnCheckIsTheSum", spec := "fnCheckIsTheSum", apart := false }
def FnCheckIsTheSumSaid : Prop := fnCheckIsTheSumRow.holds Try.pinned (OpenSpec.ofChange fnCheckIsTheSumSpec)

/-- ITS FALSE NEIGHBOUR: 'it returns false'. Refute it at one input. -/
def fnCheckIsTheSumWrong : ChangeSpec := { name := "fnCheckIsTheSum", fn := fun _ => fun
  | [d] => { results := [.lit (.bool false)], args := [d] }
  | _ => none }
def FnCheckIsTheSumWrongFalsely : Prop := fnCheckIsTheSumRow.holds Try.pinned (OpenSpec.ofChange fnCheckIsTheSumWrong)

/-- 'laws.FnCheckTellsOneByte': WHATEVER THE INPUT: true; the input reads as it did. -/
def fnCheckTellsOneByteSpec : ChangeSpec := { name := "fnCheckTellsOneByte", fn := fun _ => fun
  | [d1, d2, d3] => { results := [.lit (.bool true)], args := [d1, d2, d3] }
  | _ => none }
def fnCheckTellsOneByteRow : OpenClaim := { program := "ytccecngaimpejaa", sum := "d7a64c50d34d30324b1e0885790c747d904857dd159c4eef00b62e66170997af", func := "gzipfiles/laws.FnCheckTellsOneByte", spec := "fnCheckTellsOneByte", apart := false }
def FnCheckTellsOneByteSaid : Prop := fnCheckTellsOneByteRow.holds Try.pinned (OpenSpec.ofChange fnCheckTellsOneByteSpec)

/-- ITS FALSE NEIGHBOUR: 'it returns false'. Refute it at one input. -/
def fnCheckTellsOneByteWrong : ChangeSpec := { name := "fnCheckTellsOneByte", fn := fun _ => fun
  | [d1, d2, d3] => { results := [.lit (.bool false)], args := [d1, d2, d3] }
  | _ => none }
def FnCheckTellsOneByteWrongFalsely : Prop := fnCheckTellsOneByteRow.holds Try.pinned (OpenSpec.ofChange fnCheckTellsOneByteWrong)

/-- 'laws.FnSlicingIsSimple': WHATEVER THE INPUT: true; the input reads as it did. -/
def fnSlicingIsSimpleSpec : ChangeSpec := { name := "fnSlicingIsSimple", fn := fun _ => fun
  | [d1, d2, d3] => { results := [.lit (.bool true)], args := [d1, d2, d3] }
  | _ => none }
def fnSlicingIsSimpleRow : OpenClaim := { program := "ytccecngaimpejaa", sum := "d7a64c50d34d30324b1e0885790c747d904857dd159c4eef00b62e66170997af", func := "gzipfiles/laws.FnSlicingIsSimple", spec := "fnSlicingIsSimple", apart := false }
def FnSlicingIsSimpleSaid : Prop := fnSlicingIsSimpleRow.holds Try.pinned (OpenSpec.ofChange fnSlicingIsSimpleSpec)

/-- ITS FALSE NEIGHBOUR: 'it returns false'. Refute it at one input. -/
def fnSlicingIsSimpleWrong : ChangeSpec := { name := "fnSlicingIsSimple", fn := fun _ => fun
  | [d1, d2, d3] => { results := [.lit (.bool false)], args := [d1, d2, d3] }
  | _ => none }
def FnSlicingIsSimpleWrongFalsely : Prop := fnSlicingIsSimpleRow.holds Try.pinned (OpenSpec.ofChange fnSlicingIsSimpleWrong)

/- THE SECOND FORM. 'bulk': how many values and letters a reading holds, each counted each time it is reached (what is shared counts as often as it is met; a slice's spare places count too). A statement '..UptoSaid' is the law's where the arguments, and the package variables that the reading takes, are together of bulk at most 1048576: NARROWER than '..Said'. Prove '..Said' where nothing that the law and all that it calls make is longer than what came in: it says more and counts as full. Else prove '..UptoSaid'. A law counts once. -/
mutual
def uptoBulk {H : Type} : DataW H → Nat
  | .lit (.string bytes) => bytes.length + 1
  | .lit _ => 1
  | .nil => 1
  | .ptr d => uptoBulk d + 1
  | .slice elems spare => uptoBulkAll elems + uptoBulkAll spare + 1
  | .agg parts => uptoBulkAll parts + 1
  | .iface _ d => uptoBulk d + 1
  | .map entries => uptoBulkEntries entries + 1
  | .held _ => 1
def uptoBulkAll {H : Type} : List (DataW H) → Nat
  | [] => 0
  | d :: r => uptoBulk d + uptoBulkAll r
def uptoBulkEntries {H : Type} : List (Lit × DataW H) → Nat
  | [] => 0
  | x :: r => uptoBulkEntry x + uptoBulkEntries r
def uptoBulkEntry {H : Type} : Lit × DataW H → Nat
  | (.string bytes, d) => bytes.length + uptoBulk d + 1
  | (_, d) => uptoBulk d + 1
 end
def uptoSmall : (H : Type) → List (DataW H) → Bool := fun _ ds => decide (uptoBulkAll ds ≤ 1048576)
def OpenSpec.upto (s : _root_.Go.ChangeSpec) : _root_.Go.OpenSpec := { _root_.Go.OpenSpec.ofChange s with cond := some uptoSmall }

/-- 'laws.FnTableIsDivision', WHERE WHAT IT READS IS OF BULK AT MOST 1048576: true; the input reads as it did. -/
def fnTableIsDivisionUptoRow : OpenClaim := { program := "ytccecngaimpejaa", sum := "d7a64c50d34d30324b1e0885790c747d904857dd159c4eef00b62e66170997af", func := "gzipfiles/laws.FnTableIsDivision", spec := "fnTableIsDivision", apart := false, narrowed := true }
def FnTableIsDivisionUptoSaid : Prop := fnTableIsDivisionUptoRow.holds Try.pinned (OpenSpec.upto fnTableIsDivisionSpec)

/-- 'laws.FnSimpleIsDivision', WHERE WHAT IT READS IS OF BULK AT MOST 1048576: true; the input reads as it did. -/
def fnSimpleIsDivisionUptoRow : OpenClaim := { program := "ytccecngaimpejaa", sum := "d7a64c50d34d30324b1e0885790c747d904857dd159c4eef00b62e66170997af", func := "gzipfiles/laws.FnSimpleIsDivision", spec := "fnSimpleIsDivision", apart := false, narrowed := true }
def FnSimpleIsDivisionUptoSaid : Prop := fnSimpleIsDivisionUptoRow.holds Try.pinned (OpenSpec.upto fnSimpleIsDivisionSpec)

/-- 'laws.FnSlicingGoesOn', WHERE WHAT IT READS IS OF BULK AT MOST 1048576: true; the input reads as it did. -/
def fnSlicingGoesOnUptoRow : OpenClaim := { program := "ytccecngaimpejaa", sum := "d7a64c50d34d30324b1e0885790c747d904857dd159c4eef00b62e66170997af", func := "gzipfiles/laws.FnSlicingGoesOn", spec := "fnSlicingGoesOn", apart := false, narrowed := true }
def FnSlicingGoesOnUptoSaid : Prop := fnSlicingGoesOnUptoRow.holds Try.pinned (OpenSpec.upto fnSlicingGoesOnSpec)

/-- 'laws.FnSlicingIsDivision', WHERE WHAT IT READS IS OF BULK AT MOST 1048576: true; the input reads as it did. -/
def fnSlicingIsDivisionUptoRow : OpenClaim := { program := "ytccecngaimpejaa", sum := "d7a64c50d34d30324b1e0885790c747d904857dd159c4eef00b62e66170997af", func := "gzipfiles/laws.FnSlicingIsDivision", spec := "fnSlicingIsDivision", apart := false, narrowed := true }
def FnSlicingIsDivisionUptoSaid : Prop := fnSlicingIsDivisionUptoRow.holds Try.pinned (OpenSpec.upto fnSlicingIsDivisionSpec)

/-- 'laws.FnCheckIsAffine', WHERE WHAT IT READS IS OF BULK AT MOST 1048576: true; the input reads as it did. -/
def fnCheckIsAffineUptoRow : OpenClaim := { program := "ytccecngaimpejaa", sum := "d7a64c50d34d30324b1e0885790c747d904857dd159c4eef00b62e66170997af", func := "gzipfiles/laws.FnCheckIsAffine", spec := "fnCheckIsAffine", apart := false, narrowed := true }
def FnCheckIsAffineUptoSaid : Prop := fnCheckIsAffineUptoRow.holds Try.pinned (OpenSpec.upto fnCheckIsAffineSpec)

/-- 'laws.FnCheckIsTheSum', WHERE WHAT IT READS IS OF BULK AT MOST 1048576: true; the input reads as it did. -/
def fnCheckIsTheSumUptoRow : OpenClaim := { program := "ytccecngaimpejaa", sum := "d7a64c50d34d30324b1e0885790c747d904857dd159c4eef00b62e66170997af", func := "gzipfiles/laws.FnCheckIsTheSum", spec := "fnCheckIsTheSum", apart := false, narrowed := true }
def FnCheckIsTheSumUptoSaid : Prop := fnCheckIsTheSumUptoRow.holds Try.pinned (OpenSpec.upto fnCheckIsTheSumSpec)

/-- 'laws.FnCheckTellsOneByte', WHERE WHAT IT READS IS OF BULK AT MOST 1048576: true; the input reads as it did. -/
def fnCheckTellsOneByteUptoRow : OpenClaim := { program := "ytccecngaimpejaa", sum := "d7a64c50d34d30324b1e0885790c747d904857dd159c4eef00b62e66170997af", func := "gzipfiles/laws.FnCheckTellsOneByte", spec := "fnCheckTellsOneByte", apart := false, narrowed := true }
def FnCheckTellsOneByteUptoSaid : Prop := fnCheckTellsOneByteUptoRow.holds Try.pinned (OpenSpec.upto fnCheckTellsOneByteSpec)

/-- 'laws.FnSlicingIsSimple', WHERE WHAT IT READS IS OF BULK AT MOST 1048576: true; the input reads as it did. -/
def fnSlicingIsSimpleUptoRow : OpenClaim := { program := "ytccecngaimpejaa", sum := "d7a64c50d34d30324b1e0885790c747d904857dd159c4eef00b62e66170997af", func := "gzipfiles/laws.FnSlicingIsSimple", spec := "fnSlicingIsSimple", apart := false, narrowed := true }
def FnSlicingIsSimpleUptoSaid : Prop := fnSlicingIsSimpleUptoRow.holds Try.pinned (OpenSpec.upto fnSlicingIsSimpleSpec)

end Rows
end Go.Proofs.Ytccecngaimpejaa
