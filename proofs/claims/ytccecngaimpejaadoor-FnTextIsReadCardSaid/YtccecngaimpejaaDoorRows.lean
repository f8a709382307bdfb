/-
  NARROWER THAN 'FOR EVERY INPUT', by the rows' own cells (each row's printed sentence says how): FnTextIsRead: laid.
  DERIVED. THE GIVEN ROWS OF THIS SEAT. 1 by the template 'for every input the law returns true; each argument reads behind the call as it read before'; 0 by the template 'total and deterministic' (their statements: YtccecngaimpejaaDoorTotals.lean).
  GIVEN WITH THE SEED: the statements are not yours to turn. If you find one false, say at which input.
  Laid BY PROGRAM, IN A SANDBOX (cutbox-rows.mjs): the forced cells as the released guide's own fill.sh prints them over the translation 1c956337fc6c8724… (all of the seat's roots in one cut). By AI agents, Wed Nov 11 2026. No macro, syntax, notation, axiom, sorry.
-/
import Derived.Test.YtccecngaimpejaaDoorChecked
import GoSem.Claim
import GoSem.ClaimJoined
import GoSem.ClaimMapViews
import Derived.JoinedTies
import Derived.KernelRfl
namespace Go.Proofs.YtccecngaimpejaaDoor
/- THE CELL 'sum', in the pinned program and in every row, IS THE sha256 OF THE DUMP (.gsa) THAT YtccecngaimpejaaDoorProg.lean LOADS. Nothing in Lean hashes anything: it is a label: what it is worth is what the hold of that sum in a sandbox is worth. -/
noncomputable def Tryd.pinned : Pinned := { name := "ytccecngaimpejaadoor", sum := "1c956337fc6c872450ce0f160b37f784113cd8a66fe1265cefdad473d633edc7", checked := Tryd.checked }
namespace Rows
def none {H : Type} : Left H := { results := [], args := [] }

/- WHAT THE LISTED PACKAGE-LEVEL VARIABLES READ AS WHEN THE CALL BEGINS. Each datum BY PROGRAM (the guide's laid-datum.mjs) off the statement by which the dump's own 'gosem.cut.vars' lays the variable. In a bare row this is a premise. The card (YtccecngaimpejaaDoorCards.lean) ties it to the program's text. -/
def laid_io_EOF {H : Type} : DataW H := .iface "*errors.errorString" (.ptr (.agg [.lit (.string [69, 79, 70])]))
def laid_gzipfiles_pub_gogzip_ErrChecksum {H : Type} : DataW H := .iface "*errors.errorString" (.ptr (.agg [.lit (.string [103, 122, 105, 112, 58, 32, 105, 110, 118, 97, 108, 105, 100, 32, 99, 104, 101, 99, 107, 115, 117, 109])]))
def laid_gzipfiles_pub_gogzip_ErrHeader {H : Type} : DataW H := .iface "*errors.errorString" (.ptr (.agg [.lit (.string [103, 122, 105, 112, 58, 32, 105, 110, 118, 97, 108, 105, 100, 32, 104, 101, 97, 100, 101, 114])]))

/-- 'laws.FnTextIsRead': WHATEVER THE INPUT: true; the input reads as it did. -/
def fnTextIsReadSpec : ChangeSpec := { name := "fnTextIsRead", fn := fun _ => fun
  | [d] => { results := [.lit (.bool true)], args := [d] }
  | _ => none }
def fnTextIsReadRow : OpenClaim := { program := "ytccecngaimpejaadoor", sum := "1c956337fc6c872450ce0f160b37f784113cd8a66fe1265cefdad473d633edc7", func := "gzipfiles/laws.FnTextIsRead", spec := "fnTextIsRead", unfollowed := true, recurses := true, named := ["gzipfiles/pub/gogzip.ErrHeader", "io.EOF", "gzipfiles/pub/gogzip.ErrChecksum"], apart := false, laid := [("io.EOF", laid_io_EOF), ("gzipfiles/pub/gogzip.ErrChecksum", laid_gzipfiles_pub_gogzip_ErrChecksum), ("gzipfiles/pub/gogzip.ErrHeader", laid_gzipfiles_pub_gogzip_ErrHeader)] }
def FnTextIsReadSaid : Prop := fnTextIsReadRow.holds Tryd.pinned (OpenSpec.ofChange fnTextIsReadSpec)

/-- ITS FALSE NEIGHBOUR: 'it returns false'. Refute it at one input. -/
def fnTextIsReadWrong : ChangeSpec := { name := "fnTextIsRead", fn := fun _ => fun
  | [d] => { results := [.lit (.bool false)], args := [d] }
  | _ => none }
def FnTextIsReadWrongFalsely : Prop := fnTextIsReadRow.holds Tryd.pinned (OpenSpec.ofChange fnTextIsReadWrong)

/- THE SECOND FORM. 'bulk': how many values and letters a reading holds, each counted each time it is reached (what is shared counts as often as it is met; a slice's spare places count too). A statement '..UptoSaid' is the law's where the arguments, and the package variables that the reading takes, are together of bulk at most 1048576: NARROWER than '..Said'. Prove '..Said' where nothing that the law and all that it calls make is longer than what came in: it says more and counts as full. Else prove '..UptoSaid'. A law counts once. -/
mutual
def uptoBulk {H : Type} : DataW H → Nat
  | .lit (.string bytes) => bytes.length + 1
  | .lit _ => 1
  | .nil => 1
  | .ptr d => uptoBulk d + 1
  | .slice elems spare => uptoBulkAll elems + uptoBulkAll spare + 1
  | .agg parts => uptoBulkAll parts + 1
  | .iface _ d => uptoBulk d + 1
  | .map entries => uptoBulkEntries entries + 1
  | .held _ => 1
def uptoBulkAll {H : Type} : List (DataW H) → Nat
  | [] => 0
  | d :: r => uptoBulk d + uptoBulkAll r
def uptoBulkEntries {H : Type} : List (Lit × DataW H) → Nat
  | [] => 0
  | x :: r => uptoBulkEntry x + uptoBulkEntries r
def uptoBulkEntry {H : Type} : Lit × DataW H → Nat
  | (.string bytes, d) => bytes.length + uptoBulk d + 1
  | (_, d) => uptoBulk d + 1
 end
def uptoSmall : (H : Type) → List (DataW H) → Bool := fun _ ds => decide (uptoBulkAll ds ≤ 1048576)
def OpenSpec.upto (s : _root_.Go.ChangeSpec) : _root_.Go.OpenSpec := { _root_.Go.OpenSpec.ofChange s with cond := some uptoSmall }

/-- 'laws.FnTextIsRead', WHERE WHAT IT READS IS OF BULK AT MOST 1048576: true; the input reads as it did. -/
def fnTextIsReadUptoRow : OpenClaim := { program := "ytccecngaimpejaadoor", sum := "1c956337fc6c872450ce0f160b37f784113cd8a66fe1265cefdad473d633edc7", func := "gzipfiles/laws.FnTextIsRead", spec := "fnTextIsRead", unfollowed := true, recurses := true, named := ["gzipfiles/pub/gogzip.ErrHeader", "io.EOF", "gzipfiles/pub/gogzip.ErrChecksum"], apart := false, laid := [("io.EOF", laid_io_EOF), ("gzipfiles/pub/gogzip.ErrChecksum", laid_gzipfiles_pub_gogzip_ErrChecksum), ("gzipfiles/pub/gogzip.ErrHeader", laid_gzipfiles_pub_gogzip_ErrHeader)], narrowed := true }
def FnTextIsReadUptoSaid : Prop := fnTextIsReadUptoRow.holds Tryd.pinned (OpenSpec.upto fnTextIsReadSpec)

end Rows
end Go.Proofs.YtccecngaimpejaaDoor
