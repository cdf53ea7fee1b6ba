/-
  NARROWER THAN 'FOR EVERY INPUT', by the rows' own cells (each row's printed sentence says how): FnExactCount: ifaces, laid.
  DERIVED. THE GIVEN ROWS OF THIS SEAT. 1 by the template 'for every input the law returns true; each argument reads behind the call as it read before'; 0 by the template 'total and deterministic' (their statements: YtpcmiaablanmeaaDoorTotals.lean).
  GIVEN WITH THE SEED: the statements are not yours to turn. If you find one false, say at which input.
  Laid BY PROGRAM, IN A SANDBOX (cutbox-rows.mjs): the forced cells as the released guide's own fill.sh prints them over the translation 09ffee3b1a6c435c… (all of the seat's roots in one cut). By AI agents, Wed Nov 11 2026. No macro, syntax, notation, axiom, sorry.
-/
import Derived.Test.YtpcmiaablanmeaaDoorChecked
import GoSem.Claim
import GoSem.ClaimJoined
import GoSem.ClaimMapViews
import Derived.JoinedTies
import Derived.KernelRfl
namespace Go.Proofs.YtpcmiaablanmeaaDoor
/- THE CELL 'sum', in the pinned program and in every row, IS THE sha256 OF THE DUMP (.gsa) THAT YtpcmiaablanmeaaDoorProg.lean LOADS. Nothing in Lean hashes anything: it is a label: what it is worth is what the hold of that sum in a sandbox is worth. -/
noncomputable def Tryd.pinned : Pinned := { name := "ytpcmiaablanmeaadoor", sum := "09ffee3b1a6c435c4a137b16c6af4ee556511d44d60645154f6ee2ad03149a7d", checked := Tryd.checked }
namespace Rows
def none {H : Type} : Left H := { results := [], args := [] }

/- WHAT THE LISTED PACKAGE-LEVEL VARIABLES READ AS WHEN THE CALL BEGINS. Each datum BY PROGRAM (the guide's laid-datum.mjs) off the statement by which the dump's own 'gosem.cut.vars' lays the variable. In a bare row this is a premise. The card (YtpcmiaablanmeaaDoorCards.lean) ties it to the program's text. -/
def laid_loop_example_pub_flagwords_pub_flagparse_ErrHelp {H : Type} : DataW H := .iface "*errors.errorString" (.ptr (.agg [.lit (.string [102, 108, 97, 103, 58, 32, 104, 101, 108, 112, 32, 114, 101, 113, 117, 101, 115, 116, 101, 100])]))

/-- 'laws.FnExactCount': WHATEVER THE INPUT: true; the input reads as it did. -/
def fnExactCountSpec : ChangeSpec := { name := "fnExactCount", vars := ["loop.example/pub-flagwords/pub/flagparse.ErrHelp"], fn := fun _ => fun
  | [d1, d2, d3, g1] => { results := [.lit (.bool true)], args := [d1, d2, d3], vars := [g1] }
  | _ => none }
def fnExactCountRow : OpenClaim := { program := "ytpcmiaablanmeaadoor", sum := "09ffee3b1a6c435c4a137b16c6af4ee556511d44d60645154f6ee2ad03149a7d", func := "loop.example/pub-flagwords/laws.FnExactCount", spec := "fnExactCount", inPlace := ["slices.overlaps[string]"], unfollowed := true, recurses := true, named := ["loop.example/pub-flagwords/pub/flagparse.ErrHelp"], ifaces := true, apart := false, laid := [("loop.example/pub-flagwords/pub/flagparse.ErrHelp", laid_loop_example_pub_flagwords_pub_flagparse_ErrHelp)] }
def FnExactCountSaid : Prop := fnExactCountRow.holds Tryd.pinned (OpenSpec.ofChange fnExactCountSpec)

/-- ITS FALSE NEIGHBOUR: 'it returns false'. Refute it at one input. -/
def fnExactCountWrong : ChangeSpec := { name := "fnExactCount", vars := ["loop.example/pub-flagwords/pub/flagparse.ErrHelp"], fn := fun _ => fun
  | [d1, d2, d3, g1] => { results := [.lit (.bool false)], args := [d1, d2, d3], vars := [g1] }
  | _ => none }
def FnExactCountWrongFalsely : Prop := fnExactCountRow.holds Tryd.pinned (OpenSpec.ofChange fnExactCountWrong)

/- THE SECOND FORM. 'bulk': how many values and letters a reading holds, each counted each time it is reached (what is shared counts as often as it is met; a slice's spare places count too). A statement '..UptoSaid' is the law's where the arguments, and the package variables that the reading takes, are together of bulk at most 1048576: NARROWER than '..Said'. Prove '..Said' where nothing that the law and all that it calls make is longer than what came in: it says more and counts as full. Else prove '..UptoSaid'. A law counts once. -/
mutual
def uptoBulk {H : Type} : DataW H → Nat
  | .lit (.string bytes) => bytes.length + 1
  | .lit _ => 1
  | .nil => 1
  | .ptr d => uptoBulk d + 1
  | .slice elems spare => uptoBulkAll elems + uptoBulkAll spare + 1
  | .agg parts => uptoBulkAll parts + 1
  | .iface _ d => uptoBulk d + 1
  | .map entries => uptoBulkEntries entries + 1
  | .held _ => 1
def uptoBulkAll {H : Type} : List (DataW H) → Nat
  | [] => 0
  | d :: r => uptoBulk d + uptoBulkAll r
def uptoBulkEntries {H : Type} : List (Lit × DataW H) → Nat
  | [] => 0
  | x :: r => uptoBulkEntry x + uptoBulkEntries r
def uptoBulkEntry {H : Type} : Lit × DataW H → Nat
  | (.string bytes, d) => bytes.length + uptoBulk d + 1
  | (_, d) => uptoBulk d + 1
 end
def uptoSmall : (H : Type) → List (DataW H) → Bool := fun _ ds => decide (uptoBulkAll ds ≤ 1048576)
def OpenSpec.upto (s : _root_.Go.ChangeSpec) : _root_.Go.OpenSpec := { _root_.Go.OpenSpec.ofChange s with cond := some uptoSmall }

/-- 'laws.FnExactCount', WHERE WHAT IT READS IS OF BULK AT MOST 1048576: true; the input reads as it did. -/
def fnExactCountUptoRow : OpenClaim := { program := "ytpcmiaablanmeaadoor", sum := "09ffee3b1a6c435c4a137b16c6af4ee556511d44d60645154f6ee2ad03149a7d", func := "loop.example/pub-flagwords/laws.FnExactCount", spec := "fnExactCount", inPlace := ["slices.overlaps[string]"], unfollowed := true, recurses := true, named := ["loop.example/pub-flagwords/pub/flagparse.ErrHelp"], ifaces := true, apart := false, laid := [("loop.example/pub-flagwords/pub/flagparse.ErrHelp", laid_loop_example_pub_flagwords_pub_flagparse_ErrHelp)], narrowed := true }
def FnExactCountUptoSaid : Prop := fnExactCountUptoRow.holds Tryd.pinned (OpenSpec.upto fnExactCountSpec)

end Rows
end Go.Proofs.YtpcmiaablanmeaaDoor
