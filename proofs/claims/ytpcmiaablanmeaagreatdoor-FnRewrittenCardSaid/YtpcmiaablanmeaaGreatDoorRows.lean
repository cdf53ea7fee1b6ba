/-
  NARROWER THAN 'FOR EVERY INPUT', by the rows' own cells (each row's printed sentence says how): FnSetParse: ifaces, laid · FnExactSet: ifaces, laid · FnExactParse: ifaces, laid · FnRewritten: ifaces, laid · FnStops: ifaces, laid · FnTerminator: ifaces, laid · FnTwoParts: ifaces, laid.
  DERIVED. THE GIVEN ROWS OF THIS SEAT. 7 by the template 'for every input the law returns true; each argument reads behind the call as it read before'; 0 by the template 'total and deterministic' (their statements: YtpcmiaablanmeaaGreatDoorTotals.lean).
  GIVEN WITH THE SEED: the statements are not yours to turn. If you find one false, say at which input.
  Laid BY PROGRAM, IN A SANDBOX (cutbox-rows.mjs): the forced cells as the released guide's own fill.sh prints them over the translation 747614f3a54a70d7… (all of the seat's roots in one cut). By AI agents, Wed Nov 11 2026. No macro, syntax, notation, axiom, sorry.
-/
import Derived.Test.YtpcmiaablanmeaaGreatDoorChecked
import GoSem.Claim
import GoSem.ClaimJoined
import GoSem.ClaimMapViews
import Derived.JoinedTies
import Derived.KernelRfl
namespace Go.Proofs.YtpcmiaablanmeaaGreatDoor
/- THE CELL 'sum', in the pinned program and in every row, IS THE sha256 OF THE DUMP (.gsa) THAT YtpcmiaablanmeaaGreatDoorProg.lean LOADS. Nothing in Lean hashes anything: it is a label: what it is worth is what the hold of that sum in a sandbox is worth. -/
noncomputable def Tryz.pinned : Pinned := { name := "ytpcmiaablanmeaagreatdoor", sum := "747614f3a54a70d79194facb038584a17281395bdc0f7ddddc5bb2a8e81c8348", checked := Tryz.checked }
namespace Rows
def none {H : Type} : Left H := { results := [], args := [] }

/- WHAT THE LISTED PACKAGE-LEVEL VARIABLES READ AS WHEN THE CALL BEGINS. Each datum BY PROGRAM (the guide's laid-datum.mjs) off the statement by which the dump's own 'gosem.cut.vars' lays the variable. In a bare row this is a premise. The card (YtpcmiaablanmeaaGreatDoorCards.lean) ties it to the program's text. -/
def laid_loop_example_pub_flagwords_pub_flagparse_ErrHelp {H : Type} : DataW H := .iface "*errors.errorString" (.ptr (.agg [.lit (.string [102, 108, 97, 103, 58, 32, 104, 101, 108, 112, 32, 114, 101, 113, 117, 101, 115, 116, 101, 100])]))

/-- 'laws.FnSetParse': WHATEVER THE INPUT: true; the input reads as it did. -/
def fnSetParseSpec : ChangeSpec := { name := "fnSetParse", vars := ["loop.example/pub-flagwords/pub/flagparse.ErrHelp"], fn := fun _ => fun
  | [d1, d2, g1] => { results := [.lit (.bool true)], args := [d1, d2], vars := [g1] }
  | _ => none }
def fnSetParseRow : OpenClaim := { program := "ytpcmiaablanmeaagreatdoor", sum := "747614f3a54a70d79194facb038584a17281395bdc0f7ddddc5bb2a8e81c8348", func := "loop.example/pub-flagwords/laws.FnSetParse", spec := "fnSetParse", inPlace := ["internal/bytealg.abigen_runtime_cmpstring"], unfollowed := true, recurses := true, named := ["loop.example/pub-flagwords/pub/flagparse.ErrHelp"], ifaces := true, apart := false, laid := [("loop.example/pub-flagwords/pub/flagparse.ErrHelp", laid_loop_example_pub_flagwords_pub_flagparse_ErrHelp)] }
def FnSetParseSaid : Prop := fnSetParseRow.holds Tryz.pinned (OpenSpec.ofChange fnSetParseSpec)

/-- ITS FALSE NEIGHBOUR: 'it returns false'. Refute it at one input. -/
def fnSetParseWrong : ChangeSpec := { name := "fnSetParse", vars := ["loop.example/pub-flagwords/pub/flagparse.ErrHelp"], fn := fun _ => fun
  | [d1, d2, g1] => { results := [.lit (.bool false)], args := [d1, d2], vars := [g1] }
  | _ => none }
def FnSetParseWrongFalsely : Prop := fnSetParseRow.holds Tryz.pinned (OpenSpec.ofChange fnSetParseWrong)

/-- 'laws.FnExactSet': WHATEVER THE INPUT: true; the input reads as it did. -/
def fnExactSetSpec : ChangeSpec := { name := "fnExactSet", vars := ["loop.example/pub-flagwords/pub/flagparse.ErrHelp"], fn := fun _ => fun
  | [d1, d2, g1] => { results := [.lit (.bool true)], args := [d1, d2], vars := [g1] }
  | _ => none }
def fnExactSetRow : OpenClaim := { program := "ytpcmiaablanmeaagreatdoor", sum := "747614f3a54a70d79194facb038584a17281395bdc0f7ddddc5bb2a8e81c8348", func := "loop.example/pub-flagwords/laws.FnExactSet", spec := "fnExactSet", inPlace := ["slices.overlaps[string]", "internal/bytealg.abigen_runtime_cmpstring"], unfollowed := true, recurses := true, named := ["loop.example/pub-flagwords/pub/flagparse.ErrHelp"], ifaces := true, apart := false, laid := [("loop.example/pub-flagwords/pub/flagparse.ErrHelp", laid_loop_example_pub_flagwords_pub_flagparse_ErrHelp)] }
def FnExactSetSaid : Prop := fnExactSetRow.holds Tryz.pinned (OpenSpec.ofChange fnExactSetSpec)

/-- ITS FALSE NEIGHBOUR: 'it returns false'. Refute it at one input. -/
def fnExactSetWrong : ChangeSpec := { name := "fnExactSet", vars := ["loop.example/pub-flagwords/pub/flagparse.ErrHelp"], fn := fun _ => fun
  | [d1, d2, g1] => { results := [.lit (.bool false)], args := [d1, d2], vars := [g1] }
  | _ => none }
def FnExactSetWrongFalsely : Prop := fnExactSetRow.holds Tryz.pinned (OpenSpec.ofChange fnExactSetWrong)

/-- 'laws.FnExactParse': WHATEVER THE INPUT: true; the input reads as it did. -/
def fnExactParseSpec : ChangeSpec := { name := "fnExactParse", vars := ["loop.example/pub-flagwords/pub/flagparse.ErrHelp"], fn := fun _ => fun
  | [d1, d2, g1] => { results := [.lit (.bool true)], args := [d1, d2], vars := [g1] }
  | _ => none }
def fnExactParseRow : OpenClaim := { program := "ytpcmiaablanmeaagreatdoor", sum := "747614f3a54a70d79194facb038584a17281395bdc0f7ddddc5bb2a8e81c8348", func := "loop.example/pub-flagwords/laws.FnExactParse", spec := "fnExactParse", inPlace := ["slices.overlaps[string]", "internal/bytealg.abigen_runtime_cmpstring"], unfollowed := true, recurses := true, named := ["loop.example/pub-flagwords/pub/flagparse.ErrHelp"], ifaces := true, apart := false, laid := [("loop.example/pub-flagwords/pub/flagparse.ErrHelp", laid_loop_example_pub_flagwords_pub_flagparse_ErrHelp)] }
def FnExactParseSaid : Prop := fnExactParseRow.holds Tryz.pinned (OpenSpec.ofChange fnExactParseSpec)

/-- ITS FALSE NEIGHBOUR: 'it returns false'. Refute it at one input. -/
def fnExactParseWrong : ChangeSpec := { name := "fnExactParse", vars := ["loop.example/pub-flagwords/pub/flagparse.ErrHelp"], fn := fun _ => fun
  | [d1, d2, g1] => { results := [.lit (.bool false)], args := [d1, d2], vars := [g1] }
  | _ => none }
def FnExactParseWrongFalsely : Prop := fnExactParseRow.holds Tryz.pinned (OpenSpec.ofChange fnExactParseWrong)

/-- 'laws.FnRewritten': WHATEVER THE INPUT: true; the input reads as it did. -/
def fnRewrittenSpec : ChangeSpec := { name := "fnRewritten", vars := ["loop.example/pub-flagwords/pub/flagparse.ErrHelp"], fn := fun _ => fun
  | [d1, d2, d3, d4, g1] => { results := [.lit (.bool true)], args := [d1, d2, d3, d4], vars := [g1] }
  | _ => none }
def fnRewrittenRow : OpenClaim := { program := "ytpcmiaablanmeaagreatdoor", sum := "747614f3a54a70d79194facb038584a17281395bdc0f7ddddc5bb2a8e81c8348", func := "loop.example/pub-flagwords/laws.FnRewritten", spec := "fnRewritten", inPlace := ["slices.overlaps[string]", "internal/bytealg.abigen_runtime_cmpstring"], unfollowed := true, recurses := true, named := ["loop.example/pub-flagwords/pub/flagparse.ErrHelp"], ifaces := true, apart := false, laid := [("loop.example/pub-flagwords/pub/flagparse.ErrHelp", laid_loop_example_pub_flagwords_pub_flagparse_ErrHelp)] }
def FnRewrittenSaid : Prop := fnRewrittenRow.holds Tryz.pinned (OpenSpec.ofChange fnRewrittenSpec)

/-- ITS FALSE NEIGHBOUR: 'it returns false'. Refute it at one input. -/
def fnRewrittenWrong : ChangeSpec := { name := "fnRewritten", vars := ["loop.example/pub-flagwords/pub/flagparse.ErrHelp"], fn := fun _ => fun
  | [d1, d2, d3, d4, g1] => { results := [.lit (.bool false)], args := [d1, d2, d3, d4], vars := [g1] }
  | _ => none }
def FnRewrittenWrongFalsely : Prop := fnRewrittenRow.holds Tryz.pinned (OpenSpec.ofChange fnRewrittenWrong)

/-- 'laws.FnStops': WHATEVER THE INPUT: true; the input reads as it did. -/
def fnStopsSpec : ChangeSpec := { name := "fnStops", vars := ["loop.example/pub-flagwords/pub/flagparse.ErrHelp"], fn := fun _ => fun
  | [d1, d2, d3, g1] => { results := [.lit (.bool true)], args := [d1, d2, d3], vars := [g1] }
  | _ => none }
def fnStopsRow : OpenClaim := { program := "ytpcmiaablanmeaagreatdoor", sum := "747614f3a54a70d79194facb038584a17281395bdc0f7ddddc5bb2a8e81c8348", func := "loop.example/pub-flagwords/laws.FnStops", spec := "fnStops", inPlace := ["slices.overlaps[string]", "internal/bytealg.abigen_runtime_cmpstring"], unfollowed := true, recurses := true, named := ["loop.example/pub-flagwords/pub/flagparse.ErrHelp"], ifaces := true, apart := false, laid := [("loop.example/pub-flagwords/pub/flagparse.ErrHelp", laid_loop_example_pub_flagwords_pub_flagparse_ErrHelp)] }
def FnStopsSaid : Prop := fnStopsRow.holds Tryz.pinned (OpenSpec.ofChange fnStopsSpec)

/-- ITS FALSE NEIGHBOUR: 'it returns false'. Refute it at one input. -/
def fnStopsWrong : ChangeSpec := { name := "fnStops", vars := ["loop.example/pub-flagwords/pub/flagparse.ErrHelp"], fn := fun _ => fun
  | [d1, d2, d3, g1] => { results := [.lit (.bool false)], args := [d1, d2, d3], vars := [g1] }
  | _ => none }
def FnStopsWrongFalsely : Prop := fnStopsRow.holds Tryz.pinned (OpenSpec.ofChange fnStopsWrong)

/-- 'laws.FnTerminator': WHATEVER THE INPUT: true; the input reads as it did. -/
def fnTerminatorSpec : ChangeSpec := { name := "fnTerminator", vars := ["loop.example/pub-flagwords/pub/flagparse.ErrHelp"], fn := fun _ => fun
  | [d1, d2, d3, g1] => { results := [.lit (.bool true)], args := [d1, d2, d3], vars := [g1] }
  | _ => none }
def fnTerminatorRow : OpenClaim := { program := "ytpcmiaablanmeaagreatdoor", sum := "747614f3a54a70d79194facb038584a17281395bdc0f7ddddc5bb2a8e81c8348", func := "loop.example/pub-flagwords/laws.FnTerminator", spec := "fnTerminator", inPlace := ["slices.overlaps[string]", "internal/bytealg.abigen_runtime_cmpstring"], unfollowed := true, recurses := true, named := ["loop.example/pub-flagwords/pub/flagparse.ErrHelp"], ifaces := true, apart := false, laid := [("loop.example/pub-flagwords/pub/flagparse.ErrHelp", laid_loop_example_pub_flagwords_pub_flagparse_ErrHelp)] }
def FnTerminatorSaid : Prop := fnTerminatorRow.holds Tryz.pinned (OpenSpec.ofChange fnTerminatorSpec)

/-- ITS FALSE NEIGHBOUR: 'it returns false'. Refute it at one input. -/
def fnTerminatorWrong : ChangeSpec := { name := "fnTerminator", vars := ["loop.example/pub-flagwords/pub/flagparse.ErrHelp"], fn := fun _ => fun
  | [d1, d2, d3, g1] => { results := [.lit (.bool false)], args := [d1, d2, d3], vars := [g1] }
  | _ => none }
def FnTerminatorWrongFalsely : Prop := fnTerminatorRow.holds Tryz.pinned (OpenSpec.ofChange fnTerminatorWrong)

/-- 'laws.FnTwoParts': WHATEVER THE INPUT: true; the input reads as it did. -/
def fnTwoPartsSpec : ChangeSpec := { name := "fnTwoParts", vars := ["loop.example/pub-flagwords/pub/flagparse.ErrHelp"], fn := fun _ => fun
  | [d1, d2, d3, g1] => { results := [.lit (.bool true)], args := [d1, d2, d3], vars := [g1] }
  | _ => none }
def fnTwoPartsRow : OpenClaim := { program := "ytpcmiaablanmeaagreatdoor", sum := "747614f3a54a70d79194facb038584a17281395bdc0f7ddddc5bb2a8e81c8348", func := "loop.example/pub-flagwords/laws.FnTwoParts", spec := "fnTwoParts", inPlace := ["slices.overlaps[string]", "internal/bytealg.abigen_runtime_cmpstring"], unfollowed := true, recurses := true, named := ["loop.example/pub-flagwords/pub/flagparse.ErrHelp"], ifaces := true, apart := false, laid := [("loop.example/pub-flagwords/pub/flagparse.ErrHelp", laid_loop_example_pub_flagwords_pub_flagparse_ErrHelp)] }
def FnTwoPartsSaid : Prop := fnTwoPartsRow.holds Tryz.pinned (OpenSpec.ofChange fnTwoPartsSpec)

/-- ITS FALSE NEIGHBOUR: 'it returns false'. Refute it at one input. -/
def fnTwoPartsWrong : ChangeSpec := { name := "fnTwoParts", vars := ["loop.example/pub-flagwords/pub/flagparse.ErrHelp"], fn := fun _ => fun
  | [d1, d2, d3, g1] => { results := [.lit (.bool false)], args := [d1, d2, d3], vars := [g1] }
  | _ => none }
def FnTwoPartsWrongFalsely : Prop := fnTwoPartsRow.holds Tryz.pinned (OpenSpec.ofChange fnTwoPartsWrong)

/- THE SECOND FORM. 'bulk': how many values and letters a reading holds, each counted each time it is reached (what is shared counts as often as it is met; a slice's spare places count too). A statement '..UptoSaid' is the law's where the arguments, and the package variables that the reading takes, are together of bulk at most 1048576: NARROWER than '..Said'. Prove '..Said' where nothing that the law and all that it calls make is longer than what came in: it says more and counts as full. Else prove '..UptoSaid'. A law counts once. -/
mutual
def uptoBulk {H : Type} : DataW H → Nat
  | .lit (.string bytes) => bytes.length + 1
  | .lit _ => 1
  | .nil => 1
  | .ptr d => uptoBulk d + 1
  | .slice elems spare => uptoBulkAll elems + uptoBulkAll spare + 1
  | .agg parts => uptoBulkAll parts + 1
  | .iface _ d => uptoBulk d + 1
  | .map entries => uptoBulkEntries entries + 1
  | .held _ => 1
def uptoBulkAll {H : Type} : List (DataW H) → Nat
  | [] => 0
  | d :: r => uptoBulk d + uptoBulkAll r
def uptoBulkEntries {H : Type} : List (Lit × DataW H) → Nat
  | [] => 0
  | x :: r => uptoBulkEntry x + uptoBulkEntries r
def uptoBulkEntry {H : Type} : Lit × DataW H → Nat
  | (.string bytes, d) => bytes.length + uptoBulk d + 1
  | (_, d) => uptoBulk d + 1
 end
def uptoSmall : (H : Type) → List (DataW H) → Bool := fun _ ds => decide (uptoBulkAll ds ≤ 1048576)
def OpenSpec.upto (s : _root_.Go.ChangeSpec) : _root_.Go.OpenSpec := { _root_.Go.OpenSpec.ofChange s with cond := some uptoSmall }

/-- 'laws.FnSetParse', WHERE WHAT IT READS IS OF BULK AT MOST 1048576: true; the input reads as it did. -/
def fnSetParseUptoRow : OpenClaim := { program := "ytpcmiaablanmeaagreatdoor", sum := "747614f3a54a70d79194facb038584a17281395bdc0f7ddddc5bb2a8e81c8348", func := "loop.example/pub-flagwords/laws.FnSetParse", spec := "fnSetParse", inPlace := ["internal/bytealg.abigen_runtime_cmpstring"], unfollowed := true, recurses := true, named := ["loop.example/pub-flagwords/pub/flagparse.ErrHelp"], ifaces := true, apart := false, laid := [("loop.example/pub-flagwords/pub/flagparse.ErrHelp", laid_loop_example_pub_flagwords_pub_flagparse_ErrHelp)], narrowed := true }
def FnSetParseUptoSaid : Prop := fnSetParseUptoRow.holds Tryz.pinned (OpenSpec.upto fnSetParseSpec)

/-- 'laws.FnExactSet', WHERE WHAT IT READS IS OF BULK AT MOST 1048576: true; the input reads as it did. -/
def fnExactSetUptoRow : OpenClaim := { program := "ytpcmiaablanmeaagreatdoor", sum := "747614f3a54a70d79194facb038584a17281395bdc0f7ddddc5bb2a8e81c8348", func := "loop.example/pub-flagwords/laws.FnExactSet", spec := "fnExactSet", inPlace := ["slices.overlaps[string]", "internal/bytealg.abigen_runtime_cmpstring"], unfollowed := true, recurses := true, named := ["loop.example/pub-flagwords/pub/flagparse.ErrHelp"], ifaces := true, apart := false, laid := [("loop.example/pub-flagwords/pub/flagparse.ErrHelp", laid_loop_example_pub_flagwords_pub_flagparse_ErrHelp)], narrowed := true }
def FnExactSetUptoSaid : Prop := fnExactSetUptoRow.holds Tryz.pinned (OpenSpec.upto fnExactSetSpec)

/-- 'laws.FnExactParse', WHERE WHAT IT READS IS OF BULK AT MOST 1048576: true; the input reads as it did. -/
def fnExactParseUptoRow : OpenClaim := { program := "ytpcmiaablanmeaagreatdoor", sum := "747614f3a54a70d79194facb038584a17281395bdc0f7ddddc5bb2a8e81c8348", func := "loop.example/pub-flagwords/laws.FnExactParse", spec := "fnExactParse", inPlace := ["slices.overlaps[string]", "internal/bytealg.abigen_runtime_cmpstring"], unfollowed := true, recurses := true, named := ["loop.example/pub-flagwords/pub/flagparse.ErrHelp"], ifaces := true, apart := false, laid := [("loop.example/pub-flagwords/pub/flagparse.ErrHelp", laid_loop_example_pub_flagwords_pub_flagparse_ErrHelp)], narrowed := true }
def FnExactParseUptoSaid : Prop := fnExactParseUptoRow.holds Tryz.pinned (OpenSpec.upto fnExactParseSpec)

/-- 'laws.FnRewritten', WHERE WHAT IT READS IS OF BULK AT MOST 1048576: true; the input reads as it did. -/
def fnRewrittenUptoRow : OpenClaim := { program := "ytpcmiaablanmeaagreatdoor", sum := "747614f3a54a70d79194facb038584a17281395bdc0f7ddddc5bb2a8e81c8348", func := "loop.example/pub-flagwords/laws.FnRewritten", spec := "fnRewritten", inPlace := ["slices.overlaps[string]", "internal/bytealg.abigen_runtime_cmpstring"], unfollowed := true, recurses := true, named := ["loop.example/pub-flagwords/pub/flagparse.ErrHelp"], ifaces := true, apart := false, laid := [("loop.example/pub-flagwords/pub/flagparse.ErrHelp", laid_loop_example_pub_flagwords_pub_flagparse_ErrHelp)], narrowed := true }
def FnRewrittenUptoSaid : Prop := fnRewrittenUptoRow.holds Tryz.pinned (OpenSpec.upto fnRewrittenSpec)

/-- 'laws.FnStops', WHERE WHAT IT READS IS OF BULK AT MOST 1048576: true; the input reads as it did. -/
def fnStopsUptoRow : OpenClaim := { program := "ytpcmiaablanmeaagreatdoor", sum := "747614f3a54a70d79194facb038584a17281395bdc0f7ddddc5bb2a8e81c8348", func := "loop.example/pub-flagwords/laws.FnStops", spec := "fnStops", inPlace := ["slices.overlaps[string]", "internal/bytealg.abigen_runtime_cmpstring"], unfollowed := true, recurses := true, named := ["loop.example/pub-flagwords/pub/flagparse.ErrHelp"], ifaces := true, apart := false, laid := [("loop.example/pub-flagwords/pub/flagparse.ErrHelp", laid_loop_example_pub_flagwords_pub_flagparse_ErrHelp)], narrowed := true }
def FnStopsUptoSaid : Prop := fnStopsUptoRow.holds Tryz.pinned (OpenSpec.upto fnStopsSpec)

/-- 'laws.FnTerminator', WHERE WHAT IT READS IS OF BULK AT MOST 1048576: true; the input reads as it did. -/
def fnTerminatorUptoRow : OpenClaim := { program := "ytpcmiaablanmeaagreatdoor", sum := "747614f3a54a70d79194facb038584a17281395bdc0f7ddddc5bb2a8e81c8348", func := "loop.example/pub-flagwords/laws.FnTerminator", spec := "fnTerminator", inPlace := ["slices.overlaps[string]", "internal/bytealg.abigen_runtime_cmpstring"], unfollowed := true, recurses := true, named := ["loop.example/pub-flagwords/pub/flagparse.ErrHelp"], ifaces := true, apart := false, laid := [("loop.example/pub-flagwords/pub/flagparse.ErrHelp", laid_loop_example_pub_flagwords_pub_flagparse_ErrHelp)], narrowed := true }
def FnTerminatorUptoSaid : Prop := fnTerminatorUptoRow.holds Tryz.pinned (OpenSpec.upto fnTerminatorSpec)

/-- 'laws.FnTwoParts', WHERE WHAT IT READS IS OF BULK AT MOST 1048576: true; the input reads as it did. -/
def fnTwoPartsUptoRow : OpenClaim := { program := "ytpcmiaablanmeaagreatdoor", sum := "747614f3a54a70d79194facb038584a17281395bdc0f7ddddc5bb2a8e81c8348", func := "loop.example/pub-flagwords/laws.FnTwoParts", spec := "fnTwoParts", inPlace := ["slices.overlaps[string]", "internal/bytealg.abigen_runtime_cmpstring"], unfollowed := true, recurses := true, named := ["loop.example/pub-flagwords/pub/flagparse.ErrHelp"], ifaces := true, apart := false, laid := [("loop.example/pub-flagwords/pub/flagparse.ErrHelp", laid_loop_example_pub_flagwords_pub_flagparse_ErrHelp)], narrowed := true }
def FnTwoPartsUptoSaid : Prop := fnTwoPartsUptoRow.holds Tryz.pinned (OpenSpec.upto fnTwoPartsSpec)

end Rows
end Go.Proofs.YtpcmiaablanmeaaGreatDoor
