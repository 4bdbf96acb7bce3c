/-
  NARROWER THAN 'FOR EVERY INPUT', by the rows' own cells (each row's printed sentence says how): FnLow: laid · FnBack: laid · FnBuild: laid · FnStatesPart: laid · FnCodesFollow: laid · FnOffsetRows: laid · FnRows: laid · FnTable: laid · FnToldTableIsRead: laid · FnToldTreeIsRead: laid · FnTree: laid · FnLiterals: laid · FnToldLiteralsAreRead: laid.
  DERIVED. THE GIVEN ROWS OF THIS SEAT. 13 by the template 'for every input the law returns true; each argument reads behind the call as it read before'; 0 by the template 'total and deterministic' (their statements: YtabaholflahepaaDoorTotals.lean).
  GIVEN WITH THE SEED: the statements are not yours to turn. If you find one false, say at which input.
  Laid BY PROGRAM, IN A SANDBOX (cutbox-rows.mjs): the forced cells as the released guide's own fill.sh prints them over the translation c331f44550bc3558… (all of the seat's roots in one cut). By AI agents, Wed Nov 11 2026. No macro, syntax, notation, axiom, sorry.
-/
import Derived.Test.YtabaholflahepaaDoorChecked
import GoSem.Claim
import GoSem.ClaimJoined
import GoSem.ClaimMapViews
import Derived.JoinedTies
import Derived.KernelRfl
namespace Go.Proofs.YtabaholflahepaaDoor
/- THE CELL 'sum', in the pinned program and in every row, IS THE sha256 OF THE DUMP (.gsa) THAT YtabaholflahepaaDoorProg.lean LOADS. Nothing in Lean hashes anything: it is a label: what it is worth is what the hold of that sum in a sandbox is worth. -/
noncomputable def Tryd.pinned : Pinned := { name := "ytabaholflahepaadoor", sum := "c331f44550bc35588176c742fb7268dff44a5277824a0603b7704e0466428293", checked := Tryd.checked }
namespace Rows
def none {H : Type} : Left H := { results := [], args := [] }

/- WHAT THE LISTED PACKAGE-LEVEL VARIABLES READ AS WHEN THE CALL BEGINS. Each datum BY PROGRAM (the guide's laid-datum.mjs) off the statement by which the dump's own 'gosem.cut.vars' lays the variable. In a bare row this is a premise. The card (YtabaholflahepaaDoorCards.lean) ties it to the program's text. -/
def laid_io_EOF {H : Type} : DataW H := .iface "*errors.errorString" (.ptr (.agg [.lit (.string [69, 79, 70])]))
def laid_io_ErrUnexpectedEOF {H : Type} : DataW H := .iface "*errors.errorString" (.ptr (.agg [.lit (.string [117, 110, 101, 120, 112, 101, 99, 116, 101, 100, 32, 69, 79, 70])]))
def laid_framesunpacked_pub_zstd_literalLengthBase {H : Type} : DataW H := .slice [.lit (.int .u32 16777232), .lit (.int .u32 16777234), .lit (.int .u32 16777236), .lit (.int .u32 16777238), .lit (.int .u32 33554456), .lit (.int .u32 33554460), .lit (.int .u32 50331680), .lit (.int .u32 50331688), .lit (.int .u32 67108912), .lit (.int .u32 100663360), .lit (.int .u32 117440640), .lit (.int .u32 134217984), .lit (.int .u32 150995456), .lit (.int .u32 167773184), .lit (.int .u32 184551424), .lit (.int .u32 201330688), .lit (.int .u32 218112000), .lit (.int .u32 234897408), .lit (.int .u32 251691008), .lit (.int .u32 268500992)] []
def laid_framesunpacked_pub_zstd_matchLengthBase {H : Type} : DataW H := .slice [.lit (.int .u32 16777251), .lit (.int .u32 16777253), .lit (.int .u32 16777255), .lit (.int .u32 16777257), .lit (.int .u32 33554475), .lit (.int .u32 33554479), .lit (.int .u32 50331699), .lit (.int .u32 50331707), .lit (.int .u32 67108931), .lit (.int .u32 67108947), .lit (.int .u32 83886179), .lit (.int .u32 117440643), .lit (.int .u32 134217987), .lit (.int .u32 150995459), .lit (.int .u32 167773187), .lit (.int .u32 184551427), .lit (.int .u32 201330691), .lit (.int .u32 218112003), .lit (.int .u32 234897411), .lit (.int .u32 251691011), .lit (.int .u32 268500995)] []

/-- 'laws.FnLow': WHATEVER THE INPUT: true; the input reads as it did. -/
def fnLowSpec : ChangeSpec := { name := "fnLow", fn := fun _ => fun
  | [d1, d2] => { results := [.lit (.bool true)], args := [d1, d2] }
  | _ => none }
def fnLowRow : OpenClaim := { program := "ytabaholflahepaadoor", sum := "c331f44550bc35588176c742fb7268dff44a5277824a0603b7704e0466428293", func := "framesunpacked/laws.FnLow", spec := "fnLow", named := ["io.ErrUnexpectedEOF", "io.EOF"], apart := false, laid := [("io.EOF", laid_io_EOF), ("io.ErrUnexpectedEOF", laid_io_ErrUnexpectedEOF)] }
def FnLowSaid : Prop := fnLowRow.holds Tryd.pinned (OpenSpec.ofChange fnLowSpec)

/-- ITS FALSE NEIGHBOUR: 'it returns false'. Refute it at one input. -/
def fnLowWrong : ChangeSpec := { name := "fnLow", fn := fun _ => fun
  | [d1, d2] => { results := [.lit (.bool false)], args := [d1, d2] }
  | _ => none }
def FnLowWrongFalsely : Prop := fnLowRow.holds Tryd.pinned (OpenSpec.ofChange fnLowWrong)

/-- 'laws.FnBack': WHATEVER THE INPUT: true; the input reads as it did. -/
def fnBackSpec : ChangeSpec := { name := "fnBack", fn := fun _ => fun
  | [d1, d2] => { results := [.lit (.bool true)], args := [d1, d2] }
  | _ => none }
def fnBackRow : OpenClaim := { program := "ytabaholflahepaadoor", sum := "c331f44550bc35588176c742fb7268dff44a5277824a0603b7704e0466428293", func := "framesunpacked/laws.FnBack", spec := "fnBack", named := ["io.EOF", "io.ErrUnexpectedEOF"], apart := false, laid := [("io.EOF", laid_io_EOF), ("io.ErrUnexpectedEOF", laid_io_ErrUnexpectedEOF)] }
def FnBackSaid : Prop := fnBackRow.holds Tryd.pinned (OpenSpec.ofChange fnBackSpec)

/-- ITS FALSE NEIGHBOUR: 'it returns false'. Refute it at one input. -/
def fnBackWrong : ChangeSpec := { name := "fnBack", fn := fun _ => fun
  | [d1, d2] => { results := [.lit (.bool false)], args := [d1, d2] }
  | _ => none }
def FnBackWrongFalsely : Prop := fnBackRow.holds Tryd.pinned (OpenSpec.ofChange fnBackWrong)

/-- 'laws.FnBuild': WHATEVER THE INPUT: true; the input reads as it did. -/
def fnBuildSpec : ChangeSpec := { name := "fnBuild", fn := fun _ => fun
  | [d1, d2] => { results := [.lit (.bool true)], args := [d1, d2] }
  | _ => none }
def fnBuildRow : OpenClaim := { program := "ytabaholflahepaadoor", sum := "c331f44550bc35588176c742fb7268dff44a5277824a0603b7704e0466428293", func := "framesunpacked/laws.FnBuild", spec := "fnBuild", named := ["io.EOF"], apart := false, laid := [("io.EOF", laid_io_EOF)] }
def FnBuildSaid : Prop := fnBuildRow.holds Tryd.pinned (OpenSpec.ofChange fnBuildSpec)

/-- ITS FALSE NEIGHBOUR: 'it returns false'. Refute it at one input. -/
def fnBuildWrong : ChangeSpec := { name := "fnBuild", fn := fun _ => fun
  | [d1, d2] => { results := [.lit (.bool false)], args := [d1, d2] }
  | _ => none }
def FnBuildWrongFalsely : Prop := fnBuildRow.holds Tryd.pinned (OpenSpec.ofChange fnBuildWrong)

/-- 'laws.FnStatesPart': WHATEVER THE INPUT: true; the input reads as it did. -/
def fnStatesPartSpec : ChangeSpec := { name := "fnStatesPart", fn := fun _ => fun
  | [d1, d2] => { results := [.lit (.bool true)], args := [d1, d2] }
  | _ => none }
def fnStatesPartRow : OpenClaim := { program := "ytabaholflahepaadoor", sum := "c331f44550bc35588176c742fb7268dff44a5277824a0603b7704e0466428293", func := "framesunpacked/laws.FnStatesPart", spec := "fnStatesPart", named := ["io.EOF"], apart := false, laid := [("io.EOF", laid_io_EOF)] }
def FnStatesPartSaid : Prop := fnStatesPartRow.holds Tryd.pinned (OpenSpec.ofChange fnStatesPartSpec)

/-- ITS FALSE NEIGHBOUR: 'it returns false'. Refute it at one input. -/
def fnStatesPartWrong : ChangeSpec := { name := "fnStatesPart", fn := fun _ => fun
  | [d1, d2] => { results := [.lit (.bool false)], args := [d1, d2] }
  | _ => none }
def FnStatesPartWrongFalsely : Prop := fnStatesPartRow.holds Tryd.pinned (OpenSpec.ofChange fnStatesPartWrong)

/-- 'laws.FnCodesFollow': WHATEVER THE INPUT: true; the input reads as it did. -/
def fnCodesFollowSpec : ChangeSpec := { name := "fnCodesFollow", fn := fun _ => fun
  | [d] => { results := [.lit (.bool true)], args := [d] }
  | _ => none }
def fnCodesFollowRow : OpenClaim := { program := "ytabaholflahepaadoor", sum := "c331f44550bc35588176c742fb7268dff44a5277824a0603b7704e0466428293", func := "framesunpacked/laws.FnCodesFollow", spec := "fnCodesFollow", named := ["framesunpacked/pub/zstd.literalLengthBase", "io.EOF", "framesunpacked/pub/zstd.matchLengthBase"], apart := false, laid := [("io.EOF", laid_io_EOF), ("framesunpacked/pub/zstd.literalLengthBase", laid_framesunpacked_pub_zstd_literalLengthBase), ("framesunpacked/pub/zstd.matchLengthBase", laid_framesunpacked_pub_zstd_matchLengthBase)] }
def FnCodesFollowSaid : Prop := fnCodesFollowRow.holds Tryd.pinned (OpenSpec.ofChange fnCodesFollowSpec)

/-- ITS FALSE NEIGHBOUR: 'it returns false'. Refute it at one input. -/
def fnCodesFollowWrong : ChangeSpec := { name := "fnCodesFollow", fn := fun _ => fun
  | [d] => { results := [.lit (.bool false)], args := [d] }
  | _ => none }
def FnCodesFollowWrongFalsely : Prop := fnCodesFollowRow.holds Tryd.pinned (OpenSpec.ofChange fnCodesFollowWrong)

/-- 'laws.FnOffsetRows': WHATEVER THE INPUT: true; the input reads as it did. -/
def fnOffsetRowsSpec : ChangeSpec := { name := "fnOffsetRows", fn := fun _ => fun
  | [d1, d2, d3] => { results := [.lit (.bool true)], args := [d1, d2, d3] }
  | _ => none }
def fnOffsetRowsRow : OpenClaim := { program := "ytabaholflahepaadoor", sum := "c331f44550bc35588176c742fb7268dff44a5277824a0603b7704e0466428293", func := "framesunpacked/laws.FnOffsetRows", spec := "fnOffsetRows", named := ["framesunpacked/pub/zstd.literalLengthBase", "io.EOF", "framesunpacked/pub/zstd.matchLengthBase"], apart := false, laid := [("io.EOF", laid_io_EOF), ("framesunpacked/pub/zstd.literalLengthBase", laid_framesunpacked_pub_zstd_literalLengthBase), ("framesunpacked/pub/zstd.matchLengthBase", laid_framesunpacked_pub_zstd_matchLengthBase)] }
def FnOffsetRowsSaid : Prop := fnOffsetRowsRow.holds Tryd.pinned (OpenSpec.ofChange fnOffsetRowsSpec)

/-- ITS FALSE NEIGHBOUR: 'it returns false'. Refute it at one input. -/
def fnOffsetRowsWrong : ChangeSpec := { name := "fnOffsetRows", fn := fun _ => fun
  | [d1, d2, d3] => { results := [.lit (.bool false)], args := [d1, d2, d3] }
  | _ => none }
def FnOffsetRowsWrongFalsely : Prop := fnOffsetRowsRow.holds Tryd.pinned (OpenSpec.ofChange fnOffsetRowsWrong)

/-- 'laws.FnRows': WHATEVER THE INPUT: true; the input reads as it did. -/
def fnRowsSpec : ChangeSpec := { name := "fnRows", fn := fun _ => fun
  | [d1, d2, d3, d4] => { results := [.lit (.bool true)], args := [d1, d2, d3, d4] }
  | _ => none }
def fnRowsRow : OpenClaim := { program := "ytabaholflahepaadoor", sum := "c331f44550bc35588176c742fb7268dff44a5277824a0603b7704e0466428293", func := "framesunpacked/laws.FnRows", spec := "fnRows", named := ["framesunpacked/pub/zstd.literalLengthBase", "io.EOF", "framesunpacked/pub/zstd.matchLengthBase"], apart := false, laid := [("io.EOF", laid_io_EOF), ("framesunpacked/pub/zstd.literalLengthBase", laid_framesunpacked_pub_zstd_literalLengthBase), ("framesunpacked/pub/zstd.matchLengthBase", laid_framesunpacked_pub_zstd_matchLengthBase)] }
def FnRowsSaid : Prop := fnRowsRow.holds Tryd.pinned (OpenSpec.ofChange fnRowsSpec)

/-- ITS FALSE NEIGHBOUR: 'it returns false'. Refute it at one input. -/
def fnRowsWrong : ChangeSpec := { name := "fnRows", fn := fun _ => fun
  | [d1, d2, d3, d4] => { results := [.lit (.bool false)], args := [d1, d2, d3, d4] }
  | _ => none }
def FnRowsWrongFalsely : Prop := fnRowsRow.holds Tryd.pinned (OpenSpec.ofChange fnRowsWrong)

/-- 'laws.FnTable': WHATEVER THE INPUT: true; the input reads as it did. -/
def fnTableSpec : ChangeSpec := { name := "fnTable", fn := fun _ => fun
  | [d1, d2, d3] => { results := [.lit (.bool true)], args := [d1, d2, d3] }
  | _ => none }
def fnTableRow : OpenClaim := { program := "ytabaholflahepaadoor", sum := "c331f44550bc35588176c742fb7268dff44a5277824a0603b7704e0466428293", func := "framesunpacked/laws.FnTable", spec := "fnTable", named := ["io.ErrUnexpectedEOF", "io.EOF"], apart := false, laid := [("io.EOF", laid_io_EOF), ("io.ErrUnexpectedEOF", laid_io_ErrUnexpectedEOF)] }
def FnTableSaid : Prop := fnTableRow.holds Tryd.pinned (OpenSpec.ofChange fnTableSpec)

/-- ITS FALSE NEIGHBOUR: 'it returns false'. Refute it at one input. -/
def fnTableWrong : ChangeSpec := { name := "fnTable", fn := fun _ => fun
  | [d1, d2, d3] => { results := [.lit (.bool false)], args := [d1, d2, d3] }
  | _ => none }
def FnTableWrongFalsely : Prop := fnTableRow.holds Tryd.pinned (OpenSpec.ofChange fnTableWrong)

/-- 'laws.FnToldTableIsRead': WHATEVER THE INPUT: true; the input reads as it did. -/
def fnToldTableIsReadSpec : ChangeSpec := { name := "fnToldTableIsRead", fn := fun _ => fun
  | [d1, d2, d3] => { results := [.lit (.bool true)], args := [d1, d2, d3] }
  | _ => none }
def fnToldTableIsReadRow : OpenClaim := { program := "ytabaholflahepaadoor", sum := "c331f44550bc35588176c742fb7268dff44a5277824a0603b7704e0466428293", func := "framesunpacked/laws.FnToldTableIsRead", spec := "fnToldTableIsRead", named := ["io.EOF", "io.ErrUnexpectedEOF"], apart := false, laid := [("io.EOF", laid_io_EOF), ("io.ErrUnexpectedEOF", laid_io_ErrUnexpectedEOF)] }
def FnToldTableIsReadSaid : Prop := fnToldTableIsReadRow.holds Tryd.pinned (OpenSpec.ofChange fnToldTableIsReadSpec)

/-- ITS FALSE NEIGHBOUR: 'it returns false'. Refute it at one input. -/
def fnToldTableIsReadWrong : ChangeSpec := { name := "fnToldTableIsRead", fn := fun _ => fun
  | [d1, d2, d3] => { results := [.lit (.bool false)], args := [d1, d2, d3] }
  | _ => none }
def FnToldTableIsReadWrongFalsely : Prop := fnToldTableIsReadRow.holds Tryd.pinned (OpenSpec.ofChange fnToldTableIsReadWrong)

/-- 'laws.FnToldTreeIsRead': WHATEVER THE INPUT: true; the input reads as it did. -/
def fnToldTreeIsReadSpec : ChangeSpec := { name := "fnToldTreeIsRead", fn := fun _ => fun
  | [d1, d2, d3] => { results := [.lit (.bool true)], args := [d1, d2, d3] }
  | _ => none }
def fnToldTreeIsReadRow : OpenClaim := { program := "ytabaholflahepaadoor", sum := "c331f44550bc35588176c742fb7268dff44a5277824a0603b7704e0466428293", func := "framesunpacked/laws.FnToldTreeIsRead", spec := "fnToldTreeIsRead", named := ["io.ErrUnexpectedEOF", "io.EOF"], apart := false, laid := [("io.EOF", laid_io_EOF), ("io.ErrUnexpectedEOF", laid_io_ErrUnexpectedEOF)] }
def FnToldTreeIsReadSaid : Prop := fnToldTreeIsReadRow.holds Tryd.pinned (OpenSpec.ofChange fnToldTreeIsReadSpec)

/-- ITS FALSE NEIGHBOUR: 'it returns false'. Refute it at one input. -/
def fnToldTreeIsReadWrong : ChangeSpec := { name := "fnToldTreeIsRead", fn := fun _ => fun
  | [d1, d2, d3] => { results := [.lit (.bool false)], args := [d1, d2, d3] }
  | _ => none }
def FnToldTreeIsReadWrongFalsely : Prop := fnToldTreeIsReadRow.holds Tryd.pinned (OpenSpec.ofChange fnToldTreeIsReadWrong)

/-- 'laws.FnTree': WHATEVER THE INPUT: true; the input reads as it did. -/
def fnTreeSpec : ChangeSpec := { name := "fnTree", fn := fun _ => fun
  | [d] => { results := [.lit (.bool true)], args := [d] }
  | _ => none }
def fnTreeRow : OpenClaim := { program := "ytabaholflahepaadoor", sum := "c331f44550bc35588176c742fb7268dff44a5277824a0603b7704e0466428293", func := "framesunpacked/laws.FnTree", spec := "fnTree", named := ["io.ErrUnexpectedEOF", "io.EOF"], apart := false, laid := [("io.EOF", laid_io_EOF), ("io.ErrUnexpectedEOF", laid_io_ErrUnexpectedEOF)] }
def FnTreeSaid : Prop := fnTreeRow.holds Tryd.pinned (OpenSpec.ofChange fnTreeSpec)

/-- ITS FALSE NEIGHBOUR: 'it returns false'. Refute it at one input. -/
def fnTreeWrong : ChangeSpec := { name := "fnTree", fn := fun _ => fun
  | [d] => { results := [.lit (.bool false)], args := [d] }
  | _ => none }
def FnTreeWrongFalsely : Prop := fnTreeRow.holds Tryd.pinned (OpenSpec.ofChange fnTreeWrong)

/-- 'laws.FnLiterals': WHATEVER THE INPUT: true; the input reads as it did. -/
def fnLiteralsSpec : ChangeSpec := { name := "fnLiterals", fn := fun _ => fun
  | [d] => { results := [.lit (.bool true)], args := [d] }
  | _ => none }
def fnLiteralsRow : OpenClaim := { program := "ytabaholflahepaadoor", sum := "c331f44550bc35588176c742fb7268dff44a5277824a0603b7704e0466428293", func := "framesunpacked/laws.FnLiterals", spec := "fnLiterals", unfollowed := true, recurses := true, named := ["io.ErrUnexpectedEOF", "io.EOF"], apart := false, laid := [("io.EOF", laid_io_EOF), ("io.ErrUnexpectedEOF", laid_io_ErrUnexpectedEOF)] }
def FnLiteralsSaid : Prop := fnLiteralsRow.holds Tryd.pinned (OpenSpec.ofChange fnLiteralsSpec)

/-- ITS FALSE NEIGHBOUR: 'it returns false'. Refute it at one input. -/
def fnLiteralsWrong : ChangeSpec := { name := "fnLiterals", fn := fun _ => fun
  | [d] => { results := [.lit (.bool false)], args := [d] }
  | _ => none }
def FnLiteralsWrongFalsely : Prop := fnLiteralsRow.holds Tryd.pinned (OpenSpec.ofChange fnLiteralsWrong)

/-- 'laws.FnToldLiteralsAreRead': WHATEVER THE INPUT: true; the input reads as it did. -/
def fnToldLiteralsAreReadSpec : ChangeSpec := { name := "fnToldLiteralsAreRead", fn := fun _ => fun
  | [d1, d2, d3] => { results := [.lit (.bool true)], args := [d1, d2, d3] }
  | _ => none }
def fnToldLiteralsAreReadRow : OpenClaim := { program := "ytabaholflahepaadoor", sum := "c331f44550bc35588176c742fb7268dff44a5277824a0603b7704e0466428293", func := "framesunpacked/laws.FnToldLiteralsAreRead", spec := "fnToldLiteralsAreRead", unfollowed := true, recurses := true, named := ["io.ErrUnexpectedEOF", "io.EOF"], apart := false, laid := [("io.EOF", laid_io_EOF), ("io.ErrUnexpectedEOF", laid_io_ErrUnexpectedEOF)] }
def FnToldLiteralsAreReadSaid : Prop := fnToldLiteralsAreReadRow.holds Tryd.pinned (OpenSpec.ofChange fnToldLiteralsAreReadSpec)

/-- ITS FALSE NEIGHBOUR: 'it returns false'. Refute it at one input. -/
def fnToldLiteralsAreReadWrong : ChangeSpec := { name := "fnToldLiteralsAreRead", fn := fun _ => fun
  | [d1, d2, d3] => { results := [.lit (.bool false)], args := [d1, d2, d3] }
  | _ => none }
def FnToldLiteralsAreReadWrongFalsely : Prop := fnToldLiteralsAreReadRow.holds Tryd.pinned (OpenSpec.ofChange fnToldLiteralsAreReadWrong)

/- THE SECOND FORM. 'bulk': how many values and letters a reading holds, each counted each time it is reached (what is shared counts as often as it is met; a slice's spare places count too). A statement '..UptoSaid' is the law's where the arguments, and the package variables that the reading takes, are together of bulk at most 1048576: NARROWER than '..Said'. Prove '..Said' where nothing that the law and all that it calls make is longer than what came in: it says more and counts as full. Else prove '..UptoSaid'. A law counts once. -/
mutual
def uptoBulk {H : Type} : DataW H → Nat
  | .lit (.string bytes) => bytes.length + 1
  | .lit _ => 1
  | .nil => 1
  | .ptr d => uptoBulk d + 1
  | .slice elems spare => uptoBulkAll elems + uptoBulkAll spare + 1
  | .agg parts => uptoBulkAll parts + 1
  | .iface _ d => uptoBulk d + 1
  | .map entries => uptoBulkEntries entries + 1
  | .held _ => 1
def uptoBulkAll {H : Type} : List (DataW H) → Nat
  | [] => 0
  | d :: r => uptoBulk d + uptoBulkAll r
def uptoBulkEntries {H : Type} : List (Lit × DataW H) → Nat
  | [] => 0
  | x :: r => uptoBulkEntry x + uptoBulkEntries r
def uptoBulkEntry {H : Type} : Lit × DataW H → Nat
  | (.string bytes, d) => bytes.length + uptoBulk d + 1
  | (_, d) => uptoBulk d + 1
 end
def uptoSmall : (H : Type) → List (DataW H) → Bool := fun _ ds => decide (uptoBulkAll ds ≤ 1048576)
def OpenSpec.upto (s : _root_.Go.ChangeSpec) : _root_.Go.OpenSpec := { _root_.Go.OpenSpec.ofChange s with cond := some uptoSmall }

/-- 'laws.FnLow', WHERE WHAT IT READS IS OF BULK AT MOST 1048576: true; the input reads as it did. -/
def fnLowUptoRow : OpenClaim := { program := "ytabaholflahepaadoor", sum := "c331f44550bc35588176c742fb7268dff44a5277824a0603b7704e0466428293", func := "framesunpacked/laws.FnLow", spec := "fnLow", named := ["io.ErrUnexpectedEOF", "io.EOF"], apart := false, laid := [("io.EOF", laid_io_EOF), ("io.ErrUnexpectedEOF", laid_io_ErrUnexpectedEOF)], narrowed := true }
def FnLowUptoSaid : Prop := fnLowUptoRow.holds Tryd.pinned (OpenSpec.upto fnLowSpec)

/-- 'laws.FnBack', WHERE WHAT IT READS IS OF BULK AT MOST 1048576: true; the input reads as it did. -/
def fnBackUptoRow : OpenClaim := { program := "ytabaholflahepaadoor", sum := "c331f44550bc35588176c742fb7268dff44a5277824a0603b7704e0466428293", func := "framesunpacked/laws.FnBack", spec := "fnBack", named := ["io.EOF", "io.ErrUnexpectedEOF"], apart := false, laid := [("io.EOF", laid_io_EOF), ("io.ErrUnexpectedEOF", laid_io_ErrUnexpectedEOF)], narrowed := true }
def FnBackUptoSaid : Prop := fnBackUptoRow.holds Tryd.pinned (OpenSpec.upto fnBackSpec)

/-- 'laws.FnBuild', WHERE WHAT IT READS IS OF BULK AT MOST 1048576: true; the input reads as it did. -/
def fnBuildUptoRow : OpenClaim := { program := "ytabaholflahepaadoor", sum := "c331f44550bc35588176c742fb7268dff44a5277824a0603b7704e0466428293", func := "framesunpacked/laws.FnBuild", spec := "fnBuild", named := ["io.EOF"], apart := false, laid := [("io.EOF", laid_io_EOF)], narrowed := true }
def FnBuildUptoSaid : Prop := fnBuildUptoRow.holds Tryd.pinned (OpenSpec.upto fnBuildSpec)

/-- 'laws.FnStatesPart', WHERE WHAT IT READS IS OF BULK AT MOST 1048576: true; the input reads as it did. -/
def fnStatesPartUptoRow : OpenClaim := { program := "ytabaholflahepaadoor", sum := "c331f44550bc35588176c742fb7268dff44a5277824a0603b7704e0466428293", func := "framesunpacked/laws.FnStatesPart", spec := "fnStatesPart", named := ["io.EOF"], apart := false, laid := [("io.EOF", laid_io_EOF)], narrowed := true }
def FnStatesPartUptoSaid : Prop := fnStatesPartUptoRow.holds Tryd.pinned (OpenSpec.upto fnStatesPartSpec)

/-- 'laws.FnCodesFollow', WHERE WHAT IT READS IS OF BULK AT MOST 1048576: true; the input reads as it did. -/
def fnCodesFollowUptoRow : OpenClaim := { program := "ytabaholflahepaadoor", sum := "c331f44550bc35588176c742fb7268dff44a5277824a0603b7704e0466428293", func := "framesunpacked/laws.FnCodesFollow", spec := "fnCodesFollow", named := ["framesunpacked/pub/zstd.literalLengthBase", "io.EOF", "framesunpacked/pub/zstd.matchLengthBase"], apart := false, laid := [("io.EOF", laid_io_EOF), ("framesunpacked/pub/zstd.literalLengthBase", laid_framesunpacked_pub_zstd_literalLengthBase), ("framesunpacked/pub/zstd.matchLengthBase", laid_framesunpacked_pub_zstd_matchLengthBase)], narrowed := true }
def FnCodesFollowUptoSaid : Prop := fnCodesFollowUptoRow.holds Tryd.pinned (OpenSpec.upto fnCodesFollowSpec)

/-- 'laws.FnOffsetRows', WHERE WHAT IT READS IS OF BULK AT MOST 1048576: true; the input reads as it did. -/
def fnOffsetRowsUptoRow : OpenClaim := { program := "ytabaholflahepaadoor", sum := "c331f44550bc35588176c742fb7268dff44a5277824a0603b7704e0466428293", func := "framesunpacked/laws.FnOffsetRows", spec := "fnOffsetRows", named := ["framesunpacked/pub/zstd.literalLengthBase", "io.EOF", "framesunpacked/pub/zstd.matchLengthBase"], apart := false, laid := [("io.EOF", laid_io_EOF), ("framesunpacked/pub/zstd.literalLengthBase", laid_framesunpacked_pub_zstd_literalLengthBase), ("framesunpacked/pub/zstd.matchLengthBase", laid_framesunpacked_pub_zstd_matchLengthBase)], narrowed := true }
def FnOffsetRowsUptoSaid : Prop := fnOffsetRowsUptoRow.holds Tryd.pinned (OpenSpec.upto fnOffsetRowsSpec)

/-- 'laws.FnRows', WHERE WHAT IT READS IS OF BULK AT MOST 1048576: true; the input reads as it did. -/
def fnRowsUptoRow : OpenClaim := { program := "ytabaholflahepaadoor", sum := "c331f44550bc35588176c742fb7268dff44a5277824a0603b7704e0466428293", func := "framesunpacked/laws.FnRows", spec := "fnRows", named := ["framesunpacked/pub/zstd.literalLengthBase", "io.EOF", "framesunpacked/pub/zstd.matchLengthBase"], apart := false, laid := [("io.EOF", laid_io_EOF), ("framesunpacked/pub/zstd.literalLengthBase", laid_framesunpacked_pub_zstd_literalLengthBase), ("framesunpacked/pub/zstd.matchLengthBase", laid_framesunpacked_pub_zstd_matchLengthBase)], narrowed := true }
def FnRowsUptoSaid : Prop := fnRowsUptoRow.holds Tryd.pinned (OpenSpec.upto fnRowsSpec)

/-- 'laws.FnTable', WHERE WHAT IT READS IS OF BULK AT MOST 1048576: true; the input reads as it did. -/
def fnTableUptoRow : OpenClaim := { program := "ytabaholflahepaadoor", sum := "c331f44550bc35588176c742fb7268dff44a5277824a0603b7704e0466428293", func := "framesunpacked/laws.FnTable", spec := "fnTable", named := ["io.ErrUnexpectedEOF", "io.EOF"], apart := false, laid := [("io.EOF", laid_io_EOF), ("io.ErrUnexpectedEOF", laid_io_ErrUnexpectedEOF)], narrowed := true }
def FnTableUptoSaid : Prop := fnTableUptoRow.holds Tryd.pinned (OpenSpec.upto fnTableSpec)

/-- 'laws.FnToldTableIsRead', WHERE WHAT IT READS IS OF BULK AT MOST 1048576: true; the input reads as it did. -/
def fnToldTableIsReadUptoRow : OpenClaim := { program := "ytabaholflahepaadoor", sum := "c331f44550bc35588176c742fb7268dff44a5277824a0603b7704e0466428293", func := "framesunpacked/laws.FnToldTableIsRead", spec := "fnToldTableIsRead", named := ["io.EOF", "io.ErrUnexpectedEOF"], apart := false, laid := [("io.EOF", laid_io_EOF), ("io.ErrUnexpectedEOF", laid_io_ErrUnexpectedEOF)], narrowed := true }
def FnToldTableIsReadUptoSaid : Prop := fnToldTableIsReadUptoRow.holds Tryd.pinned (OpenSpec.upto fnToldTableIsReadSpec)

/-- 'laws.FnToldTreeIsRead', WHERE WHAT IT READS IS OF BULK AT MOST 1048576: true; the input reads as it did. -/
def fnToldTreeIsReadUptoRow : OpenClaim := { program := "ytabaholflahepaadoor", sum := "c331f44550bc35588176c742fb7268dff44a5277824a0603b7704e0466428293", func := "framesunpacked/laws.FnToldTreeIsRead", spec := "fnToldTreeIsRead", named := ["io.ErrUnexpectedEOF", "io.EOF"], apart := false, laid := [("io.EOF", laid_io_EOF), ("io.ErrUnexpectedEOF", laid_io_ErrUnexpectedEOF)], narrowed := true }
def FnToldTreeIsReadUptoSaid : Prop := fnToldTreeIsReadUptoRow.holds Tryd.pinned (OpenSpec.upto fnToldTreeIsReadSpec)

/-- 'laws.FnTree', WHERE WHAT IT READS IS OF BULK AT MOST 1048576: true; the input reads as it did. -/
def fnTreeUptoRow : OpenClaim := { program := "ytabaholflahepaadoor", sum := "c331f44550bc35588176c742fb7268dff44a5277824a0603b7704e0466428293", func := "framesunpacked/laws.FnTree", spec := "fnTree", named := ["io.ErrUnexpectedEOF", "io.EOF"], apart := false, laid := [("io.EOF", laid_io_EOF), ("io.ErrUnexpectedEOF", laid_io_ErrUnexpectedEOF)], narrowed := true }
def FnTreeUptoSaid : Prop := fnTreeUptoRow.holds Tryd.pinned (OpenSpec.upto fnTreeSpec)

/-- 'laws.FnLiterals', WHERE WHAT IT READS IS OF BULK AT MOST 1048576: true; the input reads as it did. -/
def fnLiteralsUptoRow : OpenClaim := { program := "ytabaholflahepaadoor", sum := "c331f44550bc35588176c742fb7268dff44a5277824a0603b7704e0466428293", func := "framesunpacked/laws.FnLiterals", spec := "fnLiterals", unfollowed := true, recurses := true, named := ["io.ErrUnexpectedEOF", "io.EOF"], apart := false, laid := [("io.EOF", laid_io_EOF), ("io.ErrUnexpectedEOF", laid_io_ErrUnexpectedEOF)], narrowed := true }
def FnLiteralsUptoSaid : Prop := fnLiteralsUptoRow.holds Tryd.pinned (OpenSpec.upto fnLiteralsSpec)

/-- 'laws.FnToldLiteralsAreRead', WHERE WHAT IT READS IS OF BULK AT MOST 1048576: true; the input reads as it did. -/
def fnToldLiteralsAreReadUptoRow : OpenClaim := { program := "ytabaholflahepaadoor", sum := "c331f44550bc35588176c742fb7268dff44a5277824a0603b7704e0466428293", func := "framesunpacked/laws.FnToldLiteralsAreRead", spec := "fnToldLiteralsAreRead", unfollowed := true, recurses := true, named := ["io.ErrUnexpectedEOF", "io.EOF"], apart := false, laid := [("io.EOF", laid_io_EOF), ("io.ErrUnexpectedEOF", laid_io_ErrUnexpectedEOF)], narrowed := true }
def FnToldLiteralsAreReadUptoSaid : Prop := fnToldLiteralsAreReadUptoRow.holds Tryd.pinned (OpenSpec.upto fnToldLiteralsAreReadSpec)

end Rows
end Go.Proofs.YtabaholflahepaaDoor
