/-
  NARROWER THAN 'FOR EVERY INPUT', by the rows' own cells (each row's printed sentence says how): FnBinary: laid · FnLines: laid · FnExactSlow: laid · FnControl: laid · FnRead: laid · FnEndSoft: laid · FnEscape: laid · FnExactDecode: laid · FnExactEscape: laid · FnExactEscapes: laid · FnJoin: laid · FnLineFeed: laid · FnLower: laid · FnPadding: laid · FnPlain: laid · FnPrefix: laid · FnSoft: laid.
  DERIVED. THE GIVEN ROWS OF THIS SEAT. 17 by the template 'for every input the law returns true; each argument reads behind the call as it read before'; 0 by the template 'total and deterministic' (their statements: YthfkgancjpdodaaDoorTotals.lean).
  GIVEN WITH THE SEED: the statements are not yours to turn. If you find one false, say at which input.
  Laid BY PROGRAM, IN A SANDBOX (cutbox-rows.mjs): the forced cells as the released guide's own fill.sh prints them over the translation 4c9a5ebf3cf853db… (all of the seat's roots in one cut). By AI agents, Wed Nov 11 2026. No macro, syntax, notation, axiom, sorry.
-/
import Derived.Test.YthfkgancjpdodaaDoorChecked
import GoSem.Claim
import GoSem.ClaimJoined
import GoSem.ClaimMapViews
import Derived.JoinedTies
import Derived.KernelRfl
namespace Go.Proofs.YthfkgancjpdodaaDoor
/- THE CELL 'sum', in the pinned program and in every row, IS THE sha256 OF THE DUMP (.gsa) THAT YthfkgancjpdodaaDoorProg.lean LOADS. Nothing in Lean hashes anything: it is a label: what it is worth is what the hold of that sum in a sandbox is worth. -/
noncomputable def Tryd.pinned : Pinned := { name := "ythfkgancjpdodaadoor", sum := "4c9a5ebf3cf853db5938e1be3ddf08e9a6073169d4d5537fd921327d3d71de41", checked := Tryd.checked }
namespace Rows
def none {H : Type} : Left H := { results := [], args := [] }

/- WHAT THE LISTED PACKAGE-LEVEL VARIABLES READ AS WHEN THE CALL BEGINS. Each datum BY PROGRAM (the guide's laid-datum.mjs) off the statement by which the dump's own 'gosem.cut.vars' lays the variable. In a bare row this is a premise. The card (YthfkgancjpdodaaDoorCards.lean) ties it to the program's text. -/
def laid_io_EOF {H : Type} : DataW H := .iface "*errors.errorString" (.ptr (.agg [.lit (.string [69, 79, 70])]))

/-- 'laws.FnBinary': WHATEVER THE INPUT: true; the input reads as it did. -/
def fnBinarySpec : ChangeSpec := { name := "fnBinary", fn := fun _ => fun
  | [d] => { results := [.lit (.bool true)], args := [d] }
  | _ => none }
def fnBinaryRow : OpenClaim := { program := "ythfkgancjpdodaadoor", sum := "4c9a5ebf3cf853db5938e1be3ddf08e9a6073169d4d5537fd921327d3d71de41", func := "loop.example/pub-quotedmail/laws.FnBinary", spec := "fnBinary", unfollowed := true, recurses := true, named := ["io.EOF"], apart := false, laid := [("io.EOF", laid_io_EOF)] }
def FnBinarySaid : Prop := fnBinaryRow.holds Tryd.pinned (OpenSpec.ofChange fnBinarySpec)

/-- ITS FALSE NEIGHBOUR: 'it returns false'. Refute it at one input. -/
def fnBinaryWrong : ChangeSpec := { name := "fnBinary", fn := fun _ => fun
  | [d] => { results := [.lit (.bool false)], args := [d] }
  | _ => none }
def FnBinaryWrongFalsely : Prop := fnBinaryRow.holds Tryd.pinned (OpenSpec.ofChange fnBinaryWrong)

/-- 'laws.FnLines': WHATEVER THE INPUT: true; the input reads as it did. -/
def fnLinesSpec : ChangeSpec := { name := "fnLines", fn := fun _ => fun
  | [d] => { results := [.lit (.bool true)], args := [d] }
  | _ => none }
def fnLinesRow : OpenClaim := { program := "ythfkgancjpdodaadoor", sum := "4c9a5ebf3cf853db5938e1be3ddf08e9a6073169d4d5537fd921327d3d71de41", func := "loop.example/pub-quotedmail/laws.FnLines", spec := "fnLines", unfollowed := true, recurses := true, named := ["io.EOF"], apart := false, laid := [("io.EOF", laid_io_EOF)] }
def FnLinesSaid : Prop := fnLinesRow.holds Tryd.pinned (OpenSpec.ofChange fnLinesSpec)

/-- ITS FALSE NEIGHBOUR: 'it returns false'. Refute it at one input. -/
def fnLinesWrong : ChangeSpec := { name := "fnLines", fn := fun _ => fun
  | [d] => { results := [.lit (.bool false)], args := [d] }
  | _ => none }
def FnLinesWrongFalsely : Prop := fnLinesRow.holds Tryd.pinned (OpenSpec.ofChange fnLinesWrong)

/-- 'laws.FnExactSlow': WHATEVER THE INPUT: true; the input reads as it did. -/
def fnExactSlowSpec : ChangeSpec := { name := "fnExactSlow", fn := fun _ => fun
  | [d1, d2] => { results := [.lit (.bool true)], args := [d1, d2] }
  | _ => none }
def fnExactSlowRow : OpenClaim := { program := "ythfkgancjpdodaadoor", sum := "4c9a5ebf3cf853db5938e1be3ddf08e9a6073169d4d5537fd921327d3d71de41", func := "loop.example/pub-quotedmail/laws.FnExactSlow", spec := "fnExactSlow", unfollowed := true, recurses := true, named := ["io.EOF"], apart := false, laid := [("io.EOF", laid_io_EOF)] }
def FnExactSlowSaid : Prop := fnExactSlowRow.holds Tryd.pinned (OpenSpec.ofChange fnExactSlowSpec)

/-- ITS FALSE NEIGHBOUR: 'it returns false'. Refute it at one input. -/
def fnExactSlowWrong : ChangeSpec := { name := "fnExactSlow", fn := fun _ => fun
  | [d1, d2] => { results := [.lit (.bool false)], args := [d1, d2] }
  | _ => none }
def FnExactSlowWrongFalsely : Prop := fnExactSlowRow.holds Tryd.pinned (OpenSpec.ofChange fnExactSlowWrong)

/-- 'laws.FnControl': WHATEVER THE INPUT: true; the input reads as it did. -/
def fnControlSpec : ChangeSpec := { name := "fnControl", fn := fun _ => fun
  | [d1, d2, d3] => { results := [.lit (.bool true)], args := [d1, d2, d3] }
  | _ => none }
def fnControlRow : OpenClaim := { program := "ythfkgancjpdodaadoor", sum := "4c9a5ebf3cf853db5938e1be3ddf08e9a6073169d4d5537fd921327d3d71de41", func := "loop.example/pub-quotedmail/laws.FnControl", spec := "fnControl", unfollowed := true, recurses := true, named := ["io.EOF"], apart := false, laid := [("io.EOF", laid_io_EOF)] }
def FnControlSaid : Prop := fnControlRow.holds Tryd.pinned (OpenSpec.ofChange fnControlSpec)

/-- ITS FALSE NEIGHBOUR: 'it returns false'. Refute it at one input. -/
def fnControlWrong : ChangeSpec := { name := "fnControl", fn := fun _ => fun
  | [d1, d2, d3] => { results := [.lit (.bool false)], args := [d1, d2, d3] }
  | _ => none }
def FnControlWrongFalsely : Prop := fnControlRow.holds Tryd.pinned (OpenSpec.ofChange fnControlWrong)

/-- 'laws.FnRead': WHATEVER THE INPUT: true; the input reads as it did. -/
def fnReadSpec : ChangeSpec := { name := "fnRead", fn := fun _ => fun
  | [d1, d2] => { results := [.lit (.bool true)], args := [d1, d2] }
  | _ => none }
def fnReadRow : OpenClaim := { program := "ythfkgancjpdodaadoor", sum := "4c9a5ebf3cf853db5938e1be3ddf08e9a6073169d4d5537fd921327d3d71de41", func := "loop.example/pub-quotedmail/laws.FnRead", spec := "fnRead", unfollowed := true, recurses := true, named := ["io.EOF"], apart := false, laid := [("io.EOF", laid_io_EOF)] }
def FnReadSaid : Prop := fnReadRow.holds Tryd.pinned (OpenSpec.ofChange fnReadSpec)

/-- ITS FALSE NEIGHBOUR: 'it returns false'. Refute it at one input. -/
def fnReadWrong : ChangeSpec := { name := "fnRead", fn := fun _ => fun
  | [d1, d2] => { results := [.lit (.bool false)], args := [d1, d2] }
  | _ => none }
def FnReadWrongFalsely : Prop := fnReadRow.holds Tryd.pinned (OpenSpec.ofChange fnReadWrong)

/-- 'laws.FnEndSoft': WHATEVER THE INPUT: true; the input reads as it did. -/
def fnEndSoftSpec : ChangeSpec := { name := "fnEndSoft", fn := fun _ => fun
  | [d] => { results := [.lit (.bool true)], args := [d] }
  | _ => none }
def fnEndSoftRow : OpenClaim := { program := "ythfkgancjpdodaadoor", sum := "4c9a5ebf3cf853db5938e1be3ddf08e9a6073169d4d5537fd921327d3d71de41", func := "loop.example/pub-quotedmail/laws.FnEndSoft", spec := "fnEndSoft", unfollowed := true, recurses := true, named := ["io.EOF"], apart := false, laid := [("io.EOF", laid_io_EOF)] }
def FnEndSoftSaid : Prop := fnEndSoftRow.holds Tryd.pinned (OpenSpec.ofChange fnEndSoftSpec)

/-- ITS FALSE NEIGHBOUR: 'it returns false'. Refute it at one input. -/
def fnEndSoftWrong : ChangeSpec := { name := "fnEndSoft", fn := fun _ => fun
  | [d] => { results := [.lit (.bool false)], args := [d] }
  | _ => none }
def FnEndSoftWrongFalsely : Prop := fnEndSoftRow.holds Tryd.pinned (OpenSpec.ofChange fnEndSoftWrong)

/-- 'laws.FnEscape': WHATEVER THE INPUT: true; the input reads as it did. -/
def fnEscapeSpec : ChangeSpec := { name := "fnEscape", fn := fun _ => fun
  | [d1, d2] => { results := [.lit (.bool true)], args := [d1, d2] }
  | _ => none }
def fnEscapeRow : OpenClaim := { program := "ythfkgancjpdodaadoor", sum := "4c9a5ebf3cf853db5938e1be3ddf08e9a6073169d4d5537fd921327d3d71de41", func := "loop.example/pub-quotedmail/laws.FnEscape", spec := "fnEscape", unfollowed := true, recurses := true, named := ["io.EOF"], apart := false, laid := [("io.EOF", laid_io_EOF)] }
def FnEscapeSaid : Prop := fnEscapeRow.holds Tryd.pinned (OpenSpec.ofChange fnEscapeSpec)

/-- ITS FALSE NEIGHBOUR: 'it returns false'. Refute it at one input. -/
def fnEscapeWrong : ChangeSpec := { name := "fnEscape", fn := fun _ => fun
  | [d1, d2] => { results := [.lit (.bool false)], args := [d1, d2] }
  | _ => none }
def FnEscapeWrongFalsely : Prop := fnEscapeRow.holds Tryd.pinned (OpenSpec.ofChange fnEscapeWrong)

/-- 'laws.FnExactDecode': WHATEVER THE INPUT: true; the input reads as it did. -/
def fnExactDecodeSpec : ChangeSpec := { name := "fnExactDecode", fn := fun _ => fun
  | [d] => { results := [.lit (.bool true)], args := [d] }
  | _ => none }
def fnExactDecodeRow : OpenClaim := { program := "ythfkgancjpdodaadoor", sum := "4c9a5ebf3cf853db5938e1be3ddf08e9a6073169d4d5537fd921327d3d71de41", func := "loop.example/pub-quotedmail/laws.FnExactDecode", spec := "fnExactDecode", unfollowed := true, recurses := true, named := ["io.EOF"], apart := false, laid := [("io.EOF", laid_io_EOF)] }
def FnExactDecodeSaid : Prop := fnExactDecodeRow.holds Tryd.pinned (OpenSpec.ofChange fnExactDecodeSpec)

/-- ITS FALSE NEIGHBOUR: 'it returns false'. Refute it at one input. -/
def fnExactDecodeWrong : ChangeSpec := { name := "fnExactDecode", fn := fun _ => fun
  | [d] => { results := [.lit (.bool false)], args := [d] }
  | _ => none }
def FnExactDecodeWrongFalsely : Prop := fnExactDecodeRow.holds Tryd.pinned (OpenSpec.ofChange fnExactDecodeWrong)

/-- 'laws.FnExactEscape': WHATEVER THE INPUT: true; the input reads as it did. -/
def fnExactEscapeSpec : ChangeSpec := { name := "fnExactEscape", fn := fun _ => fun
  | [d] => { results := [.lit (.bool true)], args := [d] }
  | _ => none }
def fnExactEscapeRow : OpenClaim := { program := "ythfkgancjpdodaadoor", sum := "4c9a5ebf3cf853db5938e1be3ddf08e9a6073169d4d5537fd921327d3d71de41", func := "loop.example/pub-quotedmail/laws.FnExactEscape", spec := "fnExactEscape", unfollowed := true, recurses := true, named := ["io.EOF"], apart := false, laid := [("io.EOF", laid_io_EOF)] }
def FnExactEscapeSaid : Prop := fnExactEscapeRow.holds Tryd.pinned (OpenSpec.ofChange fnExactEscapeSpec)

/-- ITS FALSE NEIGHBOUR: 'it returns false'. Refute it at one input. -/
def fnExactEscapeWrong : ChangeSpec := { name := "fnExactEscape", fn := fun _ => fun
  | [d] => { results := [.lit (.bool false)], args := [d] }
  | _ => none }
def FnExactEscapeWrongFalsely : Prop := fnExactEscapeRow.holds Tryd.pinned (OpenSpec.ofChange fnExactEscapeWrong)

/-- 'laws.FnExactEscapes': WHATEVER THE INPUT: true; the input reads as it did. -/
def fnExactEscapesSpec : ChangeSpec := { name := "fnExactEscapes", fn := fun _ => fun
  | [d] => { results := [.lit (.bool true)], args := [d] }
  | _ => none }
def fnExactEscapesRow : OpenClaim := { program := "ythfkgancjpdodaadoor", sum := "4c9a5ebf3cf853db5938e1be3ddf08e9a6073169d4d5537fd921327d3d71de41", func := "loop.example/pub-quotedmail/laws.FnExactEscapes", spec := "fnExactEscapes", unfollowed := true, recurses := true, named := ["io.EOF"], apart := false, laid := [("io.EOF", laid_io_EOF)] }
def FnExactEscapesSaid : Prop := fnExactEscapesRow.holds Tryd.pinned (OpenSpec.ofChange fnExactEscapesSpec)

/-- ITS FALSE NEIGHBOUR: 'it returns false'. Refute it at one input. -/
def fnExactEscapesWrong : ChangeSpec := { name := "fnExactEscapes", fn := fun _ => fun
  | [d] => { results := [.lit (.bool false)], args := [d] }
  | _ => none }
def FnExactEscapesWrongFalsely : Prop := fnExactEscapesRow.holds Tryd.pinned (OpenSpec.ofChange fnExactEscapesWrong)

/-- 'laws.FnJoin': WHATEVER THE INPUT: true; the input reads as it did. -/
def fnJoinSpec : ChangeSpec := { name := "fnJoin", fn := fun _ => fun
  | [d1, d2] => { results := [.lit (.bool true)], args := [d1, d2] }
  | _ => none }
def fnJoinRow : OpenClaim := { program := "ythfkgancjpdodaadoor", sum := "4c9a5ebf3cf853db5938e1be3ddf08e9a6073169d4d5537fd921327d3d71de41", func := "loop.example/pub-quotedmail/laws.FnJoin", spec := "fnJoin", unfollowed := true, recurses := true, named := ["io.EOF"], apart := false, laid := [("io.EOF", laid_io_EOF)] }
def FnJoinSaid : Prop := fnJoinRow.holds Tryd.pinned (OpenSpec.ofChange fnJoinSpec)

/-- ITS FALSE NEIGHBOUR: 'it returns false'. Refute it at one input. -/
def fnJoinWrong : ChangeSpec := { name := "fnJoin", fn := fun _ => fun
  | [d1, d2] => { results := [.lit (.bool false)], args := [d1, d2] }
  | _ => none }
def FnJoinWrongFalsely : Prop := fnJoinRow.holds Tryd.pinned (OpenSpec.ofChange fnJoinWrong)

/-- 'laws.FnLineFeed': WHATEVER THE INPUT: true; the input reads as it did. -/
def fnLineFeedSpec : ChangeSpec := { name := "fnLineFeed", fn := fun _ => fun
  | [d] => { results := [.lit (.bool true)], args := [d] }
  | _ => none }
def fnLineFeedRow : OpenClaim := { program := "ythfkgancjpdodaadoor", sum := "4c9a5ebf3cf853db5938e1be3ddf08e9a6073169d4d5537fd921327d3d71de41", func := "loop.example/pub-quotedmail/laws.FnLineFeed", spec := "fnLineFeed", unfollowed := true, recurses := true, named := ["io.EOF"], apart := false, laid := [("io.EOF", laid_io_EOF)] }
def FnLineFeedSaid : Prop := fnLineFeedRow.holds Tryd.pinned (OpenSpec.ofChange fnLineFeedSpec)

/-- ITS FALSE NEIGHBOUR: 'it returns false'. Refute it at one input. -/
def fnLineFeedWrong : ChangeSpec := { name := "fnLineFeed", fn := fun _ => fun
  | [d] => { results := [.lit (.bool false)], args := [d] }
  | _ => none }
def FnLineFeedWrongFalsely : Prop := fnLineFeedRow.holds Tryd.pinned (OpenSpec.ofChange fnLineFeedWrong)

/-- 'laws.FnLower': WHATEVER THE INPUT: true; the input reads as it did. -/
def fnLowerSpec : ChangeSpec := { name := "fnLower", fn := fun _ => fun
  | [d1, d2] => { results := [.lit (.bool true)], args := [d1, d2] }
  | _ => none }
def fnLowerRow : OpenClaim := { program := "ythfkgancjpdodaadoor", sum := "4c9a5ebf3cf853db5938e1be3ddf08e9a6073169d4d5537fd921327d3d71de41", func := "loop.example/pub-quotedmail/laws.FnLower", spec := "fnLower", unfollowed := true, recurses := true, named := ["io.EOF"], apart := false, laid := [("io.EOF", laid_io_EOF)] }
def FnLowerSaid : Prop := fnLowerRow.holds Tryd.pinned (OpenSpec.ofChange fnLowerSpec)

/-- ITS FALSE NEIGHBOUR: 'it returns false'. Refute it at one input. -/
def fnLowerWrong : ChangeSpec := { name := "fnLower", fn := fun _ => fun
  | [d1, d2] => { results := [.lit (.bool false)], args := [d1, d2] }
  | _ => none }
def FnLowerWrongFalsely : Prop := fnLowerRow.holds Tryd.pinned (OpenSpec.ofChange fnLowerWrong)

/-- 'laws.FnPadding': WHATEVER THE INPUT: true; the input reads as it did. -/
def fnPaddingSpec : ChangeSpec := { name := "fnPadding", fn := fun _ => fun
  | [d1, d2, d3] => { results := [.lit (.bool true)], args := [d1, d2, d3] }
  | _ => none }
def fnPaddingRow : OpenClaim := { program := "ythfkgancjpdodaadoor", sum := "4c9a5ebf3cf853db5938e1be3ddf08e9a6073169d4d5537fd921327d3d71de41", func := "loop.example/pub-quotedmail/laws.FnPadding", spec := "fnPadding", unfollowed := true, recurses := true, named := ["io.EOF"], apart := false, laid := [("io.EOF", laid_io_EOF)] }
def FnPaddingSaid : Prop := fnPaddingRow.holds Tryd.pinned (OpenSpec.ofChange fnPaddingSpec)

/-- ITS FALSE NEIGHBOUR: 'it returns false'. Refute it at one input. -/
def fnPaddingWrong : ChangeSpec := { name := "fnPadding", fn := fun _ => fun
  | [d1, d2, d3] => { results := [.lit (.bool false)], args := [d1, d2, d3] }
  | _ => none }
def FnPaddingWrongFalsely : Prop := fnPaddingRow.holds Tryd.pinned (OpenSpec.ofChange fnPaddingWrong)

/-- 'laws.FnPlain': WHATEVER THE INPUT: true; the input reads as it did. -/
def fnPlainSpec : ChangeSpec := { name := "fnPlain", fn := fun _ => fun
  | [d] => { results := [.lit (.bool true)], args := [d] }
  | _ => none }
def fnPlainRow : OpenClaim := { program := "ythfkgancjpdodaadoor", sum := "4c9a5ebf3cf853db5938e1be3ddf08e9a6073169d4d5537fd921327d3d71de41", func := "loop.example/pub-quotedmail/laws.FnPlain", spec := "fnPlain", unfollowed := true, recurses := true, named := ["io.EOF"], apart := false, laid := [("io.EOF", laid_io_EOF)] }
def FnPlainSaid : Prop := fnPlainRow.holds Tryd.pinned (OpenSpec.ofChange fnPlainSpec)

/-- ITS FALSE NEIGHBOUR: 'it returns false'. Refute it at one input. -/
def fnPlainWrong : ChangeSpec := { name := "fnPlain", fn := fun _ => fun
  | [d] => { results := [.lit (.bool false)], args := [d] }
  | _ => none }
def FnPlainWrongFalsely : Prop := fnPlainRow.holds Tryd.pinned (OpenSpec.ofChange fnPlainWrong)

/-- 'laws.FnPrefix': WHATEVER THE INPUT: true; the input reads as it did. -/
def fnPrefixSpec : ChangeSpec := { name := "fnPrefix", fn := fun _ => fun
  | [d1, d2] => { results := [.lit (.bool true)], args := [d1, d2] }
  | _ => none }
def fnPrefixRow : OpenClaim := { program := "ythfkgancjpdodaadoor", sum := "4c9a5ebf3cf853db5938e1be3ddf08e9a6073169d4d5537fd921327d3d71de41", func := "loop.example/pub-quotedmail/laws.FnPrefix", spec := "fnPrefix", unfollowed := true, recurses := true, named := ["io.EOF"], apart := false, laid := [("io.EOF", laid_io_EOF)] }
def FnPrefixSaid : Prop := fnPrefixRow.holds Tryd.pinned (OpenSpec.ofChange fnPrefixSpec)

/-- ITS FALSE NEIGHBOUR: 'it returns false'. Refute it at one input. -/
def fnPrefixWrong : ChangeSpec := { name := "fnPrefix", fn := fun _ => fun
  | [d1, d2] => { results := [.lit (.bool false)], args := [d1, d2] }
  | _ => none }
def FnPrefixWrongFalsely : Prop := fnPrefixRow.holds Tryd.pinned (OpenSpec.ofChange fnPrefixWrong)

/-- 'laws.FnSoft': WHATEVER THE INPUT: true; the input reads as it did. -/
def fnSoftSpec : ChangeSpec := { name := "fnSoft", fn := fun _ => fun
  | [d1, d2] => { results := [.lit (.bool true)], args := [d1, d2] }
  | _ => none }
def fnSoftRow : OpenClaim := { program := "ythfkgancjpdodaadoor", sum := "4c9a5ebf3cf853db5938e1be3ddf08e9a6073169d4d5537fd921327d3d71de41", func := "loop.example/pub-quotedmail/laws.FnSoft", spec := "fnSoft", unfollowed := true, recurses := true, named := ["io.EOF"], apart := false, laid := [("io.EOF", laid_io_EOF)] }
def FnSoftSaid : Prop := fnSoftRow.holds Tryd.pinned (OpenSpec.ofChange fnSoftSpec)

/-- ITS FALSE NEIGHBOUR: 'it returns false'. Refute it at one input. -/
def fnSoftWrong : ChangeSpec := { name := "fnSoft", fn := fun _ => fun
  | [d1, d2] => { results := [.lit (.bool false)], args := [d1, d2] }
  | _ => none }
def FnSoftWrongFalsely : Prop := fnSoftRow.holds Tryd.pinned (OpenSpec.ofChange fnSoftWrong)

/- THE SECOND FORM. 'bulk': how many values and letters a reading holds, each counted each time it is reached (what is shared counts as often as it is met; a slice's spare places count too). A statement '..UptoSaid' is the law's where the arguments, and the package variables that the reading takes, are together of bulk at most 1048576: NARROWER than '..Said'. Prove '..Said' where nothing that the law and all that it calls make is longer than what came in: it says more and counts as full. Else prove '..UptoSaid'. A law counts once. -/
mutual
def uptoBulk {H : Type} : DataW H → Nat
  | .lit (.string bytes) => bytes.length + 1
  | .lit _ => 1
  | .nil => 1
  | .ptr d => uptoBulk d + 1
  | .slice elems spare => uptoBulkAll elems + uptoBulkAll spare + 1
  | .agg parts => uptoBulkAll parts + 1
  | .iface _ d => uptoBulk d + 1
  | .map entries => uptoBulkEntries entries + 1
  | .held _ => 1
def uptoBulkAll {H : Type} : List (DataW H) → Nat
  | [] => 0
  | d :: r => uptoBulk d + uptoBulkAll r
def uptoBulkEntries {H : Type} : List (Lit × DataW H) → Nat
  | [] => 0
  | x :: r => uptoBulkEntry x + uptoBulkEntries r
def uptoBulkEntry {H : Type} : Lit × DataW H → Nat
  | (.string bytes, d) => bytes.length + uptoBulk d + 1
  | (_, d) => uptoBulk d + 1
 end
def uptoSmall : (H : Type) → List (DataW H) → Bool := fun _ ds => decide (uptoBulkAll ds ≤ 1048576)
def OpenSpec.upto (s : _root_.Go.ChangeSpec) : _root_.Go.OpenSpec := { _root_.Go.OpenSpec.ofChange s with cond := some uptoSmall }

/-- 'laws.FnBinary', WHERE WHAT IT READS IS OF BULK AT MOST 1048576: true; the input reads as it did. -/
def fnBinaryUptoRow : OpenClaim := { program := "ythfkgancjpdodaadoor", sum := "4c9a5ebf3cf853db5938e1be3ddf08e9a6073169d4d5537fd921327d3d71de41", func := "loop.example/pub-quotedmail/laws.FnBinary", spec := "fnBinary", unfollowed := true, recurses := true, named := ["io.EOF"], apart := false, laid := [("io.EOF", laid_io_EOF)], narrowed := true }
def FnBinaryUptoSaid : Prop := fnBinaryUptoRow.holds Tryd.pinned (OpenSpec.upto fnBinarySpec)

/-- 'laws.FnLines', WHERE WHAT IT READS IS OF BULK AT MOST 1048576: true; the input reads as it did. -/
def fnLinesUptoRow : OpenClaim := { program := "ythfkgancjpdodaadoor", sum := "4c9a5ebf3cf853db5938e1be3ddf08e9a6073169d4d5537fd921327d3d71de41", func := "loop.example/pub-quotedmail/laws.FnLines", spec := "fnLines", unfollowed := true, recurses := true, named := ["io.EOF"], apart := false, laid := [("io.EOF", laid_io_EOF)], narrowed := true }
def FnLinesUptoSaid : Prop := fnLinesUptoRow.holds Tryd.pinned (OpenSpec.upto fnLinesSpec)

/-- 'laws.FnExactSlow', WHERE WHAT IT READS IS OF BULK AT MOST 1048576: true; the input reads as it did. -/
def fnExactSlowUptoRow : OpenClaim := { program := "ythfkgancjpdodaadoor", sum := "4c9a5ebf3cf853db5938e1be3ddf08e9a6073169d4d5537fd921327d3d71de41", func := "loop.example/pub-quotedmail/laws.FnExactSlow", spec := "fnExactSlow", unfollowed := true, recurses := true, named := ["io.EOF"], apart := false, laid := [("io.EOF", laid_io_EOF)], narrowed := true }
def FnExactSlowUptoSaid : Prop := fnExactSlowUptoRow.holds Tryd.pinned (OpenSpec.upto fnExactSlowSpec)

/-- 'laws.FnControl', WHERE WHAT IT READS IS OF BULK AT MOST 1048576: true; the input reads as it did. -/
def fnControlUptoRow : OpenClaim := { program := "ythfkgancjpdodaadoor", sum := "4c9a5ebf3cf853db5938e1be3ddf08e9a6073169d4d5537fd921327d3d71de41", func := "loop.example/pub-quotedmail/laws.FnControl", spec := "fnControl", unfollowed := true, recurses := true, named := ["io.EOF"], apart := false, laid := [("io.EOF", laid_io_EOF)], narrowed := true }
def FnControlUptoSaid : Prop := fnControlUptoRow.holds Tryd.pinned (OpenSpec.upto fnControlSpec)

/-- 'laws.FnRead', WHERE WHAT IT READS IS OF BULK AT MOST 1048576: true; the input reads as it did. -/
def fnReadUptoRow : OpenClaim := { program := "ythfkgancjpdodaadoor", sum := "4c9a5ebf3cf853db5938e1be3ddf08e9a6073169d4d5537fd921327d3d71de41", func := "loop.example/pub-quotedmail/laws.FnRead", spec := "fnRead", unfollowed := true, recurses := true, named := ["io.EOF"], apart := false, laid := [("io.EOF", laid_io_EOF)], narrowed := true }
def FnReadUptoSaid : Prop := fnReadUptoRow.holds Tryd.pinned (OpenSpec.upto fnReadSpec)

/-- 'laws.FnEndSoft', WHERE WHAT IT READS IS OF BULK AT MOST 1048576: true; the input reads as it did. -/
def fnEndSoftUptoRow : OpenClaim := { program := "ythfkgancjpdodaadoor", sum := "4c9a5ebf3cf853db5938e1be3ddf08e9a6073169d4d5537fd921327d3d71de41", func := "loop.example/pub-quotedmail/laws.FnEndSoft", spec := "fnEndSoft", unfollowed := true, recurses := true, named := ["io.EOF"], apart := false, laid := [("io.EOF", laid_io_EOF)], narrowed := true }
def FnEndSoftUptoSaid : Prop := fnEndSoftUptoRow.holds Tryd.pinned (OpenSpec.upto fnEndSoftSpec)

/-- 'laws.FnEscape', WHERE WHAT IT READS IS OF BULK AT MOST 1048576: true; the input reads as it did. -/
def fnEscapeUptoRow : OpenClaim := { program := "ythfkgancjpdodaadoor", sum := "4c9a5ebf3cf853db5938e1be3ddf08e9a6073169d4d5537fd921327d3d71de41", func := "loop.example/pub-quotedmail/laws.FnEscape", spec := "fnEscape", unfollowed := true, recurses := true, named := ["io.EOF"], apart := false, laid := [("io.EOF", laid_io_EOF)], narrowed := true }
def FnEscapeUptoSaid : Prop := fnEscapeUptoRow.holds Tryd.pinned (OpenSpec.upto fnEscapeSpec)

/-- 'laws.FnExactDecode', WHERE WHAT IT READS IS OF BULK AT MOST 1048576: true; the input reads as it did. -/
def fnExactDecodeUptoRow : OpenClaim := { program := "ythfkgancjpdodaadoor", sum := "4c9a5ebf3cf853db5938e1be3ddf08e9a6073169d4d5537fd921327d3d71de41", func := "loop.example/pub-quotedmail/laws.FnExactDecode", spec := "fnExactDecode", unfollowed := true, recurses := true, named := ["io.EOF"], apart := false, laid := [("io.EOF", laid_io_EOF)], narrowed := true }
def FnExactDecodeUptoSaid : Prop := fnExactDecodeUptoRow.holds Tryd.pinned (OpenSpec.upto fnExactDecodeSpec)

/-- 'laws.FnExactEscape', WHERE WHAT IT READS IS OF BULK AT MOST 1048576: true; the input reads as it did. -/
def fnExactEscapeUptoRow : OpenClaim := { program := "ythfkgancjpdodaadoor", sum := "4c9a5ebf3cf853db5938e1be3ddf08e9a6073169d4d5537fd921327d3d71de41", func := "loop.example/pub-quotedmail/laws.FnExactEscape", spec := "fnExactEscape", unfollowed := true, recurses := true, named := ["io.EOF"], apart := false, laid := [("io.EOF", laid_io_EOF)], narrowed := true }
def FnExactEscapeUptoSaid : Prop := fnExactEscapeUptoRow.holds Tryd.pinned (OpenSpec.upto fnExactEscapeSpec)

/-- 'laws.FnExactEscapes', WHERE WHAT IT READS IS OF BULK AT MOST 1048576: true; the input reads as it did. -/
def fnExactEscapesUptoRow : OpenClaim := { program := "ythfkgancjpdodaadoor", sum := "4c9a5ebf3cf853db5938e1be3ddf08e9a6073169d4d5537fd921327d3d71de41", func := "loop.example/pub-quotedmail/laws.FnExactEscapes", spec := "fnExactEscapes", unfollowed := true, recurses := true, named := ["io.EOF"], apart := false, laid := [("io.EOF", laid_io_EOF)], narrowed := true }
def FnExactEscapesUptoSaid : Prop := fnExactEscapesUptoRow.holds Tryd.pinned (OpenSpec.upto fnExactEscapesSpec)

/-- 'laws.FnJoin', WHERE WHAT IT READS IS OF BULK AT MOST 1048576: true; the input reads as it did. -/
def fnJoinUptoRow : OpenClaim := { program := "ythfkgancjpdodaadoor", sum := "4c9a5ebf3cf853db5938e1be3ddf08e9a6073169d4d5537fd921327d3d71de41", func := "loop.example/pub-quotedmail/laws.FnJoin", spec := "fnJoin", unfollowed := true, recurses := true, named := ["io.EOF"], apart := false, laid := [("io.EOF", laid_io_EOF)], narrowed := true }
def FnJoinUptoSaid : Prop := fnJoinUptoRow.holds Tryd.pinned (OpenSpec.upto fnJoinSpec)

/-- 'laws.FnLineFeed', WHERE WHAT IT READS IS OF BULK AT MOST 1048576: true; the input reads as it did. -/
def fnLineFeedUptoRow : OpenClaim := { program := "ythfkgancjpdodaadoor", sum := "4c9a5ebf3cf853db5938e1be3ddf08e9a6073169d4d5537fd921327d3d71de41", func := "loop.example/pub-quotedmail/laws.FnLineFeed", spec := "fnLineFeed", unfollowed := true, recurses := true, named := ["io.EOF"], apart := false, laid := [("io.EOF", laid_io_EOF)], narrowed := true }
def FnLineFeedUptoSaid : Prop := fnLineFeedUptoRow.holds Tryd.pinned (OpenSpec.upto fnLineFeedSpec)

/-- 'laws.FnLower', WHERE WHAT IT READS IS OF BULK AT MOST 1048576: true; the input reads as it did. -/
def fnLowerUptoRow : OpenClaim := { program := "ythfkgancjpdodaadoor", sum := "4c9a5ebf3cf853db5938e1be3ddf08e9a6073169d4d5537fd921327d3d71de41", func := "loop.example/pub-quotedmail/laws.FnLower", spec := "fnLower", unfollowed := true, recurses := true, named := ["io.EOF"], apart := false, laid := [("io.EOF", laid_io_EOF)], narrowed := true }
def FnLowerUptoSaid : Prop := fnLowerUptoRow.holds Tryd.pinned (OpenSpec.upto fnLowerSpec)

/-- 'laws.FnPadding', WHERE WHAT IT READS IS OF BULK AT MOST 1048576: true; the input reads as it did. -/
def fnPaddingUptoRow : OpenClaim := { program := "ythfkgancjpdodaadoor", sum := "4c9a5ebf3cf853db5938e1be3ddf08e9a6073169d4d5537fd921327d3d71de41", func := "loop.example/pub-quotedmail/laws.FnPadding", spec := "fnPadding", unfollowed := true, recurses := true, named := ["io.EOF"], apart := false, laid := [("io.EOF", laid_io_EOF)], narrowed := true }
def FnPaddingUptoSaid : Prop := fnPaddingUptoRow.holds Tryd.pinned (OpenSpec.upto fnPaddingSpec)

/-- 'laws.FnPlain', WHERE WHAT IT READS IS OF BULK AT MOST 1048576: true; the input reads as it did. -/
def fnPlainUptoRow : OpenClaim := { program := "ythfkgancjpdodaadoor", sum := "4c9a5ebf3cf853db5938e1be3ddf08e9a6073169d4d5537fd921327d3d71de41", func := "loop.example/pub-quotedmail/laws.FnPlain", spec := "fnPlain", unfollowed := true, recurses := true, named := ["io.EOF"], apart := false, laid := [("io.EOF", laid_io_EOF)], narrowed := true }
def FnPlainUptoSaid : Prop := fnPlainUptoRow.holds Tryd.pinned (OpenSpec.upto fnPlainSpec)

/-- 'laws.FnPrefix', WHERE WHAT IT READS IS OF BULK AT MOST 1048576: true; the input reads as it did. -/
def fnPrefixUptoRow : OpenClaim := { program := "ythfkgancjpdodaadoor", sum := "4c9a5ebf3cf853db5938e1be3ddf08e9a6073169d4d5537fd921327d3d71de41", func := "loop.example/pub-quotedmail/laws.FnPrefix", spec := "fnPrefix", unfollowed := true, recurses := true, named := ["io.EOF"], apart := false, laid := [("io.EOF", laid_io_EOF)], narrowed := true }
def FnPrefixUptoSaid : Prop := fnPrefixUptoRow.holds Tryd.pinned (OpenSpec.upto fnPrefixSpec)

/-- 'laws.FnSoft', WHERE WHAT IT READS IS OF BULK AT MOST 1048576: true; the input reads as it did. -/
def fnSoftUptoRow : OpenClaim := { program := "ythfkgancjpdodaadoor", sum := "4c9a5ebf3cf853db5938e1be3ddf08e9a6073169d4d5537fd921327d3d71de41", func := "loop.example/pub-quotedmail/laws.FnSoft", spec := "fnSoft", unfollowed := true, recurses := true, named := ["io.EOF"], apart := false, laid := [("io.EOF", laid_io_EOF)], narrowed := true }
def FnSoftUptoSaid : Prop := fnSoftUptoRow.holds Tryd.pinned (OpenSpec.upto fnSoftSpec)

end Rows
end Go.Proofs.YthfkgancjpdodaaDoor
