/-
  No cell of these rows narrows 'for every input' (looked for: loops, veiled, ifaces, maps, wideKeys, modest, calm, conditions, laid).
  DERIVED. THE GIVEN ROWS OF THIS SEAT. 6 by the template 'for every input the law returns true; each argument reads behind the call as it read before'; 0 by the template 'total and deterministic' (their statements: YtigebhmdplcciaaTotals.lean).
  GIVEN WITH THE SEED: the statements are not yours to turn. If you find one false, say at which input.
  Laid BY PROGRAM, IN A SANDBOX (cutbox-rows.mjs): the forced cells as the released guide's own fill.sh prints them over the translation f1bee677472a0ce1… (all of the seat's roots in one cut). By AI agents, Wed Nov 11 2026. No macro, syntax, notation, axiom, sorry.
-/
import Derived.Test.YtigebhmdplcciaaChecked
import GoSem.Claim
import GoSem.ClaimJoined
import GoSem.ClaimMapViews
import Derived.JoinedTies
import Derived.KernelRfl
namespace Go.Proofs.Ytigebhmdplcciaa
/- THE CELL 'sum', in the pinned program and in every row, IS THE sha256 OF THE DUMP (.gsa) THAT YtigebhmdplcciaaProg.lean LOADS. Nothing in Lean hashes anything: it is a label: what it is worth is what the hold of that sum in a sandbox is worth. -/
noncomputable def Try.pinned : Pinned := { name := "ytigebhmdplcciaa", sum := "f1bee677472a0ce15fcc1a73c65cc03a17f51f0cf2c47f6b50c2d80dedb2514f", checked := Try.checked }
namespace Rows
def none {H : Type} : Left H := { results := [], args := [] }

/-- 'laws.FnPieces': WHATEVER THE INPUT: true; the input reads as it did. -/
def fnPiecesSpec : ChangeSpec := { name := "fnPieces", fn := fun _ => fun
  | [d1, d2] => { results := [.lit (.bool true)], args := [d1, d2] }
  | _ => none }
def fnPiecesRow : OpenClaim := { program := "ytigebhmdplcciaa", sum := "f1bee677472a0ce15fcc1a73c65cc03a17f51f0cf2c47f6b50c2d80dedb2514f", func := "loop.example/pub-quotedmail/laws.FnPieces", spec := "fnPieces", unfollowed := true, recurses := true, apart := false }
def FnPiecesSaid : Prop := fnPiecesRow.holds Try.pinned (OpenSpec.ofChange fnPiecesSpec)

/-- ITS FALSE NEIGHBOUR: 'it returns false'. Refute it at one input. -/
def fnPiecesWrong : ChangeSpec := { name := "fnPieces", fn := fun _ => fun
  | [d1, d2] => { results := [.lit (.bool false)], args := [d1, d2] }
  | _ => none }
def FnPiecesWrongFalsely : Prop := fnPiecesRow.holds Try.pinned (OpenSpec.ofChange fnPiecesWrong)

/-- 'laws.FnAsItStands': WHATEVER THE INPUT: true; the input reads as it did. -/
def fnAsItStandsSpec : ChangeSpec := { name := "fnAsItStands", fn := fun _ => fun
  | [d] => { results := [.lit (.bool true)], args := [d] }
  | _ => none }
def fnAsItStandsRow : OpenClaim := { program := "ytigebhmdplcciaa", sum := "f1bee677472a0ce15fcc1a73c65cc03a17f51f0cf2c47f6b50c2d80dedb2514f", func := "loop.example/pub-quotedmail/laws.FnAsItStands", spec := "fnAsItStands", unfollowed := true, recurses := true, apart := false }
def FnAsItStandsSaid : Prop := fnAsItStandsRow.holds Try.pinned (OpenSpec.ofChange fnAsItStandsSpec)

/-- ITS FALSE NEIGHBOUR: 'it returns false'. Refute it at one input. -/
def fnAsItStandsWrong : ChangeSpec := { name := "fnAsItStands", fn := fun _ => fun
  | [d] => { results := [.lit (.bool false)], args := [d] }
  | _ => none }
def FnAsItStandsWrongFalsely : Prop := fnAsItStandsRow.holds Try.pinned (OpenSpec.ofChange fnAsItStandsWrong)

/-- 'laws.FnExactBinary': WHATEVER THE INPUT: true; the input reads as it did. -/
def fnExactBinarySpec : ChangeSpec := { name := "fnExactBinary", fn := fun _ => fun
  | [d] => { results := [.lit (.bool true)], args := [d] }
  | _ => none }
def fnExactBinaryRow : OpenClaim := { program := "ytigebhmdplcciaa", sum := "f1bee677472a0ce15fcc1a73c65cc03a17f51f0cf2c47f6b50c2d80dedb2514f", func := "loop.example/pub-quotedmail/laws.FnExactBinary", spec := "fnExactBinary", unfollowed := true, recurses := true, apart := false }
def FnExactBinarySaid : Prop := fnExactBinaryRow.holds Try.pinned (OpenSpec.ofChange fnExactBinarySpec)

/-- ITS FALSE NEIGHBOUR: 'it returns false'. Refute it at one input. -/
def fnExactBinaryWrong : ChangeSpec := { name := "fnExactBinary", fn := fun _ => fun
  | [d] => { results := [.lit (.bool false)], args := [d] }
  | _ => none }
def FnExactBinaryWrongFalsely : Prop := fnExactBinaryRow.holds Try.pinned (OpenSpec.ofChange fnExactBinaryWrong)

/-- 'laws.FnExactEncoded': WHATEVER THE INPUT: true; the input reads as it did. -/
def fnExactEncodedSpec : ChangeSpec := { name := "fnExactEncoded", fn := fun _ => fun
  | [d1, d2] => { results := [.lit (.bool true)], args := [d1, d2] }
  | _ => none }
def fnExactEncodedRow : OpenClaim := { program := "ytigebhmdplcciaa", sum := "f1bee677472a0ce15fcc1a73c65cc03a17f51f0cf2c47f6b50c2d80dedb2514f", func := "loop.example/pub-quotedmail/laws.FnExactEncoded", spec := "fnExactEncoded", unfollowed := true, recurses := true, apart := false }
def FnExactEncodedSaid : Prop := fnExactEncodedRow.holds Try.pinned (OpenSpec.ofChange fnExactEncodedSpec)

/-- ITS FALSE NEIGHBOUR: 'it returns false'. Refute it at one input. -/
def fnExactEncodedWrong : ChangeSpec := { name := "fnExactEncoded", fn := fun _ => fun
  | [d1, d2] => { results := [.lit (.bool false)], args := [d1, d2] }
  | _ => none }
def FnExactEncodedWrongFalsely : Prop := fnExactEncodedRow.holds Try.pinned (OpenSpec.ofChange fnExactEncodedWrong)

/-- 'laws.FnExactLines': WHATEVER THE INPUT: true; the input reads as it did. -/
def fnExactLinesSpec : ChangeSpec := { name := "fnExactLines", fn := fun _ => fun
  | [d] => { results := [.lit (.bool true)], args := [d] }
  | _ => none }
def fnExactLinesRow : OpenClaim := { program := "ytigebhmdplcciaa", sum := "f1bee677472a0ce15fcc1a73c65cc03a17f51f0cf2c47f6b50c2d80dedb2514f", func := "loop.example/pub-quotedmail/laws.FnExactLines", spec := "fnExactLines", unfollowed := true, recurses := true, apart := false }
def FnExactLinesSaid : Prop := fnExactLinesRow.holds Try.pinned (OpenSpec.ofChange fnExactLinesSpec)

/-- ITS FALSE NEIGHBOUR: 'it returns false'. Refute it at one input. -/
def fnExactLinesWrong : ChangeSpec := { name := "fnExactLines", fn := fun _ => fun
  | [d] => { results := [.lit (.bool false)], args := [d] }
  | _ => none }
def FnExactLinesWrongFalsely : Prop := fnExactLinesRow.holds Try.pinned (OpenSpec.ofChange fnExactLinesWrong)

/-- 'laws.FnNeeded': WHATEVER THE INPUT: true; the input reads as it did. -/
def fnNeededSpec : ChangeSpec := { name := "fnNeeded", fn := fun _ => fun
  | [d1, d2] => { results := [.lit (.bool true)], args := [d1, d2] }
  | _ => none }
def fnNeededRow : OpenClaim := { program := "ytigebhmdplcciaa", sum := "f1bee677472a0ce15fcc1a73c65cc03a17f51f0cf2c47f6b50c2d80dedb2514f", func := "loop.example/pub-quotedmail/laws.FnNeeded", spec := "fnNeeded", unfollowed := true, recurses := true, apart := false }
def FnNeededSaid : Prop := fnNeededRow.holds Try.pinned (OpenSpec.ofChange fnNeededSpec)

/-- ITS FALSE NEIGHBOUR: 'it returns false'. Refute it at one input. -/
def fnNeededWrong : ChangeSpec := { name := "fnNeeded", fn := fun _ => fun
  | [d1, d2] => { results := [.lit (.bool false)], args := [d1, d2] }
  | _ => none }
def FnNeededWrongFalsely : Prop := fnNeededRow.holds Try.pinned (OpenSpec.ofChange fnNeededWrong)

/- THE SECOND FORM. 'bulk': how many values and letters a reading holds, each counted each time it is reached (what is shared counts as often as it is met; a slice's spare places count too). A statement '..UptoSaid' is the law's where the arguments, and the package variables that the reading takes, are together of bulk at most 1048576: NARROWER than '..Said'. Prove '..Said' where nothing that the law and all that it calls make is longer than what came in: it says more and counts as full. Else prove '..UptoSaid'. A law counts once. -/
mutual
def uptoBulk {H : Type} : DataW H → Nat
  | .lit (.string bytes) => bytes.length + 1
  | .lit _ => 1
  | .nil => 1
  | .ptr d => uptoBulk d + 1
  | .slice elems spare => uptoBulkAll elems + uptoBulkAll spare + 1
  | .agg parts => uptoBulkAll parts + 1
  | .iface _ d => uptoBulk d + 1
  | .map entries => uptoBulkEntries entries + 1
  | .held _ => 1
def uptoBulkAll {H : Type} : List (DataW H) → Nat
  | [] => 0
  | d :: r => uptoBulk d + uptoBulkAll r
def uptoBulkEntries {H : Type} : List (Lit × DataW H) → Nat
  | [] => 0
  | x :: r => uptoBulkEntry x + uptoBulkEntries r
def uptoBulkEntry {H : Type} : Lit × DataW H → Nat
  | (.string bytes, d) => bytes.length + uptoBulk d + 1
  | (_, d) => uptoBulk d + 1
 end
def uptoSmall : (H : Type) → List (DataW H) → Bool := fun _ ds => decide (uptoBulkAll ds ≤ 1048576)
def OpenSpec.upto (s : _root_.Go.ChangeSpec) : _root_.Go.OpenSpec := { _root_.Go.OpenSpec.ofChange s with cond := some uptoSmall }

/-- 'laws.FnPieces', WHERE WHAT IT READS IS OF BULK AT MOST 1048576: true; the input reads as it did. -/
def fnPiecesUptoRow : OpenClaim := { program := "ytigebhmdplcciaa", sum := "f1bee677472a0ce15fcc1a73c65cc03a17f51f0cf2c47f6b50c2d80dedb2514f", func := "loop.example/pub-quotedmail/laws.FnPieces", spec := "fnPieces", unfollowed := true, recurses := true, apart := false, narrowed := true }
def FnPiecesUptoSaid : Prop := fnPiecesUptoRow.holds Try.pinned (OpenSpec.upto fnPiecesSpec)

/-- 'laws.FnAsItStands', WHERE WHAT IT READS IS OF BULK AT MOST 1048576: true; the input reads as it did. -/
def fnAsItStandsUptoRow : OpenClaim := { program := "ytigebhmdplcciaa", sum := "f1bee677472a0ce15fcc1a73c65cc03a17f51f0cf2c47f6b50c2d80dedb2514f", func := "loop.example/pub-quotedmail/laws.FnAsItStands", spec := "fnAsItStands", unfollowed := true, recurses := true, apart := false, narrowed := true }
def FnAsItStandsUptoSaid : Prop := fnAsItStandsUptoRow.holds Try.pinned (OpenSpec.upto fnAsItStandsSpec)

/-- 'laws.FnExactBinary', WHERE WHAT IT READS IS OF BULK AT MOST 1048576: true; the input reads as it did. -/
def fnExactBinaryUptoRow : OpenClaim := { program := "ytigebhmdplcciaa", sum := "f1bee677472a0ce15fcc1a73c65cc03a17f51f0cf2c47f6b50c2d80dedb2514f", func := "loop.example/pub-quotedmail/laws.FnExactBinary", spec := "fnExactBinary", unfollowed := true, recurses := true, apart := false, narrowed := true }
def FnExactBinaryUptoSaid : Prop := fnExactBinaryUptoRow.holds Try.pinned (OpenSpec.upto fnExactBinarySpec)

/-- 'laws.FnExactEncoded', WHERE WHAT IT READS IS OF BULK AT MOST 1048576: true; the input reads as it did. -/
def fnExactEncodedUptoRow : OpenClaim := { program := "ytigebhmdplcciaa", sum := "f1bee677472a0ce15fcc1a73c65cc03a17f51f0cf2c47f6b50c2d80dedb2514f", func := "loop.example/pub-quotedmail/laws.FnExactEncoded", spec := "fnExactEncoded", unfollowed := true, recurses := true, apart := false, narrowed := true }
def FnExactEncodedUptoSaid : Prop := fnExactEncodedUptoRow.holds Try.pinned (OpenSpec.upto fnExactEncodedSpec)

/-- 'laws.FnExactLines', WHERE WHAT IT READS IS OF BULK AT MOST 1048576: true; the input reads as it did. -/
def fnExactLinesUptoRow : OpenClaim := { program := "ytigebhmdplcciaa", sum := "f1bee677472a0ce15fcc1a73c65cc03a17f51f0cf2c47f6b50c2d80dedb2514f", func := "loop.example/pub-quotedmail/laws.FnExactLines", spec := "fnExactLines", unfollowed := true, recurses := true, apart := false, narrowed := true }
def FnExactLinesUptoSaid : Prop := fnExactLinesUptoRow.holds Try.pinned (OpenSpec.upto fnExactLinesSpec)

/-- 'laws.FnNeeded', WHERE WHAT IT READS IS OF BULK AT MOST 1048576: true; the input reads as it did. -/
def fnNeededUptoRow : OpenClaim := { program := "ytigebhmdplcciaa", sum := "f1bee677472a0ce15fcc1a73c65cc03a17f51f0cf2c47f6b50c2d80dedb2514f", func := "loop.example/pub-quotedmail/laws.FnNeeded", spec := "fnNeeded", unfollowed := true, recurses := true, apart := false, narrowed := true }
def FnNeededUptoSaid : Prop := fnNeededUptoRow.holds Try.pinned (OpenSpec.upto fnNeededSpec)

end Rows
end Go.Proofs.Ytigebhmdplcciaa
