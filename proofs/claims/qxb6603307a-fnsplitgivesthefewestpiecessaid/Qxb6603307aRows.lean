/-
  No cell of these rows narrows 'for every input' (looked for: loops, veiled, ifaces, maps, wideKeys, modest, calm, conditions, laid).
  DERIVED. THE GIVEN ROWS OF THIS SEAT. 7 by the template 'for every input the law returns true; each argument reads behind the call as it read before'; 0 by the template 'total and deterministic' (their statements: Qxb6603307aTotals.lean).
  GIVEN WITH THE SEED: the statements are not yours to turn. If you find one false, say at which input.
  Laid BY PROGRAM, IN A SANDBOX (cutbox-rows.mjs): the forced cells as the released guide's own fill.sh prints them over the translation 025a0ee268437ec0… (all of the seat's roots in one cut). By AI agents, Wed Nov 11 2026. No macro, syntax, notation, axiom, sorry.
-/
import Derived.Test.Qxb6603307aChecked
import GoSem.Claim
import GoSem.ClaimJoined
import GoSem.ClaimMapViews
import Derived.JoinedTies
import Derived.KernelRfl
namespace Go.Proofs.Qxb6603307a
/- THE CELL 'sum', in the pinned program and in every row, IS THE sha256 OF THE DUMP (.gsa) THAT Qxb6603307aProg.lean LOADS. Nothing in Lean hashes anything: it is a label: what it is worth is what the hold of that sum in a sandbox is worth. -/
noncomputable def Try.pinned : Pinned := { name := "qxb6603307a", sum := "025a0ee268437ec0995b2c52b402f242713fb159330b83a5ef1292eafb9a8766", checked := Try.checked }
namespace Rows
def none {H : Type} : Left H := { results := [], args := [] }

/-- 'zzlaws_pkg_smstext_b1.FnSplitIsGreedyWholeCharacterPieces': WHATEVER THE INPUT: true; the input reads as it did. -/
def fnSplitIsGreedyWholeCharacterPiecesSpec : ChangeSpec := { name := "fnSplitIsGreedyWholeCharacterPieces", fn := fun _ => fun
  | [d1, d2, d3] => { results := [.lit (.bool true)], args := [d1, d2, d3] }
  | _ => none }
def fnSplitIsGreedyWholeCharacterPiecesRow : OpenClaim := { program := "qxb6603307a", sum := "025a0ee268437ec0995b2c52b402f242713fb159330b83a5ef1292eafb9a8766", func := "example.com/heliograph/heliograph/zzlaws_pkg_smstext_b1.FnSplitIsGreedyWholeCharacterPieces", spec := "fnSplitIsGreedyWholeCharacterPieces", apart := false }
def FnSplitIsGreedyWholeCharacterPiecesSaid : Prop := fnSplitIsGreedyWholeCharacterPiecesRow.holds Try.pinned (OpenSpec.ofChange fnSplitIsGreedyWholeCharacterPiecesSpec)

/-- ITS FALSE NEIGHBOUR: 'it returns false'. Refute it at one input. -/
def fnSplitIsGreedyWholeCharacterPiecesWrong : ChangeSpec := { name := "fnSplitIsGreedyWholeCharacterPieces", fn := fun _ => fun
  | [d1, d2, d3] => { results := [.lit (.bool false)], args := [d1, d2, d3] }
  | _ => none }
def FnSplitIsGreedyWholeCharacterPiecesWrongFalsely : Prop := fnSplitIsGreedyWholeCharacterPiecesRow.holds Try.pinned (OpenSpec.ofChange fnSplitIsGreedyWholeCharacterPiecesWrong)

/-- 'zzlaws_pkg_smstext_b1.FnSplitGivesTheFewestPieces': WHATEVER THE INPUT: true; the input reads as it did. -/
def fnSplitGivesTheFewestPiecesSpec : ChangeSpec := { name := "fnSplitGivesTheFewestPieces", fn := fun _ => fun
  | [d1, d2, d3] => { results := [.lit (.bool true)], args := [d1, d2, d3] }
  | _ => none }
def fnSplitGivesTheFewestPiecesRow : OpenClaim := { program := "qxb6603307a", sum := "025a0ee268437ec0995b2c52b402f242713fb159330b83a5ef1292eafb9a8766", func := "example.com/heliograph/heliograph/zzlaws_pkg_smstext_b1.FnSplitGivesTheFewestPieces", spec := "fnSplitGivesTheFewestPieces", apart := false }
def FnSplitGivesTheFewestPiecesSaid : Prop := fnSplitGivesTheFewestPiecesRow.holds Try.pinned (OpenSpec.ofChange fnSplitGivesTheFewestPiecesSpec)

/-- ITS FALSE NEIGHBOUR: 'it returns false'. Refute it at one input. -/
def fnSplitGivesTheFewestPiecesWrong : ChangeSpec := { name := "fnSplitGivesTheFewestPieces", fn := fun _ => fun
  | [d1, d2, d3] => { results := [.lit (.bool false)], args := [d1, d2, d3] }
  | _ => none }
def FnSplitGivesTheFewestPiecesWrongFalsely : Prop := fnSplitGivesTheFewestPiecesRow.holds Try.pinned (OpenSpec.ofChange fnSplitGivesTheFewestPiecesWrong)

/-- 'zzlaws_pkg_smstext_b1.FnPackGSM7MatchesBitLayout': WHATEVER THE INPUT: true; the input reads as it did. -/
def fnPackGSM7MatchesBitLayoutSpec : ChangeSpec := { name := "fnPackGSM7MatchesBitLayout", fn := fun _ => fun
  | [d1, d2] => { results := [.lit (.bool true)], args := [d1, d2] }
  | _ => none }
def fnPackGSM7MatchesBitLayoutRow : OpenClaim := { program := "qxb6603307a", sum := "025a0ee268437ec0995b2c52b402f242713fb159330b83a5ef1292eafb9a8766", func := "example.com/heliograph/heliograph/zzlaws_pkg_smstext_b1.FnPackGSM7MatchesBitLayout", spec := "fnPackGSM7MatchesBitLayout", apart := false }
def FnPackGSM7MatchesBitLayoutSaid : Prop := fnPackGSM7MatchesBitLayoutRow.holds Try.pinned (OpenSpec.ofChange fnPackGSM7MatchesBitLayoutSpec)

/-- ITS FALSE NEIGHBOUR: 'it returns false'. Refute it at one input. -/
def fnPackGSM7MatchesBitLayoutWrong : ChangeSpec := { name := "fnPackGSM7MatchesBitLayout", fn := fun _ => fun
  | [d1, d2] => { results := [.lit (.bool false)], args := [d1, d2] }
  | _ => none }
def FnPackGSM7MatchesBitLayoutWrongFalsely : Prop := fnPackGSM7MatchesBitLayoutRow.holds Try.pinned (OpenSpec.ofChange fnPackGSM7MatchesBitLayoutWrong)

/-- 'zzlaws_pkg_smstext_b1.FnUnpackGSM7UndoesPackGSM7': WHATEVER THE INPUT: true; the input reads as it did. -/
def fnUnpackGSM7UndoesPackGSM7Spec : ChangeSpec := { name := "fnUnpackGSM7UndoesPackGSM7", fn := fun _ => fun
  | [d1, d2] => { results := [.lit (.bool true)], args := [d1, d2] }
  | _ => none }
def fnUnpackGSM7UndoesPackGSM7Row : OpenClaim := { program := "qxb6603307a", sum := "025a0ee268437ec0995b2c52b402f242713fb159330b83a5ef1292eafb9a8766", func := "example.com/heliograph/heliograph/zzlaws_pkg_smstext_b1.FnUnpackGSM7UndoesPackGSM7", spec := "fnUnpackGSM7UndoesPackGSM7", apart := false }
def FnUnpackGSM7UndoesPackGSM7Said : Prop := fnUnpackGSM7UndoesPackGSM7Row.holds Try.pinned (OpenSpec.ofChange fnUnpackGSM7UndoesPackGSM7Spec)

/-- ITS FALSE NEIGHBOUR: 'it returns false'. Refute it at one input. -/
def fnUnpackGSM7UndoesPackGSM7Wrong : ChangeSpec := { name := "fnUnpackGSM7UndoesPackGSM7", fn := fun _ => fun
  | [d1, d2] => { results := [.lit (.bool false)], args := [d1, d2] }
  | _ => none }
def FnUnpackGSM7UndoesPackGSM7WrongFalsely : Prop := fnUnpackGSM7UndoesPackGSM7Row.holds Try.pinned (OpenSpec.ofChange fnUnpackGSM7UndoesPackGSM7Wrong)

/-- 'zzlaws_pkg_smstext_b1.FnUnpackGSM7MatchesBitLayout': WHATEVER THE INPUT: true; the input reads as it did. -/
def fnUnpackGSM7MatchesBitLayoutSpec : ChangeSpec := { name := "fnUnpackGSM7MatchesBitLayout", fn := fun _ => fun
  | [d1, d2, d3] => { results := [.lit (.bool true)], args := [d1, d2, d3] }
  | _ => none }
def fnUnpackGSM7MatchesBitLayoutRow : OpenClaim := { program := "qxb6603307a", sum := "025a0ee268437ec0995b2c52b402f242713fb159330b83a5ef1292eafb9a8766", func := "example.com/heliograph/heliograph/zzlaws_pkg_smstext_b1.FnUnpackGSM7MatchesBitLayout", spec := "fnUnpackGSM7MatchesBitLayout", apart := false }
def FnUnpackGSM7MatchesBitLayoutSaid : Prop := fnUnpackGSM7MatchesBitLayoutRow.holds Try.pinned (OpenSpec.ofChange fnUnpackGSM7MatchesBitLayoutSpec)

/-- ITS FALSE NEIGHBOUR: 'it returns false'. Refute it at one input. -/
def fnUnpackGSM7MatchesBitLayoutWrong : ChangeSpec := { name := "fnUnpackGSM7MatchesBitLayout", fn := fun _ => fun
  | [d1, d2, d3] => { results := [.lit (.bool false)], args := [d1, d2, d3] }
  | _ => none }
def FnUnpackGSM7MatchesBitLayoutWrongFalsely : Prop := fnUnpackGSM7MatchesBitLayoutRow.holds Try.pinned (OpenSpec.ofChange fnUnpackGSM7MatchesBitLayoutWrong)

/-- 'zzlaws_pkg_smstext_b1.FnPackGSM7AfterUnpackGSM7KeepsTheSeptetBits': WHATEVER THE INPUT: true; the input reads as it did. -/
def fnPackGSM7AfterUnpackGSM7KeepsTheSeptetBitsSpec : ChangeSpec := { name := "fnPackGSM7AfterUnpackGSM7KeepsTheSeptetBits", fn := fun _ => fun
  | [d1, d2, d3] => { results := [.lit (.bool true)], args := [d1, d2, d3] }
  | _ => none }
def fnPackGSM7AfterUnpackGSM7KeepsTheSeptetBitsRow : OpenClaim := { program := "qxb6603307a", sum := "025a0ee268437ec0995b2c52b402f242713fb159330b83a5ef1292eafb9a8766", func := "example.com/heliograph/heliograph/zzlaws_pkg_smstext_b1.FnPackGSM7AfterUnpackGSM7KeepsTheSeptetBits", spec := "fnPackGSM7AfterUnpackGSM7KeepsTheSeptetBits", apart := false }
def FnPackGSM7AfterUnpackGSM7KeepsTheSeptetBitsSaid : Prop := fnPackGSM7AfterUnpackGSM7KeepsTheSeptetBitsRow.holds Try.pinned (OpenSpec.ofChange fnPackGSM7AfterUnpackGSM7KeepsTheSeptetBitsSpec)

/-- ITS FALSE NEIGHBOUR: 'it returns false'. Refute it at one input. -/
def fnPackGSM7AfterUnpackGSM7KeepsTheSeptetBitsWrong : ChangeSpec := { name := "fnPackGSM7AfterUnpackGSM7KeepsTheSeptetBits", fn := fun _ => fun
  | [d1, d2, d3] => { results := [.lit (.bool false)], args := [d1, d2, d3] }
  | _ => none }
def FnPackGSM7AfterUnpackGSM7KeepsTheSeptetBitsWrongFalsely : Prop := fnPackGSM7AfterUnpackGSM7KeepsTheSeptetBitsRow.holds Try.pinned (OpenSpec.ofChange fnPackGSM7AfterUnpackGSM7KeepsTheSeptetBitsWrong)

/-- 'zzlaws_pkg_smstext_b1.FnUnpackGSM7JoinsAtAnySeptet': WHATEVER THE INPUT: true; the input reads as it did. -/
def fnUnpackGSM7JoinsAtAnySeptetSpec : ChangeSpec := { name := "fnUnpackGSM7JoinsAtAnySeptet", fn := fun _ => fun
  | [d1, d2, d3, d4] => { results := [.lit (.bool true)], args := [d1, d2, d3, d4] }
  | _ => none }
def fnUnpackGSM7JoinsAtAnySeptetRow : OpenClaim := { program := "qxb6603307a", sum := "025a0ee268437ec0995b2c52b402f242713fb159330b83a5ef1292eafb9a8766", func := "example.com/heliograph/heliograph/zzlaws_pkg_smstext_b1.FnUnpackGSM7JoinsAtAnySeptet", spec := "fnUnpackGSM7JoinsAtAnySeptet", apart := false }
def FnUnpackGSM7JoinsAtAnySeptetSaid : Prop := fnUnpackGSM7JoinsAtAnySeptetRow.holds Try.pinned (OpenSpec.ofChange fnUnpackGSM7JoinsAtAnySeptetSpec)

/-- ITS FALSE NEIGHBOUR: 'it returns false'. Refute it at one input. -/
def fnUnpackGSM7JoinsAtAnySeptetWrong : ChangeSpec := { name := "fnUnpackGSM7JoinsAtAnySeptet", fn := fun _ => fun
  | [d1, d2, d3, d4] => { results := [.lit (.bool false)], args := [d1, d2, d3, d4] }
  | _ => none }
def FnUnpackGSM7JoinsAtAnySeptetWrongFalsely : Prop := fnUnpackGSM7JoinsAtAnySeptetRow.holds Try.pinned (OpenSpec.ofChange fnUnpackGSM7JoinsAtAnySeptetWrong)

end Rows
end Go.Proofs.Qxb6603307a
