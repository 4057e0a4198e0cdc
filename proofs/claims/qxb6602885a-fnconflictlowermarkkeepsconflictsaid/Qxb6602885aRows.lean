/-
  No cell of these rows narrows 'for every input' (looked for: loops, veiled, ifaces, maps, wideKeys, modest, calm, conditions, laid).
  DERIVED. THE GIVEN ROWS OF THIS SEAT. 7 by the template 'for every input the law returns true; each argument reads behind the call as it read before'; 0 by the template 'total and deterministic' (their statements: Qxb6602885aTotals.lean).
  GIVEN WITH THE SEED: the statements are not yours to turn. If you find one false, say at which input.
  Laid BY PROGRAM, IN A SANDBOX (cutbox-rows.mjs): the forced cells as the released guide's own fill.sh prints them over the translation dd5e756e37c97771… (all of the seat's roots in one cut). By AI agents, Wed Nov 11 2026. No macro, syntax, notation, axiom, sorry.
-/
import Derived.Test.Qxb6602885aChecked
import GoSem.Claim
import GoSem.ClaimJoined
import GoSem.ClaimMapViews
import Derived.JoinedTies
import Derived.KernelRfl
namespace Go.Proofs.Qxb6602885a
/- THE CELL 'sum', in the pinned program and in every row, IS THE sha256 OF THE DUMP (.gsa) THAT Qxb6602885aProg.lean LOADS. Nothing in Lean hashes anything: it is a label: what it is worth is what the hold of that sum in a sandbox is worth. -/
noncomputable def Try.pinned : Pinned := { name := "qxb6602885a", sum := "dd5e756e37c97771b40a34cc4fcf1489fbd113d37ef36ea5779aec5170bcf7d1", checked := Try.checked }
namespace Rows
def none {H : Type} : Left H := { results := [], args := [] }

/-- 'zzlaws_internal_locks_b1.FnFindExact': WHATEVER THE INPUT: true; the input reads as it did. -/
def fnFindExactSpec : ChangeSpec := { name := "fnFindExact", fn := fun _ => fun
  | [d1, d2, d3, d4] => { results := [.lit (.bool true)], args := [d1, d2, d3, d4] }
  | _ => none }
def fnFindExactRow : OpenClaim := { program := "qxb6602885a", sum := "dd5e756e37c97771b40a34cc4fcf1489fbd113d37ef36ea5779aec5170bcf7d1", func := "example.com/lockstep/lockstep/zzlaws_internal_locks_b1.FnFindExact", spec := "fnFindExact", apart := false }
def FnFindExactSaid : Prop := fnFindExactRow.holds Try.pinned (OpenSpec.ofChange fnFindExactSpec)

/-- ITS FALSE NEIGHBOUR: 'it returns false'. Refute it at one input. -/
def fnFindExactWrong : ChangeSpec := { name := "fnFindExact", fn := fun _ => fun
  | [d1, d2, d3, d4] => { results := [.lit (.bool false)], args := [d1, d2, d3, d4] }
  | _ => none }
def FnFindExactWrongFalsely : Prop := fnFindExactRow.holds Try.pinned (OpenSpec.ofChange fnFindExactWrong)

/-- 'zzlaws_internal_locks_b1.FnFindPlacedHashIsFound': WHATEVER THE INPUT: true; the input reads as it did. -/
def fnFindPlacedHashIsFoundSpec : ChangeSpec := { name := "fnFindPlacedHashIsFound", fn := fun _ => fun
  | [d1, d2, d3, d4, d5] => { results := [.lit (.bool true)], args := [d1, d2, d3, d4, d5] }
  | _ => none }
def fnFindPlacedHashIsFoundRow : OpenClaim := { program := "qxb6602885a", sum := "dd5e756e37c97771b40a34cc4fcf1489fbd113d37ef36ea5779aec5170bcf7d1", func := "example.com/lockstep/lockstep/zzlaws_internal_locks_b1.FnFindPlacedHashIsFound", spec := "fnFindPlacedHashIsFound", apart := false }
def FnFindPlacedHashIsFoundSaid : Prop := fnFindPlacedHashIsFoundRow.holds Try.pinned (OpenSpec.ofChange fnFindPlacedHashIsFoundSpec)

/-- ITS FALSE NEIGHBOUR: 'it returns false'. Refute it at one input. -/
def fnFindPlacedHashIsFoundWrong : ChangeSpec := { name := "fnFindPlacedHashIsFound", fn := fun _ => fun
  | [d1, d2, d3, d4, d5] => { results := [.lit (.bool false)], args := [d1, d2, d3, d4, d5] }
  | _ => none }
def FnFindPlacedHashIsFoundWrongFalsely : Prop := fnFindPlacedHashIsFoundRow.holds Try.pinned (OpenSpec.ofChange fnFindPlacedHashIsFoundWrong)

/-- 'zzlaws_internal_locks_b1.FnConflictLowerMarkKeepsConflict': WHATEVER THE INPUT: true; the input reads as it did. -/
def fnConflictLowerMarkKeepsConflictSpec : ChangeSpec := { name := "fnConflictLowerMarkKeepsConflict", fn := fun _ => fun
  | [d1, d2, d3, d4, d5, d6, d7, d8] => { results := [.lit (.bool true)], args := [d1, d2, d3, d4, d5, d6, d7, d8] }
  | _ => none }
def fnConflictLowerMarkKeepsConflictRow : OpenClaim := { program := "qxb6602885a", sum := "dd5e756e37c97771b40a34cc4fcf1489fbd113d37ef36ea5779aec5170bcf7d1", func := "example.com/lockstep/lockstep/zzlaws_internal_locks_b1.FnConflictLowerMarkKeepsConflict", spec := "fnConflictLowerMarkKeepsConflict", apart := false }
def FnConflictLowerMarkKeepsConflictSaid : Prop := fnConflictLowerMarkKeepsConflictRow.holds Try.pinned (OpenSpec.ofChange fnConflictLowerMarkKeepsConflictSpec)

/-- ITS FALSE NEIGHBOUR: 'it returns false'. Refute it at one input. -/
def fnConflictLowerMarkKeepsConflictWrong : ChangeSpec := { name := "fnConflictLowerMarkKeepsConflict", fn := fun _ => fun
  | [d1, d2, d3, d4, d5, d6, d7, d8] => { results := [.lit (.bool false)], args := [d1, d2, d3, d4, d5, d6, d7, d8] }
  | _ => none }
def FnConflictLowerMarkKeepsConflictWrongFalsely : Prop := fnConflictLowerMarkKeepsConflictRow.holds Try.pinned (OpenSpec.ofChange fnConflictLowerMarkKeepsConflictWrong)

/-- 'zzlaws_internal_locks_b1.FnPutExact': WHATEVER THE INPUT: true; the input reads as it did. -/
def fnPutExactSpec : ChangeSpec := { name := "fnPutExact", fn := fun _ => fun
  | [d1, d2, d3, d4, d5, d6, d7, d8, d9, d10, d11] => { results := [.lit (.bool true)], args := [d1, d2, d3, d4, d5, d6, d7, d8, d9, d10, d11] }
  | _ => none }
def fnPutExactRow : OpenClaim := { program := "qxb6602885a", sum := "dd5e756e37c97771b40a34cc4fcf1489fbd113d37ef36ea5779aec5170bcf7d1", func := "example.com/lockstep/lockstep/zzlaws_internal_locks_b1.FnPutExact", spec := "fnPutExact", apart := false }
def FnPutExactSaid : Prop := fnPutExactRow.holds Try.pinned (OpenSpec.ofChange fnPutExactSpec)

/-- ITS FALSE NEIGHBOUR: 'it returns false'. Refute it at one input. -/
def fnPutExactWrong : ChangeSpec := { name := "fnPutExact", fn := fun _ => fun
  | [d1, d2, d3, d4, d5, d6, d7, d8, d9, d10, d11] => { results := [.lit (.bool false)], args := [d1, d2, d3, d4, d5, d6, d7, d8, d9, d10, d11] }
  | _ => none }
def FnPutExactWrongFalsely : Prop := fnPutExactRow.holds Try.pinned (OpenSpec.ofChange fnPutExactWrong)

/-- 'zzlaws_internal_locks_b1.FnPutTwiceIsPutOnce': WHATEVER THE INPUT: true; the input reads as it did. -/
def fnPutTwiceIsPutOnceSpec : ChangeSpec := { name := "fnPutTwiceIsPutOnce", fn := fun _ => fun
  | [d1, d2, d3, d4, d5, d6] => { results := [.lit (.bool true)], args := [d1, d2, d3, d4, d5, d6] }
  | _ => none }
def fnPutTwiceIsPutOnceRow : OpenClaim := { program := "qxb6602885a", sum := "dd5e756e37c97771b40a34cc4fcf1489fbd113d37ef36ea5779aec5170bcf7d1", func := "example.com/lockstep/lockstep/zzlaws_internal_locks_b1.FnPutTwiceIsPutOnce", spec := "fnPutTwiceIsPutOnce", apart := false }
def FnPutTwiceIsPutOnceSaid : Prop := fnPutTwiceIsPutOnceRow.holds Try.pinned (OpenSpec.ofChange fnPutTwiceIsPutOnceSpec)

/-- ITS FALSE NEIGHBOUR: 'it returns false'. Refute it at one input. -/
def fnPutTwiceIsPutOnceWrong : ChangeSpec := { name := "fnPutTwiceIsPutOnce", fn := fun _ => fun
  | [d1, d2, d3, d4, d5, d6] => { results := [.lit (.bool false)], args := [d1, d2, d3, d4, d5, d6] }
  | _ => none }
def FnPutTwiceIsPutOnceWrongFalsely : Prop := fnPutTwiceIsPutOnceRow.holds Try.pinned (OpenSpec.ofChange fnPutTwiceIsPutOnceWrong)

/-- 'zzlaws_internal_locks_b1.FnPutThenConflictTellsTheWriter': WHATEVER THE INPUT: true; the input reads as it did. -/
def fnPutThenConflictTellsTheWriterSpec : ChangeSpec := { name := "fnPutThenConflictTellsTheWriter", fn := fun _ => fun
  | [d1, d2, d3, d4, d5, d6, d7] => { results := [.lit (.bool true)], args := [d1, d2, d3, d4, d5, d6, d7] }
  | _ => none }
def fnPutThenConflictTellsTheWriterRow : OpenClaim := { program := "qxb6602885a", sum := "dd5e756e37c97771b40a34cc4fcf1489fbd113d37ef36ea5779aec5170bcf7d1", func := "example.com/lockstep/lockstep/zzlaws_internal_locks_b1.FnPutThenConflictTellsTheWriter", spec := "fnPutThenConflictTellsTheWriter", apart := false }
def FnPutThenConflictTellsTheWriterSaid : Prop := fnPutThenConflictTellsTheWriterRow.holds Try.pinned (OpenSpec.ofChange fnPutThenConflictTellsTheWriterSpec)

/-- ITS FALSE NEIGHBOUR: 'it returns false'. Refute it at one input. -/
def fnPutThenConflictTellsTheWriterWrong : ChangeSpec := { name := "fnPutThenConflictTellsTheWriter", fn := fun _ => fun
  | [d1, d2, d3, d4, d5, d6, d7] => { results := [.lit (.bool false)], args := [d1, d2, d3, d4, d5, d6, d7] }
  | _ => none }
def FnPutThenConflictTellsTheWriterWrongFalsely : Prop := fnPutThenConflictTellsTheWriterRow.holds Try.pinned (OpenSpec.ofChange fnPutThenConflictTellsTheWriterWrong)

/-- 'zzlaws_internal_locks_b1.FnScriptNeverMissesConflict': WHATEVER THE INPUT: true; the input reads as it did. -/
def fnScriptNeverMissesConflictSpec : ChangeSpec := { name := "fnScriptNeverMissesConflict", fn := fun _ => fun
  | [d1, d2, d3, d4, d5, d6] => { results := [.lit (.bool true)], args := [d1, d2, d3, d4, d5, d6] }
  | _ => none }
def fnScriptNeverMissesConflictRow : OpenClaim := { program := "qxb6602885a", sum := "dd5e756e37c97771b40a34cc4fcf1489fbd113d37ef36ea5779aec5170bcf7d1", func := "example.com/lockstep/lockstep/zzlaws_internal_locks_b1.FnScriptNeverMissesConflict", spec := "fnScriptNeverMissesConflict", apart := false }
def FnScriptNeverMissesConflictSaid : Prop := fnScriptNeverMissesConflictRow.holds Try.pinned (OpenSpec.ofChange fnScriptNeverMissesConflictSpec)

/-- ITS FALSE NEIGHBOUR: 'it returns false'. Refute it at one input. -/
def fnScriptNeverMissesConflictWrong : ChangeSpec := { name := "fnScriptNeverMissesConflict", fn := fun _ => fun
  | [d1, d2, d3, d4, d5, d6] => { results := [.lit (.bool false)], args := [d1, d2, d3, d4, d5, d6] }
  | _ => none }
def FnScriptNeverMissesConflictWrongFalsely : Prop := fnScriptNeverMissesConflictRow.holds Try.pinned (OpenSpec.ofChange fnScriptNeverMissesConflictWrong)

end Rows
end Go.Proofs.Qxb6602885a
