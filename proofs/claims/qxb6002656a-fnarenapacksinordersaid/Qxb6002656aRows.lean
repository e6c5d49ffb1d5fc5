/-
  No cell of these rows narrows 'for every input' (looked for: loops, veiled, ifaces, maps, wideKeys, modest, calm, conditions, laid).
  DERIVED. THE GIVEN ROWS OF THIS SEAT. 8 by the template 'for every input the law returns true; each argument reads behind the call as it read before'; 0 by the template 'total and deterministic' (their statements: Qxb6002656aTotals.lean).
  GIVEN WITH THE SEED: the statements are not yours to turn. If you find one false, say at which input.
  Laid BY PROGRAM, IN A SANDBOX (cutbox-rows.mjs): the forced cells as the released guide's own fill.sh prints them over the translation 91ff63e0a8608bbf… (all of the seat's roots in one cut). By AI agents, Wed Nov 11 2026. No macro, syntax, notation, axiom, sorry.
-/
import Derived.Test.Qxb6002656aChecked
import GoSem.Claim
import GoSem.ClaimJoined
import GoSem.ClaimMapViews
import Derived.JoinedTies
import Derived.KernelRfl
namespace Go.Proofs.Qxb6002656a
/- THE CELL 'sum', in the pinned program and in every row, IS THE sha256 OF THE DUMP (.gsa) THAT Qxb6002656aProg.lean LOADS. Nothing in Lean hashes anything: it is a label: what it is worth is what the hold of that sum in a sandbox is worth. -/
noncomputable def Try.pinned : Pinned := { name := "qxb6002656a", sum := "91ff63e0a8608bbf06b13b2aed557f1715e64504bcf94046031b51763aaf4cb7", checked := Try.checked }
namespace Rows
def none {H : Type} : Left H := { results := [], args := [] }

/-- 'zzlaws_checker_b1.FnBoundsCharacterised': WHATEVER THE INPUT: true; the input reads as it did. -/
def fnBoundsCharacterisedSpec : ChangeSpec := { name := "fnBoundsCharacterised", fn := fun _ => fun
  | [d1, d2] => { results := [.lit (.bool true)], args := [d1, d2] }
  | _ => none }
def fnBoundsCharacterisedRow : OpenClaim := { program := "qxb6002656a", sum := "91ff63e0a8608bbf06b13b2aed557f1715e64504bcf94046031b51763aaf4cb7", func := "example.com/eventide/eventide/zzlaws_checker_b1.FnBoundsCharacterised", spec := "fnBoundsCharacterised", apart := false }
def FnBoundsCharacterisedSaid : Prop := fnBoundsCharacterisedRow.holds Try.pinned (OpenSpec.ofChange fnBoundsCharacterisedSpec)

/-- ITS FALSE NEIGHBOUR: 'it returns false'. Refute it at one input. -/
def fnBoundsCharacterisedWrong : ChangeSpec := { name := "fnBoundsCharacterised", fn := fun _ => fun
  | [d1, d2] => { results := [.lit (.bool false)], args := [d1, d2] }
  | _ => none }
def FnBoundsCharacterisedWrongFalsely : Prop := fnBoundsCharacterisedRow.holds Try.pinned (OpenSpec.ofChange fnBoundsCharacterisedWrong)

/-- 'zzlaws_checker_b1.FnBoundsIgnoresMaskedBits': WHATEVER THE INPUT: true; the input reads as it did. -/
def fnBoundsIgnoresMaskedBitsSpec : ChangeSpec := { name := "fnBoundsIgnoresMaskedBits", fn := fun _ => fun
  | [d1, d2, d3] => { results := [.lit (.bool true)], args := [d1, d2, d3] }
  | _ => none }
def fnBoundsIgnoresMaskedBitsRow : OpenClaim := { program := "qxb6002656a", sum := "91ff63e0a8608bbf06b13b2aed557f1715e64504bcf94046031b51763aaf4cb7", func := "example.com/eventide/eventide/zzlaws_checker_b1.FnBoundsIgnoresMaskedBits", spec := "fnBoundsIgnoresMaskedBits", apart := false }
def FnBoundsIgnoresMaskedBitsSaid : Prop := fnBoundsIgnoresMaskedBitsRow.holds Try.pinned (OpenSpec.ofChange fnBoundsIgnoresMaskedBitsSpec)

/-- ITS FALSE NEIGHBOUR: 'it returns false'. Refute it at one input. -/
def fnBoundsIgnoresMaskedBitsWrong : ChangeSpec := { name := "fnBoundsIgnoresMaskedBits", fn := fun _ => fun
  | [d1, d2, d3] => { results := [.lit (.bool false)], args := [d1, d2, d3] }
  | _ => none }
def FnBoundsIgnoresMaskedBitsWrongFalsely : Prop := fnBoundsIgnoresMaskedBitsRow.holds Try.pinned (OpenSpec.ofChange fnBoundsIgnoresMaskedBitsWrong)

/-- 'zzlaws_checker_b1.FnBoundsNilMaskIsZeroMask': WHATEVER THE INPUT: true; the input reads as it did. -/
def fnBoundsNilMaskIsZeroMaskSpec : ChangeSpec := { name := "fnBoundsNilMaskIsZeroMask", fn := fun _ => fun
  | [d] => { results := [.lit (.bool true)], args := [d] }
  | _ => none }
def fnBoundsNilMaskIsZeroMaskRow : OpenClaim := { program := "qxb6002656a", sum := "91ff63e0a8608bbf06b13b2aed557f1715e64504bcf94046031b51763aaf4cb7", func := "example.com/eventide/eventide/zzlaws_checker_b1.FnBoundsNilMaskIsZeroMask", spec := "fnBoundsNilMaskIsZeroMask", apart := false }
def FnBoundsNilMaskIsZeroMaskSaid : Prop := fnBoundsNilMaskIsZeroMaskRow.holds Try.pinned (OpenSpec.ofChange fnBoundsNilMaskIsZeroMaskSpec)

/-- ITS FALSE NEIGHBOUR: 'it returns false'. Refute it at one input. -/
def fnBoundsNilMaskIsZeroMaskWrong : ChangeSpec := { name := "fnBoundsNilMaskIsZeroMask", fn := fun _ => fun
  | [d] => { results := [.lit (.bool false)], args := [d] }
  | _ => none }
def FnBoundsNilMaskIsZeroMaskWrongFalsely : Prop := fnBoundsNilMaskIsZeroMaskRow.holds Try.pinned (OpenSpec.ofChange fnBoundsNilMaskIsZeroMaskWrong)

/-- 'zzlaws_checker_b1.FnArenaKeepsEveryWord': WHATEVER THE INPUT: true; the input reads as it did. -/
def fnArenaKeepsEveryWordSpec : ChangeSpec := { name := "fnArenaKeepsEveryWord", fn := fun _ => fun
  | [d] => { results := [.lit (.bool true)], args := [d] }
  | _ => none }
def fnArenaKeepsEveryWordRow : OpenClaim := { program := "qxb6002656a", sum := "91ff63e0a8608bbf06b13b2aed557f1715e64504bcf94046031b51763aaf4cb7", func := "example.com/eventide/eventide/zzlaws_checker_b1.FnArenaKeepsEveryWord", spec := "fnArenaKeepsEveryWord", apart := false }
def FnArenaKeepsEveryWordSaid : Prop := fnArenaKeepsEveryWordRow.holds Try.pinned (OpenSpec.ofChange fnArenaKeepsEveryWordSpec)

/-- ITS FALSE NEIGHBOUR: 'it returns false'. Refute it at one input. -/
def fnArenaKeepsEveryWordWrong : ChangeSpec := { name := "fnArenaKeepsEveryWord", fn := fun _ => fun
  | [d] => { results := [.lit (.bool false)], args := [d] }
  | _ => none }
def FnArenaKeepsEveryWordWrongFalsely : Prop := fnArenaKeepsEveryWordRow.holds Try.pinned (OpenSpec.ofChange fnArenaKeepsEveryWordWrong)

/-- 'zzlaws_checker_b1.FnArenaPacksInOrder': WHATEVER THE INPUT: true; the input reads as it did. -/
def fnArenaPacksInOrderSpec : ChangeSpec := { name := "fnArenaPacksInOrder", fn := fun _ => fun
  | [d] => { results := [.lit (.bool true)], args := [d] }
  | _ => none }
def fnArenaPacksInOrderRow : OpenClaim := { program := "qxb6002656a", sum := "91ff63e0a8608bbf06b13b2aed557f1715e64504bcf94046031b51763aaf4cb7", func := "example.com/eventide/eventide/zzlaws_checker_b1.FnArenaPacksInOrder", spec := "fnArenaPacksInOrder", apart := false }
def FnArenaPacksInOrderSaid : Prop := fnArenaPacksInOrderRow.holds Try.pinned (OpenSpec.ofChange fnArenaPacksInOrderSpec)

/-- ITS FALSE NEIGHBOUR: 'it returns false'. Refute it at one input. -/
def fnArenaPacksInOrderWrong : ChangeSpec := { name := "fnArenaPacksInOrder", fn := fun _ => fun
  | [d] => { results := [.lit (.bool false)], args := [d] }
  | _ => none }
def FnArenaPacksInOrderWrongFalsely : Prop := fnArenaPacksInOrderRow.holds Try.pinned (OpenSpec.ofChange fnArenaPacksInOrderWrong)

/-- 'zzlaws_checker_b1.FnNewEnabledBucketsBySees': WHATEVER THE INPUT: true; the input reads as it did. -/
def fnNewEnabledBucketsBySeesSpec : ChangeSpec := { name := "fnNewEnabledBucketsBySees", fn := fun _ => fun
  | [d1, d2, d3] => { results := [.lit (.bool true)], args := [d1, d2, d3] }
  | _ => none }
def fnNewEnabledBucketsBySeesRow : OpenClaim := { program := "qxb6002656a", sum := "91ff63e0a8608bbf06b13b2aed557f1715e64504bcf94046031b51763aaf4cb7", func := "example.com/eventide/eventide/zzlaws_checker_b1.FnNewEnabledBucketsBySees", spec := "fnNewEnabledBucketsBySees", apart := false }
def FnNewEnabledBucketsBySeesSaid : Prop := fnNewEnabledBucketsBySeesRow.holds Try.pinned (OpenSpec.ofChange fnNewEnabledBucketsBySeesSpec)

/-- ITS FALSE NEIGHBOUR: 'it returns false'. Refute it at one input. -/
def fnNewEnabledBucketsBySeesWrong : ChangeSpec := { name := "fnNewEnabledBucketsBySees", fn := fun _ => fun
  | [d1, d2, d3] => { results := [.lit (.bool false)], args := [d1, d2, d3] }
  | _ => none }
def FnNewEnabledBucketsBySeesWrongFalsely : Prop := fnNewEnabledBucketsBySeesRow.holds Try.pinned (OpenSpec.ofChange fnNewEnabledBucketsBySeesWrong)

/-- 'zzlaws_checker_b1.FnNewEnabledAppendOne': WHATEVER THE INPUT: true; the input reads as it did. -/
def fnNewEnabledAppendOneSpec : ChangeSpec := { name := "fnNewEnabledAppendOne", fn := fun _ => fun
  | [d1, d2, d3, d4, d5] => { results := [.lit (.bool true)], args := [d1, d2, d3, d4, d5] }
  | _ => none }
def fnNewEnabledAppendOneRow : OpenClaim := { program := "qxb6002656a", sum := "91ff63e0a8608bbf06b13b2aed557f1715e64504bcf94046031b51763aaf4cb7", func := "example.com/eventide/eventide/zzlaws_checker_b1.FnNewEnabledAppendOne", spec := "fnNewEnabledAppendOne", apart := false }
def FnNewEnabledAppendOneSaid : Prop := fnNewEnabledAppendOneRow.holds Try.pinned (OpenSpec.ofChange fnNewEnabledAppendOneSpec)

/-- ITS FALSE NEIGHBOUR: 'it returns false'. Refute it at one input. -/
def fnNewEnabledAppendOneWrong : ChangeSpec := { name := "fnNewEnabledAppendOne", fn := fun _ => fun
  | [d1, d2, d3, d4, d5] => { results := [.lit (.bool false)], args := [d1, d2, d3, d4, d5] }
  | _ => none }
def FnNewEnabledAppendOneWrongFalsely : Prop := fnNewEnabledAppendOneRow.holds Try.pinned (OpenSpec.ofChange fnNewEnabledAppendOneWrong)

/-- 'zzlaws_checker_b1.FnNewEnabledMoreMost': WHATEVER THE INPUT: true; the input reads as it did. -/
def fnNewEnabledMoreMostSpec : ChangeSpec := { name := "fnNewEnabledMoreMost", fn := fun _ => fun
  | [d1, d2, d3] => { results := [.lit (.bool true)], args := [d1, d2, d3] }
  | _ => none }
def fnNewEnabledMoreMostRow : OpenClaim := { program := "qxb6002656a", sum := "91ff63e0a8608bbf06b13b2aed557f1715e64504bcf94046031b51763aaf4cb7", func := "example.com/eventide/eventide/zzlaws_checker_b1.FnNewEnabledMoreMost", spec := "fnNewEnabledMoreMost", apart := false }
def FnNewEnabledMoreMostSaid : Prop := fnNewEnabledMoreMostRow.holds Try.pinned (OpenSpec.ofChange fnNewEnabledMoreMostSpec)

/-- ITS FALSE NEIGHBOUR: 'it returns false'. Refute it at one input. -/
def fnNewEnabledMoreMostWrong : ChangeSpec := { name := "fnNewEnabledMoreMost", fn := fun _ => fun
  | [d1, d2, d3] => { results := [.lit (.bool false)], args := [d1, d2, d3] }
  | _ => none }
def FnNewEnabledMoreMostWrongFalsely : Prop := fnNewEnabledMoreMostRow.holds Try.pinned (OpenSpec.ofChange fnNewEnabledMoreMostWrong)

end Rows
end Go.Proofs.Qxb6002656a
