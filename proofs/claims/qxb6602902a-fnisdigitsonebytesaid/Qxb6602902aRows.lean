/-
  No cell of these rows narrows 'for every input' (looked for: loops, veiled, ifaces, maps, wideKeys, modest, calm, conditions, laid).
  DERIVED. THE GIVEN ROWS OF THIS SEAT. 4 by the template 'for every input the law returns true; each argument reads behind the call as it read before'; 0 by the template 'total and deterministic' (their statements: Qxb6602902aTotals.lean).
  GIVEN WITH THE SEED: the statements are not yours to turn. If you find one false, say at which input.
  Laid BY PROGRAM, IN A SANDBOX (cutbox-rows.mjs): the forced cells as the released guide's own fill.sh prints them over the translation 29d04b6b5fefceaa… (all of the seat's roots in one cut). By AI agents, Wed Nov 11 2026. No macro, syntax, notation, axiom, sorry.
-/
import Derived.Test.Qxb6602902aChecked
import GoSem.Claim
import GoSem.ClaimJoined
import GoSem.ClaimMapViews
import Derived.JoinedTies
import Derived.KernelRfl
namespace Go.Proofs.Qxb6602902a
/- THE CELL 'sum', in the pinned program and in every row, IS THE sha256 OF THE DUMP (.gsa) THAT Qxb6602902aProg.lean LOADS. Nothing in Lean hashes anything: it is a label: what it is worth is what the hold of that sum in a sandbox is worth. -/
noncomputable def Try.pinned : Pinned := { name := "qxb6602902a", sum := "29d04b6b5fefceaa207e821858fdf66a5c80296e275f35b8bef2056a164952bf", checked := Try.checked }
namespace Rows
def none {H : Type} : Left H := { results := [], args := [] }

/-- 'zzlaws_pkg_quantity_b1.FnIsDigitsOneByte': WHATEVER THE INPUT: true; the input reads as it did. -/
def fnIsDigitsOneByteSpec : ChangeSpec := { name := "fnIsDigitsOneByte", fn := fun _ => fun
  | [d] => { results := [.lit (.bool true)], args := [d] }
  | _ => none }
def fnIsDigitsOneByteRow : OpenClaim := { program := "qxb6602902a", sum := "29d04b6b5fefceaa207e821858fdf66a5c80296e275f35b8bef2056a164952bf", func := "example.com/zhaomu/zhaomu/zzlaws_pkg_quantity_b1.FnIsDigitsOneByte", spec := "fnIsDigitsOneByte", apart := false }
def FnIsDigitsOneByteSaid : Prop := fnIsDigitsOneByteRow.holds Try.pinned (OpenSpec.ofChange fnIsDigitsOneByteSpec)

/-- ITS FALSE NEIGHBOUR: 'it returns false'. Refute it at one input. -/
def fnIsDigitsOneByteWrong : ChangeSpec := { name := "fnIsDigitsOneByte", fn := fun _ => fun
  | [d] => { results := [.lit (.bool false)], args := [d] }
  | _ => none }
def FnIsDigitsOneByteWrongFalsely : Prop := fnIsDigitsOneByteRow.holds Try.pinned (OpenSpec.ofChange fnIsDigitsOneByteWrong)

/-- 'zzlaws_pkg_quantity_b1.FnIsDigitsOfConcatenation': WHATEVER THE INPUT: true; the input reads as it did. -/
def fnIsDigitsOfConcatenationSpec : ChangeSpec := { name := "fnIsDigitsOfConcatenation", fn := fun _ => fun
  | [d1, d2] => { results := [.lit (.bool true)], args := [d1, d2] }
  | _ => none }
def fnIsDigitsOfConcatenationRow : OpenClaim := { program := "qxb6602902a", sum := "29d04b6b5fefceaa207e821858fdf66a5c80296e275f35b8bef2056a164952bf", func := "example.com/zhaomu/zhaomu/zzlaws_pkg_quantity_b1.FnIsDigitsOfConcatenation", spec := "fnIsDigitsOfConcatenation", apart := false }
def FnIsDigitsOfConcatenationSaid : Prop := fnIsDigitsOfConcatenationRow.holds Try.pinned (OpenSpec.ofChange fnIsDigitsOfConcatenationSpec)

/-- ITS FALSE NEIGHBOUR: 'it returns false'. Refute it at one input. -/
def fnIsDigitsOfConcatenationWrong : ChangeSpec := { name := "fnIsDigitsOfConcatenation", fn := fun _ => fun
  | [d1, d2] => { results := [.lit (.bool false)], args := [d1, d2] }
  | _ => none }
def FnIsDigitsOfConcatenationWrongFalsely : Prop := fnIsDigitsOfConcatenationRow.holds Try.pinned (OpenSpec.ofChange fnIsDigitsOfConcatenationWrong)

/-- 'zzlaws_pkg_quantity_b1.FnIsPlainDecimalMatchesAutomaton': WHATEVER THE INPUT: true; the input reads as it did. -/
def fnIsPlainDecimalMatchesAutomatonSpec : ChangeSpec := { name := "fnIsPlainDecimalMatchesAutomaton", fn := fun _ => fun
  | [d] => { results := [.lit (.bool true)], args := [d] }
  | _ => none }
def fnIsPlainDecimalMatchesAutomatonRow : OpenClaim := { program := "qxb6602902a", sum := "29d04b6b5fefceaa207e821858fdf66a5c80296e275f35b8bef2056a164952bf", func := "example.com/zhaomu/zhaomu/zzlaws_pkg_quantity_b1.FnIsPlainDecimalMatchesAutomaton", spec := "fnIsPlainDecimalMatchesAutomaton", inPlace := ["internal/bytealg.IndexByteString", "internal/bytealg.IndexString"], named := ["internal/bytealg.MaxLen"], apart := false }
def FnIsPlainDecimalMatchesAutomatonSaid : Prop := fnIsPlainDecimalMatchesAutomatonRow.holds Try.pinned (OpenSpec.ofChange fnIsPlainDecimalMatchesAutomatonSpec)

/-- ITS FALSE NEIGHBOUR: 'it returns false'. Refute it at one input. -/
def fnIsPlainDecimalMatchesAutomatonWrong : ChangeSpec := { name := "fnIsPlainDecimalMatchesAutomaton", fn := fun _ => fun
  | [d] => { results := [.lit (.bool false)], args := [d] }
  | _ => none }
def FnIsPlainDecimalMatchesAutomatonWrongFalsely : Prop := fnIsPlainDecimalMatchesAutomatonRow.holds Try.pinned (OpenSpec.ofChange fnIsPlainDecimalMatchesAutomatonWrong)

/-- 'zzlaws_pkg_quantity_b1.FnIsPlainDecimalMinusPrefix': WHATEVER THE INPUT: true; the input reads as it did. -/
def fnIsPlainDecimalMinusPrefixSpec : ChangeSpec := { name := "fnIsPlainDecimalMinusPrefix", fn := fun _ => fun
  | [d] => { results := [.lit (.bool true)], args := [d] }
  | _ => none }
def fnIsPlainDecimalMinusPrefixRow : OpenClaim := { program := "qxb6602902a", sum := "29d04b6b5fefceaa207e821858fdf66a5c80296e275f35b8bef2056a164952bf", func := "example.com/zhaomu/zhaomu/zzlaws_pkg_quantity_b1.FnIsPlainDecimalMinusPrefix", spec := "fnIsPlainDecimalMinusPrefix", inPlace := ["internal/bytealg.IndexByteString", "internal/bytealg.IndexString"], named := ["internal/bytealg.MaxLen"], apart := false }
def FnIsPlainDecimalMinusPrefixSaid : Prop := fnIsPlainDecimalMinusPrefixRow.holds Try.pinned (OpenSpec.ofChange fnIsPlainDecimalMinusPrefixSpec)

/-- ITS FALSE NEIGHBOUR: 'it returns false'. Refute it at one input. -/
def fnIsPlainDecimalMinusPrefixWrong : ChangeSpec := { name := "fnIsPlainDecimalMinusPrefix", fn := fun _ => fun
  | [d] => { results := [.lit (.bool false)], args := [d] }
  | _ => none }
def FnIsPlainDecimalMinusPrefixWrongFalsely : Prop := fnIsPlainDecimalMinusPrefixRow.holds Try.pinned (OpenSpec.ofChange fnIsPlainDecimalMinusPrefixWrong)

end Rows
end Go.Proofs.Qxb6602902a
