/-
  No cell of these rows narrows 'for every input' (looked for: loops, veiled, ifaces, maps, wideKeys, modest, calm, conditions, laid).
  DERIVED. THE GIVEN ROWS OF THIS SEAT. 2 by the template 'for every input the law returns true; each argument reads behind the call as it read before'; 0 by the template 'total and deterministic' (their statements: Qxb6605635aTotals.lean).
  GIVEN WITH THE SEED: the statements are not yours to turn. If you find one false, say at which input.
  Laid BY PROGRAM, IN A SANDBOX (cutbox-rows.mjs): the forced cells as the released guide's own fill.sh prints them over the translation e26854b803f77011… (all of the seat's roots in one cut). By AI agents, Wed Nov 11 2026. No macro, syntax, notation, axiom, sorry.
-/
import Derived.Test.Qxb6605635aChecked
import GoSem.Claim
import GoSem.ClaimJoined
import GoSem.ClaimMapViews
import Derived.JoinedTies
import Derived.KernelRfl
namespace Go.Proofs.Qxb6605635a
/- THE CELL 'sum', in the pinned program and in every row, IS THE sha256 OF THE DUMP (.gsa) THAT Qxb6605635aProg.lean LOADS. Nothing in Lean hashes anything: it is a label: what it is worth is what the hold of that sum in a sandbox is worth. -/
noncomputable def Try.pinned : Pinned := { name := "qxb6605635a", sum := "e26854b803f770117f4b339403f049c8ac0bdf5e97900f63413a3de5efef0aa3", checked := Try.checked }
namespace Rows
def none {H : Type} : Left H := { results := [], args := [] }

/-- 'zzlaws_resp_b1.FnRawAppendsAndKeepsNoAlias': WHATEVER THE INPUT: true; the input reads as it did. -/
def fnRawAppendsAndKeepsNoAliasSpec : ChangeSpec := { name := "fnRawAppendsAndKeepsNoAlias", fn := fun _ => fun
  | [d1, d2] => { results := [.lit (.bool true)], args := [d1, d2] }
  | _ => none }
def fnRawAppendsAndKeepsNoAliasRow : OpenClaim := { program := "qxb6605635a", sum := "e26854b803f770117f4b339403f049c8ac0bdf5e97900f63413a3de5efef0aa3", func := "example.com/geoquorum/geoquorum/zzlaws_resp_b1.FnRawAppendsAndKeepsNoAlias", spec := "fnRawAppendsAndKeepsNoAlias", apart := false }
def FnRawAppendsAndKeepsNoAliasSaid : Prop := fnRawAppendsAndKeepsNoAliasRow.holds Try.pinned (OpenSpec.ofChange fnRawAppendsAndKeepsNoAliasSpec)

/-- ITS FALSE NEIGHBOUR: 'it returns false'. Refute it at one input. -/
def fnRawAppendsAndKeepsNoAliasWrong : ChangeSpec := { name := "fnRawAppendsAndKeepsNoAlias", fn := fun _ => fun
  | [d1, d2] => { results := [.lit (.bool false)], args := [d1, d2] }
  | _ => none }
def FnRawAppendsAndKeepsNoAliasWrongFalsely : Prop := fnRawAppendsAndKeepsNoAliasRow.holds Try.pinned (OpenSpec.ofChange fnRawAppendsAndKeepsNoAliasWrong)

/-- 'zzlaws_resp_b1.FnTruncateUndoesRaw': WHATEVER THE INPUT: true; the input reads as it did. -/
def fnTruncateUndoesRawSpec : ChangeSpec := { name := "fnTruncateUndoesRaw", fn := fun _ => fun
  | [d1, d2, d3, d4] => { results := [.lit (.bool true)], args := [d1, d2, d3, d4] }
  | _ => none }
def fnTruncateUndoesRawRow : OpenClaim := { program := "qxb6605635a", sum := "e26854b803f770117f4b339403f049c8ac0bdf5e97900f63413a3de5efef0aa3", func := "example.com/geoquorum/geoquorum/zzlaws_resp_b1.FnTruncateUndoesRaw", spec := "fnTruncateUndoesRaw", apart := false }
def FnTruncateUndoesRawSaid : Prop := fnTruncateUndoesRawRow.holds Try.pinned (OpenSpec.ofChange fnTruncateUndoesRawSpec)

/-- ITS FALSE NEIGHBOUR: 'it returns false'. Refute it at one input. -/
def fnTruncateUndoesRawWrong : ChangeSpec := { name := "fnTruncateUndoesRaw", fn := fun _ => fun
  | [d1, d2, d3, d4] => { results := [.lit (.bool false)], args := [d1, d2, d3, d4] }
  | _ => none }
def FnTruncateUndoesRawWrongFalsely : Prop := fnTruncateUndoesRawRow.holds Try.pinned (OpenSpec.ofChange fnTruncateUndoesRawWrong)

end Rows
end Go.Proofs.Qxb6605635a
