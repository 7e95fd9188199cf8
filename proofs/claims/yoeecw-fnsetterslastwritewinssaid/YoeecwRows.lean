/-
  No cell of these rows narrows 'for every input' (looked for: loops, veiled, ifaces, maps, wideKeys, modest, calm, conditions, laid).
  DERIVED. THE GIVEN ROWS OF THIS SEAT. 1 by the template 'for every input the law returns true; each argument reads behind the call as it read before'; 0 by the template 'total and deterministic' (their statements: YoeecwTotals.lean).
  GIVEN WITH THE SEED: the statements are not yours to turn. If you find one false, say at which input.
  Laid BY PROGRAM, IN A SANDBOX (cutbox-rows.mjs): the forced cells as the released guide's own fill.sh prints them over the translation 44e5dd7ef7999d06… (all of the seat's roots in one cut). By AI agents, Wed Nov 11 2026. No macro, syntax, notation, axiom, sorry.
-/
import Derived.Test.YoeecwChecked
import GoSem.Claim
import GoSem.ClaimJoined
import GoSem.ClaimMapViews
import Derived.JoinedTies
import Derived.KernelRfl
namespace Go.Proofs.Yoeecw
/- THE CELL 'sum', in the pinned program and in every row, IS THE sha256 OF THE DUMP (.gsa) THAT YoeecwProg.lean LOADS. Nothing in Lean hashes anything: it is a label: what it is worth is what the hold of that sum in a sandbox is worth. -/
noncomputable def Eecg.pinned : Pinned := { name := "yoeecw", sum := "44e5dd7ef7999d0662b173b13a83e692936d02da4a034fe5d82ecd1363e7f9e1", checked := Eecg.checked }
namespace Rows
def none {H : Type} : Left H := { results := [], args := [] }

/-- 'zzlaws_root_b2.FnSettersLastWriteWins': WHATEVER THE INPUT: true; the input reads as it did. -/
def fnSettersLastWriteWinsSpec : ChangeSpec := { name := "fnSettersLastWriteWins", fn := fun _ => fun
  | [d1, d2, d3, d4] => { results := [.lit (.bool true)], args := [d1, d2, d3, d4] }
  | _ => none }
def fnSettersLastWriteWinsRow : OpenClaim := { program := "yoeecw", sum := "44e5dd7ef7999d0662b173b13a83e692936d02da4a034fe5d82ecd1363e7f9e1", func := "github.com/d5/tengo/v2/zzlaws_root_b2.FnSettersLastWriteWins", spec := "fnSettersLastWriteWins", apart := false }
def FnSettersLastWriteWinsSaid : Prop := fnSettersLastWriteWinsRow.holds Eecg.pinned (OpenSpec.ofChange fnSettersLastWriteWinsSpec)

/-- ITS FALSE NEIGHBOUR: 'it returns false'. Refute it at one input. -/
def fnSettersLastWriteWinsWrong : ChangeSpec := { name := "fnSettersLastWriteWins", fn := fun _ => fun
  | [d1, d2, d3, d4] => { results := [.lit (.bool false)], args := [d1, d2, d3, d4] }
  | _ => none }
def FnSettersLastWriteWinsWrongFalsely : Prop := fnSettersLastWriteWinsRow.holds Eecg.pinned (OpenSpec.ofChange fnSettersLastWriteWinsWrong)

end Rows
end Go.Proofs.Yoeecw
