/-
  No cell of these rows narrows 'for every input' (looked for: loops, veiled, ifaces, maps, wideKeys, modest, calm, conditions, laid).
  DERIVED. THE GIVEN ROWS OF THIS SEAT. 1 by the template 'for every input the law returns true; each argument reads behind the call as it read before'; 0 by the template 'total and deterministic' (their statements: Qxb6617522aTotals.lean).
  GIVEN WITH THE SEED: the statements are not yours to turn. If you find one false, say at which input.
  Laid BY PROGRAM, IN A SANDBOX (cutbox-rows.mjs): the forced cells as the released guide's own fill.sh prints them over the translation e3567e997ce5cfa8… (all of the seat's roots in one cut). By AI agents, Wed Nov 11 2026. No macro, syntax, notation, axiom, sorry.
-/
import Derived.Test.Qxb6617522aChecked
import GoSem.Claim
import GoSem.ClaimJoined
import GoSem.ClaimMapViews
import Derived.JoinedTies
import Derived.KernelRfl
namespace Go.Proofs.Qxb6617522a
/- THE CELL 'sum', in the pinned program and in every row, IS THE sha256 OF THE DUMP (.gsa) THAT Qxb6617522aProg.lean LOADS. Nothing in Lean hashes anything: it is a label: what it is worth is what the hold of that sum in a sandbox is worth. -/
noncomputable def Try.pinned : Pinned := { name := "qxb6617522a", sum := "e3567e997ce5cfa8fb9775a79f4857ac061f781131078da40c89b215e3445623", checked := Try.checked }
namespace Rows
def none {H : Type} : Left H := { results := [], args := [] }

/-- 'zzlaws_address_b1.FnScriptIsFreshBuffer': WHATEVER THE INPUT: true; the input reads as it did. -/
def fnScriptIsFreshBufferSpec : ChangeSpec := { name := "fnScriptIsFreshBuffer", fn := fun _ => fun
  | [d1, d2, d3] => { results := [.lit (.bool true)], args := [d1, d2, d3] }
  | _ => none }
def fnScriptIsFreshBufferRow : OpenClaim := { program := "qxb6617522a", sum := "e3567e997ce5cfa8fb9775a79f4857ac061f781131078da40c89b215e3445623", func := "example.com/guthaben/guthaben/zzlaws_address_b1.FnScriptIsFreshBuffer", spec := "fnScriptIsFreshBuffer", apart := false }
def FnScriptIsFreshBufferSaid : Prop := fnScriptIsFreshBufferRow.holds Try.pinned (OpenSpec.ofChange fnScriptIsFreshBufferSpec)

/-- ITS FALSE NEIGHBOUR: 'it returns false'. Refute it at one input. -/
def fnScriptIsFreshBufferWrong : ChangeSpec := { name := "fnScriptIsFreshBuffer", fn := fun _ => fun
  | [d1, d2, d3] => { results := [.lit (.bool false)], args := [d1, d2, d3] }
  | _ => none }
def FnScriptIsFreshBufferWrongFalsely : Prop := fnScriptIsFreshBufferRow.holds Try.pinned (OpenSpec.ofChange fnScriptIsFreshBufferWrong)

end Rows
end Go.Proofs.Qxb6617522a
