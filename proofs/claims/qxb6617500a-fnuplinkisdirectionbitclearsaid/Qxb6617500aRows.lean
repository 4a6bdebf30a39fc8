/-
  No cell of these rows narrows 'for every input' (looked for: loops, veiled, ifaces, maps, wideKeys, modest, calm, conditions, laid).
  DERIVED. THE GIVEN ROWS OF THIS SEAT. 1 by the template 'for every input the law returns true; each argument reads behind the call as it read before'; 0 by the template 'total and deterministic' (their statements: Qxb6617500aTotals.lean).
  GIVEN WITH THE SEED: the statements are not yours to turn. If you find one false, say at which input.
  Laid BY PROGRAM, IN A SANDBOX (cutbox-rows.mjs): the forced cells as the released guide's own fill.sh prints them over the translation 56b27ffd58ea0682… (all of the seat's roots in one cut). By AI agents, Wed Nov 11 2026. No macro, syntax, notation, axiom, sorry.
-/
import Derived.Test.Qxb6617500aChecked
import GoSem.Claim
import GoSem.ClaimJoined
import GoSem.ClaimMapViews
import Derived.JoinedTies
import Derived.KernelRfl
namespace Go.Proofs.Qxb6617500a
/- THE CELL 'sum', in the pinned program and in every row, IS THE sha256 OF THE DUMP (.gsa) THAT Qxb6617500aProg.lean LOADS. Nothing in Lean hashes anything: it is a label: what it is worth is what the hold of that sum in a sandbox is worth. -/
noncomputable def Try.pinned : Pinned := { name := "qxb6617500a", sum := "56b27ffd58ea0682bb6a9ab614218bc232ef6601694440eaa8120a808131cc67", checked := Try.checked }
namespace Rows
def none {H : Type} : Left H := { results := [], args := [] }

/-- 'zzlaws_lorawan_b1.FnUplinkIsDirectionBitClear': WHATEVER THE INPUT: true; the input reads as it did. -/
def fnUplinkIsDirectionBitClearSpec : ChangeSpec := { name := "fnUplinkIsDirectionBitClear", fn := fun _ => fun
  | [d] => { results := [.lit (.bool true)], args := [d] }
  | _ => none }
def fnUplinkIsDirectionBitClearRow : OpenClaim := { program := "qxb6617500a", sum := "56b27ffd58ea0682bb6a9ab614218bc232ef6601694440eaa8120a808131cc67", func := "example.com/air-to-apps/air-to-apps/zzlaws_lorawan_b1.FnUplinkIsDirectionBitClear", spec := "fnUplinkIsDirectionBitClear", apart := false }
def FnUplinkIsDirectionBitClearSaid : Prop := fnUplinkIsDirectionBitClearRow.holds Try.pinned (OpenSpec.ofChange fnUplinkIsDirectionBitClearSpec)

/-- ITS FALSE NEIGHBOUR: 'it returns false'. Refute it at one input. -/
def fnUplinkIsDirectionBitClearWrong : ChangeSpec := { name := "fnUplinkIsDirectionBitClear", fn := fun _ => fun
  | [d] => { results := [.lit (.bool false)], args := [d] }
  | _ => none }
def FnUplinkIsDirectionBitClearWrongFalsely : Prop := fnUplinkIsDirectionBitClearRow.holds Try.pinned (OpenSpec.ofChange fnUplinkIsDirectionBitClearWrong)

end Rows
end Go.Proofs.Qxb6617500a
