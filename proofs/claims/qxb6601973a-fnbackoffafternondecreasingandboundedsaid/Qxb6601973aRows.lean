/-
  No cell of these rows narrows 'for every input' (looked for: loops, veiled, ifaces, maps, wideKeys, modest, calm, conditions, laid).
  DERIVED. THE GIVEN ROWS OF THIS SEAT. 1 by the template 'for every input the law returns true; each argument reads behind the call as it read before'; 0 by the template 'total and deterministic' (their statements: Qxb6601973aTotals.lean).
  GIVEN WITH THE SEED: the statements are not yours to turn. If you find one false, say at which input.
  Laid BY PROGRAM, IN A SANDBOX (cutbox-rows.mjs): the forced cells as the released guide's own fill.sh prints them over the translation 8d8a0df8cdf92293… (all of the seat's roots in one cut). By AI agents, Wed Nov 11 2026. No macro, syntax, notation, axiom, sorry.
-/
import Derived.Test.Qxb6601973aChecked
import GoSem.Claim
import GoSem.ClaimJoined
import GoSem.ClaimMapViews
import Derived.JoinedTies
import Derived.KernelRfl
namespace Go.Proofs.Qxb6601973a
/- THE CELL 'sum', in the pinned program and in every row, IS THE sha256 OF THE DUMP (.gsa) THAT Qxb6601973aProg.lean LOADS. Nothing in Lean hashes anything: it is a label: what it is worth is what the hold of that sum in a sandbox is worth. -/
noncomputable def Try.pinned : Pinned := { name := "qxb6601973a", sum := "8d8a0df8cdf922932bbf9050a9d134b9102c0776e6509fd64ec7a21bd9a03dd3", checked := Try.checked }
namespace Rows
def none {H : Type} : Left H := { results := [], args := [] }

/-- 'zzlaws_internal_store_b1.FnBackoffAfterNondecreasingAndBounded': WHATEVER THE INPUT: true; the input reads as it did. -/
def fnBackoffAfterNondecreasingAndBoundedSpec : ChangeSpec := { name := "fnBackoffAfterNondecreasingAndBounded", fn := fun _ => fun
  | [d1, d2, d3, d4, d5] => { results := [.lit (.bool true)], args := [d1, d2, d3, d4, d5] }
  | _ => none }
def fnBackoffAfterNondecreasingAndBoundedRow : OpenClaim := { program := "qxb6601973a", sum := "8d8a0df8cdf922932bbf9050a9d134b9102c0776e6509fd64ec7a21bd9a03dd3", func := "example.com/visibility/visibility/zzlaws_internal_store_b1.FnBackoffAfterNondecreasingAndBounded", spec := "fnBackoffAfterNondecreasingAndBounded", apart := false }
def FnBackoffAfterNondecreasingAndBoundedSaid : Prop := fnBackoffAfterNondecreasingAndBoundedRow.holds Try.pinned (OpenSpec.ofChange fnBackoffAfterNondecreasingAndBoundedSpec)

/-- ITS FALSE NEIGHBOUR: 'it returns false'. Refute it at one input. -/
def fnBackoffAfterNondecreasingAndBoundedWrong : ChangeSpec := { name := "fnBackoffAfterNondecreasingAndBounded", fn := fun _ => fun
  | [d1, d2, d3, d4, d5] => { results := [.lit (.bool false)], args := [d1, d2, d3, d4, d5] }
  | _ => none }
def FnBackoffAfterNondecreasingAndBoundedWrongFalsely : Prop := fnBackoffAfterNondecreasingAndBoundedRow.holds Try.pinned (OpenSpec.ofChange fnBackoffAfterNondecreasingAndBoundedWrong)

end Rows
end Go.Proofs.Qxb6601973a
