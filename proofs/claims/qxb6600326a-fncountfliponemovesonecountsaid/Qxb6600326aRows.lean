/-
  No cell of these rows narrows 'for every input' (looked for: loops, veiled, ifaces, maps, wideKeys, modest, calm, conditions, laid).
  DERIVED. THE GIVEN ROWS OF THIS SEAT. 2 by the template 'for every input the law returns true; each argument reads behind the call as it read before'; 0 by the template 'total and deterministic' (their statements: Qxb6600326aTotals.lean).
  GIVEN WITH THE SEED: the statements are not yours to turn. If you find one false, say at which input.
  Laid BY PROGRAM, IN A SANDBOX (cutbox-rows.mjs): the forced cells as the released guide's own fill.sh prints them over the translation 10961e42bb6aa886… (all of the seat's roots in one cut). By AI agents, Wed Nov 11 2026. No macro, syntax, notation, axiom, sorry.
-/
import Derived.Test.Qxb6600326aChecked
import GoSem.Claim
import GoSem.ClaimJoined
import GoSem.ClaimMapViews
import Derived.JoinedTies
import Derived.KernelRfl
namespace Go.Proofs.Qxb6600326a
/- THE CELL 'sum', in the pinned program and in every row, IS THE sha256 OF THE DUMP (.gsa) THAT Qxb6600326aProg.lean LOADS. Nothing in Lean hashes anything: it is a label: what it is worth is what the hold of that sum in a sandbox is worth. -/
noncomputable def Try.pinned : Pinned := { name := "qxb6600326a", sum := "10961e42bb6aa8861a9075f4411841d51517458a26cce4d091caef8ade2f1515", checked := Try.checked }
namespace Rows
def none {H : Type} : Left H := { results := [], args := [] }

/-- 'zzlaws_internal_conffile_b1.FnCountAddsOverJoinAndIgnoresOrder': WHATEVER THE INPUT: true; the input reads as it did. -/
def fnCountAddsOverJoinAndIgnoresOrderSpec : ChangeSpec := { name := "fnCountAddsOverJoinAndIgnoresOrder", fn := fun _ => fun
  | [d1, d2] => { results := [.lit (.bool true)], args := [d1, d2] }
  | _ => none }
def fnCountAddsOverJoinAndIgnoresOrderRow : OpenClaim := { program := "qxb6600326a", sum := "10961e42bb6aa8861a9075f4411841d51517458a26cce4d091caef8ade2f1515", func := "example.com/tarmac/tarmac/zzlaws_internal_conffile_b1.FnCountAddsOverJoinAndIgnoresOrder", spec := "fnCountAddsOverJoinAndIgnoresOrder", apart := false }
def FnCountAddsOverJoinAndIgnoresOrderSaid : Prop := fnCountAddsOverJoinAndIgnoresOrderRow.holds Try.pinned (OpenSpec.ofChange fnCountAddsOverJoinAndIgnoresOrderSpec)

/-- ITS FALSE NEIGHBOUR: 'it returns false'. Refute it at one input. -/
def fnCountAddsOverJoinAndIgnoresOrderWrong : ChangeSpec := { name := "fnCountAddsOverJoinAndIgnoresOrder", fn := fun _ => fun
  | [d1, d2] => { results := [.lit (.bool false)], args := [d1, d2] }
  | _ => none }
def FnCountAddsOverJoinAndIgnoresOrderWrongFalsely : Prop := fnCountAddsOverJoinAndIgnoresOrderRow.holds Try.pinned (OpenSpec.ofChange fnCountAddsOverJoinAndIgnoresOrderWrong)

/-- 'zzlaws_internal_conffile_b1.FnCountFlipOneMovesOneCount': WHATEVER THE INPUT: true; the input reads as it did. -/
def fnCountFlipOneMovesOneCountSpec : ChangeSpec := { name := "fnCountFlipOneMovesOneCount", fn := fun _ => fun
  | [d1, d2] => { results := [.lit (.bool true)], args := [d1, d2] }
  | _ => none }
def fnCountFlipOneMovesOneCountRow : OpenClaim := { program := "qxb6600326a", sum := "10961e42bb6aa8861a9075f4411841d51517458a26cce4d091caef8ade2f1515", func := "example.com/tarmac/tarmac/zzlaws_internal_conffile_b1.FnCountFlipOneMovesOneCount", spec := "fnCountFlipOneMovesOneCount", apart := false }
def FnCountFlipOneMovesOneCountSaid : Prop := fnCountFlipOneMovesOneCountRow.holds Try.pinned (OpenSpec.ofChange fnCountFlipOneMovesOneCountSpec)

/-- ITS FALSE NEIGHBOUR: 'it returns false'. Refute it at one input. -/
def fnCountFlipOneMovesOneCountWrong : ChangeSpec := { name := "fnCountFlipOneMovesOneCount", fn := fun _ => fun
  | [d1, d2] => { results := [.lit (.bool false)], args := [d1, d2] }
  | _ => none }
def FnCountFlipOneMovesOneCountWrongFalsely : Prop := fnCountFlipOneMovesOneCountRow.holds Try.pinned (OpenSpec.ofChange fnCountFlipOneMovesOneCountWrong)

end Rows
end Go.Proofs.Qxb6600326a
