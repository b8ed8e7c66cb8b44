/-
  No cell of these rows narrows 'for every input' (looked for: loops, veiled, ifaces, maps, wideKeys, modest, calm, conditions, laid).
  DERIVED. THE GIVEN ROWS OF THIS SEAT. 2 by the template 'for every input the law returns true; each argument reads behind the call as it read before'; 0 by the template 'total and deterministic' (their statements: Qxb6600605aTotals.lean).
  GIVEN WITH THE SEED: the statements are not yours to turn. If you find one false, say at which input.
  Laid BY PROGRAM, IN A SANDBOX (cutbox-rows.mjs): the forced cells as the released guide's own fill.sh prints them over the translation d4999ef9c1e49051… (all of the seat's roots in one cut). By AI agents, Wed Nov 11 2026. No macro, syntax, notation, axiom, sorry.
-/
import Derived.Test.Qxb6600605aChecked
import GoSem.Claim
import GoSem.ClaimJoined
import GoSem.ClaimMapViews
import Derived.JoinedTies
import Derived.KernelRfl
namespace Go.Proofs.Qxb6600605a
/- THE CELL 'sum', in the pinned program and in every row, IS THE sha256 OF THE DUMP (.gsa) THAT Qxb6600605aProg.lean LOADS. Nothing in Lean hashes anything: it is a label: what it is worth is what the hold of that sum in a sandbox is worth. -/
noncomputable def Try.pinned : Pinned := { name := "qxb6600605a", sum := "d4999ef9c1e49051a95d6a70fa3069792de64370121eb463b526ff15cfe34a8f", checked := Try.checked }
namespace Rows
def none {H : Type} : Left H := { results := [], args := [] }

/-- 'zzlaws_root_b1.FnDecideMoreToleranceNeverHarsher': WHATEVER THE INPUT: true; the input reads as it did. -/
def fnDecideMoreToleranceNeverHarsherSpec : ChangeSpec := { name := "fnDecideMoreToleranceNeverHarsher", fn := fun _ => fun
  | [d1, d2, d3, d4, d5] => { results := [.lit (.bool true)], args := [d1, d2, d3, d4, d5] }
  | _ => none }
def fnDecideMoreToleranceNeverHarsherRow : OpenClaim := { program := "qxb6600605a", sum := "d4999ef9c1e49051a95d6a70fa3069792de64370121eb463b526ff15cfe34a8f", func := "example.com/rally-point/rally-point/zzlaws_root_b1.FnDecideMoreToleranceNeverHarsher", spec := "fnDecideMoreToleranceNeverHarsher", apart := false }
def FnDecideMoreToleranceNeverHarsherSaid : Prop := fnDecideMoreToleranceNeverHarsherRow.holds Try.pinned (OpenSpec.ofChange fnDecideMoreToleranceNeverHarsherSpec)

/-- ITS FALSE NEIGHBOUR: 'it returns false'. Refute it at one input. -/
def fnDecideMoreToleranceNeverHarsherWrong : ChangeSpec := { name := "fnDecideMoreToleranceNeverHarsher", fn := fun _ => fun
  | [d1, d2, d3, d4, d5] => { results := [.lit (.bool false)], args := [d1, d2, d3, d4, d5] }
  | _ => none }
def FnDecideMoreToleranceNeverHarsherWrongFalsely : Prop := fnDecideMoreToleranceNeverHarsherRow.holds Try.pinned (OpenSpec.ofChange fnDecideMoreToleranceNeverHarsherWrong)

/-- 'zzlaws_root_b1.FnDecideFailureIsFinalAlongARun': WHATEVER THE INPUT: true; the input reads as it did. -/
def fnDecideFailureIsFinalAlongARunSpec : ChangeSpec := { name := "fnDecideFailureIsFinalAlongARun", fn := fun _ => fun
  | [d1, d2] => { results := [.lit (.bool true)], args := [d1, d2] }
  | _ => none }
def fnDecideFailureIsFinalAlongARunRow : OpenClaim := { program := "qxb6600605a", sum := "d4999ef9c1e49051a95d6a70fa3069792de64370121eb463b526ff15cfe34a8f", func := "example.com/rally-point/rally-point/zzlaws_root_b1.FnDecideFailureIsFinalAlongARun", spec := "fnDecideFailureIsFinalAlongARun", apart := false }
def FnDecideFailureIsFinalAlongARunSaid : Prop := fnDecideFailureIsFinalAlongARunRow.holds Try.pinned (OpenSpec.ofChange fnDecideFailureIsFinalAlongARunSpec)

/-- ITS FALSE NEIGHBOUR: 'it returns false'. Refute it at one input. -/
def fnDecideFailureIsFinalAlongARunWrong : ChangeSpec := { name := "fnDecideFailureIsFinalAlongARun", fn := fun _ => fun
  | [d1, d2] => { results := [.lit (.bool false)], args := [d1, d2] }
  | _ => none }
def FnDecideFailureIsFinalAlongARunWrongFalsely : Prop := fnDecideFailureIsFinalAlongARunRow.holds Try.pinned (OpenSpec.ofChange fnDecideFailureIsFinalAlongARunWrong)

end Rows
end Go.Proofs.Qxb6600605a
