/-
  No cell of these rows narrows 'for every input' (looked for: loops, veiled, ifaces, maps, wideKeys, modest, calm, conditions, laid).
  DERIVED. THE GIVEN ROWS OF THIS SEAT. 4 by the template 'for every input the law returns true; each argument reads behind the call as it read before'; 0 by the template 'total and deterministic' (their statements: Qxb6003643aTotals.lean).
  GIVEN WITH THE SEED: the statements are not yours to turn. If you find one false, say at which input.
  Laid BY PROGRAM, IN A SANDBOX (cutbox-rows.mjs): the forced cells as the released guide's own fill.sh prints them over the translation 83e01532d0223f54… (all of the seat's roots in one cut). By AI agents, Wed Nov 11 2026. No macro, syntax, notation, axiom, sorry.
-/
import Derived.Test.Qxb6003643aChecked
import GoSem.Claim
import GoSem.ClaimJoined
import GoSem.ClaimMapViews
import Derived.JoinedTies
import Derived.KernelRfl
namespace Go.Proofs.Qxb6003643a
/- THE CELL 'sum', in the pinned program and in every row, IS THE sha256 OF THE DUMP (.gsa) THAT Qxb6003643aProg.lean LOADS. Nothing in Lean hashes anything: it is a label: what it is worth is what the hold of that sum in a sandbox is worth. -/
noncomputable def Try.pinned : Pinned := { name := "qxb6003643a", sum := "83e01532d0223f548aaf9957fc5e1ab10b66292fcb0f73aa5ea22d8d843f7b14", checked := Try.checked }
namespace Rows
def none {H : Type} : Left H := { results := [], args := [] }

/-- 'zzlaws_root_b1.FnCanonicalStringRoundTrip': WHATEVER THE INPUT: true; the input reads as it did. -/
def fnCanonicalStringRoundTripSpec : ChangeSpec := { name := "fnCanonicalStringRoundTrip", fn := fun _ => fun
  | [d1, d2] => { results := [.lit (.bool true)], args := [d1, d2] }
  | _ => none }
def fnCanonicalStringRoundTripRow : OpenClaim := { program := "qxb6003643a", sum := "83e01532d0223f548aaf9957fc5e1ab10b66292fcb0f73aa5ea22d8d843f7b14", func := "example.com/resolvent/resolvent/zzlaws_root_b1.FnCanonicalStringRoundTrip", spec := "fnCanonicalStringRoundTrip", apart := false }
def FnCanonicalStringRoundTripSaid : Prop := fnCanonicalStringRoundTripRow.holds Try.pinned (OpenSpec.ofChange fnCanonicalStringRoundTripSpec)

/-- ITS FALSE NEIGHBOUR: 'it returns false'. Refute it at one input. -/
def fnCanonicalStringRoundTripWrong : ChangeSpec := { name := "fnCanonicalStringRoundTrip", fn := fun _ => fun
  | [d1, d2] => { results := [.lit (.bool false)], args := [d1, d2] }
  | _ => none }
def FnCanonicalStringRoundTripWrongFalsely : Prop := fnCanonicalStringRoundTripRow.holds Try.pinned (OpenSpec.ofChange fnCanonicalStringRoundTripWrong)

/-- 'zzlaws_root_b1.FnCanonicalStringSplitsAnywhere': WHATEVER THE INPUT: true; the input reads as it did. -/
def fnCanonicalStringSplitsAnywhereSpec : ChangeSpec := { name := "fnCanonicalStringSplitsAnywhere", fn := fun _ => fun
  | [d1, d2, d3] => { results := [.lit (.bool true)], args := [d1, d2, d3] }
  | _ => none }
def fnCanonicalStringSplitsAnywhereRow : OpenClaim := { program := "qxb6003643a", sum := "83e01532d0223f548aaf9957fc5e1ab10b66292fcb0f73aa5ea22d8d843f7b14", func := "example.com/resolvent/resolvent/zzlaws_root_b1.FnCanonicalStringSplitsAnywhere", spec := "fnCanonicalStringSplitsAnywhere", apart := false }
def FnCanonicalStringSplitsAnywhereSaid : Prop := fnCanonicalStringSplitsAnywhereRow.holds Try.pinned (OpenSpec.ofChange fnCanonicalStringSplitsAnywhereSpec)

/-- ITS FALSE NEIGHBOUR: 'it returns false'. Refute it at one input. -/
def fnCanonicalStringSplitsAnywhereWrong : ChangeSpec := { name := "fnCanonicalStringSplitsAnywhere", fn := fun _ => fun
  | [d1, d2, d3] => { results := [.lit (.bool false)], args := [d1, d2, d3] }
  | _ => none }
def FnCanonicalStringSplitsAnywhereWrongFalsely : Prop := fnCanonicalStringSplitsAnywhereRow.holds Try.pinned (OpenSpec.ofChange fnCanonicalStringSplitsAnywhereWrong)

/-- 'zzlaws_root_b1.FnJoinRuleCountedOverVersions': WHATEVER THE INPUT: true; the input reads as it did. -/
def fnJoinRuleCountedOverVersionsSpec : ChangeSpec := { name := "fnJoinRuleCountedOverVersions", fn := fun _ => fun
  | [d1, d2] => { results := [.lit (.bool true)], args := [d1, d2] }
  | _ => none }
def fnJoinRuleCountedOverVersionsRow : OpenClaim := { program := "qxb6003643a", sum := "83e01532d0223f548aaf9957fc5e1ab10b66292fcb0f73aa5ea22d8d843f7b14", func := "example.com/resolvent/resolvent/zzlaws_root_b1.FnJoinRuleCountedOverVersions", spec := "fnJoinRuleCountedOverVersions", apart := false }
def FnJoinRuleCountedOverVersionsSaid : Prop := fnJoinRuleCountedOverVersionsRow.holds Try.pinned (OpenSpec.ofChange fnJoinRuleCountedOverVersionsSpec)

/-- ITS FALSE NEIGHBOUR: 'it returns false'. Refute it at one input. -/
def fnJoinRuleCountedOverVersionsWrong : ChangeSpec := { name := "fnJoinRuleCountedOverVersions", fn := fun _ => fun
  | [d1, d2] => { results := [.lit (.bool false)], args := [d1, d2] }
  | _ => none }
def FnJoinRuleCountedOverVersionsWrongFalsely : Prop := fnJoinRuleCountedOverVersionsRow.holds Try.pinned (OpenSpec.ofChange fnJoinRuleCountedOverVersionsWrong)

/-- 'zzlaws_root_b1.FnJoinRuleOneFlagEach': WHATEVER THE INPUT: true; the input reads as it did. -/
def fnJoinRuleOneFlagEachSpec : ChangeSpec := { name := "fnJoinRuleOneFlagEach", fn := fun _ => fun
  | [d1, d2, d3, d4, d5] => { results := [.lit (.bool true)], args := [d1, d2, d3, d4, d5] }
  | _ => none }
def fnJoinRuleOneFlagEachRow : OpenClaim := { program := "qxb6003643a", sum := "83e01532d0223f548aaf9957fc5e1ab10b66292fcb0f73aa5ea22d8d843f7b14", func := "example.com/resolvent/resolvent/zzlaws_root_b1.FnJoinRuleOneFlagEach", spec := "fnJoinRuleOneFlagEach", apart := false }
def FnJoinRuleOneFlagEachSaid : Prop := fnJoinRuleOneFlagEachRow.holds Try.pinned (OpenSpec.ofChange fnJoinRuleOneFlagEachSpec)

/-- ITS FALSE NEIGHBOUR: 'it returns false'. Refute it at one input. -/
def fnJoinRuleOneFlagEachWrong : ChangeSpec := { name := "fnJoinRuleOneFlagEach", fn := fun _ => fun
  | [d1, d2, d3, d4, d5] => { results := [.lit (.bool false)], args := [d1, d2, d3, d4, d5] }
  | _ => none }
def FnJoinRuleOneFlagEachWrongFalsely : Prop := fnJoinRuleOneFlagEachRow.holds Try.pinned (OpenSpec.ofChange fnJoinRuleOneFlagEachWrong)

end Rows
end Go.Proofs.Qxb6003643a
