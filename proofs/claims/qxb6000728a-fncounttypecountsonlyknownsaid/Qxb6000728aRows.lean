/-
  No cell of these rows narrows 'for every input' (looked for: loops, veiled, ifaces, maps, wideKeys, modest, calm, conditions, laid).
  DERIVED. THE GIVEN ROWS OF THIS SEAT. 3 by the template 'for every input the law returns true; each argument reads behind the call as it read before'; 0 by the template 'total and deterministic' (their statements: Qxb6000728aTotals.lean).
  GIVEN WITH THE SEED: the statements are not yours to turn. If you find one false, say at which input.
  Laid BY PROGRAM, IN A SANDBOX (cutbox-rows.mjs): the forced cells as the released guide's own fill.sh prints them over the translation 8e7d1d5b82ede19d… (all of the seat's roots in one cut). By AI agents, Wed Nov 11 2026. No macro, syntax, notation, axiom, sorry.
-/
import Derived.Test.Qxb6000728aChecked
import GoSem.Claim
import GoSem.ClaimJoined
import GoSem.ClaimMapViews
import Derived.JoinedTies
import Derived.KernelRfl
namespace Go.Proofs.Qxb6000728a
/- THE CELL 'sum', in the pinned program and in every row, IS THE sha256 OF THE DUMP (.gsa) THAT Qxb6000728aProg.lean LOADS. Nothing in Lean hashes anything: it is a label: what it is worth is what the hold of that sum in a sandbox is worth. -/
noncomputable def Try.pinned : Pinned := { name := "qxb6000728a", sum := "8e7d1d5b82ede19d873629f763ed7446baa44c89015ffcb7883710c188cc0f32", checked := Try.checked }
namespace Rows
def none {H : Type} : Left H := { results := [], args := [] }

/-- 'zzlaws_root_b1.FnMessageLogLimitIdempotent': WHATEVER THE INPUT: true; the input reads as it did. -/
def fnMessageLogLimitIdempotentSpec : ChangeSpec := { name := "fnMessageLogLimitIdempotent", fn := fun _ => fun
  | [d] => { results := [.lit (.bool true)], args := [d] }
  | _ => none }
def fnMessageLogLimitIdempotentRow : OpenClaim := { program := "qxb6000728a", sum := "8e7d1d5b82ede19d873629f763ed7446baa44c89015ffcb7883710c188cc0f32", func := "example.com/viewturn/viewturn/zzlaws_root_b1.FnMessageLogLimitIdempotent", spec := "fnMessageLogLimitIdempotent", apart := false }
def FnMessageLogLimitIdempotentSaid : Prop := fnMessageLogLimitIdempotentRow.holds Try.pinned (OpenSpec.ofChange fnMessageLogLimitIdempotentSpec)

/-- ITS FALSE NEIGHBOUR: 'it returns false'. Refute it at one input. -/
def fnMessageLogLimitIdempotentWrong : ChangeSpec := { name := "fnMessageLogLimitIdempotent", fn := fun _ => fun
  | [d] => { results := [.lit (.bool false)], args := [d] }
  | _ => none }
def FnMessageLogLimitIdempotentWrongFalsely : Prop := fnMessageLogLimitIdempotentRow.holds Try.pinned (OpenSpec.ofChange fnMessageLogLimitIdempotentWrong)

/-- 'zzlaws_root_b1.FnCountTypeCountsOnlyKnown': WHATEVER THE INPUT: true; the input reads as it did. -/
def fnCountTypeCountsOnlyKnownSpec : ChangeSpec := { name := "fnCountTypeCountsOnlyKnown", fn := fun _ => fun
  | [d1, d2, d3, d4] => { results := [.lit (.bool true)], args := [d1, d2, d3, d4] }
  | _ => none }
def fnCountTypeCountsOnlyKnownRow : OpenClaim := { program := "qxb6000728a", sum := "8e7d1d5b82ede19d873629f763ed7446baa44c89015ffcb7883710c188cc0f32", func := "example.com/viewturn/viewturn/zzlaws_root_b1.FnCountTypeCountsOnlyKnown", spec := "fnCountTypeCountsOnlyKnown", apart := false }
def FnCountTypeCountsOnlyKnownSaid : Prop := fnCountTypeCountsOnlyKnownRow.holds Try.pinned (OpenSpec.ofChange fnCountTypeCountsOnlyKnownSpec)

/-- ITS FALSE NEIGHBOUR: 'it returns false'. Refute it at one input. -/
def fnCountTypeCountsOnlyKnownWrong : ChangeSpec := { name := "fnCountTypeCountsOnlyKnown", fn := fun _ => fun
  | [d1, d2, d3, d4] => { results := [.lit (.bool false)], args := [d1, d2, d3, d4] }
  | _ => none }
def FnCountTypeCountsOnlyKnownWrongFalsely : Prop := fnCountTypeCountsOnlyKnownRow.holds Try.pinned (OpenSpec.ofChange fnCountTypeCountsOnlyKnownWrong)

/-- 'zzlaws_root_b1.FnCountTypeScriptTally': WHATEVER THE INPUT: true; the input reads as it did. -/
def fnCountTypeScriptTallySpec : ChangeSpec := { name := "fnCountTypeScriptTally", fn := fun _ => fun
  | [d1, d2, d3] => { results := [.lit (.bool true)], args := [d1, d2, d3] }
  | _ => none }
def fnCountTypeScriptTallyRow : OpenClaim := { program := "qxb6000728a", sum := "8e7d1d5b82ede19d873629f763ed7446baa44c89015ffcb7883710c188cc0f32", func := "example.com/viewturn/viewturn/zzlaws_root_b1.FnCountTypeScriptTally", spec := "fnCountTypeScriptTally", apart := false }
def FnCountTypeScriptTallySaid : Prop := fnCountTypeScriptTallyRow.holds Try.pinned (OpenSpec.ofChange fnCountTypeScriptTallySpec)

/-- ITS FALSE NEIGHBOUR: 'it returns false'. Refute it at one input. -/
def fnCountTypeScriptTallyWrong : ChangeSpec := { name := "fnCountTypeScriptTally", fn := fun _ => fun
  | [d1, d2, d3] => { results := [.lit (.bool false)], args := [d1, d2, d3] }
  | _ => none }
def FnCountTypeScriptTallyWrongFalsely : Prop := fnCountTypeScriptTallyRow.holds Try.pinned (OpenSpec.ofChange fnCountTypeScriptTallyWrong)

end Rows
end Go.Proofs.Qxb6000728a
