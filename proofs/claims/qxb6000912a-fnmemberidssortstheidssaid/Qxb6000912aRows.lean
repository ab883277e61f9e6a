/-
  No cell of these rows narrows 'for every input' (looked for: loops, veiled, ifaces, maps, wideKeys, modest, calm, conditions, laid).
  DERIVED. THE GIVEN ROWS OF THIS SEAT. 3 by the template 'for every input the law returns true; each argument reads behind the call as it read before'; 0 by the template 'total and deterministic' (their statements: Qxb6000912aTotals.lean).
  GIVEN WITH THE SEED: the statements are not yours to turn. If you find one false, say at which input.
  Laid BY PROGRAM, IN A SANDBOX (cutbox-rows.mjs): the forced cells as the released guide's own fill.sh prints them over the translation ff0cdfce5a27e84a… (all of the seat's roots in one cut). By AI agents, Wed Nov 11 2026. No macro, syntax, notation, axiom, sorry.
-/
import Derived.Test.Qxb6000912aChecked
import GoSem.Claim
import GoSem.ClaimJoined
import GoSem.ClaimMapViews
import Derived.JoinedTies
import Derived.KernelRfl
namespace Go.Proofs.Qxb6000912a
/- THE CELL 'sum', in the pinned program and in every row, IS THE sha256 OF THE DUMP (.gsa) THAT Qxb6000912aProg.lean LOADS. Nothing in Lean hashes anything: it is a label: what it is worth is what the hold of that sum in a sandbox is worth. -/
noncomputable def Try.pinned : Pinned := { name := "qxb6000912a", sum := "ff0cdfce5a27e84ac1b629c0b70824e46836ae857e499e7fb2778c6dcf794df2", checked := Try.checked }
namespace Rows
def none {H : Type} : Left H := { results := [], args := [] }

/-- 'zzlaws_internal_raft_b1.FnMemberIDsSortsTheIDs': WHATEVER THE INPUT: true; the input reads as it did. -/
def fnMemberIDsSortsTheIDsSpec : ChangeSpec := { name := "fnMemberIDsSortsTheIDs", fn := fun _ => fun
  | [d] => { results := [.lit (.bool true)], args := [d] }
  | _ => none }
def fnMemberIDsSortsTheIDsRow : OpenClaim := { program := "qxb6000912a", sum := "ff0cdfce5a27e84ac1b629c0b70824e46836ae857e499e7fb2778c6dcf794df2", func := "example.com/keelstone/keelstone/zzlaws_internal_raft_b1.FnMemberIDsSortsTheIDs", spec := "fnMemberIDsSortsTheIDs", recurses := true, apart := false }
def FnMemberIDsSortsTheIDsSaid : Prop := fnMemberIDsSortsTheIDsRow.holds Try.pinned (OpenSpec.ofChange fnMemberIDsSortsTheIDsSpec)

/-- ITS FALSE NEIGHBOUR: 'it returns false'. Refute it at one input. -/
def fnMemberIDsSortsTheIDsWrong : ChangeSpec := { name := "fnMemberIDsSortsTheIDs", fn := fun _ => fun
  | [d] => { results := [.lit (.bool false)], args := [d] }
  | _ => none }
def FnMemberIDsSortsTheIDsWrongFalsely : Prop := fnMemberIDsSortsTheIDsRow.holds Try.pinned (OpenSpec.ofChange fnMemberIDsSortsTheIDsWrong)

/-- 'zzlaws_internal_raft_b1.FnMemberIDsIgnoresOrder': WHATEVER THE INPUT: true; the input reads as it did. -/
def fnMemberIDsIgnoresOrderSpec : ChangeSpec := { name := "fnMemberIDsIgnoresOrder", fn := fun _ => fun
  | [d1, d2] => { results := [.lit (.bool true)], args := [d1, d2] }
  | _ => none }
def fnMemberIDsIgnoresOrderRow : OpenClaim := { program := "qxb6000912a", sum := "ff0cdfce5a27e84ac1b629c0b70824e46836ae857e499e7fb2778c6dcf794df2", func := "example.com/keelstone/keelstone/zzlaws_internal_raft_b1.FnMemberIDsIgnoresOrder", spec := "fnMemberIDsIgnoresOrder", recurses := true, apart := false }
def FnMemberIDsIgnoresOrderSaid : Prop := fnMemberIDsIgnoresOrderRow.holds Try.pinned (OpenSpec.ofChange fnMemberIDsIgnoresOrderSpec)

/-- ITS FALSE NEIGHBOUR: 'it returns false'. Refute it at one input. -/
def fnMemberIDsIgnoresOrderWrong : ChangeSpec := { name := "fnMemberIDsIgnoresOrder", fn := fun _ => fun
  | [d1, d2] => { results := [.lit (.bool false)], args := [d1, d2] }
  | _ => none }
def FnMemberIDsIgnoresOrderWrongFalsely : Prop := fnMemberIDsIgnoresOrderRow.holds Try.pinned (OpenSpec.ofChange fnMemberIDsIgnoresOrderWrong)

/-- 'zzlaws_internal_raft_b1.FnMemberIDsIdempotent': WHATEVER THE INPUT: true; the input reads as it did. -/
def fnMemberIDsIdempotentSpec : ChangeSpec := { name := "fnMemberIDsIdempotent", fn := fun _ => fun
  | [d] => { results := [.lit (.bool true)], args := [d] }
  | _ => none }
def fnMemberIDsIdempotentRow : OpenClaim := { program := "qxb6000912a", sum := "ff0cdfce5a27e84ac1b629c0b70824e46836ae857e499e7fb2778c6dcf794df2", func := "example.com/keelstone/keelstone/zzlaws_internal_raft_b1.FnMemberIDsIdempotent", spec := "fnMemberIDsIdempotent", recurses := true, apart := false }
def FnMemberIDsIdempotentSaid : Prop := fnMemberIDsIdempotentRow.holds Try.pinned (OpenSpec.ofChange fnMemberIDsIdempotentSpec)

/-- ITS FALSE NEIGHBOUR: 'it returns false'. Refute it at one input. -/
def fnMemberIDsIdempotentWrong : ChangeSpec := { name := "fnMemberIDsIdempotent", fn := fun _ => fun
  | [d] => { results := [.lit (.bool false)], args := [d] }
  | _ => none }
def FnMemberIDsIdempotentWrongFalsely : Prop := fnMemberIDsIdempotentRow.holds Try.pinned (OpenSpec.ofChange fnMemberIDsIdempotentWrong)

end Rows
end Go.Proofs.Qxb6000912a
