/-
  No cell of these rows narrows 'for every input' (looked for: loops, veiled, ifaces, maps, wideKeys, modest, calm, conditions, laid).
  DERIVED. THE GIVEN ROWS OF THIS SEAT. 5 by the template 'for every input the law returns true; each argument reads behind the call as it read before'; 0 by the template 'total and deterministic' (their statements: Qxb6001040aTotals.lean).
  GIVEN WITH THE SEED: the statements are not yours to turn. If you find one false, say at which input.
  Laid BY PROGRAM, IN A SANDBOX (cutbox-rows.mjs): the forced cells as the released guide's own fill.sh prints them over the translation 2f6f96c3fd4a3148… (all of the seat's roots in one cut). By AI agents, Wed Nov 11 2026. No macro, syntax, notation, axiom, sorry.
-/
import Derived.Test.Qxb6001040aChecked
import GoSem.Claim
import GoSem.ClaimJoined
import GoSem.ClaimMapViews
import Derived.JoinedTies
import Derived.KernelRfl
namespace Go.Proofs.Qxb6001040a
/- THE CELL 'sum', in the pinned program and in every row, IS THE sha256 OF THE DUMP (.gsa) THAT Qxb6001040aProg.lean LOADS. Nothing in Lean hashes anything: it is a label: what it is worth is what the hold of that sum in a sandbox is worth. -/
noncomputable def Try.pinned : Pinned := { name := "qxb6001040a", sum := "2f6f96c3fd4a314815d9629d6c3576e5a29b1dd78b6d33aeec0162a177289ad5", checked := Try.checked }
namespace Rows
def none {H : Type} : Left H := { results := [], args := [] }

/-- 'zzlaws_pkg_tomlfile_b1.FnSkipBlankMatchesScanner': WHATEVER THE INPUT: true; the input reads as it did. -/
def fnSkipBlankMatchesScannerSpec : ChangeSpec := { name := "fnSkipBlankMatchesScanner", fn := fun _ => fun
  | [d1, d2, d3] => { results := [.lit (.bool true)], args := [d1, d2, d3] }
  | _ => none }
def fnSkipBlankMatchesScannerRow : OpenClaim := { program := "qxb6001040a", sum := "2f6f96c3fd4a314815d9629d6c3576e5a29b1dd78b6d33aeec0162a177289ad5", func := "example.com/tuoguan/tuoguan/zzlaws_pkg_tomlfile_b1.FnSkipBlankMatchesScanner", spec := "fnSkipBlankMatchesScanner", inPlace := ["internal/bytealg.IndexByteString"], apart := false }
def FnSkipBlankMatchesScannerSaid : Prop := fnSkipBlankMatchesScannerRow.holds Try.pinned (OpenSpec.ofChange fnSkipBlankMatchesScannerSpec)

/-- ITS FALSE NEIGHBOUR: 'it returns false'. Refute it at one input. -/
def fnSkipBlankMatchesScannerWrong : ChangeSpec := { name := "fnSkipBlankMatchesScanner", fn := fun _ => fun
  | [d1, d2, d3] => { results := [.lit (.bool false)], args := [d1, d2, d3] }
  | _ => none }
def FnSkipBlankMatchesScannerWrongFalsely : Prop := fnSkipBlankMatchesScannerRow.holds Try.pinned (OpenSpec.ofChange fnSkipBlankMatchesScannerWrong)

/-- 'zzlaws_pkg_tomlfile_b1.FnSkipBlankIdempotent': WHATEVER THE INPUT: true; the input reads as it did. -/
def fnSkipBlankIdempotentSpec : ChangeSpec := { name := "fnSkipBlankIdempotent", fn := fun _ => fun
  | [d1, d2, d3] => { results := [.lit (.bool true)], args := [d1, d2, d3] }
  | _ => none }
def fnSkipBlankIdempotentRow : OpenClaim := { program := "qxb6001040a", sum := "2f6f96c3fd4a314815d9629d6c3576e5a29b1dd78b6d33aeec0162a177289ad5", func := "example.com/tuoguan/tuoguan/zzlaws_pkg_tomlfile_b1.FnSkipBlankIdempotent", spec := "fnSkipBlankIdempotent", inPlace := ["internal/bytealg.IndexByteString"], apart := false }
def FnSkipBlankIdempotentSaid : Prop := fnSkipBlankIdempotentRow.holds Try.pinned (OpenSpec.ofChange fnSkipBlankIdempotentSpec)

/-- ITS FALSE NEIGHBOUR: 'it returns false'. Refute it at one input. -/
def fnSkipBlankIdempotentWrong : ChangeSpec := { name := "fnSkipBlankIdempotent", fn := fun _ => fun
  | [d1, d2, d3] => { results := [.lit (.bool false)], args := [d1, d2, d3] }
  | _ => none }
def FnSkipBlankIdempotentWrongFalsely : Prop := fnSkipBlankIdempotentRow.holds Try.pinned (OpenSpec.ofChange fnSkipBlankIdempotentWrong)

/-- 'zzlaws_pkg_tomlfile_b1.FnSkipBlankIgnoresSurroundingText': WHATEVER THE INPUT: true; the input reads as it did. -/
def fnSkipBlankIgnoresSurroundingTextSpec : ChangeSpec := { name := "fnSkipBlankIgnoresSurroundingText", fn := fun _ => fun
  | [d1, d2, d3, d4, d5] => { results := [.lit (.bool true)], args := [d1, d2, d3, d4, d5] }
  | _ => none }
def fnSkipBlankIgnoresSurroundingTextRow : OpenClaim := { program := "qxb6001040a", sum := "2f6f96c3fd4a314815d9629d6c3576e5a29b1dd78b6d33aeec0162a177289ad5", func := "example.com/tuoguan/tuoguan/zzlaws_pkg_tomlfile_b1.FnSkipBlankIgnoresSurroundingText", spec := "fnSkipBlankIgnoresSurroundingText", inPlace := ["internal/bytealg.IndexByteString"], apart := false }
def FnSkipBlankIgnoresSurroundingTextSaid : Prop := fnSkipBlankIgnoresSurroundingTextRow.holds Try.pinned (OpenSpec.ofChange fnSkipBlankIgnoresSurroundingTextSpec)

/-- ITS FALSE NEIGHBOUR: 'it returns false'. Refute it at one input. -/
def fnSkipBlankIgnoresSurroundingTextWrong : ChangeSpec := { name := "fnSkipBlankIgnoresSurroundingText", fn := fun _ => fun
  | [d1, d2, d3, d4, d5] => { results := [.lit (.bool false)], args := [d1, d2, d3, d4, d5] }
  | _ => none }
def FnSkipBlankIgnoresSurroundingTextWrongFalsely : Prop := fnSkipBlankIgnoresSurroundingTextRow.holds Try.pinned (OpenSpec.ofChange fnSkipBlankIgnoresSurroundingTextWrong)

/-- 'zzlaws_pkg_tomlfile_b1.FnIsDateAcceptsEveryPaddedDate': WHATEVER THE INPUT: true; the input reads as it did. -/
def fnIsDateAcceptsEveryPaddedDateSpec : ChangeSpec := { name := "fnIsDateAcceptsEveryPaddedDate", fn := fun _ => fun
  | [d1, d2, d3] => { results := [.lit (.bool true)], args := [d1, d2, d3] }
  | _ => none }
def fnIsDateAcceptsEveryPaddedDateRow : OpenClaim := { program := "qxb6001040a", sum := "2f6f96c3fd4a314815d9629d6c3576e5a29b1dd78b6d33aeec0162a177289ad5", func := "example.com/tuoguan/tuoguan/zzlaws_pkg_tomlfile_b1.FnIsDateAcceptsEveryPaddedDate", spec := "fnIsDateAcceptsEveryPaddedDate", apart := false }
def FnIsDateAcceptsEveryPaddedDateSaid : Prop := fnIsDateAcceptsEveryPaddedDateRow.holds Try.pinned (OpenSpec.ofChange fnIsDateAcceptsEveryPaddedDateSpec)

/-- ITS FALSE NEIGHBOUR: 'it returns false'. Refute it at one input. -/
def fnIsDateAcceptsEveryPaddedDateWrong : ChangeSpec := { name := "fnIsDateAcceptsEveryPaddedDate", fn := fun _ => fun
  | [d1, d2, d3] => { results := [.lit (.bool false)], args := [d1, d2, d3] }
  | _ => none }
def FnIsDateAcceptsEveryPaddedDateWrongFalsely : Prop := fnIsDateAcceptsEveryPaddedDateRow.holds Try.pinned (OpenSpec.ofChange fnIsDateAcceptsEveryPaddedDateWrong)

/-- 'zzlaws_pkg_tomlfile_b1.FnIsDateOnlyPaddedDates': WHATEVER THE INPUT: true; the input reads as it did. -/
def fnIsDateOnlyPaddedDatesSpec : ChangeSpec := { name := "fnIsDateOnlyPaddedDates", fn := fun _ => fun
  | [d] => { results := [.lit (.bool true)], args := [d] }
  | _ => none }
def fnIsDateOnlyPaddedDatesRow : OpenClaim := { program := "qxb6001040a", sum := "2f6f96c3fd4a314815d9629d6c3576e5a29b1dd78b6d33aeec0162a177289ad5", func := "example.com/tuoguan/tuoguan/zzlaws_pkg_tomlfile_b1.FnIsDateOnlyPaddedDates", spec := "fnIsDateOnlyPaddedDates", apart := false }
def FnIsDateOnlyPaddedDatesSaid : Prop := fnIsDateOnlyPaddedDatesRow.holds Try.pinned (OpenSpec.ofChange fnIsDateOnlyPaddedDatesSpec)

/-- ITS FALSE NEIGHBOUR: 'it returns false'. Refute it at one input. -/
def fnIsDateOnlyPaddedDatesWrong : ChangeSpec := { name := "fnIsDateOnlyPaddedDates", fn := fun _ => fun
  | [d] => { results := [.lit (.bool false)], args := [d] }
  | _ => none }
def FnIsDateOnlyPaddedDatesWrongFalsely : Prop := fnIsDateOnlyPaddedDatesRow.holds Try.pinned (OpenSpec.ofChange fnIsDateOnlyPaddedDatesWrong)

end Rows
end Go.Proofs.Qxb6001040a
