import Derived.Test.Qxb6000880aRows
import Derived.Test.Qxb6000880aLessTop
import Derived.WalkKit
import Derived.ProofKit
import Derived.OpenShut
import Derived.ShutString
import Derived.ChangeOld
import Derived.Below
namespace Go.Proofs.Qxb6000880a.fnLessThanEndsExactlyAtScriptEndTag
open Go.ChangeShapes Go.WideShapes Go.ChangeAt Go.RowKit
open Go.ChangeMaps (open_string shut_string)
set_option linter.unusedVariables false

theorem own : ownKnob Try.prog.godebug = none := by kernel_rfl
theorem laidOut : laidOutB Try.prog = true := by kernel_rfl

/-- A slice of bytes that was read, told to the walk. -/
theorem opened {H : Type} {enc : TypeId × Value → H} {W : World} {a : Option Addr} {len cap : Nat} {d : DataW H} {p : List MemPlace} (h : DataW.Trod enc Try.prog W 0 (fun _ => true) true 22 (.slice a len cap) d p) :
    ∃ f : Nat → Int, len ≤ maxLen ∧ (∀ k, 0 ≤ f k ∧ f k ≤ 255) ∧ (a = none → len = 0) ∧ IsRow W W.heap.size a len (fun k => .int .u8 (f k)) := by
  obtain ⟨fuel, hf⟩ := h
  rcases open_ints Try.underlying22 Try.underlying5 Try.cells5 hf with ⟨hcs, _⟩ | ⟨x, l, c, zs, hcs, _, hl, hm, hz, _, hcell, hwz⟩
  · simp [Value.cells] at hcs
    obtain ⟨rfl, rfl, rfl⟩ := hcs
    exact ⟨fun _ => 0, Nat.zero_le _, fun _ => (⟨by omega, by omega⟩ : (0 : Int) ≤ 0 ∧ (0 : Int) ≤ 255), fun _ => rfl, fun k hk => absurd hk (by omega)⟩
  · simp [Value.cells] at hcs
    obtain ⟨rfl, rfl, rfl⟩ := hcs
    simp only [if_true] at hz
    refine ⟨fun k => zs.getD k 0, by omega, fun k => ?_, fun h => (by cases h), fun k hk => ⟨by simp, ?_, hcell k (by omega)⟩⟩
    · by_cases hk : k < zs.length
      · simp only [List.getD, List.getElem?_eq_getElem hk, Option.getD_some]
        exact bounds_u8 (hwz _ (List.getElem_mem hk))
      · simp only [List.getD, List.getElem?_eq_none (by omega : zs.length ≤ k), Option.getD_none]
        exact ⟨by omega, by omega⟩
    · exact block_lt_of_cell (hcell k (by omega))

set_option maxRecDepth 100000 in
theorem lifted (os : Os) (started : os.Started) (H : Type) (enc : TypeId × Value → H) :
    ReturnsInHanded {} Try.checked os 6 .any (Rows.fnLessThanEndsExactlyAtScriptEndTagSpec.pre6 enc Try.prog Try.f6 Rows.fnLessThanEndsExactlyAtScriptEndTagRow.domain false) (Rows.fnLessThanEndsExactlyAtScriptEndTagSpec.post enc Try.prog Try.f6 false true false false) := by
  refine returnsInHanded_of_change (C := Try.checked) own started (by kernel_rfl) Try.func6
    (ChangeSpec.witness6 (enc := enc) (C := Try.checked) false ⟨#[], #[.int .i64 0, .slice none 0 0], []⟩ 8 (by kernel_rfl) (by kernel_rfl) (by kernel_rfl) (by kernel_rfl)) ?_
  intro W base args ds gs before hval0 hW hcnd _
  have hval : ∀ (j : Nat) t v, Try.f6.params[j]? = some t → args[j]? = some v → Value.okWide Try.prog W .any base t v := hval0
  have hW' := hW
  obtain ⟨p, q, hA0, hV, rfl, hfz, hnd⟩ := hW
  have hA : DataW.TrodAll enc Try.prog W 0 (fun _ => true) true Try.f6.params.toList args.toList ds p := hA0
  rw [Try.params6] at hA hval
  obtain ⟨v0, vs0, d0, ds0, p0, q0, hargs, rfl, rfl, h0, r0⟩ := trodAll_cons hA
  obtain ⟨v1, vs1, d1, ds1, p1, q1, rfl, rfl, rfl, h1, r1⟩ := trodAll_cons r0
  obtain ⟨rfl, rfl, rfl⟩ := trodAll_nil r1
  obtain rfl : args = #[v0, v1] := by cases args; simp_all
  obtain ⟨rfl, rfl⟩ := trodVars_none hV
  obtain ⟨a0, rfl, rfl, rfl, w0⟩ := open_int Try.underlying3 (hval 0 3 v0 rfl rfl) h0
  obtain ⟨a1, len1, cap1, rfl⟩ := okWide_slice Try.underlying22 (hval 1 22 v1 rfl rfl)
  have k1 := h1
  have lt1 : ∀ x ∈ p1, x.block < W.heap.size := by obtain ⟨m, hm⟩ := k1; exact DataW.trod_lt m _ _ _ hm
  obtain ⟨f, hl, hf, na, row⟩ := opened h1
  clear hA0 hval0
  refine (less_law a0 a1 len1 cap1 f W hl hf row).mono fun e W' ⟨he, bel⟩ => ?_
  subst he
  exact ⟨_, rfl, _, _, _, [], _, [], hW', trodAll_mk1 (shut_bool Try.underlying4 _), (trodAll_cons_mk (shut_int Try.underlying3 w0) (trodAll_cons_mk (Below.trod laidOut (by kernel_rfl) (of_decide_eq_true (by kernel_rfl)) k1 bel lt1) trodAll_mk0)), rfl, bel.frame _, fun h => by cases h⟩

theorem over : Rows.fnLessThanEndsExactlyAtScriptEndTagRow.holds Try.pinned (OpenSpec.ofChange Rows.fnLessThanEndsExactlyAtScriptEndTagSpec) :=
  OpenClaim.holds_of_wide 6 Try.f6 rfl rfl rfl rfl rfl rfl rfl ⟨rfl, rfl, rfl, rfl, rfl⟩ rfl rfl rfl rfl rfl (by kernel_rfl) Try.func6 (by kernel_rfl)
    (of_decide_eq_true (by kernel_rfl)) (by unfold Func.isWrapper; first | (rw [if_pos (by decide +kernel)]; kernel_rfl) | (rw [if_neg (by decide +kernel)]; exact ⟨rfl, rfl⟩))
    (fun os started H enc _ => lifted os started H enc)

end Go.Proofs.Qxb6000880a.fnLessThanEndsExactlyAtScriptEndTag

namespace Go.Proofs.Qxb6000880a
/-- THE STATEMENT -/
theorem fnLessThanEndsExactlyAtScriptEndTag_proved : Rows.FnLessThanEndsExactlyAtScriptEndTagSaid := fnLessThanEndsExactlyAtScriptEndTag.over
end Go.Proofs.Qxb6000880a
