import Derived.Test.Qxb6000728aRows
import Derived.Test.Qxb6000728aKnown
import Derived.ProofKit
import Derived.OpenShut
import Derived.ShutString
import Derived.ChangeOld
import Derived.SliceStrings
namespace Go.Proofs.Qxb6000728a.fnCountTypeCountsOnlyKnown
open Go.ChangeShapes Go.WideShapes Go.ChangeAt Go.RowKit
open Go.ChangeMaps (open_string shut_string)
set_option linter.unusedVariables false

theorem own : ownKnob Try.prog.godebug = none := by kernel_rfl
theorem laidOut : laidOutB Try.prog = true := by kernel_rfl

/-- A slice of strings that was read, told to the walk. -/
theorem opened {H : Type} {enc : TypeId × Value → H} {W : World} {a : Option Addr} {len cap : Nat} {d : DataW H} {p : List MemPlace} (h : DataW.Trod enc Try.prog W 0 (fun _ => true) true 25 (.slice a len cap) d p) :
    ∃ f : Nat → ByteArray, len ≤ maxLen ∧ (∀ k, (f k).size ≤ maxLen) ∧ (a = none → len = 0) ∧ IsRow W W.heap.size a len (fun k => .string (f k)) := by
  obtain ⟨fuel, hf⟩ := h
  rcases open_strings Try.underlying25 Try.underlying9 Try.cells9 hf with ⟨hcs, _⟩ | ⟨x, l, c, ss, hcs, _, hl, hm, hz, _, hcell, hws⟩
  · simp [Value.cells] at hcs
    obtain ⟨rfl, rfl, rfl⟩ := hcs
    exact ⟨fun _ => ByteArray.empty, Nat.zero_le _, fun _ => Nat.zero_le _, fun _ => rfl, fun k hk => absurd hk (by omega)⟩
  · simp [Value.cells] at hcs
    obtain ⟨rfl, rfl, rfl⟩ := hcs
    simp only [if_true] at hz
    refine ⟨fun k => ss.getD k ByteArray.empty, by omega, fun k => ?_, fun h => (by cases h), fun k hk => ⟨by simp, ?_, hcell k (by omega)⟩⟩
    · by_cases hk : k < ss.length
      · simp only [List.getD, List.getElem?_eq_getElem hk, Option.getD_some]
        exact hws _ (List.getElem_mem hk)
      · simp only [List.getD, List.getElem?_eq_none (by omega : ss.length ≤ k), Option.getD_none]
        exact Nat.zero_le _
    · exact block_lt_of_cell (hcell k (by omega))

/-- A slice of numbers that was read, told to the walk. -/
theorem openedInts {H : Type} {enc : TypeId × Value → H} {W : World} {a : Option Addr} {len cap : Nat} {d : DataW H} {p : List MemPlace} (h : DataW.Trod enc Try.prog W 0 (fun _ => true) true 26 (.slice a len cap) d p) :
    ∃ f : Nat → Int, len ≤ maxLen ∧ (∀ k, (Lit.int .u64 (f k)).wf = true) ∧ (a = none → len = 0) ∧ IsRow W W.heap.size a len (fun k => .int .u64 (f k)) := by
  obtain ⟨fuel, hf⟩ := h
  rcases open_ints Try.underlying26 Try.underlying31 Try.cells31 hf with ⟨hcs, _⟩ | ⟨x, l, c, zs, hcs, _, hl, hm, hz, _, hcell, hwz⟩
  · simp [Value.cells] at hcs
    obtain ⟨rfl, rfl, rfl⟩ := hcs
    exact ⟨fun _ => 0, Nat.zero_le _, fun _ => (by decide : (Lit.int .u64 0).wf = true), fun _ => rfl, fun k hk => absurd hk (by omega)⟩
  · simp [Value.cells] at hcs
    obtain ⟨rfl, rfl, rfl⟩ := hcs
    simp only [if_true] at hz
    refine ⟨fun k => zs.getD k 0, by omega, fun k => ?_, fun h => (by cases h), fun k hk => ⟨by simp, ?_, hcell k (by omega)⟩⟩
    · by_cases hk : k < zs.length
      · simp only [List.getD, List.getElem?_eq_getElem hk, Option.getD_some]
        exact hwz _ (List.getElem_mem hk)
      · simp only [List.getD, List.getElem?_eq_none (by omega : zs.length ≤ k), Option.getD_none]
        decide
    · exact block_lt_of_cell (hcell k (by omega))

set_option maxRecDepth 100000 in
theorem lifted (os : Os) (started : os.Started) (H : Type) (enc : TypeId × Value → H) :
    ReturnsInHanded {} Try.checked os 4 .any (Rows.fnCountTypeCountsOnlyKnownSpec.pre6 enc Try.prog Try.f4 Rows.fnCountTypeCountsOnlyKnownRow.domain false) (Rows.fnCountTypeCountsOnlyKnownSpec.post enc Try.prog Try.f4 false true false false) := by
  refine returnsInHanded_of_change (C := Try.checked) own started (by kernel_rfl) Try.func4
    (ChangeSpec.witness6 (enc := enc) (C := Try.checked) false ⟨#[], #[.slice none 0 0, .slice none 0 0, .string ByteArray.empty, .string ByteArray.empty], []⟩ 8 (by kernel_rfl) (by kernel_rfl) (by kernel_rfl) (by kernel_rfl)) ?_
  intro W base args ds gs before hval0 hW hcnd _
  have hval : ∀ (j : Nat) t v, Try.f4.params[j]? = some t → args[j]? = some v → Value.okWide Try.prog W .any base t v := hval0
  have hW' := hW
  obtain ⟨p, q, hA0, hV, rfl, hfz, hnd⟩ := hW
  have hA : DataW.TrodAll enc Try.prog W 0 (fun _ => true) true Try.f4.params.toList args.toList ds p := hA0
  rw [Try.params4] at hA hval
  obtain ⟨v0, vs0, d0, ds0, p0, q0, hargs, rfl, rfl, h0, r0⟩ := trodAll_cons hA
  obtain ⟨v1, vs1, d1, ds1, p1, q1, rfl, rfl, rfl, h1, r1⟩ := trodAll_cons r0
  obtain ⟨v2, vs2, d2, ds2, p2, q2, rfl, rfl, rfl, h2, r2⟩ := trodAll_cons r1
  obtain ⟨v3, vs3, d3, ds3, p3, q3, rfl, rfl, rfl, h3, r3⟩ := trodAll_cons r2
  obtain ⟨rfl, rfl, rfl⟩ := trodAll_nil r3
  obtain rfl : args = #[v0, v1, v2, v3] := by cases args; simp_all
  obtain ⟨rfl, rfl⟩ := trodVars_none hV
  obtain ⟨a0, len0, cap0, rfl⟩ := okWide_slice Try.underlying25 (hval 0 25 v0 rfl rfl)
  obtain ⟨a1, len1, cap1, rfl⟩ := okWide_slice Try.underlying26 (hval 1 26 v1 rfl rfl)
  obtain ⟨s, rfl, rfl, rfl, hs⟩ := open_string Try.underlying9 (hval 2 9 v2 rfl rfl) h2
  obtain ⟨t, rfl, rfl, rfl, ht⟩ := open_string Try.underlying9 (hval 3 9 v3 rfl rfl) h3
  have lt0 : ∀ x ∈ p0, x.block < W.heap.size := by obtain ⟨m, hm⟩ := h0; exact DataW.trod_lt m _ _ _ hm
  have lt1 : ∀ x ∈ p1, x.block < W.heap.size := by obtain ⟨m, hm⟩ := h1; exact DataW.trod_lt m _ _ _ hm
  obtain ⟨f, hla, hf, na, ra⟩ := opened h0
  obtain ⟨g, hlb, hg, nb, rb⟩ := openedInts h1
  clear hA0 hval0
  refine (known_walk a0 a1 len0 cap0 len1 cap1 f g s t W hla hlb hs ht hf hg na nb ra rb).mono fun e W' ⟨he, bel⟩ => ?_
  subst he
  exact ⟨_, rfl, _, _, _, [], _, [], hW', trodAll_mk1 (shut_bool Try.underlying4 _), (trodAll_cons_mk (Below.trod laidOut (by kernel_rfl) (of_decide_eq_true (by kernel_rfl)) h0 bel lt0) (trodAll_cons_mk (Below.trod laidOut (by kernel_rfl) (of_decide_eq_true (by kernel_rfl)) h1 bel lt1) (trodAll_cons_mk (shut_string Try.underlying9 hs) (trodAll_cons_mk (shut_string Try.underlying9 ht) trodAll_mk0)))), rfl, bel.frame _, fun h => by cases h⟩

theorem over : Rows.fnCountTypeCountsOnlyKnownRow.holds Try.pinned (OpenSpec.ofChange Rows.fnCountTypeCountsOnlyKnownSpec) :=
  OpenClaim.holds_of_wide 4 Try.f4 rfl rfl rfl rfl rfl rfl rfl ⟨rfl, rfl, rfl, rfl, rfl⟩ rfl rfl rfl rfl rfl (by kernel_rfl) Try.func4 (by kernel_rfl)
    (of_decide_eq_true (by kernel_rfl)) (by unfold Func.isWrapper; first | (rw [if_pos (by decide +kernel)]; kernel_rfl) | (rw [if_neg (by decide +kernel)]; exact ⟨rfl, rfl⟩))
    (fun os started H enc _ => lifted os started H enc)

end Go.Proofs.Qxb6000728a.fnCountTypeCountsOnlyKnown

namespace Go.Proofs.Qxb6000728a
/-- THE STATEMENT -/
theorem fnCountTypeCountsOnlyKnown_proved : Rows.FnCountTypeCountsOnlyKnownSaid := fnCountTypeCountsOnlyKnown.over
end Go.Proofs.Qxb6000728a
