import Derived.Test.Qxb6000912aRows
import Derived.Test.Qxb6000912aTop
import Derived.ProofKit
import Derived.OpenShut
import Derived.ShutString
import Derived.ChangeOld
import Derived.Deep.SlicePairs
namespace Go.Proofs.Qxb6000912a.fnMemberIDsSortsTheIDs
open Go.ChangeShapes Go.WideShapes Go.ChangeAt Go.RowKit Go.Deep
set_option linter.unusedVariables false

theorem own : ownKnob Try.prog.godebug = none := by kernel_rfl
theorem laidOut : laidOutB Try.prog = true := by kernel_rfl
theorem cells33 : Try.prog.cellsOf 33 = 2 := by kernel_rfl
theorem cells9 : Try.prog.cellsOf 9 = 1 := by kernel_rfl

/-- A slice of pairs of strings that was read, told to the walk. -/
theorem opened {H : Type} {enc : TypeId × Value → H} {W : World} {a : Option Addr} {len cap : Nat} {d : DataW H} {p : List MemPlace} (h : DataW.Trod enc Try.prog W 0 (fun _ => true) true 22 (.slice a len cap) d p) :
    ∃ f g : Nat → ByteArray, len ≤ maxLen ∧ (∀ k, (f k).size ≤ maxLen) ∧ (∀ k, (g k).size ≤ maxLen) ∧ IsPairs W W.heap.size a len f g := by
  obtain ⟨fuel, hf⟩ := h
  rcases open_slice_pairs Try.underlying22 Try.underlying33 cells33 rfl rfl cells9 cells9 hf with ⟨hcs, _⟩ | ⟨x, l, c, m, n, V0, V1, D0, D1, P0, P1, hcs, _, hl, hm, hmm, _, hx⟩
  · simp [Value.cells] at hcs
    obtain ⟨rfl, rfl, rfl⟩ := hcs
    exact ⟨fun _ => ByteArray.empty, fun _ => ByteArray.empty, Nat.zero_le _, fun _ => Nat.zero_le _, fun _ => Nat.zero_le _, 0, 0, fun k hk => absurd hk (by omega)⟩
  · simp [Value.cells] at hcs
    obtain ⟨rfl, rfl, rfl⟩ := hcs
    simp only [if_true] at hmm
    have h0 : ∀ i, i < len → ∃ s : ByteArray, V0 i = .string s ∧ s.size ≤ maxLen := fun i hi => by
      obtain ⟨s, hs, _, hw⟩ := DataW.trod_string Try.underlying9 (hx i (by omega)).2.2.1
      exact ⟨s, by simpa using hs, hw⟩
    have h1 : ∀ i, i < len → ∃ s : ByteArray, V1 i = .string s ∧ s.size ≤ maxLen := fun i hi => by
      obtain ⟨s, hs, _, hw⟩ := DataW.trod_string Try.underlying9 (hx i (by omega)).2.2.2
      exact ⟨s, by simpa using hs, hw⟩
    have c0 : ∀ i, ∃ s : ByteArray, s.size ≤ maxLen ∧ (i < len → V0 i = .string s) := fun i => by
      by_cases hi : i < len
      · obtain ⟨s, e, hs⟩ := h0 i hi
        exact ⟨s, hs, fun _ => e⟩
      · exact ⟨ByteArray.empty, Nat.zero_le _, fun e => absurd e hi⟩
    have c1 : ∀ i, ∃ s : ByteArray, s.size ≤ maxLen ∧ (i < len → V1 i = .string s) := fun i => by
      by_cases hi : i < len
      · obtain ⟨s, e, hs⟩ := h1 i hi
        exact ⟨s, hs, fun _ => e⟩
      · exact ⟨ByteArray.empty, Nat.zero_le _, fun e => absurd e hi⟩
    refine ⟨fun i => Classical.choose (c0 i), fun i => Classical.choose (c1 i), by omega, fun i => (Classical.choose_spec (c0 i)).1, fun i => (Classical.choose_spec (c1 i)).1, ?_⟩
    by_cases hz : len = 0
    · exact ⟨0, 0, fun k hk => absurd hk (by omega)⟩
    · obtain ⟨b, off, spot⟩ := x
      have hspot : spot = none := by
        have := (hx 0 (by omega)).1
        simpa [Addr.add] using World.cell?_spot this
      subst hspot
      refine ⟨b, off, fun k hk => ?_⟩
      obtain ⟨g1, g2, _, _⟩ := hx k (by omega)
      rw [(Classical.choose_spec (c0 k)).2 hk, Addr.add_lit] at g1
      rw [(Classical.choose_spec (c1 k)).2 hk, Addr.add_lit] at g2
      exact ⟨rfl, block_lt_of_cell g1, g1, by rw [Nat.add_assoc]; exact g2⟩

set_option maxRecDepth 100000 in
theorem lifted (os : Os) (started : os.Started) (H : Type) (enc : TypeId × Value → H) :
    ReturnsInHanded {} Try.checked os 3 .any (Rows.fnMemberIDsSortsTheIDsSpec.pre6 enc Try.prog Try.f3 Rows.fnMemberIDsSortsTheIDsRow.domain false) (Rows.fnMemberIDsSortsTheIDsSpec.post enc Try.prog Try.f3 false true false false) := by
  refine returnsInHanded_of_change (C := Try.checked) own started (by kernel_rfl) Try.func3
    (ChangeSpec.witness6 (enc := enc) (C := Try.checked) false ⟨#[], #[.slice none 0 0], []⟩ 8 (by kernel_rfl) (by kernel_rfl) (by kernel_rfl) (by kernel_rfl)) ?_
  intro W base args ds gs before hval0 hW hcnd _
  have hval : ∀ (j : Nat) t v, Try.f3.params[j]? = some t → args[j]? = some v → Value.okWide Try.prog W .any base t v := hval0
  have hW' := hW
  obtain ⟨p, q, hA0, hV, rfl, hfz, hnd⟩ := hW
  have hA : DataW.TrodAll enc Try.prog W 0 (fun _ => true) true Try.f3.params.toList args.toList ds p := hA0
  rw [Try.params3] at hA hval
  obtain ⟨v0, vs0, d0, ds0, p0, q0, hargs, rfl, rfl, h0, r0⟩ := trodAll_cons hA
  obtain ⟨rfl, rfl, rfl⟩ := trodAll_nil r0
  obtain rfl : args = #[v0] := by cases args; simp_all
  obtain ⟨rfl, rfl⟩ := trodVars_none hV
  obtain ⟨a0, len0, cap0, rfl⟩ := okWide_slice Try.underlying22 (hval 0 22 v0 rfl rfl)
  have lt0 : ∀ x ∈ p0, x.block < W.heap.size := by obtain ⟨m, hm⟩ := h0; exact DataW.trod_lt m _ _ _ hm
  obtain ⟨f, g, hl, hf, hg, row⟩ := opened h0
  clear hA0 hval0
  refine (top_any a0 len0 cap0 f g W hl hf hg row).mono fun e W' ⟨he, bel⟩ => ?_
  subst he
  exact ⟨_, rfl, _, _, _, [], _, [], hW', trodAll_mk1 (shut_bool Try.underlying4 _), (trodAll_cons_mk (Below.trod laidOut (by kernel_rfl) (of_decide_eq_true (by kernel_rfl)) h0 bel lt0) trodAll_mk0), rfl, bel.frame _, fun h => by cases h⟩

theorem over : Rows.fnMemberIDsSortsTheIDsRow.holds Try.pinned (OpenSpec.ofChange Rows.fnMemberIDsSortsTheIDsSpec) :=
  OpenClaim.holds_of_wide 3 Try.f3 rfl rfl rfl rfl rfl rfl rfl ⟨rfl, rfl, rfl, rfl, rfl⟩ rfl rfl rfl rfl rfl (by kernel_rfl) Try.func3 (by kernel_rfl)
    (of_decide_eq_true (by kernel_rfl)) (by unfold Func.isWrapper; first | (rw [if_pos (by decide +kernel)]; kernel_rfl) | (rw [if_neg (by decide +kernel)]; exact ⟨rfl, rfl⟩))
    (fun os started H enc _ => lifted os started H enc)
end Go.Proofs.Qxb6000912a.fnMemberIDsSortsTheIDs

namespace Go.Proofs.Qxb6000912a
/-- THE STATEMENT -/
theorem fnMemberIDsSortsTheIDs_proved : Rows.FnMemberIDsSortsTheIDsSaid := fnMemberIDsSortsTheIDs.over
end Go.Proofs.Qxb6000912a
