import Derived.Test.Qxb6000880aRows
import Derived.WalkKit
import Derived.WalkSpells
import Derived.WalkLawsBesides
namespace Go.Proofs.Qxb6000880a
open Go.RowKit

theorem Try.cells5 : Try.prog.cellsOf 5 = 1 := by kernel_rfl
theorem Try.info5 : (Try.prog.info? 5).map (fun i => (i.zero, i.size, i.bytes)) = some (some (.int .u8 0), 1, 1) := by kernel_rfl

/-- The address of element k of a slice. -/
def adr (a : Option Addr) (k : Nat) : Addr := match a with | some x => x.add k | none => ⟨0, 0, none⟩

theorem run_idx {P : Program} {t e : TypeId} {i : TypeInfo} (ht : P.underlying t = some (.slice e)) (hi : P.info? e = some i) (hs : i.size = 1) (a : Option Addr) (len cap k : Nat) (ha : a ≠ none) (hk : k < len) (W : World) :
    (Instr.indexAt t (.slice a len cap) (.int .i64 (k : Int))).run P W = .ok (.pointer (some (adr a k))) W := by
  cases a with
  | none => exact absurd rfl ha
  | some x =>
    simp [Instr.indexAt, run_underlying ht, asIntOf, sizeOf, typeInfo, hi, hs, hk, adr]

/-- WHAT THE WALK IS TOLD OF A SLICE: its first len cells hold the values 'f'. -/
def IsRow (w : World) (B : Nat) (a : Option Addr) (len : Nat) (f : Nat → Value) : Prop :=
  ∀ k, k < len → a ≠ none ∧ (adr a k).block < B ∧ w.cell? (adr a k) = some (f k)

theorem IsRow.below {w w' : World} {B : Nat} {a : Option Addr} {len : Nat} {f : Nat → Value} (h : IsRow w B a len f) (hb : Below B w w') : IsRow w' B a len f :=
  fun k hk => ⟨(h k hk).1, (h k hk).2.1, (hb.cell (h k hk).2.1).trans (h k hk).2.2⟩

theorem IsRow.mono {w : World} {B B' : Nat} {a : Option Addr} {len : Nat} {f : Nat → Value} (h : IsRow w B a len f) (hb : B ≤ B') : IsRow w B' a len f :=
  fun k hk => ⟨(h k hk).1, Nat.lt_of_lt_of_le (h k hk).2.1 hb, (h k hk).2.2⟩

theorem idx22 (a : Option Addr) (len cap k : Nat) (ha : a ≠ none) (hk : k < len) (W : World) :
    (Instr.indexAt 22 (.slice a len cap) (.int .i64 (k : Int))).run Try.prog W = .ok (.pointer (some (adr a k))) W := by
  obtain ⟨i, hi, _, hs, _⟩ := info_parts Try.info5
  exact run_idx Try.underlying22 hi hs a len cap k ha hk W

theorem make22 (n : Nat) (hn : n ≤ 1048576) (w : World) : ∃ cs : Array Value, cs.size = n ∧ (Instr.makeSlice 22 (.int .i64 (n : Int)) (.int .i64 (n : Int))).run Try.prog w = .ok (.slice (some ⟨w.heap.size, 0, none⟩) n n) (w.alloc (.cells cs 5)) := by
  obtain ⟨i, hi, hz, hs, hb⟩ := info_parts Try.info5
  have := run_make (P := Try.prog) w 22 5 i _ Try.underlying22 hi hz .i64 .i64 (n : Int) (n : Int) (by omega) (by omega) (by rw [hb]; omega) (by omega)
  exact ⟨_, by rw [size_madeCells, hs]; simp, this⟩

/-- A new row in block B, its first k cells copied. -/
def Copied (wr : World) (B n : Nat) (t : TypeId) (f : Nat → Value) (k : Nat) : Prop :=
  ∃ cs : Array Value, wr.heap[B]? = some (.cells cs t (0, 0)) ∧ cs.size = n ∧ ∀ j, j < k → cs[j]? = some (f j)

theorem Copied.cell {wr : World} {B n : Nat} {t : TypeId} {f : Nat → Value} {k : Nat} (h : Copied wr B n t f k) (hk : k < n) : ∃ v, wr.cell? ⟨B, k, none⟩ = some v := by
  obtain ⟨cs, hb, hn, _⟩ := h
  refine ⟨cs[k]'(by omega), ?_⟩
  rw [cell_of_row wr B k cs t _ hb]
  simp [hn, hk]

theorem Copied.frozen {wr : World} {B n : Nat} {t : TypeId} {f : Nat → Value} {k : Nat} (h : Copied wr B n t f k) (j : Nat) : wr.frozen? ⟨B, j, none⟩ = false := by
  obtain ⟨cs, hb, _⟩ := h
  exact frozen_of_row wr B j cs t hb

theorem Copied.set {wr : World} {B n : Nat} {t : TypeId} {f : Nat → Value} {k : Nat} (h : Copied wr B n t f k) (hk : k < n) : Copied (wr.setCell ⟨B, k, none⟩ (f k)) B n t f (k + 1) := by
  obtain ⟨cs, hb, hn, hc⟩ := h
  refine ⟨cs.setIfInBounds k (f k), heap_setCell_same wr B k cs t _ hb, by simp [hn], fun j hj => ?_⟩
  by_cases e : j = k
  · subst e; simp [hn, hk]
  · rw [Array.getElem?_setIfInBounds_ne (by omega)]; exact hc j (by omega)

theorem Copied.row {wr : World} {B n : Nat} {t : TypeId} {f : Nat → Value} (h : Copied wr B n t f n) (hB : B < wr.heap.size) : IsRow wr wr.heap.size (some ⟨B, 0, none⟩) n f := by
  obtain ⟨cs, hb, hn, hc⟩ := h
  intro k hk
  have e : adr (some ⟨B, 0, none⟩) k = ⟨B, k, none⟩ := by simp only [adr]; rw [Addr.add_lit, Nat.zero_add]
  rw [e]
  exact ⟨by simp, hB, by rw [cell_of_row wr B k cs t _ hb]; exact hc k hk⟩

theorem Copied.made (w : World) (cs : Array Value) (n : Nat) (t : TypeId) (f : Nat → Value) (hn : cs.size = n) : Copied (w.alloc (.cells cs t)) w.heap.size n t f 0 :=
  ⟨cs, heap_alloc_new w _, hn, fun j hj => absurd hj (by omega)⟩

set_option maxHeartbeats 400000 in
set_option maxRecDepth 100000 in
theorem clone_bytes (a : Option Addr) (len cap : Nat) (f : Nat → Int) (w : World) (hlen : len ≤ 1048576) (hnil : a = none → len = 0) (hrow : IsRow w w.heap.size a len (fun k => .int .u8 (f k))) :
    Calls Try.prog 10 #[.slice a len cap] w fun e w' => ∃ a' cap', e = .returned (.slice a' len cap') ∧ IsRow w' w'.heap.size a' len (fun k => .int .u8 (f k)) ∧ Below w.heap.size w w' := by
  have q : ∀ (w : World) (a : Option Addr) (n c n' c' : Nat), (binOp .eql 22 (.slice a n c) (.slice none n' c')).run Try.prog w = .ok (.bool a.isNone) w := fun w a n c n' c' => Lib.run_eql_slice_nil w _ _ a n c n' c' Try.underlying22
  cases a with
  | none =>
    have h0 := hnil rfl
    subst h0
    clear hnil hrow
    go_enter Try.func10, Try.ntmps10
    go_wp2
    go_ret
    exact ⟨none, 0, rfl, fun k hk => absurd hk (by omega), Below.refl _ _⟩
  | some x =>
    clear hnil
    obtain ⟨cs, hcs, hmk⟩ := make22 len hlen w
    have HCS : Hid (cs.size = len) := hcs
    clear hcs
    go_enter Try.func10, Try.ntmps10
    go_wp2
    go_loopw [4] (fun i wr => ∃ k : Nat, k ≤ len ∧ i = .int .i64 k ∧ Copied wr w.heap.size len 5 (fun k => .int .u8 (f k)) k ∧ Below w.heap.size w wr ∧ w.heap.size < wr.heap.size) (fun i _ => len - (intOf i).toNat)
    case atStart => exact ⟨0, Nat.zero_le _, rfl, Copied.made _ _ _ _ _ HCS.out, (Below.refl _ _).alloc (Nat.le_refl _) _, by simp⟩
    case round =>
      obtain ⟨k, hk, rfl, hcp, hbel, hsz⟩ := hrel
      clear hmk q
      by_cases hlt : k < len
      · obtain ⟨v, hv⟩ := hcp.cell hlt
        have hfz := hcp.frozen k
        have hix := fun W => idx22 (some x) len cap k (by simp) hlt W
        have hsrc := ((hrow.below hbel) k hlt).2.2
        have HR : Hid (Copied (wr.setCell ⟨w.heap.size, k, none⟩ (.int .u8 (f k))) w.heap.size len 5 (fun k => .int .u8 (f k)) (k + 1)) := hcp.set (f := fun k => .int .u8 (f k)) hlt
        have HB : Hid (Below w.heap.size w (wr.setCell ⟨w.heap.size, k, none⟩ (.int .u8 (f k)))) := hbel.setCell (Nat.le_refl _) _
        clear hcp hbel hrow
        go_wp2
        go_roundw
        case rel => exact ⟨k + 1, by omega, by go_num, HR.out, HB.out, by simpa [World.setCell] using hsz⟩
        case measure => simp [intOf]; omega
      · go_wp2
        go_ret
        have : k = len := by omega
        subst this
        exact ⟨_, _, rfl, hcp.row hsz, hbel⟩

end Go.Proofs.Qxb6000880a
