import Derived.Test.Qxb6000728aRows
import Derived.WalkKit
import Derived.WalkSpells
import Derived.WalkLawsBesides
import Derived.Maps.OwnSet
namespace Go.Proofs.Qxb6000728a
open Go.RowKit Go.WideMaps Go.Maps

theorem Try.cells9 : Try.prog.cellsOf 9 = 1 := by kernel_rfl
theorem Try.cells31 : Try.prog.cellsOf 31 = 1 := by kernel_rfl
theorem Try.info9 : (Try.prog.info? 9).map (fun i => (i.zero, i.size, i.bytes)) = some (some (.string ByteArray.empty), 1, 16) := by kernel_rfl
theorem Try.info31 : (Try.prog.info? 31).map (fun i => (i.zero, i.size, i.bytes)) = some (some (.int .u64 0), 1, 8) := by kernel_rfl

/-- The address of element k of a slice. -/
def adr (a : Option Addr) (k : Nat) : Addr := match a with | some x => x.add k | none => ⟨0, 0, none⟩

theorem run_idx {P : Program} {t e : TypeId} {i : TypeInfo} (ht : P.underlying t = some (.slice e)) (hi : P.info? e = some i) (hs : i.size = 1) (a : Option Addr) (len cap k : Nat) (ha : a ≠ none) (hk : k < len) (W : World) :
    (Instr.indexAt t (.slice a len cap) (.int .i64 (k : Int))).run P W = .ok (.pointer (some (adr a k))) W := by
  cases a with
  | none => exact absurd rfl ha
  | some x =>
    simp [Instr.indexAt, run_underlying ht, asIntOf, sizeOf, typeInfo, hi, hs, hk, adr]

/-- WHAT THE WALK IS TOLD OF A SLICE: its first len cells hold the values 'f'. -/
def IsRow (w : World) (B : Nat) (a : Option Addr) (len : Nat) (f : Nat → Value) : Prop :=
  ∀ k, k < len → a ≠ none ∧ (adr a k).block < B ∧ w.cell? (adr a k) = some (f k)

theorem IsRow.below {w w' : World} {B : Nat} {a : Option Addr} {len : Nat} {f : Nat → Value} (h : IsRow w B a len f) (hb : Below B w w') : IsRow w' B a len f :=
  fun k hk => ⟨(h k hk).1, (h k hk).2.1, (hb.cell (h k hk).2.1).trans (h k hk).2.2⟩

theorem IsRow.mono {w : World} {B B' : Nat} {a : Option Addr} {len : Nat} {f : Nat → Value} (h : IsRow w B a len f) (hb : B ≤ B') : IsRow w B' a len f :=
  fun k hk => ⟨(h k hk).1, Nat.lt_of_lt_of_le (h k hk).2.1 hb, (h k hk).2.2⟩

theorem idx25 (a : Option Addr) (len cap k : Nat) (ha : a ≠ none) (hk : k < len) (W : World) :
    (Instr.indexAt 25 (.slice a len cap) (.int .i64 (k : Int))).run Try.prog W = .ok (.pointer (some (adr a k))) W := by
  obtain ⟨i, hi, _, hs, _⟩ := info_parts Try.info9
  exact run_idx Try.underlying25 hi hs a len cap k ha hk W
theorem idx26 (a : Option Addr) (len cap k : Nat) (ha : a ≠ none) (hk : k < len) (W : World) :
    (Instr.indexAt 26 (.slice a len cap) (.int .i64 (k : Int))).run Try.prog W = .ok (.pointer (some (adr a k))) W := by
  obtain ⟨i, hi, _, hs, _⟩ := info_parts Try.info31
  exact run_idx Try.underlying26 hi hs a len cap k ha hk W

theorem make25 (n : Nat) (hn : n ≤ 65536) (w : World) : ∃ cs : Array Value, cs.size = n ∧ (Instr.makeSlice 25 (.int .i64 (n : Int)) (.int .i64 (n : Int))).run Try.prog w = .ok (.slice (some ⟨w.heap.size, 0, none⟩) n n) (w.alloc (.cells cs 9)) := by
  obtain ⟨i, hi, hz, hs, hb⟩ := info_parts Try.info9
  have := run_make (P := Try.prog) w 25 9 i _ Try.underlying25 hi hz .i64 .i64 (n : Int) (n : Int) (by omega) (by omega) (by rw [hb]; omega) (by omega)
  exact ⟨_, by rw [size_madeCells, hs]; simp, this⟩
theorem make26 (n : Nat) (hn : n ≤ 65536) (w : World) : ∃ cs : Array Value, cs.size = n ∧ (Instr.makeSlice 26 (.int .i64 (n : Int)) (.int .i64 (n : Int))).run Try.prog w = .ok (.slice (some ⟨w.heap.size, 0, none⟩) n n) (w.alloc (.cells cs 31)) := by
  obtain ⟨i, hi, hz, hs, hb⟩ := info_parts Try.info31
  have := run_make (P := Try.prog) w 26 31 i _ Try.underlying26 hi hz .i64 .i64 (n : Int) (n : Int) (by omega) (by omega) (by rw [hb]; omega) (by omega)
  exact ⟨_, by rw [size_madeCells, hs]; simp, this⟩

end Go.Proofs.Qxb6000728a
