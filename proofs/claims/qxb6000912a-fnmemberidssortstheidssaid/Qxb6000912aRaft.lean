import Derived.Test.Qxb6000912aParts
import Derived.Sort.EncStr
import Derived.Sort.Walk0
namespace Go.Proofs.Qxb6000912a
open Go.RowKit

theorem make27 (n : Nat) (hn : n ≤ 4096) (w : World) : ∃ cs : Array Value, cs.size = n * 2 ∧ (Instr.makeSlice 27 (.int .i64 (n : Int)) (.int .i64 (n : Int))).run Try.prog w = .ok (.slice (some ⟨w.heap.size, 0, none⟩) n n) (w.alloc (.cells cs 34)) := by
  obtain ⟨i, hi, hz, hs, hb⟩ := info_parts Try.info34
  have := run_make (P := Try.prog) w 27 34 i _ Try.underlying27 hi hz .i64 .i64 (n : Int) (n : Int) (by omega) (by omega) (by rw [hb]; omega) (by omega)
  exact ⟨_, by rw [size_madeCells, hs]; simp, this⟩
theorem make25 (n : Nat) (hn : n ≤ 4096) (w : World) : ∃ cs : Array Value, cs.size = n ∧ (Instr.makeSlice 25 (.int .i64 (n : Int)) (.int .i64 (n : Int))).run Try.prog w = .ok (.slice (some ⟨w.heap.size, 0, none⟩) n n) (w.alloc (.cells cs 9)) := by
  obtain ⟨i, hi, hz, hs, hb⟩ := info_parts Try.info9
  have := run_make (P := Try.prog) w 25 9 i _ Try.underlying25 hi hz .i64 .i64 (n : Int) (n : Int) (by omega) (by omega) (by rw [hb]; omega) (by omega)
  exact ⟨_, by rw [size_madeCells, hs]; simp, this⟩

/-- A new row of pairs in block B, its first k pairs copied. -/
def Paired (wr : World) (B n : Nat) (f g : Nat → ByteArray) (k : Nat) : Prop :=
  ∃ cs : Array Value, wr.heap[B]? = some (.cells cs 34 (0, 0)) ∧ cs.size = n * 2 ∧ ∀ j, j < k → cs[j * 2]? = some (.string (f j)) ∧ cs[j * 2 + 1]? = some (.string (g j))

theorem Paired.cell {wr : World} {B n : Nat} {f g : Nat → ByteArray} {k : Nat} (h : Paired wr B n f g k) (j : Nat) (hj : j < n * 2) : ∃ v, wr.cell? ⟨B, j, none⟩ = some v := by
  obtain ⟨cs, hb, hn, _⟩ := h
  refine ⟨cs[j]'(by omega), ?_⟩
  rw [cell_of_row wr B j cs 34 _ hb]
  simp [hn, hj]
theorem Paired.frozen {wr : World} {B n : Nat} {f g : Nat → ByteArray} {k : Nat} (h : Paired wr B n f g k) (j : Nat) : wr.frozen? ⟨B, j, none⟩ = false := by
  obtain ⟨cs, hb, _⟩ := h
  exact frozen_of_row wr B j cs 34 hb
theorem Paired.made (w : World) (cs : Array Value) (n : Nat) (f g : Nat → ByteArray) (hn : cs.size = n * 2) : Paired (w.alloc (.cells cs 34)) w.heap.size n f g 0 :=
  ⟨cs, heap_alloc_new w _, hn, fun j hj => absurd hj (by omega)⟩
theorem Paired.set {wr : World} {B n : Nat} {f g : Nat → ByteArray} {k : Nat} (h : Paired wr B n f g k) (hk : k < n) :
    Paired ((wr.setCell ⟨B, k * 2, none⟩ (.string (f k))).setCell ⟨B, k * 2 + 1, none⟩ (.string (g k))) B n f g (k + 1) := by
  obtain ⟨cs, hb, hn, hc⟩ := h
  have h1 := heap_setCell_same wr B (k * 2) cs 34 (.string (f k)) hb
  have h2 := heap_setCell_same _ B (k * 2 + 1) _ 34 (.string (g k)) h1
  refine ⟨_, h2, by simp [hn], fun j hj => ?_⟩
  by_cases e : j = k
  · subst e
    constructor
    · rw [Array.getElem?_setIfInBounds_ne (by omega), Array.getElem?_setIfInBounds_self_of_lt (by omega)]
    · rw [Array.getElem?_setIfInBounds_self_of_lt (by simp; omega)]
  · constructor
    · rw [Array.getElem?_setIfInBounds_ne (by omega), Array.getElem?_setIfInBounds_ne (by omega)]; exact (hc j (by omega)).1
    · rw [Array.getElem?_setIfInBounds_ne (by omega), Array.getElem?_setIfInBounds_ne (by omega)]; exact (hc j (by omega)).2
theorem Paired.pairs {wr : World} {B n : Nat} {f g : Nat → ByteArray} (h : Paired wr B n f g n) (hB : B < wr.heap.size) : IsPairs wr wr.heap.size (some ⟨B, 0, none⟩) n f g := by
  obtain ⟨cs, hb, hn, hc⟩ := h
  refine ⟨B, 0, fun k hk => ⟨rfl, hB, ?_, ?_⟩⟩
  · rw [cell_of_row wr B _ cs 34 _ hb, Nat.zero_add]; exact (hc k hk).1
  · rw [cell_of_row wr B _ cs 34 _ hb, Nat.zero_add]; exact (hc k hk).2
theorem Paired.drewN {wr : World} {B n : Nat} {f g : Nat → ByteArray} {k : Nat} (h : Paired wr B n f g k) (q : Nat) : Paired (wr.drewN q) B n f g k := h

set_option maxHeartbeats 800000 in
set_option maxRecDepth 100000 in
theorem raft_any (a : Option Addr) (n cap : Nat) (f g : Nat → ByteArray) (w : World) (hn : n ≤ 4096) (row : IsPairs w w.heap.size a n f g) :
    Calls Try.prog 9 #[.slice a n cap] w fun e w' => ∃ a', e = .returned (.slice a' n n) ∧ IsPairs w' w'.heap.size a' n f g ∧ Below w.heap.size w w' := by
  obtain ⟨b, off, row⟩ := row
  obtain ⟨cs, hcs, hmk⟩ := make27 n hn w
  have HCS : Hid (cs.size = n * 2) := hcs
  clear hcs
  go_enter Try.func9, Try.ntmps9
  go_wp2
  go_loopw [4] (fun i wr => ∃ k : Nat, k ≤ n ∧ i = .int .i64 k ∧ Paired wr w.heap.size n f g k ∧ Below w.heap.size w wr ∧ w.heap.size < wr.heap.size) (fun i _ => n - (intOf i).toNat)
  case atStart => exact ⟨0, Nat.zero_le _, rfl, Paired.made _ _ _ _ _ HCS.out, (Below.refl _ _).alloc (Nat.le_refl _) _, by simp⟩
  case round =>
    obtain ⟨k, hk, rfl, hcp, hbel, hsz⟩ := hrel
    clear hmk
    by_cases hlt : k < n
    · obtain ⟨ha, hb, hc1, hc2⟩ := row k hlt
      have hix := fun W => idx22 a b off n cap k ha hlt W
      have hd1 : wr.cell? ⟨b, off + k * 2, none⟩ = some (.string (f k)) := (hbel.cell (p := ⟨b, off + k * 2, none⟩) hb).trans hc1
      have hd2 : wr.cell? ⟨b, off + k * 2 + 1, none⟩ = some (.string (g k)) := (hbel.cell (p := ⟨b, off + k * 2 + 1, none⟩) hb).trans hc2
      have hiy := fun W => idx27 (some ⟨w.heap.size, 0, none⟩) w.heap.size 0 n n k rfl hlt W
      simp only [Nat.zero_add] at hiy
      obtain ⟨v0, hv0⟩ := hcp.cell (k * 2) (by omega)
      obtain ⟨v1, hv1⟩ := hcp.cell (k * 2 + 1) (by omega)
      have hf0 := hcp.frozen (k * 2)
      have hf1 := hcp.frozen (k * 2 + 1)
      have HS := hcp.set hlt
      have HB : Hid (Below w.heap.size w ((wr.setCell ⟨w.heap.size, k * 2, none⟩ (.string (f k))).setCell ⟨w.heap.size, k * 2 + 1, none⟩ (.string (g k)))) := (hbel.setCell (Nat.le_refl _) _).setCell (Nat.le_refl _) _
      have HSH : Hid (Paired ((wr.setCell ⟨w.heap.size, k * 2, none⟩ (.string (f k))).setCell ⟨w.heap.size, k * 2 + 1, none⟩ (.string (g k))) w.heap.size n f g (k + 1)) := HS
      clear HS ha row hc1 hc2 hcp hbel
      go_wp2
      go_region
      go_wp2
      go_roundw
      case rel => exact ⟨k + 1, by omega, by go_num, HSH.out, HB.out.drew, by simpa [World.setCell, World.drew] using hsz⟩
      case measure => simp [intOf]; omega
    · go_wp2
      go_ret
      have : k = n := by omega
      subst this
      exact ⟨_, rfl, hcp.pairs hsz, hbel⟩

/-- A slice of strings, each told as a list of bytes. -/
def IsStrs (w : World) (B : Nat) (a : Option Addr) (n : Nat) (h : Nat → List UInt8) : Prop :=
  ∃ b, ∀ k, k < n → a = some ⟨b, 0, none⟩ ∧ b < B ∧ w.cell? ⟨b, k, none⟩ = some (encStr (h k))
theorem IsStrs.below {w w' : World} {B : Nat} {a : Option Addr} {n : Nat} {h : Nat → List UInt8} (r : IsStrs w B a n h) (hb : Below B w w') : IsStrs w' B a n h := by
  obtain ⟨b, r⟩ := r
  refine ⟨b, fun k hk => ?_⟩
  obtain ⟨h1, h2, h3⟩ := r k hk
  exact ⟨h1, h2, (hb.cell (p := ⟨b, k, none⟩) h2).trans h3⟩
theorem IsStrs.mono {w : World} {B B' : Nat} {a : Option Addr} {n : Nat} {h : Nat → List UInt8} (r : IsStrs w B a n h) (hb : B ≤ B') : IsStrs w B' a n h := by
  obtain ⟨b, r⟩ := r
  exact ⟨b, fun k hk => ⟨(r k hk).1, Nat.lt_of_lt_of_le (r k hk).2.1 hb, (r k hk).2.2⟩⟩

set_option maxHeartbeats 800000 in
set_option maxRecDepth 100000 in
theorem equal_any (a a' : Option Addr) (c c' n : Nat) (h : Nat → List UInt8) (w : World) (B : Nat) (hn : n ≤ 4096) (r1 : IsStrs w B a n h) (r2 : IsStrs w B a' n h) :
    Calls Try.prog 10 #[.slice a n c, .slice a' n c'] w fun e w' => e = .returned (.bool true) ∧ Drew w w' := by
  obtain ⟨b1, r1⟩ := r1
  obtain ⟨b2, r2⟩ := r2
  go_enter Try.func10, Try.ntmps10
  go_wp2
  go_loopw [5] (fun i wr => ∃ k : Nat, k ≤ n ∧ i = .int .i64 k ∧ Drew w wr) (fun i _ => n - (intOf i).toNat)
  case atStart => exact ⟨0, Nat.zero_le _, rfl, Drew.refl _⟩
  case round =>
    obtain ⟨k, hk, rfl, hd⟩ := hrel
    by_cases hlt : k < n
    · obtain ⟨h1, _, h3⟩ := r1 k hlt
      obtain ⟨g1, _, g3⟩ := r2 k hlt
      have hix := fun W => idx25 a b1 0 n c k h1 hlt W
      have hiy := fun W => idx25 a' b2 0 n c' k g1 hlt W
      simp only [Nat.zero_add] at hix hiy
      obtain ⟨x, hx⟩ : ∃ x : ByteArray, x = ⟨(h k).toArray⟩ := ⟨_, rfl⟩
      have hc1 : wr.cell? ⟨b1, k, none⟩ = some (.string x) := by rw [hx]; exact (hd.cell _).trans h3
      have hc2 : wr.cell? ⟨b2, k, none⟩ = some (.string x) := by rw [hx]; exact (hd.cell _).trans g3
      clear r1 r2 h1 h3 g1 g3 hx
      go_wp2
      go_quiet (fail)
      go_wp2
      go_roundw
      case rel => exact ⟨k + 1, by omega, by go_num, hd.drewN _⟩
      case measure => simp [intOf]; omega
    · clear r1 r2
      go_wp2
      go_ret
      exact ⟨rfl, hd⟩

end Go.Proofs.Qxb6000912a
