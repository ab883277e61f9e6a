import Derived.Test.Qxb6000912aPlain
import Derived.Test.Qxb6000912aShelf
import Derived.Sort.OwnSorted
namespace Go.Proofs.Qxb6000912a
open Go.RowKit Go.BigFrame

theorem Filled.alloc {wr : World} {B n : Nat} {f : Nat → ByteArray} {k : Nat} (h : Filled wr B n f k) (hB : B < wr.heap.size) (o : Obj) : Filled (wr.alloc o) B n f k := by
  obtain ⟨cs, hb, r⟩ := h
  exact ⟨cs, (Below.heap_alloc wr o B hB).trans hb, r⟩

theorem sorted_strs {wr : World} {B n q : Nat} {os : Array Obj} {xs ts : List (List UInt8)} (h : Row wr B xs) (hx : xs.length = n) (ht : ts.length = n) :
    IsStrs (Sort.grow (Sort.putRow encStr (Sort.ahead wr q) B 0 ts.toArray) os) (Sort.grow (Sort.putRow encStr (Sort.ahead wr q) B 0 ts.toArray) os).heap.size (some ⟨B, 0, none⟩) n (at' ts) := by
  have hh := heap_sorted (n := q) (os := os) ts.toArray h
  refine ⟨B, fun k hk => ⟨rfl, (Array.getElem?_eq_some_iff.1 hh).1, ?_⟩⟩
  rw [cell_of_row _ B k _ 9 _ hh]
  have h1 : ((Sort.putCells encStr 0 ts.toArray (xs.map encStr).toArray).toList.take ts.length)[k]? = (ts.map encStr)[k]? := by
    rw [take_putCells _ ts (by simp; omega)]
  rw [List.getElem?_take_of_lt (by omega), Array.getElem?_toList] at h1
  rw [h1, at_eq (by omega)]
  simp [show k < ts.length by omega]

theorem holds_row {wr : World} {B : Nat} {xs : List (List UInt8)} (h : Row wr B xs) : Sort.Holds encStr wr B 0 xs.toArray :=
  holds_of_block h (by simp [List.take_of_length_le])

set_option maxHeartbeats 1000000 in
set_option maxRecDepth 100000 in
theorem ids_any (a : Option Addr) (n cap : Nat) (f g : Nat → ByteArray) (w : World) (hn : n ≤ 4096) (row : IsPairs w w.heap.size a n f g) :
    Calls Try.prog 8 #[.slice a n cap] w fun e w' => ∃ a', e = .returned (.slice a' n n) ∧ IsStrs w' w'.heap.size a' n (at' ((ids f n).mergeSort fun x y => decide (x ≤ y))) ∧ Below w.heap.size w w' := by
  obtain ⟨b, off, row⟩ := row
  obtain ⟨cs, hcs, hmk⟩ := make25 n hn w
  have HCS : Hid (cs.size = n) := hcs
  clear hcs
  go_enter Try.func8, Try.ntmps8
  go_wp2_with fail
  go_loopw [11] (fun i wr => ∃ k : Nat, k ≤ n ∧ i = .int .i64 k ∧ Filled wr w.heap.size n f k ∧ Below w.heap.size w wr ∧ w.heap.size < wr.heap.size) (fun i _ => n - (intOf i).toNat)
  case atStart => exact ⟨0, Nat.zero_le _, rfl, Filled.made _ _ _ _ HCS.out, (Below.refl _ _).alloc (Nat.le_refl _) _, by simp⟩
  case round =>
    obtain ⟨k, hk, rfl, hcp, hbel, hsz⟩ := hrel
    clear hmk
    by_cases hlt : k < n
    · obtain ⟨ha, hb, hc1, hc2⟩ := row k hlt
      have hix := fun W => idx27 a b off n cap k ha hlt W
      have hd1 : wr.cell? ⟨b, off + k * 2, none⟩ = some (.string (f k)) := (hbel.cell (p := ⟨b, off + k * 2, none⟩) hb).trans hc1
      have hd2 : wr.cell? ⟨b, off + k * 2 + 1, none⟩ = some (.string (g k)) := (hbel.cell (p := ⟨b, off + k * 2 + 1, none⟩) hb).trans hc2
      have hiy := fun W => idx25 (some ⟨w.heap.size, 0, none⟩) w.heap.size 0 n n k rfl hlt W
      simp only [Nat.zero_add] at hiy
      obtain ⟨v0, hv0⟩ := hcp.cell hlt
      have hf0 := hcp.frozen k
      have HB : Hid (Below w.heap.size w ((wr.setCell ⟨w.heap.size, k, none⟩ (.string (f k))).alloc (Obj.cells #[Value.string (f k), Value.string (g k)] 34))) :=
        (hbel.setCell (Nat.le_refl _) _).alloc (by have := hbel.size; simpa [World.setCell] using this) _
      have HSH : Hid (Filled ((wr.setCell ⟨w.heap.size, k, none⟩ (.string (f k))).alloc (Obj.cells #[Value.string (f k), Value.string (g k)] 34)) w.heap.size n f (k + 1)) :=
        (hcp.set hlt).alloc (by simpa [World.setCell] using hsz) _
      clear ha row hc1 hc2 hcp hbel
      go_wp2_with fail
      go_roundw
      case rel => exact ⟨k + 1, by omega, by go_num, HSH.out, HB.out, by simp [World.setCell]; omega⟩
      case measure => simp [intOf]; omega
    · obtain rfl : k = n := by omega
      have hrow := hcp.row
      have hc := Try.slices_Sort_string w.heap.size 0 k (ids f k) wr (holds_row hrow) hsz (by rw [ids_length]; omega)
      rw [ids_length] at hc
      clear row hcp hlt
      go_wp2_with fail
      refine hc.mono ?_
      rintro e w1 ⟨rfl, q, os, hw⟩
      have HS : Hid (IsStrs w1 w1.heap.size (some ⟨w.heap.size, 0, none⟩) k (at' ((ids f k).mergeSort fun x y => decide (x ≤ y)))) := by
        show IsStrs _ _ _ _ _
        rw [hw]
        exact sorted_strs hrow (ids_length f k) (by rw [List.length_mergeSort, ids_length])
      have HB : Hid (Below w.heap.size w w1) := by
        show Below _ _ _
        rw [hw]
        exact hbel.grown (grownBy_sorted _) hbel.size (fun j hj => by cases hj; exact Nat.le_refl _)
      clear hw hc hrow hbel
      go_wp2_with fail
      go_ret
      exact ⟨_, rfl, HS.out, HB.out⟩

end Go.Proofs.Qxb6000912a
