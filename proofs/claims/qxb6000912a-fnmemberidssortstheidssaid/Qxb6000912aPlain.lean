import Derived.Test.Qxb6000912aRaft
namespace Go.Proofs.Qxb6000912a
open Go.RowKit

/-- Element k of a list of byte lists. -/
def at' (xs : List (List UInt8)) (k : Nat) : List UInt8 := xs.getD k []
theorem at_eq {xs : List (List UInt8)} {k : Nat} (h : k < xs.length) : at' xs k = xs[k] := by simp [at', h]

/-- The exchange of m and m + 1. -/
def swp (xs : List (List UInt8)) (m : Nat) : List (List UInt8) := (xs.set m (at' xs (m + 1))).set (m + 1) (at' xs m)
theorem swp_perm {xs : List (List UInt8)} {m : Nat} (h : m + 1 < xs.length) : (swp xs m).Perm xs := by
  unfold swp
  rw [at_eq h, at_eq (by omega)]
  exact List.set_set_perm (by omega) h
theorem swp_length {xs : List (List UInt8)} {m : Nat} : (swp xs m).length = xs.length := by simp [swp]
theorem swp_at {xs : List (List UInt8)} {m : Nat} (h : m + 1 < xs.length) (k : Nat) : at' (swp xs m) k = if k = m then at' xs (m + 1) else if k = m + 1 then at' xs m else at' xs k := by
  unfold swp
  by_cases e1 : k = m
  · subst e1
    rw [if_pos rfl]
    simp [at', show k < xs.length by omega]
  · rw [if_neg e1]
    by_cases e2 : k = m + 1
    · subst e2
      rw [if_pos rfl]
      simp [at', h]
    · rw [if_neg e2]
      simp [at', show ¬ m = k by omega, show ¬ m + 1 = k by omega]

/-- All pairs up to index i are in order, but for those whose larger index is j. -/
def Ord (xs : List (List UInt8)) (i j : Nat) : Prop := ∀ p q, p < q → q ≤ i → q ≠ j → at' xs p ≤ at' xs q
/-- The first i elements are in order. -/
def SortedTo (xs : List (List UInt8)) (i : Nat) : Prop := ∀ p q, p < q → q < i → at' xs p ≤ at' xs q

theorem ord_start {xs : List (List UInt8)} {i : Nat} (h : SortedTo xs i) : Ord xs i i := fun p q hp hq hne => h p q hp (by omega)
theorem ord_swap {xs : List (List UInt8)} {i m : Nat} (h : Ord xs i (m + 1)) (hm : m + 1 ≤ i) (hl : i < xs.length) (hlt : at' xs (m + 1) ≤ at' xs m) : Ord (swp xs m) i m := by
  intro p q hpq hq hne
  have hl' : m + 1 < xs.length := by omega
  rw [swp_at hl', swp_at hl']
  by_cases q1 : q = m + 1
  · subst q1
    rw [if_neg (by omega : ¬ m + 1 = m), if_pos rfl]
    by_cases p1 : p = m
    · subst p1; rw [if_pos rfl]; exact hlt
    · rw [if_neg p1, if_neg (by omega)]
      exact h p m (by omega) (by omega) (by omega)
  · rw [if_neg hne, if_neg q1]
    by_cases p1 : p = m
    · subst p1; rw [if_pos rfl]; exact h (p + 1) q (by omega) hq q1
    · rw [if_neg p1]
      by_cases p2 : p = m + 1
      · subst p2; rw [if_pos rfl]; exact h m q (by omega) hq q1
      · rw [if_neg p2]; exact h p q hpq hq q1
theorem ord_zero {xs : List (List UInt8)} {i : Nat} (h : Ord xs i 0) : SortedTo xs (i + 1) := fun p q hpq hq => h p q hpq (by omega) (by omega)
theorem ord_stop {xs : List (List UInt8)} {i m : Nat} (h : Ord xs i (m + 1)) (hm : m + 1 ≤ i) (hle : at' xs m ≤ at' xs (m + 1)) : SortedTo xs (i + 1) := by
  intro p q hpq hq
  by_cases e : q = m + 1
  · subst e
    by_cases e2 : p = m
    · subst e2; exact hle
    · exact List.le_trans (h p m (by omega) (by omega) (by omega)) hle
  · exact h p q hpq (by omega) e
theorem sorted_one (xs : List (List UInt8)) : SortedTo xs 1 := fun p q hpq hq => absurd hq (by omega)

theorem eq_mergeSort {xs ids : List (List UInt8)} (hp : xs.Perm ids) (h : SortedTo xs xs.length) : xs = ids.mergeSort fun x y => decide (x ≤ y) := by
  refine List.Perm.eq_of_pairwise (le := fun a b : List UInt8 => decide (a ≤ b) = true) (fun a b _ _ h1 h2 => List.le_antisymm (of_decide_eq_true h1) (of_decide_eq_true h2)) ?_ ?_ (hp.trans (List.mergeSort_perm ids _).symm)
  · rw [List.pairwise_iff_getElem]
    intro i j hi hj hij
    have := h i j hij hj
    rw [at_eq hi, at_eq hj] at this
    exact decide_eq_true this
  · exact List.pairwise_mergeSort (le := fun x y : List UInt8 => decide (x ≤ y)) (fun a b c h1 h2 => by simp only [decide_eq_true_eq] at *; exact List.le_trans h1 h2) (fun a b => by simp only [Bool.or_eq_true, decide_eq_true_eq]; exact List.le_total a b) ids

/-- A row of the call's own that holds a list of strings. -/
def Row (wr : World) (B : Nat) (xs : List (List UInt8)) : Prop := wr.heap[B]? = some (.cells (xs.map encStr).toArray 9 (0, 0))
theorem Row.cell {wr : World} {B : Nat} {xs : List (List UInt8)} (h : Row wr B xs) {k : Nat} (hk : k < xs.length) : wr.cell? ⟨B, k, none⟩ = some (encStr (at' xs k)) := by
  rw [cell_of_row wr B k _ 9 _ h, at_eq hk]
  simp [hk]
theorem Row.frozen {wr : World} {B : Nat} {xs : List (List UInt8)} (h : Row wr B xs) (k : Nat) : wr.frozen? ⟨B, k, none⟩ = false := frozen_of_row wr B k _ 9 h
theorem Row.set {wr : World} {B : Nat} {xs : List (List UInt8)} (h : Row wr B xs) (k : Nat) (x : List UInt8) : Row (wr.setCell ⟨B, k, none⟩ (encStr x)) B (xs.set k x) := by
  have := heap_setCell_same wr B k _ 9 (encStr x) h
  unfold Row
  rw [this]
  simp
theorem Row.swap {wr : World} {B : Nat} {xs : List (List UInt8)} (h : Row wr B xs) (m : Nat) : Row ((wr.setCell ⟨B, m, none⟩ (encStr (at' xs (m + 1)))).setCell ⟨B, m + 1, none⟩ (encStr (at' xs m))) B (swp xs m) :=
  (h.set m _).set (m + 1) _
theorem Row.strs {wr : World} {B : Nat} {xs : List (List UInt8)} (h : Row wr B xs) (hB : B < wr.heap.size) : IsStrs wr wr.heap.size (some ⟨B, 0, none⟩) xs.length (at' xs) :=
  ⟨B, fun _ hk => ⟨rfl, hB, h.cell hk⟩⟩

/-- The ids, as lists of bytes. -/
def ids (f : Nat → ByteArray) (n : Nat) : List (List UInt8) := (List.range n).map fun k => (f k).data.toList
theorem ids_length (f : Nat → ByteArray) (n : Nat) : (ids f n).length = n := by simp [ids]
theorem enc_bytes (s : ByteArray) : encStr s.data.toList = .string s := by
  show Value.string ⟨s.data.toList.toArray⟩ = .string s
  simp

/-- The row while it is filled. -/
def Filled (wr : World) (B n : Nat) (f : Nat → ByteArray) (k : Nat) : Prop :=
  ∃ cs : Array Value, wr.heap[B]? = some (.cells cs 9 (0, 0)) ∧ cs.size = n ∧ ∀ j, j < k → cs[j]? = some (.string (f j))
theorem Filled.cell {wr : World} {B n : Nat} {f : Nat → ByteArray} {k : Nat} (h : Filled wr B n f k) (hk : k < n) : ∃ v, wr.cell? ⟨B, k, none⟩ = some v := by
  obtain ⟨cs, hb, hn, _⟩ := h
  refine ⟨cs[k]'(by omega), ?_⟩
  rw [cell_of_row wr B k cs 9 _ hb]
  simp [hn, hk]
theorem Filled.frozen {wr : World} {B n : Nat} {f : Nat → ByteArray} {k : Nat} (h : Filled wr B n f k) (j : Nat) : wr.frozen? ⟨B, j, none⟩ = false := by
  obtain ⟨cs, hb, _⟩ := h
  exact frozen_of_row wr B j cs 9 hb
theorem Filled.set {wr : World} {B n : Nat} {f : Nat → ByteArray} {k : Nat} (h : Filled wr B n f k) (hk : k < n) : Filled (wr.setCell ⟨B, k, none⟩ (.string (f k))) B n f (k + 1) := by
  obtain ⟨cs, hb, hn, hc⟩ := h
  refine ⟨cs.setIfInBounds k (.string (f k)), heap_setCell_same wr B k cs 9 _ hb, by simp [hn], fun j hj => ?_⟩
  by_cases e : j = k
  · subst e; simp [hn, hk]
  · rw [Array.getElem?_setIfInBounds_ne (by omega)]; exact hc j (by omega)
theorem Filled.made (w : World) (cs : Array Value) (n : Nat) (f : Nat → ByteArray) (hn : cs.size = n) : Filled (w.alloc (.cells cs 9)) w.heap.size n f 0 :=
  ⟨cs, heap_alloc_new w _, hn, fun j hj => absurd hj (by omega)⟩
theorem Filled.row {wr : World} {B n : Nat} {f : Nat → ByteArray} (h : Filled wr B n f n) : Row wr B (ids f n) := by
  obtain ⟨cs, hb, hn, hc⟩ := h
  unfold Row
  rw [hb]
  congr 2
  apply Array.ext_getElem?
  intro i
  by_cases hi : i < n
  · rw [hc i hi]
    simp only [List.getElem?_toArray, ids, List.map_map, List.getElem?_map, List.getElem?_range hi, Option.map_some, Function.comp]
  · rw [Array.getElem?_eq_none (by omega), List.getElem?_toArray, List.getElem?_eq_none (by simp [ids]; omega)]

end Go.Proofs.Qxb6000912a
