import Derived.Test.Qxb6000728aParts
namespace Go.Proofs.Qxb6000728a
open Go.RowKit Go.WideMaps Go.Maps

/-- A new row in block B, its first k cells copied. -/
def Copied (wr : World) (B n : Nat) (t : TypeId) (f : Nat → Value) (k : Nat) : Prop :=
  ∃ cs : Array Value, wr.heap[B]? = some (.cells cs t (0, 0)) ∧ cs.size = n ∧ ∀ j, j < k → cs[j]? = some (f j)

theorem Copied.cell {wr : World} {B n : Nat} {t : TypeId} {f : Nat → Value} {k : Nat} (h : Copied wr B n t f k) (hk : k < n) : ∃ v, wr.cell? ⟨B, k, none⟩ = some v := by
  obtain ⟨cs, hb, hn, _⟩ := h
  refine ⟨cs[k]'(by omega), ?_⟩
  rw [cell_of_row wr B k cs t _ hb]
  simp [hn, hk]

theorem Copied.frozen {wr : World} {B n : Nat} {t : TypeId} {f : Nat → Value} {k : Nat} (h : Copied wr B n t f k) (j : Nat) : wr.frozen? ⟨B, j, none⟩ = false := by
  obtain ⟨cs, hb, _⟩ := h
  exact frozen_of_row wr B j cs t hb

theorem Copied.set {wr : World} {B n : Nat} {t : TypeId} {f : Nat → Value} {k : Nat} (h : Copied wr B n t f k) (hk : k < n) : Copied (wr.setCell ⟨B, k, none⟩ (f k)) B n t f (k + 1) := by
  obtain ⟨cs, hb, hn, hc⟩ := h
  refine ⟨cs.setIfInBounds k (f k), heap_setCell_same wr B k cs t _ hb, by simp [hn], fun j hj => ?_⟩
  by_cases e : j = k
  · subst e; simp [hn, hk]
  · rw [Array.getElem?_setIfInBounds_ne (by omega)]; exact hc j (by omega)

theorem Copied.row {wr : World} {B n : Nat} {t : TypeId} {f : Nat → Value} (h : Copied wr B n t f n) (hB : B < wr.heap.size) : IsRow wr wr.heap.size (some ⟨B, 0, none⟩) n f := by
  obtain ⟨cs, hb, hn, hc⟩ := h
  intro k hk
  have e : adr (some ⟨B, 0, none⟩) k = ⟨B, k, none⟩ := by simp only [adr]; rw [Addr.add_lit, Nat.zero_add]
  rw [e]
  exact ⟨by simp, hB, by rw [cell_of_row wr B k cs t _ hb]; exact hc k hk⟩

theorem Copied.made (w : World) (cs : Array Value) (n : Nat) (t : TypeId) (f : Nat → Value) (hn : cs.size = n) : Copied (w.alloc (.cells cs t)) w.heap.size n t f 0 :=
  ⟨cs, heap_alloc_new w _, hn, fun j hj => absurd hj (by omega)⟩

set_option maxHeartbeats 400000 in
set_option maxRecDepth 100000 in
theorem clone_strings (a : Option Addr) (len cap : Nat) (f : Nat → ByteArray) (w : World) (hlen : len ≤ 65536) (hnil : a = none → len = 0) (hrow : IsRow w w.heap.size a len (fun k => .string (f k))) :
    Calls Try.prog 8 #[.slice a len cap] w fun e w' => ∃ a' cap', e = .returned (.slice a' len cap') ∧ IsRow w' w'.heap.size a' len (fun k => .string (f k)) ∧ Below w.heap.size w w' := by
  have q : ∀ (w : World) (a : Option Addr) (n c n' c' : Nat), (binOp .eql 25 (.slice a n c) (.slice none n' c')).run Try.prog w = .ok (.bool a.isNone) w := fun w a n c n' c' => Lib.run_eql_slice_nil w _ _ a n c n' c' Try.underlying25
  cases a with
  | none =>
    have h0 := hnil rfl
    subst h0
    clear hnil hrow
    go_enter Try.func8, Try.ntmps8
    go_wp2
    go_ret
    exact ⟨none, 0, rfl, fun k hk => absurd hk (by omega), Below.refl _ _⟩
  | some x =>
    clear hnil
    obtain ⟨cs, hcs, hmk⟩ := make25 len hlen w
    have HCS : Hid (cs.size = len) := hcs
    clear hcs
    go_enter Try.func8, Try.ntmps8
    go_wp2
    go_loopw [4] (fun i wr => ∃ k : Nat, k ≤ len ∧ i = .int .i64 k ∧ Copied wr w.heap.size len 9 (fun k => .string (f k)) k ∧ Below w.heap.size w wr ∧ w.heap.size < wr.heap.size) (fun i _ => len - (intOf i).toNat)
    case atStart => exact ⟨0, Nat.zero_le _, rfl, Copied.made _ _ _ _ _ HCS.out, (Below.refl _ _).alloc (Nat.le_refl _) _, by simp⟩
    case round =>
      obtain ⟨k, hk, rfl, hcp, hbel, hsz⟩ := hrel
      clear hmk q
      by_cases hlt : k < len
      · obtain ⟨v, hv⟩ := hcp.cell hlt
        have hfz := hcp.frozen k
        have hix := fun W => idx25 (some x) len cap k (by simp) hlt W
        have hsrc := ((hrow.below hbel) k hlt).2.2
        have HR : Hid (Copied (wr.setCell ⟨w.heap.size, k, none⟩ (.string (f k))) w.heap.size len 9 (fun k => .string (f k)) (k + 1)) := hcp.set (f := fun k => .string (f k)) hlt
        have HB : Hid (Below w.heap.size w (wr.setCell ⟨w.heap.size, k, none⟩ (.string (f k)))) := hbel.setCell (Nat.le_refl _) _
        clear hcp hbel hrow
        go_wp2
        go_roundw
        case rel => exact ⟨k + 1, by omega, by go_num, HR.out, HB.out, by simpa [World.setCell] using hsz⟩
        case measure => simp [intOf]; omega
      · go_wp2
        go_ret
        have : k = len := by omega
        subst this
        exact ⟨_, _, rfl, hcp.row hsz, hbel⟩

set_option maxHeartbeats 400000 in
set_option maxRecDepth 100000 in
theorem clone_u64 (a : Option Addr) (len cap : Nat) (f : Nat → Int) (w : World) (hlen : len ≤ 65536) (hnil : a = none → len = 0) (hrow : IsRow w w.heap.size a len (fun k => .int .u64 (f k))) :
    Calls Try.prog 9 #[.slice a len cap] w fun e w' => ∃ a' cap', e = .returned (.slice a' len cap') ∧ IsRow w' w'.heap.size a' len (fun k => .int .u64 (f k)) ∧ Below w.heap.size w w' := by
  have q : ∀ (w : World) (a : Option Addr) (n c n' c' : Nat), (binOp .eql 26 (.slice a n c) (.slice none n' c')).run Try.prog w = .ok (.bool a.isNone) w := fun w a n c n' c' => Lib.run_eql_slice_nil w _ _ a n c n' c' Try.underlying26
  cases a with
  | none =>
    have h0 := hnil rfl
    subst h0
    clear hnil hrow
    go_enter Try.func9, Try.ntmps9
    go_wp2
    go_ret
    exact ⟨none, 0, rfl, fun k hk => absurd hk (by omega), Below.refl _ _⟩
  | some x =>
    clear hnil
    obtain ⟨cs, hcs, hmk⟩ := make26 len hlen w
    have HCS : Hid (cs.size = len) := hcs
    clear hcs
    go_enter Try.func9, Try.ntmps9
    go_wp2
    go_loopw [4] (fun i wr => ∃ k : Nat, k ≤ len ∧ i = .int .i64 k ∧ Copied wr w.heap.size len 31 (fun k => .int .u64 (f k)) k ∧ Below w.heap.size w wr ∧ w.heap.size < wr.heap.size) (fun i _ => len - (intOf i).toNat)
    case atStart => exact ⟨0, Nat.zero_le _, rfl, Copied.made _ _ _ _ _ HCS.out, (Below.refl _ _).alloc (Nat.le_refl _) _, by simp⟩
    case round =>
      obtain ⟨k, hk, rfl, hcp, hbel, hsz⟩ := hrel
      clear hmk q
      by_cases hlt : k < len
      · obtain ⟨v, hv⟩ := hcp.cell hlt
        have hfz := hcp.frozen k
        have hix := fun W => idx26 (some x) len cap k (by simp) hlt W
        have hsrc := ((hrow.below hbel) k hlt).2.2
        have HR : Hid (Copied (wr.setCell ⟨w.heap.size, k, none⟩ (.int .u64 (f k))) w.heap.size len 31 (fun k => .int .u64 (f k)) (k + 1)) := hcp.set (f := fun k => .int .u64 (f k)) hlt
        have HB : Hid (Below w.heap.size w (wr.setCell ⟨w.heap.size, k, none⟩ (.int .u64 (f k)))) := hbel.setCell (Nat.le_refl _) _
        clear hcp hbel hrow
        go_wp2
        go_roundw
        case rel => exact ⟨k + 1, by omega, by go_num, HR.out, HB.out, by simpa [World.setCell] using hsz⟩
        case measure => simp [intOf]; omega
      · go_wp2
        go_ret
        have : k = len := by omega
        subst this
        exact ⟨_, _, rfl, hcp.row hsz, hbel⟩

end Go.Proofs.Qxb6000728a
