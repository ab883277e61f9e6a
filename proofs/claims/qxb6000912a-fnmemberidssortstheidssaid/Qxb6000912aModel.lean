import Derived.Test.Qxb6000912aPlain
namespace Go.Proofs.Qxb6000912a
open Go.RowKit Go.BigFrame

set_option maxHeartbeats 1000000 in
set_option maxRecDepth 100000 in
theorem model_any (a : Option Addr) (n cap : Nat) (f g : Nat → ByteArray) (w : World) (hn : n ≤ 4096) (row : IsPairs w w.heap.size a n f g) :
    Calls Try.prog 11 #[.slice a n cap] w fun e w' => ∃ a', e = .returned (.slice a' n n) ∧ IsStrs w' w'.heap.size a' n (at' ((ids f n).mergeSort fun x y => decide (x ≤ y))) ∧ Below w.heap.size w w' := by
  obtain ⟨b, off, row⟩ := row
  obtain ⟨cs, hcs, hmk⟩ := make25 n hn w
  have HCS : Hid (cs.size = n) := hcs
  clear hcs
  go_enter Try.func11, Try.ntmps11
  go_wp2
  go_loopw [4] (fun i wr => ∃ k : Nat, k ≤ n ∧ i = .int .i64 k ∧ Filled wr w.heap.size n f k ∧ Below w.heap.size w wr ∧ w.heap.size < wr.heap.size) (fun i _ => n - (intOf i).toNat)
  case atStart => exact ⟨0, Nat.zero_le _, rfl, Filled.made _ _ _ _ HCS.out, (Below.refl _ _).alloc (Nat.le_refl _) _, by simp⟩
  case round =>
    obtain ⟨k, hk, rfl, hcp, hbel, hsz⟩ := hrel
    clear hmk
    by_cases hlt : k < n
    · obtain ⟨ha, hb, hc1, hc2⟩ := row k hlt
      have hix := fun W => idx22 a b off n cap k ha hlt W
      have hd1 : wr.cell? ⟨b, off + k * 2, none⟩ = some (.string (f k)) := (hbel.cell (p := ⟨b, off + k * 2, none⟩) hb).trans hc1
      have hiy := fun W => idx25 (some ⟨w.heap.size, 0, none⟩) w.heap.size 0 n n k rfl hlt W
      simp only [Nat.zero_add] at hiy
      obtain ⟨v0, hv0⟩ := hcp.cell hlt
      have hf0 := hcp.frozen k
      have HB : Hid (Below w.heap.size w (wr.setCell ⟨w.heap.size, k, none⟩ (.string (f k)))) := hbel.setCell (Nat.le_refl _) _
      have HSH : Hid (Filled (wr.setCell ⟨w.heap.size, k, none⟩ (.string (f k))) w.heap.size n f (k + 1)) := hcp.set hlt
      clear ha row hc1 hc2 hcp hbel
      go_wp2
      go_roundw
      case rel => exact ⟨k + 1, by omega, by go_num, HSH.out, HB.out, by simpa [World.setCell] using hsz⟩
      case measure => simp [intOf]; omega
    · obtain rfl : k = n := by omega
      have hrow := hcp.row
      have hlen := ids_length f k
      clear row hcp hlt
      generalize hI : ids f k = I at hrow hlen
      have HIS : Hid (ids f k = I) := hI
      clear hI
      have HLEN : Hid (I.length = k) := hlen
      clear hlen
      go_wp2
      go_loopw [5] (fun i wr => ∃ (i' : Nat) (xs : List (List UInt8)), 1 ≤ i' ∧ i' ≤ max 1 k ∧ i = .int .i64 i' ∧ Row wr w.heap.size xs ∧ xs.Perm I ∧ SortedTo xs i' ∧ Below w.heap.size w wr ∧ w.heap.size < wr.heap.size) (fun i _ => k - (intOf i).toNat)
      case atStart => exact ⟨1, I, Nat.le_refl _, by omega, rfl, hrow, List.Perm.refl _, sorted_one _, hbel, hsz⟩
      case round =>
        clear hrow hbel hsz
        obtain ⟨i', xs, hi1, hi2, rfl, hrow, hperm, hso, hbel, hsz⟩ := hrel
        by_cases hlt : i' < k
        · have HI : Hid (i' < I.length) := by rw [HLEN.out]; exact hlt
          go_wp2
          go_loopw [6, 7] (fun j x wr => ∃ (j' : Nat) (xs : List (List UInt8)), j' ≤ i' ∧ j = .int .i64 j' ∧ Row wr w.heap.size xs ∧ xs.Perm I ∧ Ord xs i' j' ∧ Below w.heap.size w wr ∧ w.heap.size < wr.heap.size) (fun j _ _ => (intOf j).toNat)
          case atStart => exact ⟨i', xs, Nat.le_refl _, rfl, hrow, hperm, ord_start hso, hbel, hsz⟩
          case round =>
            clear hrow hbel hsz hso hperm
            obtain ⟨j', ys, hj, rfl, hrow, hperm, hord, hbel, hsz⟩ := hrel
            have hyl : i' < ys.length := by rw [hperm.length_eq]; exact HI.out
            cases j' with
            | zero =>
              have HS : Hid (SortedTo ys (i' + 1)) := ord_zero hord
              go_wp2_with fail
              go_quiet (fail)
              go_wp2
              go_roundw
              case rel => exact ⟨i' + 1, ys, by omega, by omega, by go_num, hrow, hperm, HS.out, below_drewN hbel _, hsz⟩
              case measure => simp [intOf]; omega
            | succ m =>
              have hix : ∀ W, (Instr.indexAt 25 (.slice (some ⟨w.heap.size, 0, none⟩) k k) (.int .i64 ((m : Int) + 1))).run Try.prog W = .ok (.pointer (some ⟨w.heap.size, m + 1, none⟩)) W := by
                intro W
                have := idx25 (some ⟨w.heap.size, 0, none⟩) w.heap.size 0 k k (m + 1) rfl (by omega) W
                rwa [Nat.zero_add, show ((m + 1 : Nat) : Int) = (m : Int) + 1 by omega] at this
              have hiy : ∀ W, (Instr.indexAt 25 (.slice (some ⟨w.heap.size, 0, none⟩) k k) (.int .i64 ((m : Int) + 1 - 1))).run Try.prog W = .ok (.pointer (some ⟨w.heap.size, m, none⟩)) W := by
                intro W
                have := idx25 (some ⟨w.heap.size, 0, none⟩) w.heap.size 0 k k m rfl (by omega) W
                rwa [Nat.zero_add, show ((m : Nat) : Int) = (m : Int) + 1 - 1 by omega] at this
              obtain ⟨X0, hX0⟩ : ∃ X : ByteArray, X = ⟨(at' ys m).toArray⟩ := ⟨_, rfl⟩
              obtain ⟨X1, hX1⟩ : ∃ X : ByteArray, X = ⟨(at' ys (m + 1)).toArray⟩ := ⟨_, rfl⟩
              have hc0 : wr.cell? ⟨w.heap.size, m, none⟩ = some (.string X0) := by rw [hX0]; exact hrow.cell (by omega)
              have hc1 : wr.cell? ⟨w.heap.size, m + 1, none⟩ = some (.string X1) := by rw [hX1]; exact hrow.cell (by omega)
              have hf0 := hrow.frozen m
              have hf1 := hrow.frozen (m + 1)
              have hless : Op.bytesLess X1.toList X0.toList = decide (at' ys (m + 1) < at' ys m) := by
                rw [bytesLess_eq, ByteArray.toList_eq, ByteArray.toList_eq, hX0, hX1]
              have HR : Hid (Row ((wr.setCell ⟨w.heap.size, m, none⟩ (.string X1)).setCell ⟨w.heap.size, m + 1, none⟩ (.string X0)) w.heap.size (swp ys m)) := by
                show Row _ _ _
                rw [hX0, hX1]
                exact hrow.swap m
              have HB : Hid (Below w.heap.size w ((wr.setCell ⟨w.heap.size, m, none⟩ (.string X1)).setCell ⟨w.heap.size, m + 1, none⟩ (.string X0))) := (hbel.setCell (Nat.le_refl _) _).setCell (Nat.le_refl _) _
              clear hX0 hX1
              by_cases hlt2 : at' ys (m + 1) < at' ys m
              · have hb : Op.bytesLess X1.toList X0.toList = true := by rw [hless]; simp [hlt2]
                have HO : Hid (Ord (swp ys m) i' m) := ord_swap hord hj hyl (List.le_of_lt hlt2)
                have HP : Hid ((swp ys m).Perm I) := (swp_perm (by omega)).trans hperm
                clear hless hlt2 hord hperm hrow hbel
                go_wp2_with fail
                go_quiet (fail)
                go_wp2
                go_roundw
                case rel => exact ⟨m, swp ys m, by omega, by go_num, HR.out, HP.out, HO.out, below_drewN HB.out _, by simpa [World.setCell] using hsz⟩
                case measure => first | (simp [intOf]; done) | (simp [intOf]; omega)
              · have hb : Op.bytesLess X1.toList X0.toList = false := by rw [hless]; simp [hlt2]
                have HS : Hid (SortedTo ys (i' + 1)) := ord_stop hord hj (List.not_lt.1 hlt2)
                clear hless hlt2 hord HR HB
                go_wp2_with fail
                go_quiet (fail)
                go_wp2
                go_roundw
                case rel => exact ⟨i' + 1, ys, by omega, by omega, by go_num, hrow, hperm, HS.out, below_drewN hbel _, hsz⟩
                case measure => simp [intOf]; omega
        · have hxl : xs.length = k := by rw [hperm.length_eq]; exact HLEN.out
          have HE : Hid (xs = I.mergeSort fun x y => decide (x ≤ y)) := eq_mergeSort hperm (by rw [hxl]; exact fun p q hpq hq => hso p q hpq (by omega))
          have HX : Hid (xs.length = k) := hxl
          clear hxl hso
          go_wp2
          go_ret
          refine ⟨_, rfl, ?_, hbel⟩
          have := hrow.strs hsz
          rw [HX.out] at this
          rw [HIS.out, ← HE.out]
          exact this

end Go.Proofs.Qxb6000912a
