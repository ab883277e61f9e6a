import Derived.Test.Qxb6001040aDate
namespace Go.Proofs.Qxb6001040a
open Go.RowKit Go.BigFrame

set_option maxHeartbeats 400000 in
set_option maxRecDepth 100000 in
theorem law_in (y m d : Int) (w : World) (hy0 : 0 ≤ y) (hy1 : y ≤ 9999) (hm0 : 0 ≤ m) (hm1 : m ≤ 99) (hd0 : 0 ≤ d) (hd1 : d ≤ 99) :
    Calls Try.prog 6 #[.int .i64 y, .int .i64 m, .int .i64 d] w fun e w' => e = .returned (.bool true) ∧ Below w.heap.size w w' := by
  go_enter Try.func6, Try.ntmps6
  go_wp2_with fail
  refine (format_any y m d w hy0 hy1 hm0 hm1 hd0 hd1).mono ?_
  rintro e w1 ⟨s, rfl, hok, hb⟩
  have HB : Hid (Below w.heap.size w w1) := hb
  have HOK : Hid (DateOk s) := hok
  have H10 : Hid (s.size = 10) := hok.1
  have hl : s.size ≤ 10 := by rw [hok.1]; omega
  have hg : 10 ≤ s.size := by rw [hok.1]; omega
  clear hb hok hy0 hy1 hm0 hm1 hd0 hd1
  go_wp2_with fail
  refine (zzDate_any s w1 (by unfold maxLen; omega)).mono ?_
  rintro e w2 ⟨b, rfl, rfl, h⟩
  have hbt : b = true := h.2 HOK.out
  subst hbt
  clear h
  go_wp2_with fail
  refine (zzDate_false _ w1 (short_no s H10.out).1 (short_no s H10.out).2).mono ?_
  rintro e w2 ⟨rfl, hw⟩
  have hw' := hw.symm
  subst hw'
  clear hw
  go_wp2_with fail
  refine (zzDate_false _ w1 (long_no s H10.out).1 (long_no s H10.out).2).mono ?_
  rintro e w2 ⟨rfl, hw⟩
  have hw' := hw.symm
  subst hw'
  clear hw
  go_wp2_with fail
  have HT : Hid ((s.extract 0 4 ++ ByteArray.mk #[47] ++ s.extract 5 s.size).size ≤ maxLen ∧ ¬ DateOk (s.extract 0 4 ++ ByteArray.mk #[47] ++ s.extract 5 s.size)) :=
    ⟨Nat.le_trans (slash_le s 5 s.size) (by unfold maxLen; omega), slash_no _ _ (by rw [ByteArray.size_extract]; omega)⟩
  go_quiet ((go_at_call 15; exact Calls.quiet_of_same (zzDate_false _ _ HT.out.1 HT.out.2)))
  go_wp2
  go_ret
  exact ⟨rfl, below_drewN HB.out _⟩

set_option maxHeartbeats 1000000 in
theorem law_out (y m d : Int) (w : World) (h : ¬ (0 ≤ y ∧ y ≤ 9999 ∧ 0 ≤ m ∧ m ≤ 99 ∧ 0 ≤ d ∧ d ≤ 99)) :
    Calls Try.prog 6 #[.int .i64 y, .int .i64 m, .int .i64 d] w fun e w' => e = .returned (.bool true) ∧ Below w.heap.size w w' := by
  have h' : y < 0 ∨ 9999 < y ∨ m < 0 ∨ 99 < m ∨ d < 0 ∨ 99 < d := by omega
  clear h
  go_enter Try.func6, Try.ntmps6
  go_wp2_with fail
  all_goals first | (go_ret; exact ⟨rfl, Below.refl _ _⟩) | (exfalso; omega)

theorem date_law (y m d : Int) (w : World) : Calls Try.prog 6 #[.int .i64 y, .int .i64 m, .int .i64 d] w fun e w' => e = .returned (.bool true) ∧ Below w.heap.size w w' := by
  by_cases h : 0 ≤ y ∧ y ≤ 9999 ∧ 0 ≤ m ∧ m ≤ 99 ∧ 0 ≤ d ∧ d ≤ 99
  · exact law_in y m d w h.1 h.2.1 h.2.2.1 h.2.2.2.1 h.2.2.2.2.1 h.2.2.2.2.2
  · exact law_out y m d w h

end Go.Proofs.Qxb6001040a
