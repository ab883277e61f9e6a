import Derived.Test.Qxb6000880aEnd
namespace Go.Proofs.Qxb6000880a
open Go.RowKit Go.BigFrame

set_option maxHeartbeats 1000000 in
set_option maxRecDepth 100000 in
theorem top_in (s : Int) (a : Option Addr) (n cap : Nat) (f : Nat → Int) (w : World) (hn : n ≤ 1048576) (h0 : 0 < n) (hlo : 0 ≤ s) (hhi : s ≤ 6) (h60 : f 0 = 60) (hf : ∀ k, 0 ≤ f k ∧ f k ≤ 255) (row : IsRow w w.heap.size a n (fun k => .int .u8 (f k))) :
    Calls Try.prog 6 #[.int .i64 s, .slice a n cap] w fun e w' => e = .returned (.bool true) ∧ Below w.heap.size w w' := by
  have HB := bytes_less s a n cap w (by unfold maxLen; omega)
  have hix0 : ∀ W, (Instr.indexAt 22 (.slice a n cap) (.int .i64 0)).run Try.prog W = .ok (.pointer (some (adr a 0))) W := fun W => idx22 a n cap 0 (row 0 (by omega)).1 (by omega) W
  have hsrc0 : w.cell? (adr a 0) = some (.int .u8 (f 0)) := (row 0 (by omega)).2.2
  have b0 : (f 0 != 60) = false := by simp [h60]
  have bn : ((n : Int) == 0) = false := by simp; omega
  have na : a = none → n = 0 := fun e => absurd e (row 0 h0).1
  have H60 : Hid (f 0 = 60) := h60
  clear h60
  go_enter Try.func6, Try.ntmps6
  go_wp2_with fail
  refine HB.mono ?_
  clear HB
  rintro e w1 ⟨⟨r, rfl⟩, hw⟩
  have hw' := hw.symm
  subst hw'
  clear hw
  cases r
  · go_wp2_with fail
    go_ret
    exact ⟨rfl, Below.refl _ _⟩
  go_wp2_with fail
  refine (clone_full a n cap f w hn na row).mono ?_
  rintro e w1 ⟨a1, rfl, row1, hb1⟩
  clear row hix0 hsrc0 b0 na
  go_wp2_with fail
  refine (zz_less a1 n n s f w1 hn h0 (Nat.le_refl _) hf H60.out hlo row1).mono ?_
  rintro e w2 ⟨next, ends, known, after, rfl, hb2, res⟩
  have row2 := row1.below hb2
  have HB2 : Hid (Below w.heap.size w w2) := hb1.trans (hb2.mono hb1.size)
  clear row1 hb1 hb2
  rcases res with ⟨rfl, h9⟩ | ⟨rfl, ha0, ha6, hiff, hyes, hno⟩
  · have h9' : decide ((n : Int) < 9) = true := by simp; omega
    go_wp2_with fail
    go_ret
    exact ⟨rfl, HB2.out⟩
  · by_cases h4 : s < 4
    · have HI : Hid (ends = true ↔ EndTag f n) := ⟨fun e => (hiff.1 e).2, fun e => hiff.2 ⟨h4, e⟩⟩
      cases ends
      · obtain ⟨n1, n9, nn⟩ := hno rfl
        have HN : Hid (¬ EndTag f n) := fun e => by have := HI.out.2 e; cases this
        clear hiff hyes hno HI
        go_wp2_with fail
        refine (isEnd_any a1 n n _ f w2 hn hf row2).mono ?_
        rintro e w3 ⟨b, rfl, hd, hb⟩
        have hbf : b = false := by
          cases b
          · rfl
          · exact absurd (hb.1 rfl) HN.out
        subst hbf
        have HB3 : Hid (Below w.heap.size w w3) := HB2.out.trans (hd.below _)
        clear hb hd row2
        go_wp2_with fail
        go_ret
        exact ⟨rfl, HB3.out⟩
      · obtain ⟨rfl, rfl⟩ := hyes rfl
        have HE : Hid (EndTag f n) := HI.out.1 rfl
        clear hiff hno HI
        go_wp2_with fail
        refine (isEnd_any a1 n n _ f w2 hn hf row2).mono ?_
        rintro e w3 ⟨b, rfl, hd, hb⟩
        have hbf : b = true := hb.2 HE.out
        subst hbf
        have HB3 : Hid (Below w.heap.size w w3) := HB2.out.trans (hd.below _)
        clear hb hd row2
        go_wp2_with fail
        go_ret
        exact ⟨rfl, HB3.out⟩
    · have hef : ends = false := by
        cases ends
        · rfl
        · exact absurd (hiff.1 rfl).1 h4
      subst hef
      obtain ⟨n1, n9, nn⟩ := hno rfl
      clear hiff hyes hno
      go_wp2_with fail
      go_ret
      exact ⟨rfl, HB2.out⟩

set_option maxHeartbeats 1000000 in
set_option maxRecDepth 100000 in
theorem top_out (s : Int) (a : Option Addr) (n cap : Nat) (f : Nat → Int) (w : World) (hn : n ≤ maxLen) (row : IsRow w w.heap.size a n (fun k => .int .u8 (f k))) (hout : 1048576 < n ∨ s < 0 ∨ 6 < s ∨ n = 0 ∨ f 0 ≠ 60) :
    Calls Try.prog 6 #[.int .i64 s, .slice a n cap] w fun e w' => e = .returned (.bool true) ∧ Below w.heap.size w w' := by
  have HB := bytes_less s a n cap w hn
  unfold maxLen at hn
  by_cases hz : n = 0
  · subst hz
    go_enter Try.func6, Try.ntmps6
    go_wp2_with fail
    refine HB.mono ?_
    clear HB
    rintro e w1 ⟨⟨r, rfl⟩, hw⟩
    have hw' := hw.symm
    subst hw'
    clear hw
    cases r
    · go_wp2_with fail
      go_ret
      exact ⟨rfl, Below.refl _ _⟩
    go_wp2_with fail
    all_goals (go_ret; exact ⟨rfl, Below.refl _ _⟩)
  · have hix0 : ∀ W, (Instr.indexAt 22 (.slice a n cap) (.int .i64 0)).run Try.prog W = .ok (.pointer (some (adr a 0))) W := fun W => idx22 a n cap 0 (row 0 (by omega)).1 (by omega) W
    have hsrc0 : w.cell? (adr a 0) = some (.int .u8 (f 0)) := (row 0 (by omega)).2.2
    have bn : ((n : Int) == 0) = false := by simp; omega
    by_cases h60 : f 0 = 60
    · have hout' : 1048576 < n ∨ s < 0 ∨ 6 < s := by omega
      clear hout h60
      go_enter Try.func6, Try.ntmps6
      go_wp2_with fail
      refine HB.mono ?_
      clear HB
      rintro e w1 ⟨⟨r, rfl⟩, hw⟩
      have hw' := hw.symm
      subst hw'
      clear hw
      cases r
      · go_wp2_with fail
        go_ret
        exact ⟨rfl, Below.refl _ _⟩
      go_wp2_with fail
      all_goals first | (go_ret; exact ⟨rfl, Below.refl _ _⟩) | (exfalso; omega)
    · have b0 : (f 0 != 60) = true := by simp [h60]
      clear hout h60
      go_enter Try.func6, Try.ntmps6
      go_wp2_with fail
      refine HB.mono ?_
      clear HB
      rintro e w1 ⟨⟨r, rfl⟩, hw⟩
      have hw' := hw.symm
      subst hw'
      clear hw
      cases r
      · go_wp2_with fail
        go_ret
        exact ⟨rfl, Below.refl _ _⟩
      go_wp2_with fail
      all_goals (go_ret; exact ⟨rfl, Below.refl _ _⟩)

theorem less_law (s : Int) (a : Option Addr) (n cap : Nat) (f : Nat → Int) (w : World) (hn : n ≤ maxLen) (hf : ∀ k, 0 ≤ f k ∧ f k ≤ 255) (row : IsRow w w.heap.size a n (fun k => .int .u8 (f k))) :
    Calls Try.prog 6 #[.int .i64 s, .slice a n cap] w fun e w' => e = .returned (.bool true) ∧ Below w.heap.size w w' := by
  by_cases h : 1048576 < n ∨ s < 0 ∨ 6 < s ∨ n = 0 ∨ f 0 ≠ 60
  · exact top_out s a n cap f w hn row h
  · exact top_in s a n cap f w (by omega) (by omega) (by omega) (by omega) (by omega) hf row

end Go.Proofs.Qxb6000880a
