import Derived.Test.Qxb6000880aScanCalls
namespace Go.Proofs.Qxb6000880a
open Go.RowKit

set_option maxHeartbeats 1000000 in
set_option maxRecDepth 100000 in
theorem law_in (d0 : Nat) (a : Option Addr) (n cap : Nat) (f : Nat → Int) (w : World) (hn : n ≤ 1048576) (hd : d0 ≤ 2) (na : a = none → n = 0) (row : IsRow w w.heap.size a n (fun k => .int .u8 (f k))) :
    Calls Try.prog 3 #[.int .i64 (d0 : Int), .slice a n cap] w fun e w' => e = .returned (.bool true) ∧ Below w.heap.size w w' := by
  have HB := bytes_scan (d0 : Int) a n cap w (by unfold maxLen; omega)
  go_enter Try.func3, Try.ntmps3
  go_wp2_with fail
  refine HB.mono ?_
  clear HB
  rintro e w1 ⟨⟨r, rfl⟩, hw⟩
  have hw' := hw.symm
  subst hw'
  clear hw
  cases r
  · go_wp2_with fail
    go_ret
    exact ⟨rfl, Below.refl _ _⟩
  go_wp2_with fail
  refine (clone_bytes a n cap f w hn na row).mono ?_
  rintro e w1 ⟨a1, c1, rfl, row1, hb1⟩
  clear row
  go_wp2_with fail
  refine (zz_scan a1 n c1 d0 f w1 hn hd row1).mono ?_
  rintro e w2 ⟨r, done, d, rfl, hb2, res⟩
  have row2 := row1.below hb2
  have HB2 : Hid (Below w.heap.size w w2) := hb1.trans (hb2.mono hb1.size)
  clear row1 hb1 hb2
  go_wp2_with fail
  go_loop [9] (fun i => ∃ k : Nat, k ≤ d0 + n ∧ i = .int .i64 k ∧ ∀ s, s < k → term (txt d0 f) s = false) (fun i => (d0 + n) - (intOf i).toNat)
  case atStart => exact ⟨0, Nat.zero_le _, rfl, fun s hs => absurd hs (by omega)⟩
  case round =>
    obtain ⟨k, hk, rfl, hno⟩ := hrel
    have HNO := hno
    by_cases hlt : k < d0 + n
    · have hlt2 : (k : Int) < (d0 : Int) + n := by omega
      by_cases h62 : txt d0 f k = 62
      · have hb62 : (txt d0 f k != 62) = false := by simp [h62]
        have hx1 : ((k : Int) - 1).toNat = k - 1 := by omega
        have hx2 : ((k : Int) - 2).toNat = k - 2 := by omega
        have hx3 : ((k : Int) - 3).toNat = k - 3 := by omega
        clear hno
        by_cases hterm : term (txt d0 f) k = true
        · obtain ⟨rfl, hr⟩ := res_term res hlt hterm HNO
          have hrb : (r == (k : Int) + 1 - (d0 : Int)) = true := by simp [hr]
          rcases (term_iff.1 hterm).2 with ha | hb
          · obtain ⟨h2k, e1, e2⟩ := arrow_iff.1 ha
            have q1 : (txt d0 f (k - 1) == 45) = true := by simp [e1]
            have q2 : (txt d0 f (k - 1) == 33) = false := by simp [e1]
            have q3 : (txt d0 f (k - 2) == 45) = true := by simp [e2]
            clear hr res hterm HNO h62 e1 e2 ha
            by_cases h3k : 3 ≤ k
            all_goals
              go_wp2_with (go_at_call 12; refine (comment_byte a1 n c1 d0 f w2 _ _ hn hd row2 (by omega) (by omega)).mono ?_; rintro e w' ⟨rfl, rfl⟩)
              go_ret
              exact ⟨rfl, HB2.out⟩
          · obtain ⟨h3k, e1, e2, e3⟩ := bang_iff.1 hb
            have q1 : (txt d0 f (k - 1) == 45) = false := by simp [e1]
            have q2 : (txt d0 f (k - 1) == 33) = true := by simp [e1]
            have q3 : (txt d0 f (k - 2) == 45) = true := by simp [e2]
            have q4 : (txt d0 f (k - 3) == 45) = true := by simp [e3]
            clear hr res hterm HNO h62 e1 e2 e3 hb
            go_wp2_with (go_at_call 12; refine (comment_byte a1 n c1 d0 f w2 _ _ hn hd row2 (by omega) (by omega)).mono ?_; rintro e w' ⟨rfl, rfl⟩)
            go_ret
            exact ⟨rfl, HB2.out⟩
        · have HT : Hid (term (txt d0 f) k = false) := Bool.eq_false_iff.2 hterm
          have HN : Hid (∀ s, s < k + 1 → term (txt d0 f) s = false) := none_succ HNO HT.out
          have H62 : Hid (txt d0 f k = 62) := h62
          clear res hterm HNO h62
          go_wp2_with (go_at_call 12; refine (comment_byte a1 n c1 d0 f w2 _ _ hn hd row2 (by omega) (by omega)).mono ?_; rintro e w' ⟨rfl, rfl⟩)
          all_goals first
            | (exfalso; exact no_arrow HT.out H62.out (by omega) (by assumption) (by assumption))
            | (exfalso; exact no_bang HT.out H62.out (by omega) (by assumption) (by assumption) (by assumption))
            | (go_round
               case rel => exact ⟨k + 1, by omega, by go_num, HN.out⟩
               case measure => simp [intOf]; omega)
      · have hb62 : (txt d0 f k != 62) = true := by simp [h62]
        have HN : Hid (∀ s, s < k + 1 → term (txt d0 f) s = false) := none_succ hno (term_no h62)
        clear hno h62
        go_wp2_with fail
        refine (comment_byte a1 n c1 d0 f w2 _ _ hn hd row2 (by omega) (by omega)).mono ?_
        rintro e w' ⟨rfl, rfl⟩
        rw [Int.toNat_natCast]
        go_wp2_with fail
        go_round
        case rel => exact ⟨k + 1, by omega, by go_num, HN.out⟩
        case measure => simp [intOf]; omega
    · obtain rfl : k = d0 + n := by omega
      obtain ⟨rfl, hres⟩ := res_none res HNO
      have hx1 : ((d0 : Int) + (n : Int) - 1).toNat = d0 + n - 1 := by omega
      have hx2 : ((d0 : Int) + (n : Int) - 2).toNat = d0 + n - 2 := by omega
      have hx3 : ((d0 : Int) + (n : Int) - 3).toNat = d0 + n - 3 := by omega
      clear res HNO hno
      rcases hres with ⟨hb, hr, rfl⟩ | ⟨hb, hr, hdt⟩
      · obtain ⟨h3k, e1, e2, e3⟩ := bang_iff.1 hb
        have q2 : (txt d0 f (d0 + n - 1) == 33) = true := by simp [e1]
        have q3 : (txt d0 f (d0 + n - 2) == 45) = true := by simp [e2]
        have q4 : (txt d0 f (d0 + n - 3) == 45) = true := by simp [e3]
        have hrb : (r == (n : Int) - 1) = true := by simp [hr]
        clear hr e1 e2 e3 hb
        go_wp2_with (go_at_call 12; refine (comment_byte a1 n c1 d0 f w2 _ _ hn hd row2 (by omega) (by omega)).mono ?_; rintro e w' ⟨rfl, rfl⟩)
        go_ret
        exact ⟨rfl, HB2.out⟩
      · have hrb : (r == (n : Int)) = true := by simp [hr]
        have HDT : Hid (d = (trail (txt d0 f) (d0 + n) : Int)) := hdt
        clear hr hdt
        have hwhy : d0 + n < 3 ∨ (3 ≤ d0 + n ∧ (txt d0 f (d0 + n - 1) == 33) = false) ∨ (3 ≤ d0 + n ∧ (txt d0 f (d0 + n - 1) == 33) = true ∧ (txt d0 f (d0 + n - 2) == 45) = false) ∨ (3 ≤ d0 + n ∧ (txt d0 f (d0 + n - 1) == 33) = true ∧ (txt d0 f (d0 + n - 2) == 45) = true ∧ (txt d0 f (d0 + n - 3) == 45) = false) := by
          by_cases c : d0 + n < 3
          · exact .inl c
          · right
            simp only [bang, show (decide (3 ≤ d0 + n)) = true by simp; omega] at hb
            cases p1 : (txt d0 f (d0 + n - 1) == 33) <;> cases p2 : (txt d0 f (d0 + n - 2) == 45) <;> cases p3 : (txt d0 f (d0 + n - 3) == 45) <;> simp_all <;> omega
        rcases hwhy with g | ⟨g, q1⟩ | ⟨g, q1, q2⟩ | ⟨g, q1, q2, q3⟩
        all_goals
          go_wp2_with (go_at_call 12; refine (comment_byte a1 n c1 d0 f w2 _ _ hn hd row2 (by omega) (by omega)).mono ?_; rintro e w' ⟨rfl, rfl⟩)
        all_goals
          clear hb hx1 hx2 hx3
          go_loop [12, 13] (fun tr t => ∃ j : Nat, j ≤ d0 + n ∧ j ≤ 2 ∧ tr = .int .i64 j ∧ t = .int .i64 ((d0 : Int) + n - 1 - j) ∧ ∀ s, s < j → txt d0 f (d0 + n - 1 - s) = 45) (fun tr _ => 2 - (intOf tr).toNat)
          case atStart => exact ⟨0, Nat.zero_le _, Nat.zero_le _, rfl, by go_num, fun s hs => absurd hs (by omega)⟩
          case round =>
            obtain ⟨j, hj, hj2, rfl, rfl, hall⟩ := hrel
            have hx : ((d0 : Int) + (n : Int) - 1 - (j : Int)).toNat = d0 + n - 1 - j := by omega
            by_cases p1 : j < d0 + n
            · by_cases p2 : j < 2
              · by_cases p3 : txt d0 f (d0 + n - 1 - j) = 45
                · have q5 : (txt d0 f (d0 + n - 1 - j) == 45) = true := by simp [p3]
                  have HALL : Hid (∀ s, s < j + 1 → txt d0 f (d0 + n - 1 - s) = 45) := by
                    intro s hs
                    by_cases e : s = j
                    · rw [e]; exact p3
                    · exact hall s (by omega)
                  clear p3 hall
                  go_wp2_with (go_at_call 12; refine (comment_byte a1 n c1 d0 f w2 _ _ hn hd row2 (by omega) (by omega)).mono ?_; rintro e w' ⟨rfl, rfl⟩)
                  go_round
                  case rel => exact ⟨j + 1, by omega, by omega, by go_num, by go_num, HALL.out⟩
                  case measure => simp [intOf]; omega
                · have q5 : (txt d0 f (d0 + n - 1 - j) == 45) = false := by simp [p3]
                  have hdj : (d == (j : Int)) = true := by rw [HDT.out, trail_of hj hj2 hall (.inr (.inr p3))]; simp
                  clear p3 hall
                  go_wp2_with (go_at_call 12; refine (comment_byte a1 n c1 d0 f w2 _ _ hn hd row2 (by omega) (by omega)).mono ?_; rintro e w' ⟨rfl, rfl⟩)
                  go_ret
                  exact ⟨rfl, HB2.out⟩
              · have hdj : (d == (j : Int)) = true := by rw [HDT.out, trail_of hj hj2 hall (.inr (.inl (by omega)))]; simp
                clear hall
                go_wp2_with fail
                all_goals (go_ret; exact ⟨rfl, HB2.out⟩)
            · have hdj : (d == (j : Int)) = true := by rw [HDT.out, trail_of hj hj2 hall (.inl (by omega))]; simp
              clear hall
              go_wp2_with fail
              all_goals (go_ret; exact ⟨rfl, HB2.out⟩)

set_option maxHeartbeats 1000000 in
set_option maxRecDepth 100000 in
theorem law_out (x : Int) (a : Option Addr) (n cap : Nat) (w : World) (hn : n ≤ maxLen) (hout : 1048576 < n ∨ x < 0 ∨ 2 < x) :
    Calls Try.prog 3 #[.int .i64 x, .slice a n cap] w fun e w' => e = .returned (.bool true) ∧ Below w.heap.size w w' := by
  have HB := bytes_scan x a n cap w hn
  unfold maxLen at hn
  go_enter Try.func3, Try.ntmps3
  go_wp2_with fail
  refine HB.mono ?_
  clear HB
  rintro e w1 ⟨⟨r, rfl⟩, hw⟩
  have hw' := hw.symm
  subst hw'
  clear hw
  cases r
  · go_wp2_with fail
    go_ret
    exact ⟨rfl, Below.refl _ _⟩
  go_wp2_with fail
  all_goals first | (go_ret; exact ⟨rfl, Below.refl _ _⟩) | (exfalso; omega)

theorem scan_law (x : Int) (a : Option Addr) (n cap : Nat) (f : Nat → Int) (w : World) (hn : n ≤ maxLen) (na : a = none → n = 0) (row : IsRow w w.heap.size a n (fun k => .int .u8 (f k))) :
    Calls Try.prog 3 #[.int .i64 x, .slice a n cap] w fun e w' => e = .returned (.bool true) ∧ Below w.heap.size w w' := by
  by_cases h : 1048576 < n ∨ x < 0 ∨ 2 < x
  · exact law_out x a n cap w hn h
  · obtain ⟨d0, rfl⟩ : ∃ d0 : Nat, x = d0 := ⟨x.toNat, by omega⟩
    exact law_in d0 a n cap f w (by omega) (by omega) na row

end Go.Proofs.Qxb6000880a
