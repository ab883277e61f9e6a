import Derived.Test.Qxb6000728aPlain
import Derived.Test.Qxb6000728aClone
import Derived.Test.Qxb6000728aBytes
namespace Go.Proofs.Qxb6000728a
open Go.RowKit Go.WideMaps Go.Maps

set_option maxHeartbeats 1000000 in
set_option maxRecDepth 100000 in
theorem tally_out (a b : Option Addr) (la ca lb cb : Nat) (f g : Nat → ByteArray) (p : ByteArray) (w : World) (hla : la ≤ maxLen) (hlb : lb ≤ maxLen) (hp : p.size ≤ maxLen)
    (hf : ∀ k, (f k).size ≤ maxLen) (hg : ∀ k, (g k).size ≤ maxLen)
    (ra : IsRow w w.heap.size a la (fun k => .string (f k))) (rb : IsRow w w.heap.size b lb (fun k => .string (g k))) (hout : 65536 < la ∨ 65536 < lb ∨ 1048576 < p.size) :
    Calls Try.prog 5 #[.slice a la ca, .slice b lb cb, .string p] w fun e w' => e = .returned (.bool true) ∧ Below w.heap.size w w' := by
  have HB := bytes_tally a b la ca lb cb f g p w hla hlb hp hf hg ra rb
  clear ra rb hf hg
  unfold maxLen at hla hlb hp
  go_enter Try.func5, Try.ntmps5
  go_wp2_with fail
  refine HB.mono ?_
  clear HB
  rintro e w1 ⟨⟨r, rfl⟩, hw⟩
  have hw' := hw.symm
  subst hw'
  cases r
  · go_wp2_with fail
    go_ret
    exact ⟨rfl, Below.refl _ _⟩
  go_wp2_with fail
  all_goals first | (go_ret; exact ⟨rfl, Below.refl _ _⟩) | (exfalso; omega)

set_option maxHeartbeats 1000000 in
set_option maxRecDepth 100000 in
theorem tally_in (a b : Option Addr) (la ca lb cb : Nat) (f g : Nat → ByteArray) (p : ByteArray) (w : World) (hla : la ≤ 65536) (hlb : lb ≤ 65536) (hp : p.size ≤ 1048576)
    (hf : ∀ k, (f k).size ≤ maxLen) (hg : ∀ k, (g k).size ≤ maxLen) (na : a = none → la = 0) (nb : b = none → lb = 0)
    (ra : IsRow w w.heap.size a la (fun k => .string (f k))) (rb : IsRow w w.heap.size b lb (fun k => .string (g k))) :
    Calls Try.prog 5 #[.slice a la ca, .slice b lb cb, .string p] w fun e w' => e = .returned (.bool true) ∧ Below w.heap.size w w' := by
  have HB := bytes_tally a b la ca lb cb f g p w (by unfold maxLen; omega) (by unfold maxLen; omega) (by unfold maxLen; omega) hf hg ra rb
  have hmm := @run_makeMap Try.prog
  go_enter Try.func5, Try.ntmps5
  go_wp2_with fail
  refine HB.mono ?_
  clear HB
  rintro e w1 ⟨⟨r, rfl⟩, hw⟩
  have hw' := hw.symm
  subst hw'
  clear hw
  cases r
  · go_wp2_with fail
    go_ret
    exact ⟨rfl, Below.refl _ _⟩
  go_wp2_with fail
  go_loop [7, 8] (fun n i => ∃ (k : Nat) (m : Int), k ≤ la ∧ i = .int .i64 k ∧ n = .int .i64 m) (fun _ i => la - (intOf i).toNat)
  case atStart => exact ⟨0, _, Nat.zero_le _, rfl, rfl⟩
  case round =>
    obtain ⟨k, m, hk, rfl, rfl⟩ := hrel
    by_cases hlt : k < la
    · have hix := fun W => idx25 a la ca k (ra k hlt).1 hlt W
      have hsrc := (ra k hlt).2.2
      simp only at hsrc
      go_wp2
      go_round
      case rel => exact ⟨k + 1, _, by omega, by go_num, rfl⟩
      case measure => simp [intOf]; omega
    · go_wp2_with fail
      go_loop [7, 9] (fun n i => ∃ (k : Nat) (m : Int), k ≤ lb ∧ i = .int .i64 k ∧ n = .int .i64 m) (fun _ i => lb - (intOf i).toNat)
      case atStart => exact ⟨0, _, Nat.zero_le _, rfl, rfl⟩
      case round =>
        obtain ⟨k2, m2, hk2, rfl, rfl⟩ := hrel
        by_cases hlt2 : k2 < lb
        · have hix := fun W => idx25 b lb cb k2 (rb k2 hlt2).1 hlt2 W
          have hsrc := (rb k2 hlt2).2.2
          simp only at hsrc
          go_wp2
          go_round
          case rel => exact ⟨k2 + 1, _, by omega, by go_num, rfl⟩
          case measure => simp [intOf]; omega
        · go_wp2_with fail
          · go_ret
            exact ⟨rfl, Below.refl _ _⟩
          refine (clone_strings a la ca f w hla na ra).mono ?_
          rintro e w1 ⟨a1, c1, rfl, ra1, hb1⟩
          have rb1 := (rb.below hb1).mono hb1.size
          clear ra rb
          go_wp2_with fail
          refine (clone_strings b lb cb g w1 hlb nb rb1).mono ?_
          rintro e w2 ⟨b2, c2, rfl, rb2, hb2⟩
          have ra2 := (ra1.below hb2).mono hb2.size
          have HBL : Hid (Below w.heap.size w w2) := hb1.trans (hb2.mono hb1.size)
          clear ra1 rb1 hb1 hb2
          go_wp2_with fail
          go_loopw [11] (fun i wr => ∃ k : Nat, k ≤ la ∧ i = .int .i64 k ∧ wr.ownsMap Try.prog 9 (plainElem Try.prog 31) w2.heap.size k (fill f k) ∧ Below w2.heap.size w2 wr) (fun i _ => la - (intOf i).toNat)
          case atStart => exact ⟨0, Nat.zero_le _, rfl, World.ownsMap_made _ _ _ _, (Below.refl _ _).alloc (Nat.le_refl _) _⟩
          case round =>
            obtain ⟨k3, hk3, rfl, hown, hbel⟩ := hrel
            by_cases hlt3 : k3 < la
            · have hix := fun W => idx25 a1 la c1 k3 (ra2 k3 hlt3).1 hlt3 W
              have hsrc : wr.cell? (adr a1 k3) = some (.string (f k3)) := ((ra2.below hbel) k3 hlt3).2.2
              have hkey := key_ok (hf k3)
              go_wp2_with (first
                | (at_mapUpdate; refine wpList_mapUpdate_own _ rfl _ _ _ 30 rfl 9 31 law Try.underlying30 _ w2.heap.size k3 _ rfl hown (by unfold maxLen; omega) _ _ _ rfl rfl hkey _ [] (plainElem_int Try.underlying31 (by decide)) ?_; intro w3 hown3 hgrow3)
                | go_in)
              have R2 := hbel.grown hgrow3 hbel.size (fun j hj => by cases hj; exact Nat.le_refl _)
              go_roundw
              case rel => exact ⟨k3 + 1, by omega, by go_num, hown3, R2⟩
              case measure => simp [intOf]; omega
            · obtain rfl : k3 = la := by omega
              have hln := fun ty => hown.len Try.underlying30 ty
              go_wp2_with fail
              clear hln
              go_loopw [13] (fun i wr => ∃ k : Nat, k ≤ lb ∧ i = .int .i64 k ∧ wr.ownsMap Try.prog 9 (plainElem Try.prog 31) w2.heap.size (k3 + k) (script g (fill f k3) k) ∧ Below w2.heap.size w2 wr) (fun i _ => lb - (intOf i).toNat)
              case atStart => exact ⟨0, Nat.zero_le _, rfl, hown, hbel⟩
              case round =>
                clear hown hbel
                obtain ⟨k4, hk4, rfl, hown, hbel⟩ := hrel
                by_cases hlt4 : k4 < lb
                · have hix := fun W => idx25 b2 lb c2 k4 (rb2 k4 hlt4).1 hlt4 W
                  have hsrc : wr.cell? (adr b2 k4) = some (.string (g k4)) := ((rb2.below hbel) k4 hlt4).2.2
                  go_wp2_with fail
                  refine (zz_count w2.heap.size (k3 + k4) _ (g k4) _ (hg k4) (by unfold maxLen; omega) hown).mono ?_
                  rintro e w3 ⟨rfl, hown3, hgrow3⟩
                  have R2 := hbel.grown hgrow3 hbel.size (fun j hj => by cases hj; exact Nat.le_refl _)
                  go_wp2_with fail
                  go_roundw
                  case rel => exact ⟨k4 + 1, by omega, by go_num, hown3, R2⟩
                  case measure => simp [intOf]; omega
                · obtain rfl : k4 = lb := by omega
                  have hln := fun ty => hown.len Try.underlying30 ty
                  rw [size_script g (tidy_fill f k3) k4] at hln
                  go_wp2_with fail
                  clear hln
                  have ra4 := ra2.below hbel
                  have rb4 := rb2.below hbel
                  have HBN : Hid (Below w.heap.size w wr) := HBL.out.trans (hbel.mono HBL.out.size)
                  clear ra2 rb2 hbel HBL
                  go_loop [14, 15] (fun t i => ∃ k : Nat, k ≤ k3 ∧ i = .int .i64 k ∧ t = .bool (among f p k)) (fun _ i => k3 - (intOf i).toNat)
                  case atStart => exact ⟨0, Nat.zero_le _, rfl, rfl⟩
                  case round =>
                    obtain ⟨k5, hk5, rfl, rfl⟩ := hrel
                    by_cases hlt5 : k5 < k3
                    · have hix := fun W => idx25 a1 k3 c1 k5 (ra4 k5 hlt5).1 hlt5 W
                      have hsrc : wr.cell? (adr a1 k5) = some (.string (f k5)) := (ra4 k5 hlt5).2.2
                      go_wp2
                      · have ht : ((f k5).toList == p.toList) = true := by assumption
                        go_round
                        case rel => exact ⟨k5 + 1, by omega, by go_num, by rw [among_hit ht]⟩
                        case measure => simp [intOf]; omega
                      · have ht : ((f k5).toList == p.toList) = false := by assumption
                        go_round
                        case rel => exact ⟨k5 + 1, by omega, by go_num, by rw [among_miss ht]⟩
                        case measure => simp [intOf]; omega
                    · obtain rfl : k5 = k3 := by omega
                      have hkey := key_ok (show p.size ≤ maxLen by unfold maxLen; omega)
                      have hhas : has (script g (fill f k5) k4) (kl p) = among f p k5 := by rw [has_script g (tidy_fill f k5), has_fill]
                      cases ham : among f p k5
                      · rw [ham] at hhas
                        go_wp2_with (first
                          | (at_lookup; refine wpList_lookup_own_ok_int _ rfl _ _ 30 rfl 9 31 .u64 law Try.underlying30 Try.underlying31 (zero31 _) w2.heap.size _ _ rfl hown _ _ rfl hkey ?_; intro c hat hwc)
                          | fail)
                        go_ret
                        exact ⟨rfl, HBN.out⟩
                      · rw [ham] at hhas
                        have HC : Hid (cnt (script g (fill f k5) k4) (kl p) = times g p k4) := cnt_script g (tidy_fill f k5) p (by rw [has_fill, ham]) (cnt_fill f p k5) k4 hlb
                        go_wp2_with (first
                          | (at_lookup; refine wpList_lookup_own_ok_int _ rfl _ _ 30 rfl 9 31 .u64 law Try.underlying30 Try.underlying31 (zero31 _) w2.heap.size _ _ rfl hown _ _ rfl hkey ?_; intro c hat hwc)
                          | fail)
                        have HD : Hid (c = times g p k4) := (cnt_of hat).symm.trans HC.out
                        clear hat hwc hhas hkey HC hown ra4
                        go_loop [18, 19] (fun t i => ∃ k : Nat, k ≤ k4 ∧ i = .int .i64 k ∧ t = .int .u64 (times g p k)) (fun _ i => k4 - (intOf i).toNat)
                        case atStart => exact ⟨0, Nat.zero_le _, rfl, rfl⟩
                        case round =>
                          obtain ⟨k6, hk6, rfl, rfl⟩ := hrel
                          have htl := times_le g p k6
                          by_cases hlt6 : k6 < k4
                          · have hix := fun W => idx25 b2 k4 c2 k6 (rb4 k6 hlt6).1 hlt6 W
                            have hsrc : wr.cell? (adr b2 k6) = some (.string (g k6)) := (rb4 k6 hlt6).2.2
                            go_wp2
                            · have ht : ((g k6).toList == p.toList) = true := by assumption
                              go_round
                              case rel => exact ⟨k6 + 1, by omega, by go_num, by rw [times_hit ht]; go_num⟩
                              case measure => simp [intOf]; omega
                            · have ht : ((g k6).toList == p.toList) = false := by assumption
                              go_round
                              case rel => exact ⟨k6 + 1, by omega, by go_num, by rw [times_miss ht]⟩
                              case measure => simp [intOf]; omega
                          · obtain rfl : k6 = k4 := by omega
                            have hcc : (c == ((times g p k6 : Nat) : Int)) = true := by rw [HD.out]; simp
                            go_wp2
                            go_ret
                            exact ⟨rfl, HBN.out⟩

theorem tally_walk (a b : Option Addr) (la ca lb cb : Nat) (f g : Nat → ByteArray) (p : ByteArray) (w : World) (hla : la ≤ maxLen) (hlb : lb ≤ maxLen) (hp : p.size ≤ maxLen)
    (hf : ∀ k, (f k).size ≤ maxLen) (hg : ∀ k, (g k).size ≤ maxLen) (na : a = none → la = 0) (nb : b = none → lb = 0)
    (ra : IsRow w w.heap.size a la (fun k => .string (f k))) (rb : IsRow w w.heap.size b lb (fun k => .string (g k))) :
    Calls Try.prog 5 #[.slice a la ca, .slice b lb cb, .string p] w fun e w' => e = .returned (.bool true) ∧ Below w.heap.size w w' := by
  by_cases h : la ≤ 65536 ∧ lb ≤ 65536 ∧ p.size ≤ 1048576
  · exact tally_in a b la ca lb cb f g p w h.1 h.2.1 h.2.2 hf hg na nb ra rb
  · exact tally_out a b la ca lb cb f g p w hla hlb hp hf hg ra rb (by omega)

end Go.Proofs.Qxb6000728a
