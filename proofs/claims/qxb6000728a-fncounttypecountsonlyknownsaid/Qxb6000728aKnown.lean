import Derived.Test.Qxb6000728aCount
import Derived.Test.Qxb6000728aClone
import Derived.Test.Qxb6000728aBytes
import Derived.RegionTactic
import Derived.BigRegion
namespace Go.Proofs.Qxb6000728a
open Go.RowKit Go.WideMaps Go.Maps

/-- The map filled from keys and values, round by round. -/
def fillv (f : Nat → ByteArray) (v : Nat → Int) : Nat → D0
  | 0 => .map []
  | k + 1 => (fillv f v k).put (kl (f k)) (.lit (.int .u64 (v k)))
theorem ne_bytes {a b : ByteArray} (h : a ≠ b) : (a.toList == b.toList) = false := by
  rw [ByteArray.toList_eq, ByteArray.toList_eq]
  rw [beq_eq_false_iff_ne]
  exact fun e => h (kl_inj (congrArg Lit.string e))
theorem tidy_fillv (f : Nat → ByteArray) (v : Nat → Int) : ∀ k, Tidy (fillv f v k)
  | 0 => tidy_empty
  | k + 1 => (tidy_fillv f v k).put (isKey _) _

set_option maxHeartbeats 1000000 in
set_option maxRecDepth 100000 in
theorem known_out (a b : Option Addr) (la ca lb cb : Nat) (f : Nat → ByteArray) (q p : ByteArray) (w : World) (hla : la ≤ maxLen) (hlb : lb ≤ maxLen) (hq : q.size ≤ maxLen) (hp : p.size ≤ maxLen)
    (hf : ∀ k, (f k).size ≤ maxLen) (ra : IsRow w w.heap.size a la (fun k => .string (f k))) (hout : 65536 < la ∨ 65536 < lb ∨ 1048576 < q.size ∨ 1048576 < p.size) :
    Calls Try.prog 4 #[.slice a la ca, .slice b lb cb, .string q, .string p] w fun e w' => e = .returned (.bool true) ∧ Below w.heap.size w w' := by
  have HB := bytes_known a b la ca lb cb f q p w hla hlb hq hp hf ra
  clear ra hf
  unfold maxLen at hla hlb hp hq
  go_enter Try.func4, Try.ntmps4
  go_wp2_with fail
  refine HB.mono ?_
  clear HB
  rintro e w1 ⟨⟨r, rfl⟩, hw⟩
  have hw' := hw.symm
  subst hw'
  cases r
  · go_wp2_with fail
    go_ret
    exact ⟨rfl, Below.refl _ _⟩
  go_wp2_with fail
  all_goals first | (go_ret; exact ⟨rfl, Below.refl _ _⟩) | (exfalso; omega)

set_option maxHeartbeats 1000000 in
set_option maxRecDepth 100000 in
theorem known_in (a b : Option Addr) (la ca lb cb : Nat) (f : Nat → ByteArray) (v : Nat → Int) (q p : ByteArray) (w : World) (hla : la ≤ 65536) (hlb : lb ≤ 65536) (hq : q.size ≤ 1048576) (hp : p.size ≤ 1048576)
    (hf : ∀ k, (f k).size ≤ maxLen) (hv : ∀ k, (Lit.int .u64 (v k)).wf = true) (na : a = none → la = 0) (nb : b = none → lb = 0)
    (ra : IsRow w w.heap.size a la (fun k => .string (f k))) (rb : IsRow w w.heap.size b lb (fun k => .int .u64 (v k))) :
    Calls Try.prog 4 #[.slice a la ca, .slice b lb cb, .string q, .string p] w fun e w' => e = .returned (.bool true) ∧ Below w.heap.size w w' := by
  have HB := bytes_known a b la ca lb cb f q p w (by unfold maxLen; omega) (by unfold maxLen; omega) (by unfold maxLen; omega) (by unfold maxLen; omega) hf ra
  have hmm := @run_makeMap Try.prog
  go_enter Try.func4, Try.ntmps4
  go_wp2_with fail
  refine HB.mono ?_
  clear HB
  rintro e w1 ⟨⟨r, rfl⟩, hw⟩
  have hw' := hw.symm
  subst hw'
  clear hw
  cases r
  · go_wp2_with fail
    go_ret
    exact ⟨rfl, Below.refl _ _⟩
  go_wp2_with fail
  go_loop [9, 10] (fun n i => ∃ (k : Nat) (m : Int), k ≤ la ∧ i = .int .i64 k ∧ n = .int .i64 m) (fun _ i => la - (intOf i).toNat)
  case atStart => exact ⟨0, _, Nat.zero_le _, rfl, rfl⟩
  case round =>
    obtain ⟨k, m, hk, rfl, rfl⟩ := hrel
    by_cases hlt : k < la
    · have hix := fun W => idx25 a la ca k (ra k hlt).1 hlt W
      have hsrc : w.cell? (adr a k) = some (.string (f k)) := (ra k hlt).2.2
      go_wp2
      go_round
      case rel => exact ⟨k + 1, _, by omega, by go_num, rfl⟩
      case measure => simp [intOf]; omega
    · go_wp2_with fail
      · go_ret
        exact ⟨rfl, Below.refl _ _⟩
      refine (clone_strings a la ca f w hla na ra).mono ?_
      rintro e w1 ⟨a1, c1, rfl, ra1, hb1⟩
      have rb1 := (rb.below hb1).mono hb1.size
      clear ra rb
      go_wp2_with fail
      refine (clone_u64 b lb cb v w1 hlb nb rb1).mono ?_
      rintro e w2 ⟨b2, c2, rfl, rb2, hb2⟩
      have ra2 := (ra1.below hb2).mono hb2.size
      have HBL : Hid (Below w.heap.size w w2) := hb1.trans (hb2.mono hb1.size)
      clear ra1 rb1 hb1 hb2
      obtain ⟨n, hn⟩ : ∃ n, n = min la lb := ⟨_, rfl⟩
      by_cases hmin : lb < la
      all_goals
        go_wp2_with fail
        go_loopw [13] (fun i wr => ∃ k : Nat, k ≤ min la lb ∧ i = .int .i64 k ∧ wr.ownsMap Try.prog 9 (plainElem Try.prog 31) w2.heap.size k (fillv f v k) ∧ Below w2.heap.size w2 wr) (fun i _ => min la lb - (intOf i).toNat)
        case atStart => exact ⟨0, Nat.zero_le _, rfl, World.ownsMap_made _ _ _ _, (Below.refl _ _).alloc (Nat.le_refl _) _⟩
        case round =>
          obtain ⟨k3, hk3, rfl, hown, hbel⟩ := hrel
          by_cases hlt3 : k3 < min la lb
          · have hix := fun W => idx25 a1 la c1 k3 (ra2 k3 (by omega)).1 (by omega) W
            have hsrc : wr.cell? (adr a1 k3) = some (.string (f k3)) := ((ra2.below hbel) k3 (by omega)).2.2
            have hiy := fun W => idx26 b2 lb c2 k3 (rb2 k3 (by omega)).1 (by omega) W
            have hsrd : wr.cell? (adr b2 k3) = some (.int .u64 (v k3)) := ((rb2.below hbel) k3 (by omega)).2.2
            have hkey := key_ok (hf k3)
            obtain ⟨w3, hrun, hown3, hgrow3⟩ := (World.ownsMap.drew hown).update law Try.underlying30 (by unfold maxLen; omega) hkey (plainElem_int Try.underlying31 (hv k3))
            have hl1 : k3 < la := by omega
            have hl2 : k3 < lb := by omega
            go_wp2
            go_region
            go_wp2
            have R2 := (hbel.drew).grown hgrow3 hbel.size (fun j hj => by cases hj; exact Nat.le_refl _)
            go_roundw
            case rel => exact ⟨k3 + 1, by omega, by go_num, hown3, R2⟩
            case measure => simp [intOf]; omega
          · have hkp := key_ok (show p.size ≤ maxLen by unfold maxLen; omega)
            have hkq := key_ok (show q.size ≤ maxLen by unfold maxLen; omega)
            have htd := tidy_fillv f v k3
            have HBN : Hid (Below w.heap.size w wr) := HBL.out.trans (hbel.mono HBL.out.size)
            have hBw : w.heap.size ≤ w2.heap.size := HBL.out.size
            clear ra2 rb2 HBL hbel
            generalize fillv f v k3 = D at hown htd
            have hln := fun ty => hown.len Try.underlying30 ty
            have hhas : has (bump D (kl q)) (kl p) = has D (kl p) := has_bump htd.isMap (isKey _)
            cases hkn : has D (kl q)
            · go_wp2_with (first
                | (at_lookup; refine wpList_lookup_own_ok_int _ rfl _ _ 30 rfl 9 31 .u64 law Try.underlying30 Try.underlying31 (zero31 _) w2.heap.size k3 D rfl hown _ _ rfl hkp ?_; intro c hat hwc)
                | (at_lookup; refine wpList_lookup_own_ok_int _ rfl _ _ 30 rfl 9 31 .u64 law Try.underlying30 Try.underlying31 (zero31 _) w2.heap.size k3 D rfl hown _ _ rfl hkq ?_; intro c1 hat1 hwc1)
                | fail)
              refine (zz_count w2.heap.size k3 D q _ (by unfold maxLen; omega) (by unfold maxLen; omega) hown).mono ?_
              rintro e w4 ⟨rfl, hown4, hgrow4⟩
              have HB4 : Hid (Below w.heap.size w w4) := HBN.out.grown hgrow4 HBN.out.size (fun j hj => by cases hj; exact hBw)
              clear HBN hgrow4 hln hwc
              have hln4 := fun ty => hown4.len Try.underlying30 ty
              rw [size_bump htd] at hln4
              go_wp2_with (first
                | (at_lookup; refine wpList_lookup_own_ok_int _ rfl _ _ 30 rfl 9 31 .u64 law Try.underlying30 Try.underlying31 (zero31 _) w2.heap.size (k3 + 1) (bump D (kl q)) rfl hown4 _ _ rfl hkp ?_; intro c2 hat2 hwc2; have hcc : (c2 == c) = true := by rw [← cnt_of hat2, ← cnt_of hat, cnt_bump_none hkn]; simp)
                | fail)
              go_ret
              exact ⟨rfl, HB4.out⟩
            by_cases hpq : p = q
            · have hpq2 : (p.toList == q.toList) = true := by rw [hpq]; simp
              have HPQ : Hid (p = q) := hpq
              clear hpq
              go_wp2_with (first
                | (at_lookup; refine wpList_lookup_own_ok_int _ rfl _ _ 30 rfl 9 31 .u64 law Try.underlying30 Try.underlying31 (zero31 _) w2.heap.size k3 D rfl hown _ _ rfl hkp ?_; intro c hat hwc)
                | (at_lookup; refine wpList_lookup_own_ok_int _ rfl _ _ 30 rfl 9 31 .u64 law Try.underlying30 Try.underlying31 (zero31 _) w2.heap.size k3 D rfl hown _ _ rfl hkq ?_; intro c1 hat1 hwc1)
                | fail)
              refine (zz_count w2.heap.size k3 D q _ (by unfold maxLen; omega) (by unfold maxLen; omega) hown).mono ?_
              rintro e w4 ⟨rfl, hown4, hgrow4⟩
              have HB4 : Hid (Below w.heap.size w w4) := HBN.out.grown hgrow4 HBN.out.size (fun j hj => by cases hj; exact hBw)
              clear HBN hgrow4 hln hwc
              have hln4 := fun ty => hown4.len Try.underlying30 ty
              rw [size_bump htd] at hln4
              go_wp2_with (first
                | (at_lookup; refine wpList_lookup_own_ok_int _ rfl _ _ 30 rfl 9 31 .u64 law Try.underlying30 Try.underlying31 (zero31 _) w2.heap.size (k3 + 1) (bump D (kl q)) rfl hown4 _ _ rfl hkp ?_; intro c2 hat2 hwc2; have hcc : (c2 == IntKind.u64.wrap (c + 1)) = true := by rw [← cnt_of hat2, ← cnt_of hat, HPQ.out, cnt_bump_same htd.isMap (isKey _) hkn]; simp)
                | fail)
              go_ret
              exact ⟨rfl, HB4.out⟩
            · have hpq2 : (p.toList == q.toList) = false := ne_bytes hpq
              go_wp2_with (first
                | (at_lookup; refine wpList_lookup_own_ok_int _ rfl _ _ 30 rfl 9 31 .u64 law Try.underlying30 Try.underlying31 (zero31 _) w2.heap.size k3 D rfl hown _ _ rfl hkp ?_; intro c hat hwc)
                | (at_lookup; refine wpList_lookup_own_ok_int _ rfl _ _ 30 rfl 9 31 .u64 law Try.underlying30 Try.underlying31 (zero31 _) w2.heap.size k3 D rfl hown _ _ rfl hkq ?_; intro c1 hat1 hwc1)
                | fail)
              refine (zz_count w2.heap.size k3 D q _ (by unfold maxLen; omega) (by unfold maxLen; omega) hown).mono ?_
              rintro e w4 ⟨rfl, hown4, hgrow4⟩
              have HB4 : Hid (Below w.heap.size w w4) := HBN.out.grown hgrow4 HBN.out.size (fun j hj => by cases hj; exact hBw)
              clear HBN hgrow4 hln hwc
              have hln4 := fun ty => hown4.len Try.underlying30 ty
              rw [size_bump htd] at hln4
              go_wp2_with (first
                | (at_lookup; refine wpList_lookup_own_ok_int _ rfl _ _ 30 rfl 9 31 .u64 law Try.underlying30 Try.underlying31 (zero31 _) w2.heap.size (k3 + 1) (bump D (kl q)) rfl hown4 _ _ rfl hkp ?_; intro c2 hat2 hwc2; have hcc : (c2 == c) = true := by rw [← cnt_of hat2, ← cnt_of hat, cnt_bump_other (fun h => hpq (kl_inj h))]; simp)
                | fail)
              go_ret
              exact ⟨rfl, HB4.out⟩

theorem known_walk (a b : Option Addr) (la ca lb cb : Nat) (f : Nat → ByteArray) (v : Nat → Int) (q p : ByteArray) (w : World) (hla : la ≤ maxLen) (hlb : lb ≤ maxLen) (hq : q.size ≤ maxLen) (hp : p.size ≤ maxLen)
    (hf : ∀ k, (f k).size ≤ maxLen) (hv : ∀ k, (Lit.int .u64 (v k)).wf = true) (na : a = none → la = 0) (nb : b = none → lb = 0)
    (ra : IsRow w w.heap.size a la (fun k => .string (f k))) (rb : IsRow w w.heap.size b lb (fun k => .int .u64 (v k))) :
    Calls Try.prog 4 #[.slice a la ca, .slice b lb cb, .string q, .string p] w fun e w' => e = .returned (.bool true) ∧ Below w.heap.size w w' := by
  by_cases h : la ≤ 65536 ∧ lb ≤ 65536 ∧ q.size ≤ 1048576 ∧ p.size ≤ 1048576
  · exact known_in a b la ca lb cb f v q p w h.1 h.2.1 h.2.2.1 h.2.2.2 hf hv na nb ra rb
  · exact known_out a b la ca lb cb f q p w hla hlb hq hp hf ra (by omega)

end Go.Proofs.Qxb6000728a
