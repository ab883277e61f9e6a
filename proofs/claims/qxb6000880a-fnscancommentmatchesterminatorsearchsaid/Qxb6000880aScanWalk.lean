import Derived.Test.Qxb6000880aScan
namespace Go.Proofs.Qxb6000880a
open Go.RowKit

/-- The receiver's field behind a store. -/
structure Fld (w wr : World) (L : Nat) (d : Int) : Prop where
  cell : wr.cell? ⟨L, 4, none⟩ = some (.int .i64 d)
  frozen : wr.frozen? ⟨L, 4, none⟩ = false
  below : Below L w wr

theorem Fld.set {w wr : World} {L : Nat} {d : Int} (h : Fld w wr L d) (d' : Int) : Fld w (wr.setCell ⟨L, 4, none⟩ (.int .i64 d')) L d' :=
  ⟨World.cell?_setCell_same _ _ _ h.cell, (World.frozen?_setCell _ _ _ _).trans h.frozen, h.below.setCell (Nat.le_refl _) _⟩

set_option maxHeartbeats 1000000 in
set_option maxRecDepth 100000 in
theorem scan_walk (a : Option Addr) (n cap L d0 : Nat) (f : Nat → Int) (w : World) (hn : n ≤ 1048576) (hd : d0 ≤ 2) (row : IsRow w L a n (fun k => .int .u8 (f k))) (fld : Fld w w L d0) :
    Calls Try.prog 27 #[.pointer (some ⟨L, 0, none⟩), .slice a n cap] w fun e w' =>
      ∃ r done d, e = .returned (.tuple #[.int .i64 r, .bool done]) ∧ Fld w w' L d ∧ ScanRes (txt d0 f) d0 n r done d := by
  go_enter Try.func27, Try.ntmps27
  go_wp2
  go_loopw [6] (fun i wr => ∃ k d : Nat, k ≤ n ∧ i = .int .i64 k ∧ Fld w wr L d ∧ Head (txt d0 f) (d0 + k) d) (fun i _ => n - (intOf i).toNat)
  case atStart => exact ⟨0, d0, Nat.zero_le _, rfl, fld, Head.start hd⟩
  case round =>
    clear fld
    obtain ⟨k, d, hk, rfl, fld, hh⟩ := hrel
    have hd2 : d ≤ 2 := by rw [hh.d]; exact trail_le _ _
    by_cases hlt : k < n
    · have hix := fun W => idx22 a n cap k (row k hlt).1 hlt W
      have hsrc : wr.cell? (adr a k) = some (.int .u8 (f k)) := ((row.below fld.below) k hlt).2.2
      have hcell := fld.cell
      have hfz := fld.frozen
      have HT : Hid (txt d0 f (d0 + k) = f k) := txt_at k
      generalize hc : f k = c at hsrc HT
      clear hc
      by_cases h1 : c = 45
      · have hc1 : (c == 45) = true := by simp [h1]
        have HH : Hid (Head (txt d0 f) (d0 + (k + 1)) (min (d + 1) 2)) := hh.dash (HT.out.trans h1)
        have HE : Hid ((if (2 : Int) < (d : Int) + 1 then 2 else (d : Int) + 1) = ((min (d + 1) 2 : Nat) : Int)) := by
          show _ = _
          split <;> omega
        clear h1 hh HT row
        go_wp2
        go_roundw
        case rel => exact ⟨k + 1, min (d + 1) 2, by omega, by go_num, by rw [HE.out]; exact fld.set _, HH.out⟩
        case measure => simp [intOf]; omega
      · have hc1 : (c == 45) = false := by simp [h1]
        by_cases hdd : d = 2
        · have hdb : ((d : Int) == 2) = true := by rw [hdd]; rfl
          by_cases h2 : c = 62
          · have hc2 : (c == 62) = true := by simp [h2]
            have HR : Hid (ScanRes (txt d0 f) d0 n ((k : Int) + 1) true d) := .inl ⟨rfl, d0 + k, by omega, hh.ends (HT.out.trans h2) hdd, hh.none, by omega⟩
            clear h1 h2 hdd hh HT row
            go_wp2
            go_ret2
            exact ⟨_, _, _, rfl, fld, HR.out⟩
          · have hc2 : (c == 62) = false := by simp [h2]
            by_cases h3 : c = 33
            · have hc3 : (c == 33) = true := by simp [h3]
              by_cases hl : k + 1 < n
              · have hix2 := fun W => idx22 a n cap (k + 1) (row (k + 1) hl).1 hl W
                simp only [Int.natCast_add, Int.natCast_one] at hix2
                have hsrc2 : wr.cell? (adr a (k + 1)) = some (.int .u8 (f (k + 1))) := ((row.below fld.below) (k + 1) hl).2.2
                have HT2 : Hid (txt d0 f (d0 + k + 1) = f (k + 1)) := txt_at (k + 1)
                have hlb : ((k : Int) + 1 == (n : Int)) = false := by simp; omega
                generalize hc : f (k + 1) = c2 at hsrc2 HT2
                clear hc
                by_cases g1 : c2 = 62
                · have hg1 : (c2 == 62) = true := by simp [g1]
                  have HR : Hid (ScanRes (txt d0 f) d0 n ((k : Int) + 1 + 1) true d) := .inl ⟨rfl, d0 + k + 1, by omega, term_iff.2 ⟨HT2.out.trans g1, .inr (hh.isBang (HT.out.trans h3) hdd)⟩, none_succ hh.none (term_no (by rw [HT.out]; omega)), by omega⟩
                  clear h1 h2 h3 hdd hh HT HT2 row g1
                  go_wp2
                  go_ret2
                  exact ⟨_, _, _, rfl, fld, HR.out⟩
                · have hg1 : (c2 == 62) = false := by simp [g1]
                  by_cases g2 : c2 = 45
                  · have hg2 : (c2 == 45) = true := by simp [g2]
                    have HH : Hid (Head (txt d0 f) (d0 + (k + 2)) 1) := hh.bangDash (HT.out.trans h3) (HT2.out.trans g2)
                    clear h1 h2 h3 hdd hh HT HT2 row g1 g2
                    go_wp2
                    go_roundw
                    case rel => exact ⟨k + 2, 1, by omega, by go_num, fld.set 1, HH.out⟩
                    case measure => simp [intOf]; omega
                  · have hg2 : (c2 == 45) = false := by simp [g2]
                    have HH : Hid (Head (txt d0 f) (d0 + (k + 2)) 0) := hh.bangOther (HT.out.trans h3) (by rw [HT2.out]; exact g2) (by rw [HT2.out]; exact g1)
                    clear h1 h2 h3 hdd hh HT HT2 row g1 g2
                    go_wp2
                    go_roundw
                    case rel => exact ⟨k + 2, 0, by omega, by go_num, fld.set 0, HH.out⟩
                    case measure => simp [intOf]; omega
              · have hlb : ((k : Int) + 1 == (n : Int)) = true := by simp; omega
                have HR : Hid (ScanRes (txt d0 f) d0 n (k : Int) false d) := by
                  refine .inr ⟨rfl, ?_, .inl ⟨?_, by omega, by omega⟩⟩
                  · have := none_succ hh.none (term_no (by rw [HT.out]; omega))
                    rw [show d0 + n = d0 + k + 1 by omega]; exact this
                  · rw [show d0 + n = d0 + k + 1 by omega]; exact hh.isBang (HT.out.trans h3) hdd
                clear h1 h2 h3 hdd hh HT row
                go_wp2
                go_ret2
                exact ⟨_, _, _, rfl, fld, HR.out⟩
            · have hc3 : (c == 33) = false := by simp [h3]
              have HH : Hid (Head (txt d0 f) (d0 + (k + 1)) 0) := hh.other (by rw [HT.out]; exact h1) (by rw [HT.out]; omega) (by rw [HT.out]; omega)
              clear h1 h2 h3 hdd hh HT row
              go_wp2
              go_roundw
              case rel => exact ⟨k + 1, 0, by omega, by go_num, fld.set 0, HH.out⟩
              case measure => simp [intOf]; omega
        · have hdb : ((d : Int) == 2) = false := by simp; omega
          have HH : Hid (Head (txt d0 f) (d0 + (k + 1)) 0) := hh.other (by rw [HT.out]; exact h1) (by omega) (by omega)
          clear h1 hdd hh HT row
          go_wp2
          all_goals
            go_roundw
            case rel => exact ⟨k + 1, 0, by omega, by go_num, fld.set 0, HH.out⟩
            case measure => simp [intOf]; omega
    · obtain rfl : k = n := by omega
      have HR : Hid (ScanRes (txt d0 f) d0 k (k : Int) false d) := .inr ⟨rfl, hh.none, .inr ⟨hh.bang, rfl, by rw [hh.d]⟩⟩
      clear hh row
      go_wp2
      go_ret2
      exact ⟨_, _, _, rfl, fld, HR.out⟩

end Go.Proofs.Qxb6000880a
