import Derived.Test.Qxb6000880aParts
import Derived.BigQuiet
import Derived.Deep.QuietTactic
import Derived.WalkSmall
namespace Go.Proofs.Qxb6000880a
open Go.RowKit Go.BigFrame

def low (c : Int) : Int := if 65 ≤ c ∧ c ≤ 90 then c + 32 else c
def spc (c : Int) : Bool := (c == 32) || (c == 9) || (c == 10) || (c == 12) || (c == 13)
def endB (c : Int) : Bool := spc c || (c == 47) || (c == 62)

theorem lowerASCII_any (c : Int) (w : World) (h0 : 0 ≤ c) (h1 : c ≤ 255) : Calls Try.prog 40 #[.int .u8 c] w fun e w' => e = .returned (.int .u8 (low c)) ∧ w = w' := by
  unfold low
  by_cases h : 65 ≤ c ∧ c ≤ 90
  · rw [if_pos h]
    obtain ⟨ha, hb⟩ := h
    go_enter Try.func40, Try.ntmps40
    go_wp2
    go_ret
    exact ⟨by show Ending.returned (.int .u8 (c + 97 - 65)) = _; rw [show c + 97 - 65 = c + 32 by omega], rfl⟩
  · rw [if_neg h]
    go_enter Try.func40, Try.ntmps40
    go_wp2
    all_goals
      go_ret
      exact ⟨rfl, rfl⟩

theorem zzLower_any (c : Int) (w : World) (h0 : 0 ≤ c) (h1 : c ≤ 255) : Calls Try.prog 29 #[.int .u8 c] w fun e w' => e = .returned (.int .u8 (low c)) ∧ w = w' := by
  unfold low
  by_cases h : 65 ≤ c ∧ c ≤ 90
  · rw [if_pos h]
    obtain ⟨ha, hb⟩ := h
    go_enter Try.func29, Try.ntmps29
    go_wp2
    go_ret
    exact ⟨rfl, rfl⟩
  · rw [if_neg h]
    go_enter Try.func29, Try.ntmps29
    go_wp2
    all_goals
      go_ret
      exact ⟨rfl, rfl⟩

theorem zzIsSpace_any (c : Int) (w : World) : Calls Try.prog 26 #[.int .u8 c] w fun e w' => e = .returned (.bool (spc c)) ∧ w = w' := by
  go_enter Try.func26, Try.ntmps26
  go_wp2
  all_goals
    go_ret
    exact ⟨by simp [spc, *], rfl⟩

theorem isSpace_any (c : Int) (w : World) : Calls Try.prog 36 #[.int .u8 c] w fun e w' => e = .returned (.bool (spc c)) ∧ w = w' := by
  go_enter Try.func36, Try.ntmps36
  go_wp2
  all_goals
    go_ret
    exact ⟨by simp [spc, *], rfl⟩

theorem lowerASCII_q (c : Int) (w : World) (h0 : 0 ≤ c) (h1 : c ≤ 255) : Calls Try.prog 40 #[.int .u8 c] w fun e w' => e = .returned (.int .u8 (low c)) ∧ w' = w :=
  (lowerASCII_any c w h0 h1).mono fun _ _ h => ⟨h.1, h.2.symm⟩

def hit (pfx nm : ByteArray) (f : Nat → Int) (i : Nat) : Prop :=
  if h : i < pfx.size then f i = (pfx[i]'h).toNat else if h2 : i - pfx.size < nm.size then low (f i) = (nm[i - pfx.size]'h2).toNat else False

/-- What nameAt answers. -/
def NameRes (pfx nm : ByteArray) (f : Nat → Int) (n : Nat) (ends known : Bool) : Prop :=
  (ends = false ∧ known = false ∧ n ≤ pfx.size + nm.size) ∨
  (ends = false ∧ known = true ∧ ∃ i, i < pfx.size + nm.size ∧ i < n ∧ ¬ hit pfx nm f i) ∨
  (known = true ∧ pfx.size + nm.size < n ∧ (∀ i, i < pfx.size + nm.size → hit pfx nm f i) ∧ ends = endB (f (pfx.size + nm.size)))

theorem hit_pfx {pfx nm : ByteArray} {f : Nat → Int} {i : Nat} (h : i < pfx.size) : hit pfx nm f i ↔ f i = (pfx[i]'h).toNat := by
  unfold hit; rw [dif_pos h]
theorem hit_nm {pfx nm : ByteArray} {f : Nat → Int} {i : Nat} (h : ¬ i < pfx.size) (h2 : i - pfx.size < nm.size) : hit pfx nm f i ↔ low (f i) = (nm[i - pfx.size]'h2).toNat := by
  unfold hit; rw [dif_neg h, dif_pos h2]

theorem sidx (s : ByteArray) (k : Nat) (h : k < s.size) (W : World) : (Instr.index 9 (.string s) (.int .i64 (k : Int))).run Try.prog W = .ok (.int .u8 ((s[k]'h).toNat : Int)) W := by
  rw [run_index_string (h := Try.underlying9), dif_pos (by omega)]
  rfl

/-- A world that is another but for draws. -/
def Drew (w wr : World) : Prop := ∃ q, wr = w.drewN q
theorem Drew.refl (w : World) : Drew w w := ⟨0, rfl⟩
theorem Drew.drewN {w wr : World} (h : Drew w wr) (n : Nat) : Drew w (wr.drewN n) := by
  obtain ⟨q, rfl⟩ := h
  exact ⟨q + n, by rw [World.drewN_drewN]⟩
theorem Drew.cell {w wr : World} (h : Drew w wr) (a : Addr) : wr.cell? a = w.cell? a := by
  obtain ⟨q, rfl⟩ := h; rfl
theorem Drew.frozen {w wr : World} (h : Drew w wr) (a : Addr) : wr.frozen? a = w.frozen? a := by
  obtain ⟨q, rfl⟩ := h; rfl
theorem Drew.below {w wr : World} (h : Drew w wr) (B : Nat) : Below B w wr := by
  obtain ⟨q, rfl⟩ := h; exact below_drewN (Below.refl _ _) q
theorem all_succ {pfx nm : ByteArray} {f : Nat → Int} {k : Nat} (h : ∀ s, s < k → hit pfx nm f s) (hk : hit pfx nm f k) : ∀ s, s < k + 1 → hit pfx nm f s := by
  intro s hs
  by_cases e : s = k
  · rw [e]; exact hk
  · exact h s (by omega)

set_option maxHeartbeats 1000000 in
set_option maxRecDepth 100000 in
theorem nameAt_any (a : Option Addr) (n cap B : Nat) (pfx nm : ByteArray) (f : Nat → Int) (w : World) (hn : n ≤ 1048576) (h1 : pfx.size ≤ 100) (h2 : nm.size ≤ 100) (hf : ∀ k, 0 ≤ f k ∧ f k ≤ 255) (row : IsRow w B a n (fun k => .int .u8 (f k))) :
    Calls Try.prog 38 #[.slice a n cap, .string pfx, .string nm] w fun e w' => ∃ ends known, e = .returned (.tuple #[.bool ends, .bool known]) ∧ Drew w w' ∧ NameRes pfx nm f n ends known := by
  go_enter Try.func38, Try.ntmps38
  go_wp2
  go_loopw [15] (fun i wr => ∃ k : Nat, k ≤ pfx.size + nm.size ∧ k ≤ n ∧ i = .int .i64 k ∧ Drew w wr ∧ ∀ s, s < k → hit pfx nm f s) (fun i _ => (pfx.size + nm.size) - (intOf i).toNat)
  case atStart => exact ⟨0, Nat.zero_le _, Nat.zero_le _, rfl, Drew.refl _, fun s hs => absurd hs (by omega)⟩
  case round =>
    obtain ⟨k, hk, hkn', rfl, hdr, hall⟩ := hrel
    by_cases hlt : k < pfx.size + nm.size
    · by_cases hkn : k < n
      · have hkb : ((k : Int) == (n : Int)) = false := by simp; omega
        have hix := fun W => idx22 a n cap k (row k hkn).1 hkn W
        have hsrc : wr.cell? (adr a k) = some (.int .u8 (f k)) := (hdr.cell _).trans (row k hkn).2.2
        obtain ⟨hf0, hf1⟩ := hf k
        by_cases hp : k < pfx.size
        · have hg : decide (pfx.size ≤ k) = false := by simp; omega
          by_cases hh : f k = (pfx[k]'hp).toNat
          · have hb : (f k != ((pfx[k]'hp).toNat : Int)) = false := by simp [hh]
            have HA : Hid (∀ s, s < k + 1 → hit pfx nm f s) := all_succ hall ((hit_pfx hp).2 hh)
            clear hh hall row hf
            go_wp2_with fail
            go_quiet (fail)
            go_wp2
            go_roundw
            case rel => exact ⟨k + 1, by omega, by omega, by go_num, hdr.drewN _, HA.out⟩
            case measure => simp [intOf]; omega
          · have hb : (f k != ((pfx[k]'hp).toNat : Int)) = true := by simp [hh]
            have HR : Hid (NameRes pfx nm f n false true) := .inr (.inl ⟨rfl, rfl, k, hlt, hkn, fun h => hh ((hit_pfx hp).1 h)⟩)
            clear hh hall row hf
            go_wp2_with fail
            go_quiet (fail)
            go_wp2
            go_ret2
            exact ⟨_, _, rfl, hdr.drewN _, HR.out⟩
        · have hq : k - pfx.size < nm.size := by omega
          have hg : decide (k < pfx.size) = false := by simp; omega
          have hg2 : decide (pfx.size ≤ k) = true := by simp; omega
          have hin := fun W => sidx nm (k - pfx.size) hq W
          rw [show ((k - pfx.size : Nat) : Int) = (k : Int) - pfx.size by omega] at hin
          by_cases hh : low (f k) = (nm[k - pfx.size]'hq).toNat
          · have hb : (low (f k) != ((nm[k - pfx.size]'hq).toNat : Int)) = false := by simp [hh]
            have HA : Hid (∀ s, s < k + 1 → hit pfx nm f s) := all_succ hall ((hit_nm hp hq).2 hh)
            clear hh hall row hf
            go_wp2_with fail
            go_quiet ((go_at_call 40; exact Calls.quiet_of_same (lowerASCII_q _ _ hf0 hf1)))
            go_wp2
            go_roundw
            case rel => exact ⟨k + 1, by omega, by omega, by go_num, hdr.drewN _, HA.out⟩
            case measure => simp [intOf]; omega
          · have hb : (low (f k) != ((nm[k - pfx.size]'hq).toNat : Int)) = true := by simp [hh]
            have HR : Hid (NameRes pfx nm f n false true) := .inr (.inl ⟨rfl, rfl, k, hlt, hkn, fun h => hh ((hit_nm hp hq).1 h)⟩)
            clear hh hall row hf
            go_wp2_with fail
            go_quiet ((go_at_call 40; exact Calls.quiet_of_same (lowerASCII_q _ _ hf0 hf1)))
            go_wp2
            go_ret2
            exact ⟨_, _, rfl, hdr.drewN _, HR.out⟩
      · have hkb : ((k : Int) == (n : Int)) = true := by simp; omega
        have HR : Hid (NameRes pfx nm f n false false) := .inl ⟨rfl, rfl, by omega⟩
        clear hall row hf
        go_wp2
        go_ret2
        exact ⟨_, _, rfl, hdr, HR.out⟩
    · obtain rfl : k = pfx.size + nm.size := by omega
      by_cases hN : pfx.size + nm.size = n
      · have hkb : ((pfx.size : Int) + (nm.size : Int) == (n : Int)) = true := by simp; omega
        have HR : Hid (NameRes pfx nm f n false false) := .inl ⟨rfl, rfl, by omega⟩
        clear hall row hf hN
        go_wp2
        go_ret2
        exact ⟨_, _, rfl, hdr, HR.out⟩
      · have hkb : ((pfx.size : Int) + (nm.size : Int) == (n : Int)) = false := by simp; omega
        have hlt2 : pfx.size + nm.size < n := by omega
        have hix := fun W => idx22 a n cap (pfx.size + nm.size) (row _ hlt2).1 hlt2 W
        rw [show ((pfx.size + nm.size : Nat) : Int) = (pfx.size : Int) + nm.size by omega] at hix
        have hsrc : wr.cell? (adr a (pfx.size + nm.size)) = some (.int .u8 (f (pfx.size + nm.size))) := (hdr.cell _).trans (row _ hlt2).2.2
        have HR : Hid (NameRes pfx nm f n (endB (f (pfx.size + nm.size))) true) := .inr (.inr ⟨rfl, hlt2, hall, rfl⟩)
        generalize f (pfx.size + nm.size) = c at hsrc HR
        clear hall row hf hN
        cases hs : spc c
        · by_cases h47 : c = 47
          · have hb : (c == 47) = true := by simp [h47]
            have HE : Hid (endB c = true) := by show endB c = true; simp [endB, hb]
            clear h47
            go_wp2_with (go_at_call 36; refine (isSpace_any _ _).mono ?_; rintro e w' ⟨rfl, rfl⟩)
            go_ret2
            exact ⟨_, _, rfl, hdr, HE.out ▸ HR.out⟩
          · have hb : (c == 47) = false := by simp [h47]
            have HE : Hid (endB c = (c == 62)) := by show endB c = _; simp [endB, hs, hb]
            clear h47
            go_wp2_with (go_at_call 36; refine (isSpace_any _ _).mono ?_; rintro e w' ⟨rfl, rfl⟩)
            go_ret2
            exact ⟨_, _, rfl, hdr, HE.out ▸ HR.out⟩
        · have HE : Hid (endB c = true) := by show endB c = true; simp [endB, hs]
          go_wp2_with (go_at_call 36; refine (isSpace_any _ _).mono ?_; rintro e w' ⟨rfl, rfl⟩)
          go_ret2
          exact ⟨_, _, rfl, hdr, HE.out ▸ HR.out⟩

end Go.Proofs.Qxb6000880a
