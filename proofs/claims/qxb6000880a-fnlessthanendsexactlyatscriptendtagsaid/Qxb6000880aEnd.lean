import Derived.Test.Qxb6000880aLessLaw
namespace Go.Proofs.Qxb6000880a
open Go.RowKit Go.BigFrame

theorem zzLower_q (c : Int) (w : World) (h0 : 0 ≤ c) (h1 : c ≤ 255) : Calls Try.prog 29 #[.int .u8 c] w fun e w' => e = .returned (.int .u8 (low c)) ∧ w' = w :=
  (zzLower_any c w h0 h1).mono fun _ _ h => ⟨h.1, h.2.symm⟩

/-- Letter s of the name is met. -/
def nmHit (f : Nat → Int) (s : Nat) : Prop := ∀ h : s < scr.size, low (f (2 + s)) = (scr[s]'h).toNat

theorem endTag_iff {f : Nat → Int} {n : Nat} : EndTag f n ↔ 9 ≤ n ∧ f 0 = 60 ∧ f 1 = 47 ∧ (∀ s, s < 6 → nmHit f s) ∧ endB (f 8) = true := by
  unfold EndTag
  constructor
  · rintro ⟨h1, h2, h3⟩
    refine ⟨h1, (hit_pfx (by decide)).1 (h2 0 (by omega)), (hit_pfx (by decide)).1 (h2 1 (by omega)), fun s hs h => ?_, h3⟩
    have := (hit_nm (pfx := pf2) (nm := scr) (i := 2 + s) (show ¬ (2 + s < 2) by omega) (show 2 + s - 2 < 6 by omega)).1 (h2 (2 + s) (by omega))
    have e : 2 + s - pf2.size = s := by show 2 + s - 2 = s; omega
    simpa only [e] using this
  · rintro ⟨h1, a0, a1, h2, h3⟩
    refine ⟨h1, fun i hi => ?_, h3⟩
    match i, hi with
    | 0, _ => exact (hit_pfx (by decide)).2 a0
    | 1, _ => exact (hit_pfx (by decide)).2 a1
    | s + 2, hi =>
      refine (hit_nm (pfx := pf2) (nm := scr) (i := s + 2) (show ¬ (s + 2 < 2) by omega) (show s + 2 - 2 < 6 by omega)).2 ?_
      have := h2 s (by omega) (show s < 6 by omega)
      have e : s + 2 - pf2.size = s := by show s + 2 - 2 = s; omega
      simp only [e]
      exact (congrArg (fun x => low (f x)) (Nat.add_comm s 2)).trans this

def IsEndRes (f : Nat → Int) (n : Nat) (w : World) (e : Ending) (w' : World) : Prop := ∃ b : Bool, e = .returned (.bool b) ∧ Drew w w' ∧ (b = true ↔ EndTag f n)
theorem IsEndRes.mk {f : Nat → Int} {n : Nat} {w w' : World} {b : Bool} (h : Drew w w') (h2 : b = true ↔ EndTag f n) : IsEndRes f n w (.returned (.bool b)) w' := ⟨b, rfl, h, h2⟩

set_option maxHeartbeats 1000000 in
set_option maxRecDepth 100000 in
theorem isEnd_any (a : Option Addr) (n cap B : Nat) (f : Nat → Int) (w : World) (hn : n ≤ 1048576) (hf : ∀ k, 0 ≤ f k ∧ f k ≤ 255) (row : IsRow w B a n (fun k => .int .u8 (f k))) :
    Calls Try.prog 17 #[.slice a n cap] w fun e w' => IsEndRes f n w e w' := by
  by_cases h9 : n < 9
  · have HR : Hid ((false = true) ↔ EndTag f n) := ⟨fun e => (by cases e), fun e => absurd e.1 (by omega)⟩
    go_enter Try.func17, Try.ntmps17
    go_wp2
    go_ret
    exact IsEndRes.mk (Drew.refl _) (HR.out)
  have hix0 : ∀ W, (Instr.indexAt 22 (.slice a n cap) (.int .i64 0)).run Try.prog W = .ok (.pointer (some (adr a 0))) W := fun W => idx22 a n cap 0 (row 0 (by omega)).1 (by omega) W
  have hsrc0 : w.cell? (adr a 0) = some (.int .u8 (f 0)) := (row 0 (by omega)).2.2
  have hix1 : ∀ W, (Instr.indexAt 22 (.slice a n cap) (.int .i64 1)).run Try.prog W = .ok (.pointer (some (adr a 1))) W := fun W => idx22 a n cap 1 (row 1 (by omega)).1 (by omega) W
  have hsrc1 : w.cell? (adr a 1) = some (.int .u8 (f 1)) := (row 1 (by omega)).2.2
  by_cases g0 : f 0 = 60
  · have b0 : (f 0 != 60) = false := by simp [g0]
    by_cases g1 : f 1 = 47
    · have b1 : (f 1 != 47) = false := by simp [g1]
      have G0 : Hid (f 0 = 60) := g0
      have G1 : Hid (f 1 = 47) := g1
      clear g0 g1
      go_enter Try.func17, Try.ntmps17
      go_wp2
      go_loopw [3] (fun i wr => ∃ k : Nat, k ≤ 6 ∧ i = .int .i64 k ∧ Drew w wr ∧ ∀ s, s < k → nmHit f s) (fun i _ => 6 - (intOf i).toNat)
      case atStart => exact ⟨0, Nat.zero_le _, rfl, Drew.refl _, fun s hs => absurd hs (by omega)⟩
      case round =>
        obtain ⟨k, hk, rfl, hdr, hall⟩ := hrel
        clear hix0 hix1 hsrc0 hsrc1 b0 b1
        by_cases hlt : k < 6
        · have hix := fun W => idx22 a n cap (2 + k) (row (2 + k) (by omega)).1 (by omega) W
          rw [show ((2 + k : Nat) : Int) = 2 + (k : Int) by omega] at hix
          have hsrc : wr.cell? (adr a (2 + k)) = some (.int .u8 (f (2 + k))) := (hdr.cell _).trans (row _ (by omega)).2.2
          obtain ⟨hf0, hf1⟩ := hf (2 + k)
          have hin := fun W => sidx scr k hlt W
          by_cases hh : low (f (2 + k)) = (scr[k]'hlt).toNat
          · have HA : Hid (∀ s, s < k + 1 → nmHit f s) := by
              intro s hs h
              by_cases e : s = k
              · subst e; exact hh
              · exact hall s (by omega) h
            have hb : (low (f (2 + k)) != ((scr[k]'hlt).toNat : Int)) = false := by simp [hh]
            generalize (scr[k]'hlt).toNat = cc at hin hb hh
            clear hh hall row hf
            go_wp2_with fail
            go_quiet ((go_at_call 29; exact Calls.quiet_of_same (zzLower_q _ _ hf0 hf1)))
            go_wp2
            go_roundw
            case rel => exact ⟨k + 1, by omega, by go_num, hdr.drewN _, HA.out⟩
            case measure => simp [intOf]; omega
          · have HR : Hid ((false = true) ↔ EndTag f n) := ⟨fun e => (by cases e), fun e => absurd ((endTag_iff.1 e).2.2.2.1 k hlt hlt) hh⟩
            have hb : (low (f (2 + k)) != ((scr[k]'hlt).toNat : Int)) = true := by simp [hh]
            generalize (scr[k]'hlt).toNat = cc at hin hb hh
            clear hh hall row hf
            go_wp2_with fail
            go_quiet ((go_at_call 29; exact Calls.quiet_of_same (zzLower_q _ _ hf0 hf1)))
            go_wp2
            go_ret
            exact IsEndRes.mk (hdr.drewN _) (HR.out)
        · obtain rfl : k = 6 := by omega
          have hix : ∀ W, (Instr.indexAt 22 (.slice a n cap) (.int .i64 8)).run Try.prog W = .ok (.pointer (some (adr a 8))) W := fun W => idx22 a n cap 8 (row 8 (by omega)).1 (by omega) W
          have hsrc : wr.cell? (adr a 8) = some (.int .u8 (f 8)) := (hdr.cell _).trans (row 8 (by omega)).2.2
          have HR : Hid ((endB (f 8) = true) ↔ EndTag f n) := ⟨fun e => endTag_iff.2 ⟨by omega, G0.out, G1.out, hall, e⟩, fun e => e.2.2⟩
          generalize f 8 = c at hsrc HR
          clear hall row hf
          cases hs : spc c
          · by_cases h47 : c = 47
            · have hb : (c == 47) = true := by simp [h47]
              have HE : Hid (endB c = true) := by show endB c = true; simp [endB, hb]
              clear h47
              go_wp2_with (go_at_call 26; refine (zzIsSpace_any _ _).mono ?_; rintro e w' ⟨rfl, rfl⟩)
              go_ret
              exact IsEndRes.mk (hdr) (HE.out ▸ HR.out)
            · have hb : (c == 47) = false := by simp [h47]
              have HE : Hid (endB c = (c == 62)) := by show endB c = _; simp [endB, hs, hb]
              clear h47
              go_wp2_with (go_at_call 26; refine (zzIsSpace_any _ _).mono ?_; rintro e w' ⟨rfl, rfl⟩)
              go_ret
              exact IsEndRes.mk (hdr) (HE.out ▸ HR.out)
          · have HE : Hid (endB c = true) := by show endB c = true; simp [endB, hs]
            go_wp2_with (go_at_call 26; refine (zzIsSpace_any _ _).mono ?_; rintro e w' ⟨rfl, rfl⟩)
            go_ret
            exact IsEndRes.mk (hdr) (HE.out ▸ HR.out)
    · have b1 : (f 1 != 47) = true := by simp [g1]
      have HR : Hid ((false = true) ↔ EndTag f n) := ⟨fun e => (by cases e), fun e => absurd (endTag_iff.1 e).2.2.1 g1⟩
      clear g0 g1
      go_enter Try.func17, Try.ntmps17
      go_wp2
      go_ret
      exact IsEndRes.mk (Drew.refl _) (HR.out)
  · have b0 : (f 0 != 60) = true := by simp [g0]
    have HR : Hid ((false = true) ↔ EndTag f n) := ⟨fun e => (by cases e), fun e => absurd (endTag_iff.1 e).2.1 g0⟩
    clear g0
    go_enter Try.func17, Try.ntmps17
    go_wp2
    go_ret
    exact IsEndRes.mk (Drew.refl _) (HR.out)

end Go.Proofs.Qxb6000880a
