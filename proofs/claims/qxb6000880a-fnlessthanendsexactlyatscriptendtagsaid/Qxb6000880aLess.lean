import Derived.Test.Qxb6000880aName
import Derived.Laws.BytesArg
import Derived.RegionTactic
namespace Go.Proofs.Qxb6000880a
open Go.RowKit Go.BigFrame

/-- Some bool comes back. -/
def AnyBool (e : Ending) : Prop := ∃ r : Bool, e = .returned (.bool r)
theorem AnyBool.mk (r : Bool) : AnyBool (.returned (.bool r)) := ⟨r, rfl⟩

/-- "script", "</", "<". -/
abbrev scr : ByteArray := ⟨#[115, 99, 114, 105, 112, 116]⟩
abbrev pf2 : ByteArray := ⟨#[60, 47]⟩
abbrev pf1 : ByteArray := ⟨#[60]⟩

theorem letter_any (c : Int) (w : World) : Calls Try.prog 33 #[.int .u8 c] w fun e w' => AnyBool e ∧ w = w' := by
  go_enter Try.func33, Try.ntmps33
  go_wp2
  all_goals
    go_ret
    exact ⟨AnyBool.mk _, rfl⟩

theorem bytes_less (x : Int) (a : Option Addr) (n cap : Nat) (w : World) (hn : n ≤ maxLen) :
    Calls Try.prog 16 #[.int .i64 x, .slice a n cap] w fun e w' => AnyBool e ∧ w' = w := by
  unfold maxLen at hn
  go_enter Try.func16, Try.ntmps16
  go_wp2
  all_goals (go_ret; exact ⟨AnyBool.mk _, rfl⟩)

theorem endTagAt_any (a : Option Addr) (n cap B : Nat) (f : Nat → Int) (w : World) (hn : n ≤ 1048576) (hf : ∀ k, 0 ≤ f k ∧ f k ≤ 255) (row : IsRow w B a n (fun k => .int .u8 (f k))) :
    Calls Try.prog 31 #[.slice a n cap, .string scr] w fun e w' => ∃ ends known, e = .returned (.tuple #[.bool ends, .bool known]) ∧ Drew w w' ∧ NameRes pf2 scr f n ends known := by
  go_enter Try.func31, Try.ntmps31
  go_wp2_with fail
  refine (nameAt_any a n cap B pf2 scr f w hn (by decide) (by decide) hf row).mono ?_
  rintro e w' ⟨ends, known, rfl, hd, hr⟩
  go_wp2
  go_ret2
  exact ⟨_, _, rfl, hd, hr⟩

theorem IsRow.form {w : World} {B : Nat} {a : Option Addr} {n : Nat} {f : Nat → Value} (h : IsRow w B a n f) (hn : 0 < n) : ∃ b off, a = some ⟨b, off, none⟩ ∧ ∀ k, k < n → w.cell? ⟨b, off + k, none⟩ = some (f k) := by
  obtain ⟨h1, _, h3⟩ := h 0 hn
  cases a with
  | none => exact absurd rfl h1
  | some x =>
    obtain ⟨b, off, spot⟩ := x
    have hspot : spot = none := by simpa [adr, Addr.add] using World.cell?_spot h3
    subst hspot
    refine ⟨b, off, rfl, fun k hk => ?_⟩
    have := (h k hk).2.2
    simp only [adr] at this
    rwa [Addr.add_lit] at this

theorem conv22 (b off k cap : Nat) (f : Nat → Int) (w : World) (h : ∀ i, i < k → w.cell? ⟨b, off + i, none⟩ = some (.int .u8 (f i))) (q : Nat) :
    (convert 22 9 (.slice (some ⟨b, off, none⟩) k cap)).run Try.prog (w.drewN q) = .ok (.string (strOfNums ((List.range k).map f))) (w.drewN q) :=
  run_convert_bytes_arg (P := Try.prog) (w.drewN q) 22 5 Try.underlying22 Try.underlying5 b off k cap ((List.range k).map f) (by simp) (fun i hi => by
    rw [World.cell?_drewN, h i hi]
    simp [List.getD, hi]) 9 Try.underlying9

theorem slice22 (b off n k cap : Nat) (hk : k ≤ cap) (w : World) : (Instr.slice 22 (.slice (some ⟨b, off, none⟩) n cap) none (some (.int .i64 (k : Int))) none).run Try.prog w = .ok (.slice (some ⟨b, off, none⟩) k cap) w := by
  obtain ⟨i, hi, _, hs, _⟩ := info_parts Try.info5
  have e : Try.prog.elem 22 = 5 := by simp [Program.elem, Try.underlying22]
  rw [run_slice_h (P := Try.prog) w 22 (some ⟨b, off, none⟩) n cap (by rw [e]; exact Try.underlying22) .i64 (k : Int) (by omega) (by omega)]
  simp [e, sizeOf, typeInfo, hi, hs, sliced, Addr.add_lit]

set_option maxHeartbeats 400000 in
theorem hasPrefix_any (a : Option Addr) (n cap B : Nat) (f : Nat → Int) (w : World) (hn : n ≤ 1048576) (h0 : 0 < n) (hc : n ≤ cap) (row : IsRow w B a n (fun k => .int .u8 (f k))) :
    Calls Try.prog 32 #[.slice a n cap, .string ⟨#[60, 33, 45, 45]⟩] w fun e w' => AnyBool e ∧ Drew w w' := by
  obtain ⟨b, off, rfl, hcell⟩ := row.form h0
  clear row
  by_cases h4 : 4 < n
  · have hcv := conv22 b off 4 cap f w (fun i hi => hcell i (by omega))
    have hsl : ∀ W, (Instr.slice 22 (.slice (some ⟨b, off, none⟩) n cap) none (some (.int .i64 4)) none).run Try.prog W = .ok (.slice (some ⟨b, off, none⟩) 4 cap) W := fun W => slice22 b off n 4 cap (by omega) W
    generalize strOfNums ((List.range 4).map f) = s at hcv
    clear hcell
    go_enter Try.func32, Try.ntmps32
    go_wp2_with fail
    go_quiet (fail)
    go_wp2
    go_ret
    exact ⟨AnyBool.mk _, (Drew.refl _).drewN _⟩
  · have hcv := conv22 b off n cap f w (fun i hi => hcell i (by omega))
    have hsl := fun W => slice22 b off n n cap hc W
    generalize strOfNums ((List.range n).map f) = s at hcv
    clear hcell
    go_enter Try.func32, Try.ntmps32
    go_wp2_with fail
    go_quiet (fail)
    go_wp2
    go_ret
    exact ⟨AnyBool.mk _, (Drew.refl _).drewN _⟩

/-- The receiver's script state. -/
structure Scp (w wr : World) (L : Nat) (d : Int) : Prop where
  cell : wr.cell? ⟨L, 3, none⟩ = some (.int .i64 d)
  frozen : wr.frozen? ⟨L, 3, none⟩ = false
  below : Below L w wr
theorem Scp.set {w wr : World} {L : Nat} {d : Int} (h : Scp w wr L d) (d' : Int) : Scp w (wr.setCell ⟨L, 3, none⟩ (.int .i64 d')) L d' :=
  ⟨World.cell?_setCell_same _ _ _ h.cell, (World.frozen?_setCell _ _ _ _).trans h.frozen, h.below.setCell (Nat.le_refl _) _⟩
theorem Scp.drew {w wr wx : World} {L : Nat} {d : Int} (h : Scp w wr L d) (hd : Drew wr wx) : Scp w wx L d :=
  ⟨(hd.cell _).trans h.cell, (hd.frozen _).trans h.frozen, h.below.trans (hd.below L)⟩

/-- What switchAt answers. -/
def SwitchRes (pfx : ByteArray) (f : Nat → Int) (n : Nat) (on off d : Int) (next : Int) (ends known : Bool) (after : Int) : Prop :=
  ends = false ∧ ∃ m k, NameRes pfx scr f n m k ∧ known = k ∧ ((k = false ∧ next = 0 ∧ after = d) ∨ (k = true ∧ m = true ∧ next = (pfx.size : Int) + 6 + 1 ∧ after = on) ∨ (k = true ∧ m = false ∧ next = 1 ∧ after = off))

set_option maxHeartbeats 400000 in
theorem switch_any (L : Nat) (a : Option Addr) (n cap : Nat) (pfx : ByteArray) (on off d : Int) (f : Nat → Int) (w0 w : World) (hn : n ≤ 1048576) (hp : pfx.size ≤ 100) (hf : ∀ k, 0 ≤ f k ∧ f k ≤ 255) (row : IsRow w L a n (fun k => .int .u8 (f k))) (hs : Scp w0 w L d) :
    Calls Try.prog 34 #[.pointer (some ⟨L, 0, none⟩), .slice a n cap, .string pfx, .int .i64 on, .int .i64 off] w fun e w' =>
      ∃ next ends known after, e = .returned (.tuple #[.int .i64 next, .bool ends, .bool known]) ∧ Scp w0 w' L after ∧ SwitchRes pfx f n on off d next ends known after := by
  go_enter Try.func34, Try.ntmps34
  go_wp2_with fail
  refine (nameAt_any a n cap L pfx scr f w hn hp (by decide) hf row).mono ?_
  rintro e w1 ⟨m, k, rfl, hd, hr⟩
  have hs1 := hs.drew hd
  have hcell := hs1.cell
  have hfz := hs1.frozen
  clear hs hd row hf
  cases k
  · go_wp2
    go_ret3
    exact ⟨_, _, _, _, rfl, hs1, rfl, m, false, hr, rfl, .inl ⟨rfl, rfl, rfl⟩⟩
  · cases m
    · go_wp2
      go_ret3
      exact ⟨_, _, _, _, rfl, hs1.set _, rfl, false, true, hr, rfl, .inr (.inr ⟨rfl, rfl, rfl, rfl⟩)⟩
    · go_wp2
      go_ret3
      exact ⟨_, _, _, _, rfl, hs1.set _, rfl, true, true, hr, rfl, .inr (.inl ⟨rfl, rfl, rfl, rfl⟩)⟩

end Go.Proofs.Qxb6000880a
