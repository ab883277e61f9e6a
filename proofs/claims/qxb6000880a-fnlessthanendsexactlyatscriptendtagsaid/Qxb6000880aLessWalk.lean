import Derived.Test.Qxb6000880aLess
namespace Go.Proofs.Qxb6000880a
open Go.RowKit Go.BigFrame

def EndTag (f : Nat → Int) (n : Nat) : Prop := 9 ≤ n ∧ (∀ i, i < 8 → hit pf2 scr f i) ∧ endB (f 8) = true

/-- What lessThan answers, as far as the law asks. -/
def LessRes (f : Nat → Int) (n : Nat) (s next : Int) (ends known : Bool) (after : Int) : Prop :=
  (known = false ∧ n < 9) ∨
  (known = true ∧ 0 ≤ after ∧ after ≤ 6 ∧ (ends = true ↔ s < 4 ∧ EndTag f n) ∧ (ends = true → next = 0 ∧ after = s) ∧ (ends = false → 1 ≤ next ∧ next ≤ 9 ∧ next ≤ n))

theorem name_unknown {pfx : ByteArray} {f : Nat → Int} {n : Nat} {m : Bool} (h : NameRes pfx scr f n m false) : m = false ∧ n ≤ pfx.size + 6 := by
  rcases h with ⟨h1, h2, h3⟩ | ⟨h1, h2, _⟩ | ⟨h2, _⟩
  · exact ⟨h1, h3⟩
  · cases h2
  · cases h2
theorem name_long {pfx : ByteArray} {f : Nat → Int} {n : Nat} {k : Bool} (h : NameRes pfx scr f n true k) : pfx.size + 6 < n := by
  rcases h with ⟨h1, _⟩ | ⟨h1, _⟩ | ⟨h2, h3, _⟩
  · cases h1
  · cases h1
  · exact h3
theorem name_yes {f : Nat → Int} {n : Nat} (h : NameRes pf2 scr f n true true) : EndTag f n := by
  rcases h with ⟨h1, _⟩ | ⟨h1, _⟩ | ⟨h2, h3, h4, h5⟩
  · cases h1
  · cases h1
  · exact ⟨h3, h4, h5.symm⟩
theorem name_no {f : Nat → Int} {n : Nat} (h : NameRes pf2 scr f n false true) (h0 : f 0 = 60) : ¬ EndTag f n ∧ 2 ≤ n := by
  rcases h with ⟨_, h2, _⟩ | ⟨_, _, i, hi, hin, hh⟩ | ⟨h2, h3, h4, h5⟩
  · cases h2
  · refine ⟨fun he => hh (he.2.1 i hi), ?_⟩
    have : i ≠ 0 := by
      intro e
      subst e
      exact hh ((hit_pfx (by decide)).2 h0)
    omega
  · have h3' : 8 < n := h3
    refine ⟨fun he => ?_, by omega⟩
    have := he.2.2
    have h6 : false = endB (f 8) := h5
    rw [← h6] at this
    cases this

theorem less_unknown {f : Nat → Int} {n : Nat} {s next after : Int} {ends : Bool} (h : n < 9) : LessRes f n s next ends false after := .inl ⟨rfl, h⟩
theorem less_ends {f : Nat → Int} {n : Nat} {s : Int} (h0 : 0 ≤ s) (h4 : s < 4) (h : EndTag f n) : LessRes f n s 0 true true s :=
  .inr ⟨rfl, h0, by omega, ⟨fun _ => ⟨h4, h⟩, fun _ => rfl⟩, fun _ => ⟨rfl, rfl⟩, fun e => (by cases e)⟩
theorem less_goes {f : Nat → Int} {n : Nat} {s next after : Int} (h : ¬ (s < 4 ∧ EndTag f n)) (h0 : 0 ≤ after) (h6 : after ≤ 6) (h1 : 1 ≤ next) (h9 : next ≤ 9) (hn : next ≤ n) : LessRes f n s next false true after :=
  .inr ⟨rfl, h0, h6, ⟨fun e => (by cases e), fun e => absurd e h⟩, fun e => (by cases e), fun _ => ⟨h1, h9, hn⟩⟩
theorem less_switch {pfx : ByteArray} {f : Nat → Int} {n : Nat} {s on off d next after : Int} {ends known : Bool} (hr : SwitchRes pfx f n on off d next ends known after) (hp : 1 ≤ pfx.size) (hp2 : pfx.size ≤ 2) (hn : 1 ≤ n) (h : ¬ (s < 4 ∧ EndTag f n))
    (o1 : 0 ≤ on) (o2 : on ≤ 6) (o3 : 0 ≤ off) (o4 : off ≤ 6) : LessRes f n s next ends known after := by
  obtain ⟨rfl, m, k, hm, rfl, h3⟩ := hr
  rcases h3 with ⟨rfl, rfl, rfl⟩ | ⟨rfl, rfl, rfl, rfl⟩ | ⟨rfl, rfl, rfl, rfl⟩
  · exact less_unknown (by have := (name_unknown hm).2; omega)
  · have := name_long hm
    exact less_goes h o1 o2 (by omega) (by omega) (by omega)
  · exact less_goes h o3 o4 (by omega) (by omega) (by omega)

set_option maxHeartbeats 1000000 in
theorem less_high (L : Nat) (a : Option Addr) (n cap : Nat) (s : Int) (f : Nat → Int) (w0 w : World) (hn : n ≤ 1048576) (h0 : 0 < n) (hf : ∀ k, 0 ≤ f k ∧ f k ≤ 255) (h4 : 4 ≤ s) (row : IsRow w L a n (fun k => .int .u8 (f k))) (hs : Scp w0 w L s) :
    Calls Try.prog 28 #[.pointer (some ⟨L, 0, none⟩), .slice a n cap] w fun e w' =>
      ∃ next ends known after, e = .returned (.tuple #[.int .i64 next, .bool ends, .bool known]) ∧ Scp w0 w' L after ∧ LessRes f n s next ends known after := by
  have hcell := hs.cell
  have q0 : (s == 0) = false := by simp; omega
  have q1 : (s == 1) = false := by simp; omega
  have q2 : (s == 2) = false := by simp; omega
  have q3 : (s == 3) = false := by simp; omega
  go_enter Try.func28, Try.ntmps28
  go_wp2_with fail
  refine (switch_any L a n cap pf2 1 4 s f w0 w hn (by decide) hf row hs).mono ?_
  rintro e w1 ⟨next, ends, known, after, rfl, hs1, hr⟩
  go_wp2
  go_ret3
  exact ⟨_, _, _, _, rfl, hs1, less_switch hr (by decide) (by decide) h0 (by omega) (by omega) (by omega) (by omega) (by omega)⟩

set_option maxHeartbeats 1000000 in
theorem less_zero (L : Nat) (a : Option Addr) (n cap : Nat) (f : Nat → Int) (w0 w : World) (hn : n ≤ 1048576) (h0 : 0 < n) (hc : n ≤ cap) (hf : ∀ k, 0 ≤ f k ∧ f k ≤ 255) (h60 : f 0 = 60) (row : IsRow w L a n (fun k => .int .u8 (f k))) (hs : Scp w0 w L 0) :
    Calls Try.prog 28 #[.pointer (some ⟨L, 0, none⟩), .slice a n cap] w fun e w' =>
      ∃ next ends known after, e = .returned (.tuple #[.int .i64 next, .bool ends, .bool known]) ∧ Scp w0 w' L after ∧ LessRes f n 0 next ends known after := by
  have hcell := hs.cell
  go_enter Try.func28, Try.ntmps28
  go_wp2_with fail
  refine (endTagAt_any a n cap L f w hn hf row).mono ?_
  rintro e w1 ⟨ends, known, rfl, hd, hr⟩
  have hs1 := hs.drew hd
  have row1 := row.below (hd.below L)
  clear hs row hcell hd
  have hcell := hs1.cell
  have hfz := hs1.frozen
  cases known
  · go_wp2_with fail
    go_ret3
    exact ⟨_, _, _, _, rfl, hs1, less_unknown (by have h8 : n ≤ 8 := (name_unknown hr).2; omega)⟩
  cases ends
  · obtain ⟨hne, hn2⟩ := name_no hr h60
    go_wp2_with fail
    refine (hasPrefix_any a n cap L f w1 hn h0 hc row1).mono ?_
    rintro e w2 ⟨⟨r, rfl⟩, hd⟩
    have hs2 := hs1.drew hd
    clear hs1 row1 hcell hfz hd
    have hcell := hs2.cell
    have hfz := hs2.frozen
    cases r
    · go_wp2_with fail
      go_ret3
      exact ⟨_, _, _, _, rfl, hs2, less_goes (fun e => hne e.2) (by omega) (by omega) (by omega) (by omega) (by omega)⟩
    · by_cases h4 : n < 4
      · go_wp2_with fail
        go_ret3
        exact ⟨_, _, _, _, rfl, hs2, less_unknown (by omega)⟩
      · go_wp2_with fail
        go_ret3
        exact ⟨_, _, _, _, rfl, hs2.set _, less_goes (fun e => hne e.2) (by omega) (by omega) (by omega) (by omega) (by omega)⟩
  · go_wp2_with fail
    go_ret3
    exact ⟨_, _, _, _, rfl, hs1, less_ends (by omega) (by omega) (name_yes hr)⟩

set_option maxHeartbeats 1000000 in
theorem less_mid (L : Nat) (a : Option Addr) (n cap : Nat) (s : Int) (f : Nat → Int) (w0 w : World) (hn : n ≤ 1048576) (h0 : 0 < n) (hf : ∀ k, 0 ≤ f k ∧ f k ≤ 255) (h60 : f 0 = 60) (hlo : 1 ≤ s) (hhi : s ≤ 3) (row : IsRow w L a n (fun k => .int .u8 (f k))) (hs : Scp w0 w L s) :
    Calls Try.prog 28 #[.pointer (some ⟨L, 0, none⟩), .slice a n cap] w fun e w' =>
      ∃ next ends known after, e = .returned (.tuple #[.int .i64 next, .bool ends, .bool known]) ∧ Scp w0 w' L after ∧ LessRes f n s next ends known after := by
  have hcell := hs.cell
  go_enter Try.func28, Try.ntmps28
  go_wp2_with fail
  refine (endTagAt_any a n cap L f w hn hf row).mono ?_
  rintro e w1 ⟨ends, known, rfl, hd, hr⟩
  have hs1 := hs.drew hd
  have row1 := row.below (hd.below L)
  clear hs row hcell hd
  have hcell := hs1.cell
  have hfz := hs1.frozen
  cases known
  · go_wp2_with fail
    go_ret3
    exact ⟨_, _, _, _, rfl, hs1, less_unknown (by have h8 : n ≤ 8 := (name_unknown hr).2; omega)⟩
  cases ends
  · obtain ⟨hne, hn2⟩ := name_no hr h60
    have hix : ∀ W, (Instr.indexAt 22 (.slice a n cap) (.int .i64 1)).run Try.prog W = .ok (.pointer (some (adr a 1))) W := fun W => idx22 a n cap 1 (row1 1 (by omega)).1 (by omega) W
    have hsrc : w1.cell? (adr a 1) = some (.int .u8 (f 1)) := (row1 1 (by omega)).2.2
    have q0 : (s == 0) = false := by simp; omega
    rcases (show s = 1 ∨ s = 2 ∨ s = 3 by omega) with rfl | rfl | rfl
    all_goals
      go_wp2_with fail
      refine (letter_any _ _).mono ?_
      rintro e w2 ⟨⟨r, rfl⟩, rfl⟩
      cases r
      · have hsrc2 : ∀ v, (w1.setCell ⟨L, 3, none⟩ v).cell? (adr a 1) = some (.int .u8 (f 1)) := fun v => (((Below.refl L w1).setCell (p := ⟨L, 3, none⟩) (Nat.le_refl _) v).cell (row1 1 (by omega)).2.1).trans hsrc
        by_cases h47 : f 1 = 47
        · have hb : (f 1 != 47) = false := by simp [h47]
          clear h47
          go_wp2_with fail
          go_ret3
          exact ⟨_, _, _, _, rfl, hs1.set _, less_goes (fun e => hne e.2) (by omega) (by omega) (by omega) (by omega) (by omega)⟩
        · have hb : (f 1 != 47) = true := by simp [h47]
          clear h47
          go_wp2_with fail
          go_ret3
          exact ⟨_, _, _, _, rfl, (hs1.set _).set _, less_goes (fun e => hne e.2) (by omega) (by omega) (by omega) (by omega) (by omega)⟩
      · go_wp2_with fail
        refine (switch_any L a n cap pf1 4 1 _ f w0 w1 hn (by decide) hf row1 hs1).mono ?_
        rintro e w2 ⟨next, ends, known, after, rfl, hs2, hr2⟩
        go_wp2
        go_ret3
        exact ⟨_, _, _, _, rfl, hs2, less_switch hr2 (by decide) (by decide) h0 (fun e => hne e.2) (by omega) (by omega) (by omega) (by omega)⟩
  · go_wp2_with fail
    go_ret3
    exact ⟨_, _, _, _, rfl, hs1, less_ends (by omega) (by omega) (name_yes hr)⟩

end Go.Proofs.Qxb6000880a
