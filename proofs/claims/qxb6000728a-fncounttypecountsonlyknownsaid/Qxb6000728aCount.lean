import Derived.Test.Qxb6000728aParts
import Derived.OpenShut
namespace Go.Proofs.Qxb6000728a
open Go.RowKit Go.WideMaps Go.Maps

theorem law : Keyed Try.prog 9 := string_keyed Try.underlying9
theorem zero31 (w : World) : (zeroValue 31).run Try.prog w = .ok (.int .u64 0) w := by kernel_rfl

/-- What a string reads as, as a key. -/
def kl (s : ByteArray) : Lit := .string s.data.toList
theorem key_ok {s : ByteArray} (h : s.size ≤ maxLen) : keyOf Try.prog 9 (.string s) = some (kl s) := keyOf_string_mk Try.underlying9 h
theorem kl_inj {s t : ByteArray} (h : kl s = kl t) : s = t := by
  simp only [kl, Lit.string.injEq] at h
  exact ByteArray.ext (Array.ext' h)
theorem isKey (s : ByteArray) : WideAt.IsKeyLit (kl s) := by simp [kl, WideAt.IsKeyLit]

abbrev D0 : Type := DataW Unit
/-- The count at a key (0 where the key is not there). -/
def cnt (D : D0) (k : Lit) : Int := match D.atKey k (.lit (.int .u64 0)) with | .lit (.int _ c) => c | _ => 0
/-- countType on the datum. -/
def bump (D : D0) (k : Lit) : D0 := if has D k then D.put k (.lit (.int .u64 (IntKind.u64.wrap (cnt D k + 1)))) else D

theorem cnt_of {D : D0} {k : Lit} {c : Int} (h : D.atKey k (.lit (.int .u64 0)) = .lit (.int .u64 c)) : cnt D k = c := by simp [cnt, h]

set_option maxRecDepth 100000 in
theorem count_type (B n : Nat) (D : D0) (s : ByteArray) (w : World) (hs : s.size ≤ maxLen) (hn : n < maxLen) (hown : w.ownsMap Try.prog 9 (plainElem Try.prog 31) B n D) :
    Calls Try.prog 13 #[.map (some B), .string s] w fun e w' => e = .returned (.tuple #[]) ∧ w'.ownsMap Try.prog 9 (plainElem Try.prog 31) B (n + 1) (bump D (kl s)) ∧ w.grownBy w' (some B) := by
  have hkey := key_ok hs
  cases hh : has D (kl s)
  · go_enter Try.func13, Try.ntmps13
    go_wp2_with (first
      | (at_lookup; refine wpList_lookup_own_ok_int _ rfl _ _ 30 rfl 9 31 .u64 law Try.underlying30 Try.underlying31 (zero31 _) B n D rfl hown _ _ rfl hkey ?_; intro c hat hwc)
      | go_in)
    go_end0
    exact ⟨rfl, by rw [bump, hh]; exact hown.mono (Nat.le_succ _), World.grownBy.refl _ _⟩
  · go_enter Try.func13, Try.ntmps13
    go_wp2_with (first
      | (at_lookup; refine wpList_lookup_own_ok_int _ rfl _ _ 30 rfl 9 31 .u64 law Try.underlying30 Try.underlying31 (zero31 _) B n D rfl hown _ _ rfl hkey ?_; intro c hat hwc)
      | (at_lookup; refine wpList_lookup_own_int _ rfl _ _ 30 rfl 9 31 .u64 law Try.underlying30 Try.underlying31 (zero31 _) B n D rfl hown _ _ rfl hkey ?_; intro c2 hat2 hwc2)
      | (at_mapUpdate; refine wpList_mapUpdate_own _ rfl _ _ _ 30 rfl 9 31 law Try.underlying30 _ B n _ rfl hown hn _ _ _ rfl rfl hkey _ [] (plainElem_int Try.underlying31 (wf_wrap _ _)) ?_; intro w1 hown1 hgrow1)
      | go_in)
    go_end0
    exact ⟨rfl, by rw [bump, hh, cnt_of hat2]; exact hown1, hgrow1⟩

set_option maxRecDepth 100000 in
theorem zz_count (B n : Nat) (D : D0) (s : ByteArray) (w : World) (hs : s.size ≤ maxLen) (hn : n < maxLen) (hown : w.ownsMap Try.prog 9 (plainElem Try.prog 31) B n D) :
    Calls Try.prog 10 #[.map (some B), .string s] w fun e w' => e = .returned (.tuple #[]) ∧ w'.ownsMap Try.prog 9 (plainElem Try.prog 31) B (n + 1) (bump D (kl s)) ∧ w.grownBy w' (some B) := by
  go_enter Try.func10, Try.ntmps10
  go_wp2_with fail
  refine (count_type B n D s _ hs hn hown).mono ?_
  rintro e w' ⟨rfl, h1, h2⟩
  go_wp2
  go_end0
  exact ⟨rfl, h1, h2⟩

/-! ### the plain laws -/
theorem has_bump {D : D0} {k k' : Lit} (hD : IsMap D) (hk : WideAt.IsKeyLit k) : has (bump D k) k' = has D k' := by
  unfold bump
  split
  · rename_i h
    by_cases e : k' = k
    · subst e; rw [has_put_same hD hk, h]
    · rw [has_put_other e]
  · rfl
theorem tidy_bump {D : D0} {k : Lit} (hD : Tidy D) (hk : WideAt.IsKeyLit k) : Tidy (bump D k) := by
  unfold bump
  split
  · exact hD.put hk _
  · exact hD
theorem size_bump {D : D0} {k : Lit} (hD : Tidy D) : size (bump D k) = size D := by
  unfold bump
  split
  · rename_i h; rw [size_put hD, if_pos h]
  · rfl
theorem cnt_put_same {D : D0} {k : Lit} (hD : IsMap D) (hk : WideAt.IsKeyLit k) (c : Int) : cnt (D.put k (.lit (.int .u64 c))) k = c := by
  unfold cnt; rw [atKey_put_same hD hk]
theorem cnt_put_other {D : D0} {k k' : Lit} (e : k' ≠ k) (d : D0) : cnt (D.put k d) k' = cnt D k' := by
  unfold cnt; rw [atKey_put_other e]
theorem cnt_bump_same {D : D0} {k : Lit} (hD : IsMap D) (hk : WideAt.IsKeyLit k) (h : has D k = true) : cnt (bump D k) k = IntKind.u64.wrap (cnt D k + 1) := by
  rw [bump, if_pos h, cnt_put_same hD hk]
theorem cnt_bump_none {D : D0} {k k' : Lit} (h : has D k = false) : cnt (bump D k) k' = cnt D k' := by
  rw [bump, if_neg (by simp [h])]
theorem cnt_bump_other {D : D0} {k k' : Lit} (e : k' ≠ k) : cnt (bump D k) k' = cnt D k' := by
  unfold bump
  split
  · exact cnt_put_other e _
  · rfl

end Go.Proofs.Qxb6000728a
