import Derived.Test.Qxb6000880aScanWalk
import Derived.BigQuiet
import Derived.Deep.QuietTactic
import Derived.WalkSmall
namespace Go.Proofs.Qxb6000880a
open Go.RowKit

set_option maxHeartbeats 1000000 in
set_option maxRecDepth 100000 in
theorem zz_scan (a : Option Addr) (n cap d0 : Nat) (f : Nat → Int) (w : World) (hn : n ≤ 1048576) (hd : d0 ≤ 2) (row : IsRow w w.heap.size a n (fun k => .int .u8 (f k))) :
    Calls Try.prog 11 #[.int .i64 (d0 : Int), .slice a n cap] w fun e w' =>
      ∃ r done d, e = .returned (.tuple #[.int .i64 r, .bool done, .int .i64 d]) ∧ Below w.heap.size w w' ∧ ScanRes (txt d0 f) d0 n r done d := by
  go_enter Try.func11, Try.ntmps11
  go_wp2_with fail
  obtain ⟨W, hW⟩ : ∃ W, W = w.alloc (Obj.cells #[Value.int IntKind.i64 0, Value.string { data := #[] }, Value.int IntKind.i64 0, Value.int IntKind.i64 0, Value.int IntKind.i64 (d0 : Int)] 49) := ⟨_, rfl⟩
  have hb : Below w.heap.size w W := by rw [hW]; exact (Below.refl _ _).alloc (Nat.le_refl _) _
  have hfl : Fld W W w.heap.size d0 := ⟨by rw [hW, cell_of_row _ _ 4 _ 49 _ (heap_alloc_new w _)]; rfl, by rw [hW]; exact frozen_of_row _ _ _ _ _ (heap_alloc_new w _), Below.refl _ _⟩
  rw [← hW]
  clear hW
  refine (scan_walk a n cap w.heap.size d0 f W hn hd (row.below hb) hfl).mono ?_
  rintro e w' ⟨r, done, d, rfl, fld, res⟩
  have HB : Hid (Below w.heap.size w w') := hb.trans fld.below
  have hcell := fld.cell
  clear fld hfl hb row
  go_wp2_with fail
  go_quiet (fail)
  go_wp2
  go_ret3
  exact ⟨_, _, _, rfl, below_drewN HB.out _, res⟩

theorem comment_byte (a : Option Addr) (n cap d0 : Nat) (f : Nat → Int) (w : World) (B : Nat) (x : Int) (hn : n ≤ 1048576) (_hd : d0 ≤ 2) (row : IsRow w B a n (fun k => .int .u8 (f k))) (h0 : 0 ≤ x) (h1 : x < (d0 : Int) + n) :
    Calls Try.prog 12 #[.int .i64 (d0 : Int), .slice a n cap, .int .i64 x] w fun e w' => e = .returned (.int .u8 (txt d0 f x.toNat)) ∧ w = w' := by
  obtain ⟨t, rfl⟩ : ∃ t : Nat, x = t := ⟨x.toNat, by omega⟩
  rw [Int.toNat_natCast]
  by_cases h : t < d0
  · have e : txt d0 f t = 45 := by simp [txt, h]
    rw [e]
    go_enter Try.func12, Try.ntmps12
    go_wp2
    go_ret
    exact ⟨rfl, rfl⟩
  · have hk : t - d0 < n := by omega
    have hix := fun W => idx22 a n cap (t - d0) (row (t - d0) hk).1 hk W
    rw [show ((t - d0 : Nat) : Int) = (t : Int) - d0 by omega] at hix
    have hsrc : w.cell? (adr a (t - d0)) = some (.int .u8 (f (t - d0))) := (row (t - d0) hk).2.2
    rw [txt, if_neg h]
    clear row hk
    go_enter Try.func12, Try.ntmps12
    go_wp2
    go_ret
    exact ⟨rfl, rfl⟩

/-- Some bool comes back. -/
def SomeBool (e : Ending) : Prop := ∃ r : Bool, e = .returned (.bool r)
theorem SomeBool.mk (r : Bool) : SomeBool (.returned (.bool r)) := ⟨r, rfl⟩

theorem bytes_scan (x : Int) (a : Option Addr) (n cap : Nat) (w : World) (hn : n ≤ maxLen) :
    Calls Try.prog 9 #[.int .i64 x, .slice a n cap] w fun e w' => SomeBool e ∧ w' = w := by
  unfold maxLen at hn
  go_enter Try.func9, Try.ntmps9
  go_wp2
  all_goals (go_ret; exact ⟨SomeBool.mk _, rfl⟩)

theorem res_term {T : Nat → Int} {d0 n k : Nat} {r d : Int} {done : Bool} (h : ScanRes T d0 n r done d) (hk : k < d0 + n) (ht : term T k = true) (hs : ∀ s, s < k → term T s = false) : done = true ∧ r = (k : Int) + 1 - d0 := by
  rcases h with ⟨h1, t, ht1, ht2, ht3, hr⟩ | ⟨h1, h2, _⟩
  · have : t = k := by
      by_cases e : t < k
      · rw [hs t e] at ht2; cases ht2
      · by_cases e2 : k < t
        · rw [ht3 k e2] at ht; cases ht
        · omega
    subst this
    exact ⟨h1, hr⟩
  · rw [h2 k hk] at ht; cases ht
theorem res_none {T : Nat → Int} {d0 n : Nat} {r d : Int} {done : Bool} (h : ScanRes T d0 n r done d) (hs : ∀ s, s < d0 + n → term T s = false) :
    done = false ∧ ((bang T (d0 + n) = true ∧ r = (n : Int) - 1 ∧ d = 2) ∨ (bang T (d0 + n) = false ∧ r = n ∧ d = trail T (d0 + n))) := by
  rcases h with ⟨h1, t, ht1, ht2, ht3, hr⟩ | ⟨h1, h2, h3⟩
  · rw [hs t ht1] at ht2; cases ht2
  · exact ⟨h1, h3⟩

theorem no_arrow {T : Nat → Int} {k : Nat} (h : term T k = false) (h62 : T k = 62) (h2 : 2 ≤ k) (e1 : T (k - 1) = 45) (e2 : T (k - 2) = 45) : False := by
  have : term T k = true := term_iff.2 ⟨h62, .inl (arrow_iff.2 ⟨h2, e1, e2⟩)⟩
  rw [h] at this; cases this
theorem no_bang {T : Nat → Int} {k : Nat} (h : term T k = false) (h62 : T k = 62) (h3 : 3 ≤ k) (e1 : T (k - 1) = 33) (e2 : T (k - 2) = 45) (e3 : (T (k - 3) == 45) = true) : False := by
  have : term T k = true := term_iff.2 ⟨h62, .inr (bang_iff.2 ⟨h3, e1, e2, by simpa using e3⟩)⟩
  rw [h] at this; cases this

end Go.Proofs.Qxb6000880a
