import Derived.Test.Qxb6000880aLessWalk
namespace Go.Proofs.Qxb6000880a
open Go.RowKit Go.BigFrame

set_option maxHeartbeats 400000 in
set_option maxRecDepth 100000 in
/-- zzCloneBytes once more, with the capacity told. -/
theorem clone_full (a : Option Addr) (len cap : Nat) (f : Nat → Int) (w : World) (hlen : len ≤ 1048576) (hnil : a = none → len = 0) (hrow : IsRow w w.heap.size a len (fun k => .int .u8 (f k))) :
    Calls Try.prog 10 #[.slice a len cap] w fun e w' => ∃ a', e = .returned (.slice a' len len) ∧ IsRow w' w'.heap.size a' len (fun k => .int .u8 (f k)) ∧ Below w.heap.size w w' := by
  have q : ∀ (w : World) (a : Option Addr) (n c n' c' : Nat), (binOp .eql 22 (.slice a n c) (.slice none n' c')).run Try.prog w = .ok (.bool a.isNone) w := fun w a n c n' c' => Lib.run_eql_slice_nil w _ _ a n c n' c' Try.underlying22
  cases a with
  | none =>
    have h0 := hnil rfl
    subst h0
    clear hnil hrow
    go_enter Try.func10, Try.ntmps10
    go_wp2
    go_ret
    exact ⟨none, rfl, fun k hk => absurd hk (by omega), Below.refl _ _⟩
  | some x =>
    clear hnil
    obtain ⟨cs, hcs, hmk⟩ := make22 len hlen w
    have HCS : Hid (cs.size = len) := hcs
    clear hcs
    go_enter Try.func10, Try.ntmps10
    go_wp2
    go_loopw [4] (fun i wr => ∃ k : Nat, k ≤ len ∧ i = .int .i64 k ∧ Copied wr w.heap.size len 5 (fun k => .int .u8 (f k)) k ∧ Below w.heap.size w wr ∧ w.heap.size < wr.heap.size) (fun i _ => len - (intOf i).toNat)
    case atStart => exact ⟨0, Nat.zero_le _, rfl, Copied.made _ _ _ _ _ HCS.out, (Below.refl _ _).alloc (Nat.le_refl _) _, by simp⟩
    case round =>
      obtain ⟨k, hk, rfl, hcp, hbel, hsz⟩ := hrel
      clear hmk q
      by_cases hlt : k < len
      · obtain ⟨v, hv⟩ := hcp.cell hlt
        have hfz := hcp.frozen k
        have hix := fun W => idx22 (some x) len cap k (by simp) hlt W
        have hsrc := ((hrow.below hbel) k hlt).2.2
        have HR : Hid (Copied (wr.setCell ⟨w.heap.size, k, none⟩ (.int .u8 (f k))) w.heap.size len 5 (fun k => .int .u8 (f k)) (k + 1)) := hcp.set (f := fun k => .int .u8 (f k)) hlt
        have HB : Hid (Below w.heap.size w (wr.setCell ⟨w.heap.size, k, none⟩ (.int .u8 (f k)))) := hbel.setCell (Nat.le_refl _) _
        clear hcp hbel hrow
        go_wp2
        go_roundw
        case rel => exact ⟨k + 1, by omega, by go_num, HR.out, HB.out, by simpa [World.setCell] using hsz⟩
        case measure => simp [intOf]; omega
      · go_wp2
        go_ret
        have : k = len := by omega
        subst this
        exact ⟨_, rfl, hcp.row hsz, hbel⟩

theorem less_all (L : Nat) (a : Option Addr) (n cap : Nat) (s : Int) (f : Nat → Int) (w0 w : World) (hn : n ≤ 1048576) (h0 : 0 < n) (hc : n ≤ cap) (hf : ∀ k, 0 ≤ f k ∧ f k ≤ 255) (h60 : f 0 = 60) (hlo : 0 ≤ s) (row : IsRow w L a n (fun k => .int .u8 (f k))) (hs : Scp w0 w L s) :
    Calls Try.prog 28 #[.pointer (some ⟨L, 0, none⟩), .slice a n cap] w fun e w' =>
      ∃ next ends known after, e = .returned (.tuple #[.int .i64 next, .bool ends, .bool known]) ∧ Scp w0 w' L after ∧ LessRes f n s next ends known after := by
  by_cases h4 : 4 ≤ s
  · exact less_high L a n cap s f w0 w hn h0 hf h4 row hs
  · by_cases h1 : 1 ≤ s
    · exact less_mid L a n cap s f w0 w hn h0 hf h60 h1 (by omega) row hs
    · obtain rfl : s = 0 := by omega
      exact less_zero L a n cap f w0 w hn h0 hc hf h60 row hs

set_option maxHeartbeats 1000000 in
set_option maxRecDepth 100000 in
theorem zz_less (a : Option Addr) (n cap : Nat) (s : Int) (f : Nat → Int) (w : World) (hn : n ≤ 1048576) (h0 : 0 < n) (hc : n ≤ cap) (hf : ∀ k, 0 ≤ f k ∧ f k ≤ 255) (h60 : f 0 = 60) (hlo : 0 ≤ s) (row : IsRow w w.heap.size a n (fun k => .int .u8 (f k))) :
    Calls Try.prog 15 #[.int .i64 s, .slice a n cap] w fun e w' =>
      ∃ next ends known after, e = .returned (.tuple #[.int .i64 next, .bool ends, .bool known, .int .i64 after]) ∧ Below w.heap.size w w' ∧ LessRes f n s next ends known after := by
  go_enter Try.func15, Try.ntmps15
  go_wp2_with fail
  obtain ⟨W, hW⟩ : ∃ W, W = w.alloc (Obj.cells #[Value.int IntKind.i64 0, Value.string { data := #[] }, Value.int IntKind.i64 0, Value.int IntKind.i64 s, Value.int IntKind.i64 0] 49) := ⟨_, rfl⟩
  have hb : Below w.heap.size w W := by rw [hW]; exact (Below.refl _ _).alloc (Nat.le_refl _) _
  have hfl : Scp W W w.heap.size s := ⟨by rw [hW, cell_of_row _ _ 3 _ 49 _ (heap_alloc_new w _)]; rfl, by rw [hW]; exact frozen_of_row _ _ _ _ _ (heap_alloc_new w _), Below.refl _ _⟩
  rw [← hW]
  clear hW
  refine (less_all w.heap.size a n cap s f W W hn h0 hc hf h60 hlo (row.below hb) hfl).mono ?_
  rintro e w' ⟨next, ends, known, after, rfl, fld, res⟩
  have HB : Hid (Below w.heap.size w w') := hb.trans fld.below
  have hcell := fld.cell
  clear fld hfl hb row
  go_wp2_with fail
  go_quiet (fail)
  go_wp2
  refine bodyPost_ret (v := .tuple #[.int .i64 next, .bool ends, .bool known, .int .i64 after]) (by simp [results, Try.results15, go_sem]) rfl ?_
  exact ⟨_, _, _, _, rfl, below_drewN HB.out _, res⟩

end Go.Proofs.Qxb6000880a
