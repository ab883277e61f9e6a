import Derived.Test.Qxb6000912aIDs
import Derived.Test.Qxb6000912aModel
namespace Go.Proofs.Qxb6000912a
open Go.RowKit

set_option maxHeartbeats 1000000 in
set_option maxRecDepth 100000 in
theorem top_any (a : Option Addr) (n cap : Nat) (f g : Nat → ByteArray) (w : World) (hn : n ≤ maxLen) (hf : ∀ k, (f k).size ≤ maxLen) (hg : ∀ k, (g k).size ≤ maxLen) (row : IsPairs w w.heap.size a n f g) :
    Calls Try.prog 3 #[.slice a n cap] w fun e w' => e = .returned (.bool true) ∧ Below w.heap.size w w' := by
  have HB := bytes_any a n cap f g w hn hf hg row
  unfold maxLen at hn
  by_cases h4 : n ≤ 4096
  · go_enter Try.func3, Try.ntmps3
    go_wp2_with fail
    refine HB.mono ?_
    clear HB
    rintro e w1 ⟨⟨r, rfl⟩, hw⟩
    have hw' := hw.symm
    subst hw'
    clear hw
    cases r
    · go_wp2_with fail
      go_ret
      exact ⟨rfl, Below.refl _ _⟩
    go_wp2_with fail
    refine (mbytes_any a n cap f g w h4 hf hg row).mono ?_
    rintro e w1 ⟨⟨m, rfl⟩, hd⟩
    have hbd := hd.below w.heap.size
    have row1 := (row.below hbd).mono hbd.size
    clear row hd hf hg
    by_cases hm : 1048576 < m
    · go_wp2_with fail
      go_ret
      exact ⟨rfl, hbd⟩
    go_wp2_with fail
    refine (raft_any a n cap f g w1 h4 row1).mono ?_
    rintro e w2 ⟨a2, rfl, row2, hb2⟩
    have row12 := (row1.below hb2).mono hb2.size
    have HB2 : Hid (Below w.heap.size w w2) := hbd.trans (hb2.mono hbd.size)
    clear row1 hb2 hbd
    go_wp2_with fail
    refine (ids_any a2 n n f g w2 h4 row2).mono ?_
    rintro e w3 ⟨a3, rfl, st3, hb3⟩
    have row13 := (row12.below hb3).mono hb3.size
    have HB3 : Hid (Below w.heap.size w w3) := HB2.out.trans (hb3.mono HB2.out.size)
    clear row2 row12 hb3 HB2
    go_wp2_with fail
    refine (model_any a n cap f g w3 h4 row13).mono ?_
    rintro e w4 ⟨a4, rfl, st4, hb4⟩
    have st34 := (st3.below hb4).mono hb4.size
    have HB4 : Hid (Below w.heap.size w w4) := HB3.out.trans (hb4.mono HB3.out.size)
    clear st3 row13 hb4 HB3
    go_wp2_with fail
    refine (equal_any a3 a4 n n n _ w4 _ h4 st34 st4).mono ?_
    rintro e w5 ⟨rfl, hd5⟩
    have HB5 : Hid (Below w.heap.size w w5) := HB4.out.trans (hd5.below _)
    clear st34 st4 hd5 HB4
    go_wp2_with fail
    go_ret
    exact ⟨rfl, HB5.out⟩
  · clear row hf hg
    go_enter Try.func3, Try.ntmps3
    go_wp2_with fail
    refine HB.mono ?_
    clear HB
    rintro e w1 ⟨⟨r, rfl⟩, hw⟩
    have hw' := hw.symm
    subst hw'
    clear hw
    cases r
    · go_wp2_with fail
      go_ret
      exact ⟨rfl, Below.refl _ _⟩
    go_wp2_with fail
    go_ret
    exact ⟨rfl, Below.refl _ _⟩

end Go.Proofs.Qxb6000912a
