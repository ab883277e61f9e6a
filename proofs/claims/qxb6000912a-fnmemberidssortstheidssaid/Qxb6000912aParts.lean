import Derived.Test.Qxb6000912aRows
import Derived.WalkKit
import Derived.WalkSpells
import Derived.WalkLawsBesides
import Derived.BigQuiet
import Derived.Deep.QuietTactic
import Derived.WalkSmall
import Derived.RegionTactic
namespace Go.Proofs.Qxb6000912a
open Go.RowKit

theorem Try.info9 : (Try.prog.info? 9).map (fun i => (i.zero, i.size, i.bytes)) = some (some (.string ByteArray.empty), 1, 16) := by kernel_rfl
theorem Try.info33 : (Try.prog.info? 33).map (fun i => (i.zero, i.size, i.bytes)) = some (some (.agg #[.string ByteArray.empty, .string ByteArray.empty]), 2, 32) := by kernel_rfl
theorem Try.info34 : (Try.prog.info? 34).map (fun i => (i.zero, i.size, i.bytes)) = some (some (.agg #[.string ByteArray.empty, .string ByteArray.empty]), 2, 32) := by kernel_rfl

/-- A slice of pairs of strings. -/
def IsPairs (w : World) (B : Nat) (a : Option Addr) (len : Nat) (f g : Nat → ByteArray) : Prop :=
  ∃ b off, ∀ k, k < len → a = some ⟨b, off, none⟩ ∧ b < B ∧ w.cell? ⟨b, off + k * 2, none⟩ = some (.string (f k)) ∧ w.cell? ⟨b, off + k * 2 + 1, none⟩ = some (.string (g k))

theorem IsPairs.below {w w' : World} {B : Nat} {a : Option Addr} {len : Nat} {f g : Nat → ByteArray} (h : IsPairs w B a len f g) (hb : Below B w w') : IsPairs w' B a len f g := by
  obtain ⟨b, off, h⟩ := h
  refine ⟨b, off, fun k hk => ?_⟩
  obtain ⟨h1, h2, h3, h4⟩ := h k hk
  exact ⟨h1, h2, (hb.cell (p := ⟨b, off + k * 2, none⟩) h2).trans h3, (hb.cell (p := ⟨b, off + k * 2 + 1, none⟩) h2).trans h4⟩
theorem IsPairs.mono {w : World} {B B' : Nat} {a : Option Addr} {len : Nat} {f g : Nat → ByteArray} (h : IsPairs w B a len f g) (hb : B ≤ B') : IsPairs w B' a len f g := by
  obtain ⟨b, off, h⟩ := h
  exact ⟨b, off, fun k hk => ⟨(h k hk).1, Nat.lt_of_lt_of_le (h k hk).2.1 hb, (h k hk).2.2⟩⟩

theorem run_idx {P : Program} {t e : TypeId} {i : TypeInfo} {s : Nat} (ht : P.underlying t = some (.slice e)) (hi : P.info? e = some i) (hs : i.size = s) (a : Option Addr) (b off len cap k : Nat) (ha : a = some ⟨b, off, none⟩) (hk : k < len) (W : World) :
    (Instr.indexAt t (.slice a len cap) (.int .i64 (k : Int))).run P W = .ok (.pointer (some ⟨b, off + k * s, none⟩)) W := by
  subst ha
  simp [Instr.indexAt, run_underlying ht, asIntOf, sizeOf, typeInfo, hi, hs, hk, Addr.add_lit]

theorem idx22 (a : Option Addr) (b off len cap k : Nat) (ha : a = some ⟨b, off, none⟩) (hk : k < len) (W : World) :
    (Instr.indexAt 22 (.slice a len cap) (.int .i64 (k : Int))).run Try.prog W = .ok (.pointer (some ⟨b, off + k * 2, none⟩)) W := by
  obtain ⟨i, hi, _, hs, _⟩ := info_parts Try.info33
  exact run_idx Try.underlying22 hi hs a b off len cap k ha hk W
theorem idx27 (a : Option Addr) (b off len cap k : Nat) (ha : a = some ⟨b, off, none⟩) (hk : k < len) (W : World) :
    (Instr.indexAt 27 (.slice a len cap) (.int .i64 (k : Int))).run Try.prog W = .ok (.pointer (some ⟨b, off + k * 2, none⟩)) W := by
  obtain ⟨i, hi, _, hs, _⟩ := info_parts Try.info34
  exact run_idx Try.underlying27 hi hs a b off len cap k ha hk W
theorem idx25 (a : Option Addr) (b off len cap k : Nat) (ha : a = some ⟨b, off, none⟩) (hk : k < len) (W : World) :
    (Instr.indexAt 25 (.slice a len cap) (.int .i64 (k : Int))).run Try.prog W = .ok (.pointer (some ⟨b, off + k, none⟩)) W := by
  obtain ⟨i, hi, _, hs, _⟩ := info_parts Try.info9
  have := run_idx Try.underlying25 hi hs a b off len cap k ha hk W
  rwa [Nat.mul_one] at this

/-- Some bool comes back. -/
def AnyBool (e : Ending) : Prop := ∃ r : Bool, e = .returned (.bool r)
theorem AnyBool.mk (r : Bool) : AnyBool (.returned (.bool r)) := ⟨r, rfl⟩
/-- Some int comes back. -/
def AnyInt (e : Ending) : Prop := ∃ r : Int, e = .returned (.int .i64 r)
theorem AnyInt.mk (r : Int) : AnyInt (.returned (.int .i64 r)) := ⟨r, rfl⟩

/-- A world that is another but for draws. -/
def Drew (w wr : World) : Prop := ∃ q, wr = w.drewN q
theorem Drew.refl (w : World) : Drew w w := ⟨0, rfl⟩
theorem Drew.drewN {w wr : World} (h : Drew w wr) (n : Nat) : Drew w (wr.drewN n) := by
  obtain ⟨q, rfl⟩ := h
  exact ⟨q + n, by rw [World.drewN_drewN]⟩
theorem Drew.cell {w wr : World} (h : Drew w wr) (a : Addr) : wr.cell? a = w.cell? a := by
  obtain ⟨q, rfl⟩ := h; rfl
theorem Drew.below {w wr : World} (h : Drew w wr) (B : Nat) : Below B w wr := by
  obtain ⟨q, rfl⟩ := h; exact below_drewN (Below.refl _ _) q

set_option maxHeartbeats 800000 in
set_option maxRecDepth 100000 in
theorem bytes_any (a : Option Addr) (n cap : Nat) (f g : Nat → ByteArray) (w : World) (hn : n ≤ maxLen) (hf : ∀ k, (f k).size ≤ maxLen) (hg : ∀ k, (g k).size ≤ maxLen) (row : IsPairs w w.heap.size a n f g) :
    Calls Try.prog 6 #[.slice a n cap] w fun e w' => AnyBool e ∧ w' = w := by
  unfold maxLen at hn hf hg
  obtain ⟨b, off, row⟩ := row
  go_enter Try.func6, Try.ntmps6
  go_wp2
  · go_ret; exact ⟨AnyBool.mk _, rfl⟩
  go_loop [3, 4] (fun z i => ∃ k m : Nat, k ≤ n ∧ m ≤ 1048576 ∧ i = .int .i64 k ∧ z = .int .i64 m) (fun _ i => n - (intOf i).toNat)
  case atStart => exact ⟨0, n, Nat.zero_le _, by omega, rfl, rfl⟩
  case round =>
    obtain ⟨k, m, hk, hm, rfl, rfl⟩ := hrel
    by_cases hlt : k < n
    · obtain ⟨ha, hb, hc1, hc2⟩ := row k hlt
      have hix := fun W => idx22 a b off n cap k ha hlt W
      have hfk := hf k
      have hgk := hg k
      clear ha row hf hg
      go_wp2
      · go_ret; exact ⟨AnyBool.mk _, rfl⟩
      · go_ret; exact ⟨AnyBool.mk _, rfl⟩
      · go_ret; exact ⟨AnyBool.mk _, rfl⟩
      · go_ret; exact ⟨AnyBool.mk _, rfl⟩
      · go_round
        case rel => exact ⟨k + 1, m + (f k).size + (g k).size, by omega, by omega, by go_num, by go_num⟩
        case measure => simp [intOf]; omega
    · clear row hf hg
      go_wp2
      go_ret; exact ⟨AnyBool.mk _, rfl⟩

set_option maxHeartbeats 800000 in
set_option maxRecDepth 100000 in
theorem mbytes_any (a : Option Addr) (n cap : Nat) (f g : Nat → ByteArray) (w : World) (hn : n ≤ 4096) (hf : ∀ k, (f k).size ≤ maxLen) (hg : ∀ k, (g k).size ≤ maxLen) (row : IsPairs w w.heap.size a n f g) :
    Calls Try.prog 7 #[.slice a n cap] w fun e w' => AnyInt e ∧ Drew w w' := by
  unfold maxLen at hf hg
  obtain ⟨b, off, row⟩ := row
  go_enter Try.func7, Try.ntmps7
  go_wp2
  go_loopw [3, 4] (fun z i wr => ∃ (k : Nat) (m : Int), k ≤ n ∧ i = .int .i64 k ∧ z = .int .i64 m ∧ Drew w wr) (fun _ i _ => n - (intOf i).toNat)
  case atStart => exact ⟨0, _, Nat.zero_le _, rfl, rfl, Drew.refl _⟩
  case round =>
    obtain ⟨k, m, hk, rfl, rfl, hd⟩ := hrel
    by_cases hlt : k < n
    · obtain ⟨ha, hb, hc1, hc2⟩ := row k hlt
      have hix := fun W => idx22 a b off n cap k ha hlt W
      have hfk := hf k
      have hgk := hg k
      have hd1 : wr.cell? ⟨b, off + k * 2, none⟩ = some (.string (f k)) := (hd.cell _).trans hc1
      have hd2 : wr.cell? ⟨b, off + k * 2 + 1, none⟩ = some (.string (g k)) := (hd.cell _).trans hc2
      clear ha row hf hg hc1 hc2
      go_wp2_with fail
      · go_ret; exact ⟨AnyInt.mk _, hd⟩
      · go_ret; exact ⟨AnyInt.mk _, hd⟩
      · go_quiet (fail)
        go_wp2
        go_roundw
        case rel => exact ⟨k + 1, _, by omega, by go_num, rfl, hd.drewN _⟩
        case measure => simp [intOf]; omega
      · go_ret; exact ⟨AnyInt.mk _, hd⟩
    · clear row hf hg
      go_wp2
      go_ret; exact ⟨AnyInt.mk _, hd⟩

end Go.Proofs.Qxb6000912a
