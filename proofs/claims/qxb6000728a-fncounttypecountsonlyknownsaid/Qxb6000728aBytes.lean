import Derived.Test.Qxb6000728aParts
namespace Go.Proofs.Qxb6000728a
open Go.RowKit Go.WideMaps Go.Maps

/-- Some bool comes back. -/
def SomeBool (e : Ending) : Prop := ∃ r : Bool, e = .returned (.bool r)
theorem SomeBool.mk (r : Bool) : SomeBool (.returned (.bool r)) := ⟨r, rfl⟩

set_option maxHeartbeats 800000 in
set_option maxRecDepth 100000 in
theorem bytes_tally (a b : Option Addr) (la ca lb cb : Nat) (f g : Nat → ByteArray) (p : ByteArray) (w : World) (hla : la ≤ maxLen) (hlb : lb ≤ maxLen) (hp : p.size ≤ maxLen)
    (hf : ∀ k, (f k).size ≤ maxLen) (hg : ∀ k, (g k).size ≤ maxLen)
    (ra : IsRow w w.heap.size a la (fun k => .string (f k))) (rb : IsRow w w.heap.size b lb (fun k => .string (g k))) :
    Calls Try.prog 11 #[.slice a la ca, .slice b lb cb, .string p] w fun e w' => SomeBool e ∧ w' = w := by
  unfold maxLen at hla hlb hp hf hg
  go_enter Try.func11, Try.ntmps11
  go_wp2
  · go_ret; exact ⟨SomeBool.mk _, rfl⟩
  go_loop [7, 8] (fun n i => ∃ k m : Nat, k ≤ la ∧ m ≤ 1048576 ∧ i = .int .i64 k ∧ n = .int .i64 m) (fun _ i => la - (intOf i).toNat)
  case atStart => exact ⟨0, la, Nat.zero_le _, by omega, rfl, rfl⟩
  case round =>
    obtain ⟨k, m, hk, hm, rfl, rfl⟩ := hrel
    by_cases hlt : k < la
    · have hix := fun W => idx25 a la ca k (ra k hlt).1 hlt W
      have hsrc := (ra k hlt).2.2
      have hfk := hf k
      simp only at hsrc
      go_wp2
      · go_ret; exact ⟨SomeBool.mk _, rfl⟩
      · go_ret; exact ⟨SomeBool.mk _, rfl⟩
      · go_round
        case rel => exact ⟨k + 1, m + (f k).size, by omega, by omega, by go_num, by go_num⟩
        case measure => simp [intOf]; omega
    · clear ra hf
      go_wp2
      · go_ret; exact ⟨SomeBool.mk _, rfl⟩
      · go_ret; exact ⟨SomeBool.mk _, rfl⟩
      go_loop [7, 9] (fun n i => ∃ k m : Nat, k ≤ lb ∧ m ≤ 1048576 ∧ i = .int .i64 k ∧ n = .int .i64 m) (fun _ i => lb - (intOf i).toNat)
      case atStart => exact ⟨0, m + lb, Nat.zero_le _, by omega, rfl, by go_num⟩
      case round =>
        obtain ⟨k, m, hk, hm, rfl, rfl⟩ := hrel
        by_cases hlt : k < lb
        · have hix := fun W => idx25 b lb cb k (rb k hlt).1 hlt W
          have hsrc := (rb k hlt).2.2
          have hfk := hg k
          simp only at hsrc
          go_wp2
          · go_ret; exact ⟨SomeBool.mk _, rfl⟩
          · go_ret; exact ⟨SomeBool.mk _, rfl⟩
          · go_round
            case rel => exact ⟨k + 1, m + (g k).size, by omega, by omega, by go_num, by go_num⟩
            case measure => simp [intOf]; omega
        · go_wp2
          all_goals (go_ret; exact ⟨SomeBool.mk _, rfl⟩)

set_option maxHeartbeats 800000 in
set_option maxRecDepth 100000 in
theorem bytes_known (a b : Option Addr) (la ca lb cb : Nat) (f : Nat → ByteArray) (q p : ByteArray) (w : World) (hla : la ≤ maxLen) (hlb : lb ≤ maxLen) (hq : q.size ≤ maxLen) (hp : p.size ≤ maxLen)
    (hf : ∀ k, (f k).size ≤ maxLen) (ra : IsRow w w.heap.size a la (fun k => .string (f k))) :
    Calls Try.prog 7 #[.slice a la ca, .slice b lb cb, .string q, .string p] w fun e w' => SomeBool e ∧ w' = w := by
  unfold maxLen at hla hlb hp hf hq
  go_enter Try.func7, Try.ntmps7
  go_wp2
  · go_ret; exact ⟨SomeBool.mk _, rfl⟩
  go_loop [9, 10] (fun n i => ∃ k m : Nat, k ≤ la ∧ m ≤ 1048576 ∧ i = .int .i64 k ∧ n = .int .i64 m) (fun _ i => la - (intOf i).toNat)
  case atStart => exact ⟨0, la, Nat.zero_le _, by omega, rfl, rfl⟩
  case round =>
    obtain ⟨k, m, hk, hm, rfl, rfl⟩ := hrel
    by_cases hlt : k < la
    · have hix := fun W => idx25 a la ca k (ra k hlt).1 hlt W
      have hsrc := (ra k hlt).2.2
      have hfk := hf k
      simp only at hsrc
      go_wp2
      · go_ret; exact ⟨SomeBool.mk _, rfl⟩
      · go_ret; exact ⟨SomeBool.mk _, rfl⟩
      · go_round
        case rel => exact ⟨k + 1, m + (f k).size, by omega, by omega, by go_num, by go_num⟩
        case measure => simp [intOf]; omega
    · clear ra hf
      go_wp2
      all_goals (go_ret; exact ⟨SomeBool.mk _, rfl⟩)

end Go.Proofs.Qxb6000728a
