import Derived.Test.Qxb6001040aRows
import Derived.WalkKit
import Derived.WalkSpells
import Derived.WalkLawsBesides
import Derived.BigQuiet
import Derived.Deep.QuietTactic
import Derived.WalkSmall
import Derived.Laws.BytesArg
namespace Go.Proofs.Qxb6001040a
open Go.RowKit Go.BigFrame

/-- Byte c may stand at place i of a date. -/
def okAt (i : Nat) (c : Int) : Prop := if i = 4 ∨ i = 7 then c = 45 else 48 ≤ c ∧ c ≤ 57
def DateOk (s : ByteArray) : Prop := s.size = 10 ∧ ∀ i (h : i < s.size), okAt i ((s[i]'h).toNat : Int)

theorem conv_row (w : World) (a b c d e f : Int) (g h : Int) :
    (convert 36 9 (Value.slice (some { block := w.heap.size, off := 0 }) 10 10)).run Try.prog (w.alloc (Obj.cells #[.int .u8 a, .int .u8 b, .int .u8 c, .int .u8 d, .int .u8 45, .int .u8 e, .int .u8 f, .int .u8 45, .int .u8 g, .int .u8 h] 35)) =
      .ok (.string (strOfNums [a, b, c, d, 45, e, f, 45, g, h])) (w.alloc (Obj.cells #[.int .u8 a, .int .u8 b, .int .u8 c, .int .u8 d, .int .u8 45, .int .u8 e, .int .u8 f, .int .u8 45, .int .u8 g, .int .u8 h] 35)) := by
  refine run_convert_bytes_arg (P := Try.prog) _ 36 5 Try.underlying36 Try.underlying5 w.heap.size 0 10 10 [a, b, c, d, 45, e, f, 45, g, h] rfl (fun i hi => ?_) 9 Try.underlying9
  rw [cell_of_row _ w.heap.size (0 + i) _ 35 _ (heap_alloc_new w _)]
  match i, hi with
  | 0, _ => rfl
  | 1, _ => rfl
  | 2, _ => rfl
  | 3, _ => rfl
  | 4, _ => rfl
  | 5, _ => rfl
  | 6, _ => rfl
  | 7, _ => rfl
  | 8, _ => rfl
  | 9, _ => rfl

theorem byte_eq (s : ByteArray) (i : Nat) (h : i < s.size) : ((s[i]'h).toNat : Int) = ((s.data.toList.getD i 0).toNat : Int) := by
  have h' : i < s.data.toList.length := by rw [Array.length_toList]; exact h
  rw [List.getD_eq_getElem?_getD, List.getElem?_eq_getElem h']
  rfl

theorem dateOk_nums (a b c d e f g h : Int) (ha : 48 ≤ a ∧ a ≤ 57) (hb : 48 ≤ b ∧ b ≤ 57) (hc : 48 ≤ c ∧ c ≤ 57) (hd : 48 ≤ d ∧ d ≤ 57) (he : 48 ≤ e ∧ e ≤ 57) (hf : 48 ≤ f ∧ f ≤ 57) (hg : 48 ≤ g ∧ g ≤ 57) (hh : 48 ≤ h ∧ h ≤ 57) :
    DateOk (strOfNums [a, b, c, d, 45, e, f, 45, g, h]) := by
  have dig : ∀ x : Int, 48 ≤ x ∧ x ≤ 57 → ((UInt8.ofNat x.toNat).toNat : Int) = x := by
    intro x hx
    rw [UInt8.toNat_ofNat']
    omega
  refine ⟨by rw [strOfNums_size]; rfl, fun i hi => ?_⟩
  rw [byte_eq, strOfNums_data]
  have hi' : i < 10 := by rw [strOfNums_size] at hi; exact hi
  match i, hi' with
  | 0, _ => show okAt 0 ((UInt8.ofNat a.toNat).toNat : Int); rw [dig a ha]; simpa [okAt] using ha
  | 1, _ => show okAt 1 ((UInt8.ofNat b.toNat).toNat : Int); rw [dig b hb]; simpa [okAt] using hb
  | 2, _ => show okAt 2 ((UInt8.ofNat c.toNat).toNat : Int); rw [dig c hc]; simpa [okAt] using hc
  | 3, _ => show okAt 3 ((UInt8.ofNat d.toNat).toNat : Int); rw [dig d hd]; simpa [okAt] using hd
  | 4, _ => simp [okAt]
  | 5, _ => show okAt 5 ((UInt8.ofNat e.toNat).toNat : Int); rw [dig e he]; simpa [okAt] using he
  | 6, _ => show okAt 6 ((UInt8.ofNat f.toNat).toNat : Int); rw [dig f hf]; simpa [okAt] using hf
  | 7, _ => simp [okAt]
  | 8, _ => show okAt 8 ((UInt8.ofNat g.toNat).toNat : Int); rw [dig g hg]; simpa [okAt] using hg
  | 9, _ => show okAt 9 ((UInt8.ofNat h.toNat).toNat : Int); rw [dig h hh]; simpa [okAt] using hh

set_option maxHeartbeats 1000000 in
set_option maxRecDepth 100000 in
theorem format_any (y m d : Int) (w : World) (hy0 : 0 ≤ y) (hy1 : y ≤ 9999) (hm0 : 0 ≤ m) (hm1 : m ≤ 99) (hd0 : 0 ≤ d) (hd1 : d ≤ 99) :
    Calls Try.prog 14 #[.int .i64 y, .int .i64 m, .int .i64 d] w fun e w' => ∃ s, e = .returned (.string s) ∧ DateOk s ∧ Below w.heap.size w w' := by
  have hcv := conv_row w
  have HD : Hid (DateOk (strOfNums [48 + y / 1000 % 10, 48 + y / 100 % 10, 48 + y / 10 % 10, 48 + y % 10, 45, 48 + m / 10 % 10, 48 + m % 10, 45, 48 + d / 10 % 10, 48 + d % 10])) :=
    dateOk_nums _ _ _ _ _ _ _ _ (by omega) (by omega) (by omega) (by omega) (by omega) (by omega) (by omega) (by omega)
  go_enter Try.func14, Try.ntmps14
  go_wp2
  go_ret
  exact ⟨_, rfl, HD.out, (Below.refl _ _).alloc (Nat.le_refl _) _⟩

def dig (c : Int) : Bool := decide (48 ≤ c) && decide (c ≤ 57)
theorem dig_iff {c : Int} : dig c = true ↔ 48 ≤ c ∧ c ≤ 57 := by simp [dig]

theorem digit_any (c : Int) (w : World) : Calls Try.prog 22 #[.int .u8 c] w fun e w' => e = .returned (.bool (dig c)) ∧ w = w' := by
  by_cases h : 48 ≤ c
  · have e : dig c = decide (c ≤ 57) := by simp [dig, h]
    rw [e]
    clear e
    go_enter Try.func22, Try.ntmps22
    go_wp2
    go_ret
    exact ⟨rfl, rfl⟩
  · have e : dig c = false := by simp [dig, h]
    rw [e]
    clear e
    go_enter Try.func22, Try.ntmps22
    go_wp2
    go_ret
    exact ⟨rfl, rfl⟩

def IsDateRes (s : ByteArray) (w : World) (e : Ending) (w' : World) : Prop := ∃ b : Bool, e = .returned (.bool b) ∧ w = w' ∧ (b = true ↔ DateOk s)
theorem IsDateRes.mk {s : ByteArray} {w : World} {b : Bool} (h : b = true ↔ DateOk s) : IsDateRes s w (.returned (.bool b)) w := ⟨b, rfl, rfl, h⟩

theorem no_date {s : ByteArray} (h : ¬ DateOk s) : (false = true) ↔ DateOk s := ⟨fun e => (by cases e), fun e => absurd e h⟩

set_option maxHeartbeats 1000000 in
set_option maxRecDepth 100000 in
theorem isDate_any (s : ByteArray) (w : World) (hs : s.size ≤ maxLen) : Calls Try.prog 19 #[.string s] w fun e w' => IsDateRes s w e w' := by
  unfold maxLen at hs
  by_cases h10 : s.size = 10
  · have hb : ((s.size : Int) != 10) = false := by simp [h10]
    have H10 : Hid (s.size = 10) := h10
    have hle : s.size ≤ 10 := by omega
    have hge : 10 ≤ s.size := by omega
    clear h10
    go_enter Try.func19, Try.ntmps19
    go_wp2
    go_loop [9] (fun i => ∃ k : Nat, k ≤ s.size ∧ i = .int .i64 k ∧ ∀ j (h : j < s.size), j < k → okAt j ((s[j]'h).toNat : Int)) (fun i => s.size - (intOf i).toNat)
    case atStart => exact ⟨0, Nat.zero_le _, rfl, fun j _ hj => absurd hj (by omega)⟩
    case round =>
      obtain ⟨k, hk, rfl, hall⟩ := hrel
      by_cases hlt : k < s.size
      · by_cases hok : okAt k ((s[k]'hlt).toNat : Int)
        · have HA : Hid (∀ j (h : j < s.size), j < k + 1 → okAt j ((s[j]'h).toNat : Int)) := by
            intro j h hj
            by_cases e : j = k
            · subst e; exact hok
            · exact hall j h (by omega)
          clear hall
          by_cases k4 : k = 4
          · have b4 : ((k : Int) == 4) = true := by simp [k4]
            have bb : (((s[k]'hlt).toNat : Int) != 45) = false := by rw [okAt, if_pos (.inl k4)] at hok; simp [hok]
            clear hok k4
            go_wp2
            go_round
            case rel => exact ⟨k + 1, by omega, by go_num, HA.out⟩
            case measure => simp [intOf]; omega
          · have b4 : ((k : Int) == 4) = false := by simp; omega
            by_cases k7 : k = 7
            · have b7 : ((k : Int) == 7) = true := by simp [k7]
              have bb : (((s[k]'hlt).toNat : Int) != 45) = false := by rw [okAt, if_pos (.inr k7)] at hok; simp [hok]
              clear hok k4 k7
              go_wp2
              go_round
              case rel => exact ⟨k + 1, by omega, by go_num, HA.out⟩
              case measure => simp [intOf]; omega
            · have b7 : ((k : Int) == 7) = false := by simp; omega
              have bb : dig ((s[k]'hlt).toNat : Int) = true := by rw [okAt, if_neg (by omega)] at hok; exact dig_iff.2 hok
              clear hok k4 k7
              go_wp2_with (go_at_call 22; refine (digit_any _ _).mono ?_; rintro e w' ⟨rfl, rfl⟩)
              go_round
              case rel => exact ⟨k + 1, by omega, by go_num, HA.out⟩
              case measure => simp [intOf]; omega
        · have HR : Hid ((false = true) ↔ DateOk s) := no_date fun h => hok (h.2 k hlt)
          clear hall
          by_cases k4 : k = 4
          · have b4 : ((k : Int) == 4) = true := by simp [k4]
            have bb : (((s[k]'hlt).toNat : Int) != 45) = true := by rw [okAt, if_pos (.inl k4)] at hok; exact bne_iff_ne.2 hok
            clear hok k4
            go_wp2
            go_ret
            exact IsDateRes.mk HR.out
          · have b4 : ((k : Int) == 4) = false := by simp; omega
            by_cases k7 : k = 7
            · have b7 : ((k : Int) == 7) = true := by simp [k7]
              have bb : (((s[k]'hlt).toNat : Int) != 45) = true := by rw [okAt, if_pos (.inr k7)] at hok; exact bne_iff_ne.2 hok
              clear hok k4 k7
              go_wp2
              go_ret
              exact IsDateRes.mk HR.out
            · have b7 : ((k : Int) == 7) = false := by simp; omega
              have bb : dig ((s[k]'hlt).toNat : Int) = false := by
                rw [okAt, if_neg (by omega)] at hok
                exact Bool.eq_false_iff.2 fun e => hok (dig_iff.1 e)
              clear hok k4 k7
              go_wp2_with (go_at_call 22; refine (digit_any _ _).mono ?_; rintro e w' ⟨rfl, rfl⟩)
              go_ret
              exact IsDateRes.mk HR.out
      · have HR : Hid (DateOk s) := ⟨H10.out, fun i h => hall i h (by omega)⟩
        clear hall
        go_wp2
        go_ret
        exact IsDateRes.mk ⟨fun _ => HR.out, fun _ => rfl⟩
  · have hb : ((s.size : Int) != 10) = true := by simp; omega
    have HR : Hid ((false = true) ↔ DateOk s) := no_date fun h => h10 h.1
    clear h10
    go_enter Try.func19, Try.ntmps19
    go_wp2
    go_ret
    exact IsDateRes.mk HR.out

theorem zzDate_any (s : ByteArray) (w : World) (hs : s.size ≤ maxLen) : Calls Try.prog 15 #[.string s] w fun e w' => IsDateRes s w e w' := by
  go_enter Try.func15, Try.ntmps15
  go_wp2_with fail
  refine (isDate_any s w hs).mono ?_
  rintro e w' ⟨b, rfl, rfl, h⟩
  have H : Hid (b = true ↔ DateOk s) := h
  clear h
  go_wp2_with fail
  go_ret
  exact IsDateRes.mk H.out

theorem zzDate_false (s : ByteArray) (w : World) (hs : s.size ≤ maxLen) (h : ¬ DateOk s) : Calls Try.prog 15 #[.string s] w fun e w' => e = .returned (.bool false) ∧ w' = w := by
  refine (zzDate_any s w hs).mono ?_
  rintro e w' ⟨b, rfl, rfl, hb⟩
  cases b
  · exact ⟨rfl, rfl⟩
  · exact absurd (hb.1 rfl) h

theorem slash_no (x z : ByteArray) (hx : x.size = 4) : ¬ DateOk (x ++ ⟨#[47]⟩ ++ z) := by
  intro h
  have h4 := h.2 4 (by rw [h.1]; omega)
  rw [byte_eq] at h4
  have e : (x ++ ⟨#[47]⟩ ++ z).data.toList = x.data.toList ++ (47 :: z.data.toList) := by simp
  have hl : x.data.toList.length = 4 := by rw [Array.length_toList]; exact hx
  rw [e, List.getD_eq_getElem?_getD, List.getElem?_append_right (by omega), hl] at h4
  simp [okAt] at h4

theorem size_z : (ByteArray.mk #[90]).size = 1 := rfl
theorem size_sl : (ByteArray.mk #[47]).size = 1 := rfl
theorem short_no (s : ByteArray) (h : s.size = 10) : (s.extract 0 9).size ≤ maxLen ∧ ¬ DateOk (s.extract 0 9) := by
  have e : (s.extract 0 9).size = 9 := by rw [ByteArray.size_extract]; omega
  exact ⟨by rw [e]; unfold maxLen; omega, fun hd => by have := hd.1; rw [e] at this; omega⟩
theorem long_no (s : ByteArray) (h : s.size = 10) : (s ++ ByteArray.mk #[90]).size ≤ maxLen ∧ ¬ DateOk (s ++ ByteArray.mk #[90]) := by
  have e : (s ++ ByteArray.mk #[90]).size = 11 := by rw [ByteArray.size_append, size_z, h]
  exact ⟨by rw [e]; unfold maxLen; omega, fun hd => by have := hd.1; rw [e] at this; omega⟩
theorem slash_le (s : ByteArray) (a b : Nat) : (s.extract 0 4 ++ ByteArray.mk #[47] ++ s.extract a b).size ≤ 4 + 1 + s.size := by
  rw [ByteArray.size_append, ByteArray.size_append, size_sl, ByteArray.size_extract, ByteArray.size_extract]; omega

end Go.Proofs.Qxb6001040a
