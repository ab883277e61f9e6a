import Derived.Test.Qxb6000728aCount
namespace Go.Proofs.Qxb6000728a
open Go.RowKit Go.WideMaps Go.Maps

def fill (f : Nat → ByteArray) : Nat → D0
  | 0 => .map []
  | k + 1 => (fill f k).put (kl (f k)) (.lit (.int .u64 0))
def script (g : Nat → ByteArray) (D : D0) : Nat → D0
  | 0 => D
  | k + 1 => bump (script g D k) (kl (g k))
def among (f : Nat → ByteArray) (p : ByteArray) : Nat → Bool
  | 0 => false
  | k + 1 => if f k = p then true else among f p k
def times (g : Nat → ByteArray) (p : ByteArray) : Nat → Nat
  | 0 => 0
  | k + 1 => times g p k + if g k = p then 1 else 0

theorem tidy_fill (f : Nat → ByteArray) : ∀ k, Tidy (fill f k)
  | 0 => tidy_empty
  | k + 1 => (tidy_fill f k).put (isKey _) _
theorem has_fill (f : Nat → ByteArray) (p : ByteArray) : ∀ k, has (fill f k) (kl p) = among f p k
  | 0 => rfl
  | k + 1 => by
    unfold fill among
    by_cases e : f k = p
    · rw [if_pos e, e, has_put_same (tidy_fill f k).isMap (isKey _)]
    · rw [if_neg e, has_put_other (fun h => e (kl_inj h).symm), has_fill f p k]
theorem cnt_fill (f : Nat → ByteArray) (p : ByteArray) : ∀ k, cnt (fill f k) (kl p) = 0
  | 0 => rfl
  | k + 1 => by
    unfold fill
    by_cases e : f k = p
    · rw [e, cnt_put_same (tidy_fill f k).isMap (isKey _)]
    · rw [cnt_put_other (fun h => e (kl_inj h).symm), cnt_fill f p k]
theorem tidy_script (g : Nat → ByteArray) {D : D0} (h : Tidy D) : ∀ k, Tidy (script g D k)
  | 0 => h
  | k + 1 => tidy_bump (tidy_script g h k) (isKey _)
theorem has_script (g : Nat → ByteArray) {D : D0} (h : Tidy D) (q : Lit) : ∀ k, has (script g D k) q = has D q
  | 0 => rfl
  | k + 1 => by unfold script; rw [has_bump (tidy_script g h k).isMap (isKey _), has_script g h q k]
theorem size_script (g : Nat → ByteArray) {D : D0} (h : Tidy D) : ∀ k, size (script g D k) = size D
  | 0 => rfl
  | k + 1 => by unfold script; rw [size_bump (tidy_script g h k), size_script g h k]
theorem times_le (g : Nat → ByteArray) (p : ByteArray) : ∀ k, times g p k ≤ k
  | 0 => Nat.le_refl _
  | k + 1 => by unfold times; have := times_le g p k; split <;> omega
theorem wrap_u64 {n : Int} (h0 : 0 ≤ n) (h : n ≤ 1000000) : IntKind.u64.wrap n = n := by
  simp [IntKind.wrap, IntKind.signed, IntKind.bits]; omega
theorem cnt_script (g : Nat → ByteArray) {D : D0} (h : Tidy D) (p : ByteArray) (hh : has D (kl p) = true) (h0 : cnt D (kl p) = 0) : ∀ k, k ≤ 65536 → cnt (script g D k) (kl p) = times g p k
  | 0, _ => h0
  | k + 1, hk => by
    have ih := cnt_script g h p hh h0 k (by omega)
    have hl := times_le g p k
    unfold script times
    by_cases e : g k = p
    · rw [if_pos e, e, cnt_bump_same (tidy_script g h k).isMap (isKey _) (by rw [has_script g h, hh]), ih, wrap_u64 (by omega) (by omega)]; omega
    · rw [if_neg e, cnt_bump_other (fun h => e (kl_inj h).symm), ih]; omega

/-! ### strings compared, in the walk's spelling -/
theorem eq_of {a b : ByteArray} (h : (a.toList == b.toList) = true) : a = b := by
  rw [ByteArray.toList_eq, ByteArray.toList_eq] at h
  exact kl_inj (congrArg Lit.string (eq_of_beq h))
theorem ne_of {a b : ByteArray} (h : (a.toList == b.toList) = false) : a ≠ b := by
  intro e; rw [e] at h; simp at h
theorem among_hit {f : Nat → ByteArray} {p : ByteArray} {k : Nat} (h : ((f k).toList == p.toList) = true) : among f p (k + 1) = true := by
  unfold among; rw [if_pos (eq_of h)]
theorem among_miss {f : Nat → ByteArray} {p : ByteArray} {k : Nat} (h : ((f k).toList == p.toList) = false) : among f p (k + 1) = among f p k := by
  rw [among, if_neg (ne_of h)]
theorem times_hit {f : Nat → ByteArray} {p : ByteArray} {k : Nat} (h : ((f k).toList == p.toList) = true) : times f p (k + 1) = times f p k + 1 := by
  rw [times, if_pos (eq_of h)]
theorem times_miss {f : Nat → ByteArray} {p : ByteArray} {k : Nat} (h : ((f k).toList == p.toList) = false) : times f p (k + 1) = times f p k := by
  rw [times, if_neg (ne_of h)]; rfl

end Go.Proofs.Qxb6000728a
