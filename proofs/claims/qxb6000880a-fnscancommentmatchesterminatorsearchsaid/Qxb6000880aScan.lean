import Derived.Test.Qxb6000880aParts
namespace Go.Proofs.Qxb6000880a

/-- Byte t of the text: d0 dashes, then f. -/
def txt (d0 : Nat) (f : Nat → Int) (t : Nat) : Int := if t < d0 then 45 else f (t - d0)
def arrow (T : Nat → Int) (t : Nat) : Bool := decide (2 ≤ t) && (T (t - 1) == 45) && (T (t - 2) == 45)
def bang (T : Nat → Int) (t : Nat) : Bool := decide (3 ≤ t) && (T (t - 1) == 33) && (T (t - 2) == 45) && (T (t - 3) == 45)
def term (T : Nat → Int) (t : Nat) : Bool := (T t == 62) && (arrow T t || bang T t)
/-- Trailing dashes ahead of position t, at most 2. -/
def trail (T : Nat → Int) : Nat → Nat
  | 0 => 0
  | t + 1 => if T t = 45 then min (trail T t + 1) 2 else 0

theorem arrow_iff {T : Nat → Int} {t : Nat} : arrow T t = true ↔ 2 ≤ t ∧ T (t - 1) = 45 ∧ T (t - 2) = 45 := by
  simp [arrow, and_assoc]
theorem bang_iff {T : Nat → Int} {t : Nat} : bang T t = true ↔ 3 ≤ t ∧ T (t - 1) = 33 ∧ T (t - 2) = 45 ∧ T (t - 3) = 45 := by
  simp [bang, and_assoc]
theorem term_iff {T : Nat → Int} {t : Nat} : term T t = true ↔ T t = 62 ∧ (arrow T t = true ∨ bang T t = true) := by
  simp [term]
theorem trail_le (T : Nat → Int) : ∀ t, trail T t ≤ 2
  | 0 => by simp [trail]
  | t + 1 => by unfold trail; split <;> omega
theorem trail_pos {T : Nat → Int} {t : Nat} (h : 1 ≤ trail T t) : 1 ≤ t ∧ T (t - 1) = 45 := by
  cases t with
  | zero => simp [trail] at h
  | succ t =>
    unfold trail at h
    split at h
    · exact ⟨by omega, by simpa using ‹T t = 45›⟩
    · omega
theorem trail_two {T : Nat → Int} {t : Nat} : trail T t = 2 ↔ arrow T t = true := by
  rw [arrow_iff]
  constructor
  · intro h
    cases t with
    | zero => simp [trail] at h
    | succ t =>
      unfold trail at h
      split at h
      · rename_i h1
        obtain ⟨h2, h3⟩ := trail_pos (T := T) (t := t) (by omega)
        exact ⟨by omega, by simpa using h1, by rw [show t + 1 - 2 = t - 1 by omega]; exact h3⟩
      · omega
  · rintro ⟨h1, h2, h3⟩
    obtain ⟨t, rfl⟩ : ∃ s, t = s + 2 := ⟨t - 2, by omega⟩
    simp at h2 h3
    unfold trail
    rw [if_pos h2]
    unfold trail
    rw [if_pos h3]
    omega
theorem trail_txt {d0 : Nat} {f : Nat → Int} (h : d0 ≤ 2) : trail (txt d0 f) d0 = d0 := by
  have : ∀ k, k ≤ d0 → trail (txt d0 f) k = k := by
    intro k
    induction k with
    | zero => intro _; rfl
    | succ k ih =>
      intro hk
      unfold trail
      rw [if_pos (by simp [txt]; omega), ih (by omega)]
      omega
  exact this d0 (Nat.le_refl _)
theorem txt_at {d0 : Nat} {f : Nat → Int} (i : Nat) : txt d0 f (d0 + i) = f i := by
  unfold txt; rw [if_neg (by omega), show d0 + i - d0 = i by omega]

/-- What holds at the scan's loop's head. -/
structure Head (T : Nat → Int) (t d : Nat) : Prop where
  d : d = trail T t
  none : ∀ s, s < t → term T s = false
  bang : bang T t = false

theorem term_no {T : Nat → Int} {t : Nat} (h : T t ≠ 62) : term T t = false := by simp [term, h]
theorem bang_no {T : Nat → Int} {t : Nat} (h : T t ≠ 33) : bang T (t + 1) = false := by simp [bang, h]

theorem Head.start {d0 : Nat} {f : Nat → Int} (h : d0 ≤ 2) : Head (txt d0 f) d0 d0 :=
  ⟨(trail_txt h).symm, fun s hs => term_no (by simp [txt, hs]), by simp [Qxb6000880a.bang]; omega⟩

theorem none_succ {T : Nat → Int} {t : Nat} (h : ∀ s, s < t → term T s = false) (ht : term T t = false) : ∀ s, s < t + 1 → term T s = false := by
  intro s hs
  by_cases e : s = t
  · rw [e]; exact ht
  · exact h s (by omega)

/-- a dash -/
theorem Head.dash {T : Nat → Int} {t d : Nat} (h : Head T t d) (hc : T t = 45) : Head T (t + 1) (min (d + 1) 2) :=
  ⟨by rw [trail, if_pos hc, h.d], none_succ h.none (term_no (by omega)), bang_no (by omega)⟩
/-- a byte of no account -/
theorem Head.other {T : Nat → Int} {t d : Nat} (h : Head T t d) (h1 : T t ≠ 45) (h2 : ¬ (T t = 62 ∧ d = 2)) (h3 : ¬ (T t = 33 ∧ d = 2)) : Head T (t + 1) 0 := by
  refine ⟨by rw [trail, if_neg h1], none_succ h.none ?_, ?_⟩
  · cases ht : term T t
    · rfl
    · obtain ⟨e1, e2⟩ := term_iff.1 ht
      rcases e2 with e2 | e2
      · exact absurd ⟨e1, h.d.trans (trail_two.2 e2)⟩ h2
      · rw [h.bang] at e2; cases e2
  · cases hb : Qxb6000880a.bang T (t + 1)
    · rfl
    · obtain ⟨e1, e2, e3, e4⟩ := bang_iff.1 hb
      have : arrow T t = true := arrow_iff.2 ⟨by omega, by rw [show t + 1 - 2 = t - 1 by omega] at e3; exact e3, by rw [show t + 1 - 3 = t - 2 by omega] at e4; exact e4⟩
      exact absurd ⟨by simpa using e2, h.d.trans (trail_two.2 this)⟩ h3
/-- '>' behind two dashes -/
theorem Head.ends {T : Nat → Int} {t d : Nat} (h : Head T t d) (hc : T t = 62) (hd : d = 2) : term T t = true :=
  term_iff.2 ⟨hc, .inl (trail_two.1 (h.d.symm.trans hd))⟩
theorem Head.isBang {T : Nat → Int} {t d : Nat} (h : Head T t d) (hc : T t = 33) (hd : d = 2) : Qxb6000880a.bang T (t + 1) = true := by
  obtain ⟨e1, e2, e3⟩ := arrow_iff.1 (trail_two.1 (h.d.symm.trans hd))
  exact bang_iff.2 ⟨by omega, by simpa using hc, by rw [show t + 1 - 2 = t - 1 by omega]; exact e2, by rw [show t + 1 - 3 = t - 2 by omega]; exact e3⟩
/-- '!' behind two dashes, then a dash -/
theorem Head.bangDash {T : Nat → Int} {t d : Nat} (h : Head T t d) (hc : T t = 33) (hc2 : T (t + 1) = 45) : Head T (t + 2) 1 := by
  refine ⟨?_, none_succ (none_succ h.none (term_no (by omega))) (term_no (by omega)), bang_no (t := t + 1) (by omega)⟩
  show 1 = trail T (t + 1 + 1)
  rw [trail, if_pos hc2, trail, if_neg (by omega)]
  rfl
/-- '!' behind two dashes, then a byte of no account -/
theorem Head.bangOther {T : Nat → Int} {t d : Nat} (h : Head T t d) (hc : T t = 33) (h1 : T (t + 1) ≠ 45) (h2 : T (t + 1) ≠ 62) : Head T (t + 2) 0 := by
  refine ⟨?_, none_succ (none_succ h.none (term_no (by omega))) (term_no h2), ?_⟩
  · show 0 = trail T (t + 1 + 1)
    rw [trail, if_neg h1]
  · cases hb : Qxb6000880a.bang T (t + 2)
    · rfl
    · obtain ⟨e1, e2, e3, e4⟩ := bang_iff.1 hb
      simp at e3
      omega

/-- What scanComment answers. -/
def ScanRes (T : Nat → Int) (d0 n : Nat) (r : Int) (done : Bool) (d : Int) : Prop :=
  (done = true ∧ ∃ t, t < d0 + n ∧ term T t = true ∧ (∀ s, s < t → term T s = false) ∧ r = (t : Int) + 1 - d0) ∨
  (done = false ∧ (∀ s, s < d0 + n → term T s = false) ∧ ((bang T (d0 + n) = true ∧ r = (n : Int) - 1 ∧ d = 2) ∨ (bang T (d0 + n) = false ∧ r = n ∧ d = trail T (d0 + n))))

/-- The law's second loop: j trailing dashes are met; then it stops. -/
theorem trail_of {T : Nat → Int} {N j : Nat} (hj : j ≤ N) (h2 : j ≤ 2) (h : ∀ s, s < j → T (N - 1 - s) = 45) (hs : j = N ∨ j = 2 ∨ T (N - 1 - j) ≠ 45) : trail T N = j := by
  match j, h2 with
  | 0, _ =>
    cases N with
    | zero => rfl
    | succ N => simp at hs; rw [trail, if_neg hs]
  | 1, _ =>
    obtain ⟨N, rfl⟩ : ∃ M, N = M + 1 := ⟨N - 1, by omega⟩
    have h0 := h 0 (by omega)
    simp at h0
    rw [trail, if_pos h0]
    cases N with
    | zero => simp [trail]
    | succ N => simp at hs; rw [trail, if_neg hs]; omega
  | 2, _ =>
    have h0 := h 0 (by omega)
    have h1 := h 1 (by omega)
    exact trail_two.2 (arrow_iff.2 ⟨by omega, by simpa using h0, by rw [show N - 2 = N - 1 - 1 by omega]; exact h1⟩)

end Go.Proofs.Qxb6000880a
