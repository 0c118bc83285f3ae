/-
  Figures, plain: what wellFormedFigure, figureSign and isPositive answer, and that they agree. No Go in sight.
-/
namespace Go.Proofs.Qxb6601720a

/-- How many decimal digits a text opens with. -/
def dsp : List UInt8 → Nat
  | [] => 0
  | c :: t => if 48 ≤ c.toNat ∧ c.toNat ≤ 57 then dsp t + 1 else 0
theorem dsp_yes {c : UInt8} {t : List UInt8} (h : 48 ≤ c.toNat ∧ c.toNat ≤ 57) : dsp (c :: t) = dsp t + 1 := by rw [dsp, if_pos h]
theorem dsp_no {c : UInt8} {t : List UInt8} (h : ¬ (48 ≤ c.toNat ∧ c.toNat ≤ 57)) : dsp (c :: t) = 0 := by rw [dsp, if_neg h]
theorem dsp_le (l : List UInt8) : dsp l ≤ l.length := by
  induction l with
  | nil => simp [dsp]
  | cons c t ih => rw [dsp]; split <;> simp only [List.length_cons] <;> omega

/-- Behind the sign: digits, then nothing, or a point and digits and nothing. -/
def wfB (l : List UInt8) : Bool :=
  if dsp l = 0 then false else match l.drop (dsp l) with
    | [] => true
    | c :: t => if c.toNat = 46 then decide (dsp t ≠ 0 ∧ dsp t = t.length) else false
/-- wellFormedFigure. -/
def wf : List UInt8 → Bool
  | [] => false
  | c :: t => if c.toNat = 45 then wfB t else wfB (c :: t)

/-- A digit other than nought stands in the text. -/
def anyPos (l : List UInt8) : Bool := l.any fun c => decide (49 ≤ c.toNat ∧ c.toNat ≤ 57)
/-- isPositive. -/
def isPos : List UInt8 → Bool
  | [] => false
  | c :: t => if c.toNat = 45 then false else anyPos (c :: t)

/-! ### Byte by byte -/
/-- Byte m of the text, as a number. -/
def bt (l : List UInt8) (m : Nat) : Nat := (l.getD m 0).toNat
theorem bt_drop (l : List UInt8) (i m : Nat) : bt (l.drop i) m = bt l (i + m) := by simp [bt]
theorem bt_cons_succ (c : UInt8) (t : List UInt8) (m : Nat) : bt (c :: t) (m + 1) = bt t m := by simp [bt]
theorem bt_cons_zero (c : UInt8) (t : List UInt8) : bt (c :: t) 0 = c.toNat := by simp [bt]

theorem dsp_digits (l : List UInt8) : ∀ m, m < dsp l → 48 ≤ bt l m ∧ bt l m ≤ 57 := by
  induction l with
  | nil => intro m hm; simp [dsp] at hm
  | cons c t ih =>
    intro m hm
    by_cases h : 48 ≤ c.toNat ∧ c.toNat ≤ 57
    · rw [dsp_yes h] at hm
      cases m with
      | zero => rw [bt_cons_zero]; exact h
      | succ m => rw [bt_cons_succ]; exact ih m (by omega)
    · rw [dsp_no h] at hm; omega

/-- A well-formed body: every byte but the first point is a digit. -/
theorem wfB_points (t : List UInt8) (h : wfB t = true) (dot : Nat) (hd : dot ≤ t.length) (hno : ∀ m, m < dot → bt t m ≠ 46) (hat : dot < t.length → bt t dot = 46) :
    ∀ m, m < t.length → m ≠ dot → 48 ≤ bt t m ∧ bt t m ≤ 57 := by
  intro m hm hne
  unfold wfB at h
  by_cases h0 : dsp t = 0
  · rw [if_pos h0] at h; cases h
  · rw [if_neg h0] at h
    have hdl := dsp_le t
    have hdg := dsp_digits t
    cases hr : t.drop (dsp t) with
    | nil =>
      have hl : t.length ≤ dsp t := by simpa using hr
      exact hdg m (by omega)
    | cons c u =>
      rw [hr] at h
      simp only at h
      by_cases h46 : c.toNat = 46
      · rw [if_pos h46] at h
        simp only [decide_eq_true_eq] at h
        have hlen : (t.drop (dsp t)).length = u.length + 1 := by rw [hr]; rfl
        rw [List.length_drop] at hlen
        have hp : bt t (dsp t) = 46 := by
          have := bt_drop t (dsp t) 0
          rw [hr, bt_cons_zero, Nat.add_zero] at this
          omega
        have hdot : dot = dsp t := by
          rcases Nat.lt_trichotomy dot (dsp t) with hlt | heq | hgt
          · have h1 := hdg dot hlt
            have h2 := hat (by omega)
            omega
          · exact heq
          · exact absurd hp (hno _ hgt)
        rcases Nat.lt_trichotomy m (dsp t) with hlt | heq | hgt
        · exact hdg m hlt
        · omega
        · have h1 := dsp_digits u (m - dsp t - 1) (by omega)
          have h2 := bt_drop t (dsp t) (m - dsp t)
          rw [hr, show m - dsp t = (m - dsp t - 1) + 1 by omega, bt_cons_succ] at h2
          rw [show dsp t + (m - dsp t - 1 + 1) = m by omega] at h2
          omega
      · rw [if_neg h46] at h; cases h

theorem anyPos_iff (l : List UInt8) : anyPos l = true ↔ ∃ m, m < l.length ∧ 49 ≤ bt l m ∧ bt l m ≤ 57 := by
  unfold anyPos
  rw [List.any_eq_true]
  constructor
  · rintro ⟨c, hc, h⟩
    obtain ⟨m, hm, he⟩ := List.mem_iff_getElem.1 hc
    refine ⟨m, hm, ?_⟩
    have : bt l m = c.toNat := by simp [bt, hm, he]
    rw [this]; simpa using h
  · rintro ⟨m, hm, h1, h2⟩
    refine ⟨l[m], List.getElem_mem hm, ?_⟩
    have : bt l m = l[m].toNat := by simp [bt, hm]
    rw [this] at h1 h2
    simp only [decide_eq_true_eq]
    exact ⟨h1, h2⟩

/-- isPositive of a figure without a minus. -/
theorem isPos_plain (l : List UInt8) (h : bt l 0 ≠ 45) : isPos l = anyPos l := by
  cases l with
  | nil => rfl
  | cons c t => rw [bt_cons_zero] at h; rw [isPos, if_neg h]
theorem isPos_minus (l : List UInt8) (h : bt l 0 = 45) : isPos l = false := by
  cases l with
  | nil => rfl
  | cons c t => rw [bt_cons_zero] at h; rw [isPos, if_pos h]
theorem wf_plain (l : List UInt8) (h : bt l 0 ≠ 45) : wf l = wfB l := by
  cases l with
  | nil => rfl
  | cons c t => rw [bt_cons_zero] at h; rw [wf, if_neg h]

/-- THE PLAIN LAW, the integer part has a digit other than nought. -/
theorem sign_int (l : List UInt8) (hw : wf l = true) (h45 : bt l 0 ≠ 45) (dot k : Nat) (hd : dot ≤ l.length) (hno : ∀ m, m < dot → bt l m ≠ 46) (hat : dot < l.length → bt l dot = 46) (hk : k < dot) (hk0 : bt l k ≠ 48) : isPos l = true := by
  rw [wf_plain l h45] at hw
  have := wfB_points l hw dot hd hno hat k (by omega) (by omega)
  rw [isPos_plain l h45, anyPos_iff]
  exact ⟨k, by omega, by omega, by omega⟩
/-- .. the fraction has one. -/
theorem sign_frac (l : List UInt8) (hw : wf l = true) (h45 : bt l 0 ≠ 45) (dot e : Nat) (hd : dot < l.length) (hno : ∀ m, m < dot → bt l m ≠ 46) (hat : dot < l.length → bt l dot = 46) (he : dot + 1 < e) (he2 : e ≤ l.length) (he0 : bt l (e - 1) ≠ 48) : isPos l = true := by
  rw [wf_plain l h45] at hw
  have := wfB_points l hw dot (by omega) hno hat (e - 1) (by omega) (by omega)
  rw [isPos_plain l h45, anyPos_iff]
  exact ⟨e - 1, by omega, by omega, by omega⟩
/-- .. neither has. -/
theorem sign_none (l : List UInt8) (h45 : bt l 0 ≠ 45) (dot : Nat) (hd : dot ≤ l.length) (hno : ∀ m, m < dot → bt l m ≠ 46) (hat : dot < l.length → bt l dot = 46) (hi : ∀ m, m < dot → bt l m = 48) (hf : ∀ m, dot < m → m < l.length → bt l m = 48) : isPos l = false := by
  rw [isPos_plain l h45]
  cases h : anyPos l with
  | false => rfl
  | true =>
    obtain ⟨m, hm, h1, h2⟩ := (anyPos_iff l).1 h
    rcases Nat.lt_trichotomy m dot with hlt | heq | hgt
    · have := hi m hlt; omega
    · subst heq; have := hat hm; omega
    · have := hf m hgt hm; omega
end Go.Proofs.Qxb6601720a
