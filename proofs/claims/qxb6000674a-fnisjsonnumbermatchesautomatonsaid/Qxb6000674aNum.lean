/-
  JSON's numbers, plain: the cursor's reading (isNum), the automaton's (aut), and that they are one. No Go in sight.
-/
namespace Go.Proofs.Qxb6000674a

/-- How many decimal digits a text opens with. -/
def dsp : List UInt8 → Nat
  | [] => 0
  | c :: t => if 48 ≤ c.toNat ∧ c.toNat ≤ 57 then dsp t + 1 else 0

def allD (l : List UInt8) : Bool := decide (dsp l ≠ 0 ∧ dsp l = l.length)
def sgn : List UInt8 → List UInt8
  | [] => []
  | c :: t => if c.toNat = 43 ∨ c.toNat = 45 then t else c :: t
/-- What may stand behind the fraction. -/
def finE : List UInt8 → Bool
  | [] => true
  | c :: t => if c.toNat = 101 ∨ c.toNat = 69 then allD (sgn t) else false
/-- What may stand behind the integer part. -/
def finF : List UInt8 → Bool
  | [] => true
  | c :: t => if c.toNat = 46 then (if dsp t = 0 then false else finE (t.drop (dsp t))) else finE (c :: t)
/-- What may stand behind the minus. -/
def finI : List UInt8 → Bool
  | [] => false
  | c :: t => if c.toNat = 48 then finF t else if dsp (c :: t) = 0 then false else finF ((c :: t).drop (dsp (c :: t)))
def isNum : List UInt8 → Bool
  | [] => false
  | c :: t => if c.toNat = 45 then finI t else finI (c :: t)

/-! ### The automaton -/
def stp0 (c : Int) : Int := if c = 45 then 1 else if c = 48 then 2 else if 48 ≤ c ∧ c ≤ 57 then 3 else 9
def stp1 (c : Int) : Int := if c = 48 then 2 else if 48 ≤ c ∧ c ≤ 57 then 3 else 9
def stp2 (c : Int) : Int := if c = 46 then 4 else if c = 101 ∨ c = 69 then 6 else 9
def stp3 (c : Int) : Int := if 48 ≤ c ∧ c ≤ 57 then 3 else if c = 46 then 4 else if c = 101 ∨ c = 69 then 6 else 9
def stp4 (c : Int) : Int := if 48 ≤ c ∧ c ≤ 57 then 5 else 9
def stp5 (c : Int) : Int := if 48 ≤ c ∧ c ≤ 57 then 5 else if c = 101 ∨ c = 69 then 6 else 9
def stp6 (c : Int) : Int := if c = 43 ∨ c = 45 then 7 else if 48 ≤ c ∧ c ≤ 57 then 8 else 9
def stp7 (c : Int) : Int := if 48 ≤ c ∧ c ≤ 57 then 8 else 9
def stp (st c : Int) : Int :=
  if st = 0 then stp0 c else if st = 1 then stp1 c else if st = 2 then stp2 c else if st = 3 then stp3 c else if st = 4 then stp4 c else if st = 5 then stp5 c else if st = 6 then stp6 c else stp7 c
def aut (st : Int) : List UInt8 → Bool
  | [] => decide (st = 2 ∨ st = 3 ∨ st = 5 ∨ st = 8)
  | c :: t => if stp st (c.toNat : Int) = 9 then false else aut (stp st (c.toNat : Int)) t

theorem stp_0 (c : Int) : stp 0 c = stp0 c := rfl
theorem stp_1 (c : Int) : stp 1 c = stp1 c := rfl
theorem stp_2 (c : Int) : stp 2 c = stp2 c := rfl
theorem stp_3 (c : Int) : stp 3 c = stp3 c := rfl
theorem stp_4 (c : Int) : stp 4 c = stp4 c := rfl
theorem stp_5 (c : Int) : stp 5 c = stp5 c := rfl
theorem stp_6 (c : Int) : stp 6 c = stp6 c := rfl
theorem stp_7 (c : Int) : stp 7 c = stp7 c := rfl
theorem stp_8 (c : Int) : stp 8 c = stp7 c := rfl

theorem aut_step {st st' : Int} {c : UInt8} {t : List UInt8} {b : Bool} (h : aut st (c :: t) = b) (hs : stp st (c.toNat : Int) = st') (h9 : st' ≠ 9) : aut st' t = b := by
  subst hs; rw [aut, if_neg h9] at h; exact h
theorem aut_fail {st : Int} {c : UInt8} {t : List UInt8} {b : Bool} (h : aut st (c :: t) = b) (hs : stp st (c.toNat : Int) = 9) : false = b := by
  rw [aut, if_pos hs] at h; exact h
theorem aut_to {st st' : Int} {c : UInt8} {t : List UInt8} (hs : stp st (c.toNat : Int) = st') (h9 : st' ≠ 9) : aut st (c :: t) = aut st' t := by
  subst hs; rw [aut, if_neg h9]
theorem aut_no {st : Int} {c : UInt8} {t : List UInt8} (hs : stp st (c.toNat : Int) = 9) : aut st (c :: t) = false := by rw [aut, if_pos hs]

theorem dsp_yes {c : UInt8} {t : List UInt8} (h : 48 ≤ c.toNat ∧ c.toNat ≤ 57) : dsp (c :: t) = dsp t + 1 := by rw [dsp, if_pos h]
theorem dsp_no {c : UInt8} {t : List UInt8} (h : ¬ (48 ≤ c.toNat ∧ c.toNat ≤ 57)) : dsp (c :: t) = 0 := by rw [dsp, if_neg h]
theorem dsp_le (l : List UInt8) : dsp l ≤ l.length := by
  induction l with
  | nil => simp [dsp]
  | cons c t ih => rw [dsp]; split <;> simp only [List.length_cons] <;> omega

theorem l8 (l : List UInt8) : aut 8 l = decide (dsp l = l.length) := by
  induction l with
  | nil => rfl
  | cons c t ih =>
    by_cases h : 48 ≤ c.toNat ∧ c.toNat ≤ 57
    · rw [aut_to (st' := 8) (by rw [stp_8, stp7, if_pos (by omega)]) (by decide), ih, dsp_yes h]
      simp
    · rw [aut_no (by rw [stp_8, stp7, if_neg (by omega)]), dsp_no h]
      simp
theorem l7 (l : List UInt8) : aut 7 l = allD l := by
  cases l with
  | nil => rfl
  | cons c t =>
    unfold allD
    by_cases h : 48 ≤ c.toNat ∧ c.toNat ≤ 57
    · rw [aut_to (st' := 8) (by rw [stp_7, stp7, if_pos (by omega)]) (by decide), l8, dsp_yes h]
      simp
    · rw [aut_no (by rw [stp_7, stp7, if_neg (by omega)]), dsp_no h]
      simp
theorem l6 (l : List UInt8) : aut 6 l = allD (sgn l) := by
  cases l with
  | nil => rfl
  | cons c t =>
    rw [sgn]
    by_cases hs : c.toNat = 43 ∨ c.toNat = 45
    · rw [aut_to (st' := 7) (by rw [stp_6, stp6, if_pos (by omega)]) (by decide), l7, if_pos hs]
    · rw [if_neg hs]
      by_cases h : 48 ≤ c.toNat ∧ c.toNat ≤ 57
      · rw [aut_to (st' := 8) (by rw [stp_6, stp6, if_neg (by omega), if_pos (by omega)]) (by decide), l8]
        unfold allD; rw [dsp_yes h]; simp
      · rw [aut_no (by rw [stp_6, stp6, if_neg (by omega), if_neg (by omega)])]
        unfold allD; rw [dsp_no h]; simp
theorem l5 (l : List UInt8) : aut 5 l = finE (l.drop (dsp l)) := by
  induction l with
  | nil => rfl
  | cons c t ih =>
    by_cases h : 48 ≤ c.toNat ∧ c.toNat ≤ 57
    · rw [aut_to (st' := 5) (by rw [stp_5, stp5, if_pos (by omega)]) (by decide), ih, dsp_yes h, List.drop_succ_cons]
    · rw [dsp_no h, List.drop_zero, finE]
      by_cases he : c.toNat = 101 ∨ c.toNat = 69
      · rw [aut_to (st' := 6) (by rw [stp_5, stp5, if_neg (by omega), if_pos (by omega)]) (by decide), l6, if_pos he]
      · rw [aut_no (by rw [stp_5, stp5, if_neg (by omega), if_neg (by omega)]), if_neg he]
theorem l4 (l : List UInt8) : aut 4 l = if dsp l = 0 then false else finE (l.drop (dsp l)) := by
  cases l with
  | nil => rfl
  | cons c t =>
    by_cases h : 48 ≤ c.toNat ∧ c.toNat ≤ 57
    · rw [aut_to (st' := 5) (by rw [stp_4, stp4, if_pos (by omega)]) (by decide), l5, dsp_yes h, if_neg (by omega), List.drop_succ_cons]
    · rw [aut_no (by rw [stp_4, stp4, if_neg (by omega)]), dsp_no h, if_pos rfl]
theorem l2 (l : List UInt8) : aut 2 l = finF l := by
  cases l with
  | nil => rfl
  | cons c t =>
    rw [finF]
    by_cases h : c.toNat = 46
    · rw [aut_to (st' := 4) (by rw [stp_2, stp2, if_pos (by omega)]) (by decide), l4, if_pos h]
    · rw [if_neg h, finE]
      by_cases he : c.toNat = 101 ∨ c.toNat = 69
      · rw [aut_to (st' := 6) (by rw [stp_2, stp2, if_neg (by omega), if_pos (by omega)]) (by decide), l6, if_pos he]
      · rw [aut_no (by rw [stp_2, stp2, if_neg (by omega), if_neg (by omega)]), if_neg he]
theorem l3 (l : List UInt8) : aut 3 l = finF (l.drop (dsp l)) := by
  induction l with
  | nil => rfl
  | cons c t ih =>
    by_cases h : 48 ≤ c.toNat ∧ c.toNat ≤ 57
    · rw [aut_to (st' := 3) (by rw [stp_3, stp3, if_pos (by omega)]) (by decide), ih, dsp_yes h, List.drop_succ_cons]
    · rw [dsp_no h, List.drop_zero, finF]
      by_cases hd : c.toNat = 46
      · rw [aut_to (st' := 4) (by rw [stp_3, stp3, if_neg (by omega), if_pos (by omega)]) (by decide), l4, if_pos hd]
      · rw [if_neg hd, finE]
        by_cases he : c.toNat = 101 ∨ c.toNat = 69
        · rw [aut_to (st' := 6) (by rw [stp_3, stp3, if_neg (by omega), if_neg (by omega), if_pos (by omega)]) (by decide), l6, if_pos he]
        · rw [aut_no (by rw [stp_3, stp3, if_neg (by omega), if_neg (by omega), if_neg (by omega)]), if_neg he]
theorem l1 (l : List UInt8) : aut 1 l = finI l := by
  cases l with
  | nil => rfl
  | cons c t =>
    rw [finI]
    by_cases h0 : c.toNat = 48
    · rw [aut_to (st' := 2) (by rw [stp_1, stp1, if_pos (by omega)]) (by decide), l2, if_pos h0]
    · rw [if_neg h0]
      by_cases h : 48 ≤ c.toNat ∧ c.toNat ≤ 57
      · rw [aut_to (st' := 3) (by rw [stp_1, stp1, if_neg (by omega), if_pos (by omega)]) (by decide), l3, dsp_yes h, if_neg (by omega), List.drop_succ_cons]
      · rw [aut_no (by rw [stp_1, stp1, if_neg (by omega), if_neg (by omega)]), dsp_no h, if_pos rfl]
/-- THE PLAIN LAW. -/
theorem aut_isNum (l : List UInt8) : aut 0 l = isNum l := by
  cases l with
  | nil => rfl
  | cons c t =>
    rw [isNum]
    by_cases hm : c.toNat = 45
    · rw [aut_to (st' := 1) (by rw [stp_0, stp0, if_pos (by omega)]) (by decide), l1, if_pos hm]
    · rw [if_neg hm, finI]
      by_cases h0 : c.toNat = 48
      · rw [aut_to (st' := 2) (by rw [stp_0, stp0, if_neg (by omega), if_pos (by omega)]) (by decide), l2, if_pos h0]
      · rw [if_neg h0]
        by_cases h : 48 ≤ c.toNat ∧ c.toNat ≤ 57
        · rw [aut_to (st' := 3) (by rw [stp_0, stp0, if_neg (by omega), if_neg (by omega), if_pos (by omega)]) (by decide), l3, dsp_yes h, if_neg (by omega), List.drop_succ_cons]
        · rw [aut_no (by rw [stp_0, stp0, if_neg (by omega), if_neg (by omega), if_neg (by omega)]), dsp_no h, if_pos rfl]

/-! ### Places in a text -/
theorem drop_at (s : ByteArray) (k : Nat) (h : k < s.size) : s.data.toList.drop k = s[k] :: s.data.toList.drop (k + 1) := by
  rw [List.drop_eq_getElem_cons (by simpa using h)]; rfl
theorem drop_end (s : ByteArray) (k : Nat) (h : ¬ k < s.size) : s.data.toList.drop k = [] := List.drop_eq_nil_of_le (by simpa using h)

/-- What digitsFrom answers. -/
def dfrom (l : List UInt8) (i : Nat) : Int := if dsp (l.drop i) = 0 then -1 else (i : Int) + (dsp (l.drop i) : Int)

end Go.Proofs.Qxb6000674a
