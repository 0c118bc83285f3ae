/-
  The plain functions of appendString: no Go in sight.
-/
namespace Go.Proofs.Qxb6000674a

/-- The lower-case hexadecimal digit of x. -/
def hexd (x : Int) : Int := if x < 10 then 48 + x else 87 + x

/-- What appendString writes for the byte c. -/
def esc (c : Int) : List Int :=
  if c = 34 ∨ c = 92 then [92, c]
  else if c = 10 then [92, 110]
  else if c = 13 then [92, 114]
  else if c = 9 then [92, 116]
  else if c < 32 then [92, 117, 48, 48, hexd (c / 16), hexd (c % 16)]
  else [c]

/-- What it writes for a text. -/
def encL (l : List UInt8) : List Int := l.flatMap fun c => esc (c.toNat : Int)

/-- The whole literal. -/
def lit (l : List UInt8) : List Int := 34 :: (encL l ++ [34])
theorem lit_len (l : List UInt8) : (lit l).length = (encL l).length + 2 := by simp [lit]

theorem encL_nil : encL [] = [] := rfl
theorem encL_snoc (l : List UInt8) (c : UInt8) : encL (l ++ [c]) = encL l ++ esc (c.toNat : Int) := by simp [encL]
theorem encL_cons (c : UInt8) (l : List UInt8) : encL (c :: l) = esc (c.toNat : Int) ++ encL l := by simp [encL]
theorem encL_append (l m : List UInt8) : encL (l ++ m) = encL l ++ encL m := by simp [encL]

theorem esc_len (c : Int) : 1 ≤ (esc c).length ∧ (esc c).length ≤ 6 := by
  unfold esc; repeat' split
  all_goals simp

theorem encL_len (l : List UInt8) : l.length ≤ (encL l).length ∧ (encL l).length ≤ 6 * l.length := by
  induction l with
  | nil => simp [encL]
  | cons c t ih =>
    have := esc_len (c.toNat : Int)
    rw [encL_cons]; simp only [List.length_append, List.length_cons]; omega

theorem esc_quote {c : Int} (h : c = 34 ∨ c = 92) : esc c = [92, c] := by unfold esc; rw [if_pos h]
theorem esc_n {c : Int} (h : c = 10) : esc c = [92, 110] := by subst h; rfl
theorem esc_r {c : Int} (h : c = 13) : esc c = [92, 114] := by subst h; rfl
theorem esc_t {c : Int} (h : c = 9) : esc c = [92, 116] := by subst h; rfl
theorem esc_ctl {c : Int} (h : c < 32) (h1 : c ≠ 10) (h2 : c ≠ 13) (h3 : c ≠ 9) : esc c = [92, 117, 48, 48, hexd (c / 16), hexd (c % 16)] := by
  unfold esc; rw [if_neg (by omega), if_neg h1, if_neg h2, if_neg h3, if_pos h]
theorem esc_plain {c : Int} (h : 32 ≤ c) (h1 : c ≠ 34) (h2 : c ≠ 92) : esc c = [c] := by
  unfold esc; rw [if_neg (by omega), if_neg (by omega), if_neg (by omega), if_neg (by omega), if_neg (by omega)]

/-- The next byte of a text taken in order. -/
theorem take_snoc (s : ByteArray) (k : Nat) (h : k < s.size) : s.data.toList.take (k + 1) = s.data.toList.take k ++ [s[k]] := by
  rw [List.take_succ_eq_append_getElem (by simpa using h)]; rfl

theorem encL_step (s : ByteArray) (k : Nat) (h : k < s.size) : encL (s.data.toList.take (k + 1)) = encL (s.data.toList.take k) ++ esc (s[k].toNat : Int) := by
  rw [take_snoc s k h, encL_snoc]

end Go.Proofs.Qxb6000674a
