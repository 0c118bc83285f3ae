/-
  The walk of FnAppendStringLengthBounds (8), and its plain law.
-/
import Derived.Test.Qxb6000674aAppend
namespace Go.Proofs.Qxb6000674a.fnAppendStringLengthBounds
open Go.RowKit

/-! ### STEP 1: THE WALK -/
theorem ret_bool {a b : Bool} (h : a = b) : Ending.returned (.bool a) = .returned (.bool b) := by rw [h]

/-- No byte of the text wants an escape. -/
def plainB (l : List UInt8) : Bool := l.all fun c => !(c.toNat == 34 || c.toNat == 92 || decide (c.toNat < 32))

theorem plain_snoc (l : List UInt8) (c : UInt8) : plainB (l ++ [c]) = (plainB l && !(c.toNat == 34 || c.toNat == 92 || decide (c.toNat < 32))) := by simp [plainB]

theorem plain_esc (c : UInt8) : (!(c.toNat == 34 || c.toNat == 92 || decide (c.toNat < 32))) = decide ((esc (c.toNat : Int)).length = 1) := by
  by_cases h1 : c.toNat = 34
  · simp [h1, esc]
  by_cases h2 : c.toNat = 92
  · simp [h2, esc]
  by_cases h3 : c.toNat < 32
  · simp only [h3, decide_true, Bool.or_true, Bool.not_true]
    unfold esc; repeat' split
    all_goals simp
    omega
  · rw [esc_plain (by omega) (by omega) (by omega)]; simp [h1, h2, h3]

theorem plain_len (l : List UInt8) : plainB l = decide ((encL l).length = l.length) := by
  induction l with
  | nil => simp [plainB, encL]
  | cons c t ih =>
    have e1 := esc_len (c.toNat : Int)
    have e2 := encL_len t
    have : plainB (c :: t) = ((!(c.toNat == 34 || c.toNat == 92 || decide (c.toNat < 32))) && plainB t) := by simp [plainB]
    rw [this, ih, plain_esc, encL_cons]
    simp only [List.length_append, List.length_cons]
    rw [Bool.eq_iff_iff]; simp only [Bool.and_eq_true, decide_eq_true_eq]; omega

theorem pl_f (P : Bool) {c : UInt8} (h : (c.toNat : Int) = 34 ∨ (c.toNat : Int) = 92 ∨ (c.toNat : Int) < 32) : false = (P && !(c.toNat == 34 || c.toNat == 92 || decide (c.toNat < 32))) := by
  rcases h with h | h | h
  · have : c.toNat = 34 := by omega
    simp [this]
  · have : c.toNat = 92 := by omega
    simp [this]
  · have : c.toNat < 32 := by omega
    simp [this]
theorem pl_t (P : Bool) {c : UInt8} (h1 : ¬ (c.toNat : Int) = 34) (h2 : ¬ (c.toNat : Int) = 92) (h3 : 32 ≤ (c.toNat : Int)) : P = (P && !(c.toNat == 34 || c.toNat == 92 || decide (c.toNat < 32))) := by
  have e1 : ¬ c.toNat = 34 := by omega
  have e2 : ¬ c.toNat = 92 := by omega
  have e3 : ¬ c.toNat < 32 := by omega
  simp [e1, e2, e3]

theorem bytes22 (s : ByteArray) (w : World) (hm : s.size ≤ maxLen) : Calls Try.prog 22 #[.string s] w fun e w' => e = .returned (.bool (decide (s.size ≤ 1048576))) ∧ w' = w := by
  unfold maxLen at hm
  by_cases h : s.size ≤ 1048576
  all_goals
    go_enter Try.func22, Try.ntmps22
    go_wp2
    go_ret
    exact ⟨by simp [h], rfl⟩

theorem walk_long (s : ByteArray) (w : World) (hn : 1048576 < s.size) (hm : s.size ≤ maxLen) :
    Calls Try.prog 8 #[.string s] w fun e w' => e = .returned (.bool true) ∧ Below w.heap.size w w' := by
  have hd : decide (s.size ≤ 1048576) = false := by simp; omega
  go_enter Try.func8, Try.ntmps8
  go_wp2_with (first | (go_at_call 22; refine (bytes22 _ _ hm).mono ?_; rintro e w' ⟨rfl, rfl⟩))
  go_ret
  exact ⟨rfl, Below.refl _ _⟩

theorem fin_law (l : List UInt8) (N : Nat) (hN : N = l.length) (L : Nat) (hL : L = (encL l).length + 2) : (((L : Int) == (N : Int) + 2) == plainB l) = true := by
  rw [plain_len, beq_iff_eq, Bool.eq_iff_iff]; simp only [beq_iff_eq, decide_eq_true_eq]; omega

theorem walk_short (s : ByteArray) (w : World) (hm : s.size ≤ 1048576) :
    Calls Try.prog 8 #[.string s] w fun e w' => e = .returned (.bool true) ∧ Below w.heap.size w w' := by
  have hd : decide (s.size ≤ 1048576) = true := by simp; omega
  have hz : s.data.toList.length = s.size := by simp
  have hl := encL_len s.data.toList
  obtain ⟨L, hL⟩ : ∃ L, L = (encL s.data.toList).length + 2 := ⟨_, rfl⟩
  have b1 : s.size + 2 ≤ L := by omega
  have b2 : L ≤ 6 * s.size + 2 := by omega
  have HL : Hid (L = (encL s.data.toList).length + 2) := hL
  have HZ : Hid (s.data.toList.length = s.size) := hz
  clear hl hL hz
  go_enter Try.func8, Try.ntmps8
  go_wp2_with (first | (go_at_call 22; refine (bytes22 _ _ (by unfold maxLen; omega)).mono ?_; rintro e w' ⟨rfl, rfl⟩) | (go_at_call 18; refine (zz_append_string none 0 [] s _ (by omega) hm (fun _ => rfl) rfl (by intro b hb; cases hb)).mono ?_; rintro e w1 ⟨v, rfl, g, cap, hv, _, hbel, _⟩; rw [lit_len, ← HL.out, Nat.zero_add] at hv; subst hv))
  go_loop [4, 5] (fun p i => ∃ k : Nat, k ≤ s.size ∧ i = .int .i64 k ∧ p = .bool (plainB (s.data.toList.take k))) (fun _ i => s.size - (intOf i).toNat)
  case atStart => exact ⟨0, Nat.zero_le _, rfl, rfl⟩
  case round =>
    obtain ⟨k, hk, rfl, rfl⟩ := hrel
    by_cases hlt : k < s.size
    · have HS : Hid (plainB (s.data.toList.take (k + 1)) = _) := (congrArg plainB (take_snoc s k hlt)).trans (plain_snoc _ _)
      go_wp2
      · go_round
        case rel => exact ⟨k + 1, by omega, by go_num, by rw [HS.out]; exact congrArg Value.bool (pl_f _ (.inl ‹_›))⟩
        case measure => simp [intOf]; omega
      · go_round
        case rel => exact ⟨k + 1, by omega, by go_num, by rw [HS.out]; exact congrArg Value.bool (pl_f _ (.inr (.inl ‹_›)))⟩
        case measure => simp [intOf]; omega
      · have h3 : (((s[k].toNat : Int) == 34) = true ∨ ((s[k].toNat : Int) == 92) = true) ∨ (s[k].toNat : Int) < 32 := by assumption
        go_round
        case rel => exact ⟨k + 1, by omega, by go_num, by rw [HS.out]; exact congrArg Value.bool (pl_f _ (by simp only [beq_iff_eq] at h3; omega))⟩
        case measure => simp [intOf]; omega
      · have h3 : (((s[k].toNat : Int) == 34) = false ∧ ((s[k].toNat : Int) == 92) = false) ∧ 32 ≤ (s[k].toNat : Int) := by assumption
        go_round
        case rel => exact ⟨k + 1, by omega, by go_num, by rw [HS.out]; exact congrArg Value.bool (pl_t _ ‹_› ‹_› h3.2)⟩
        case measure => simp [intOf]; omega
    · go_wp2
      go_ret
      refine ⟨ret_bool ?_, hbel⟩
      rw [List.take_of_length_le (by rw [HZ.out]; omega)]
      exact fin_law _ _ HZ.out.symm _ HL.out

theorem walk (a0 : ByteArray) (w0 : a0.size ≤ maxLen) (w : World) :
    Calls Try.prog 8 #[.string a0] w fun e w' => e = .returned (.bool true) ∧ Below w.heap.size w w' := by
  by_cases h : a0.size ≤ 1048576
  · exact walk_short a0 w h
  · exact walk_long a0 w (by omega) w0

end Go.Proofs.Qxb6000674a.fnAppendStringLengthBounds
