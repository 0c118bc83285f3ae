/-
  The walk of isJSONNumber (29).
-/
import Derived.Test.Qxb6000674aNumWalk
import Derived.Deep.CutBlock
namespace Go.Proofs.Qxb6000674a
open Go.RowKit

/-- After the minus: 'i' is where the integer part begins. -/
theorem cutA1 (s : ByteArray) (h : 0 < s.size) (hc : (s[0].toNat : Int) = 45) : isNum s.data.toList = finI (s.data.toList.drop 1) := by
  have := drop_at s 0 h
  rw [List.drop_zero] at this
  rw [this, isNum, if_pos (by omega)]; rfl
theorem cutA2 (s : ByteArray) (h : 0 < s.size) (hc : ¬ (s[0].toNat : Int) = 45) : isNum s.data.toList = finI (s.data.toList.drop 0) := by
  have := drop_at s 0 h
  rw [List.drop_zero] at this ⊢
  rw [this, isNum, if_neg (by omega)]
theorem cutA3 (s : ByteArray) (h : ¬ 0 < s.size) : isNum s.data.toList = finI (s.data.toList.drop 0) := by
  have := drop_end s 0 h
  rw [List.drop_zero] at this ⊢
  rw [this]; rfl

theorem digits_no (s : ByteArray) (x : Int) (i : Nat) (w : World) (hs : s.size ≤ 1048576) (hi : i ≤ s.size) (hx : x = (i : Int)) (h : dsp (s.data.toList.drop i) = 0) :
    Calls Try.prog 34 #[.string s, .int .i64 x] w fun e w' => e = .returned (.int .i64 (-1)) ∧ w' = w := by
  subst hx
  refine (digits_from s i w hs hi).mono ?_
  rintro e w' ⟨rfl, hw⟩
  exact ⟨ret_i (by rw [dfrom, if_pos h]), hw⟩
theorem digits_yes (s : ByteArray) (x : Int) (i j : Nat) (w : World) (hs : s.size ≤ 1048576) (hi : i ≤ s.size) (hx : x = (i : Int)) (h : dsp (s.data.toList.drop i) ≠ 0) (hj : j = i + dsp (s.data.toList.drop i)) :
    Calls Try.prog 34 #[.string s, .int .i64 x] w fun e w' => e = .returned (.int .i64 (j : Int)) ∧ w' = w := by
  subst hx
  refine (digits_from s i w hs hi).mono ?_
  rintro e w' ⟨rfl, hw⟩
  exact ⟨ret_i (by rw [dfrom, if_neg h]; omega), hw⟩
theorem dsp_room (s : ByteArray) (i : Nat) (hi : i ≤ s.size) : i + dsp (s.data.toList.drop i) ≤ s.size := by
  have := dsp_le (s.data.toList.drop i)
  rw [List.length_drop] at this
  have e : s.data.toList.length = s.size := by simp
  omega

/-! The integer part. -/
theorem cutB1 (s : ByteArray) (k : Nat) (h : k < s.size) (hc : (s[k].toNat : Int) = 48) : finI (s.data.toList.drop k) = finF (s.data.toList.drop (k + 1)) := by
  rw [drop_at s k h, finI, if_pos (by omega)]
theorem cutB2 (s : ByteArray) (k : Nat) (h : k < s.size) (hc : ¬ (s[k].toNat : Int) = 48) (hd : dsp (s.data.toList.drop k) ≠ 0) : finI (s.data.toList.drop k) = finF (s.data.toList.drop (k + dsp (s.data.toList.drop k))) := by
  rw [← List.drop_drop]
  rw [drop_at s k h] at hd ⊢
  rw [finI, if_neg (by omega), if_neg hd]
theorem cutB3 (s : ByteArray) (k : Nat) (h : k < s.size) (hc : ¬ (s[k].toNat : Int) = 48) (hd : dsp (s.data.toList.drop k) = 0) : false = finI (s.data.toList.drop k) := by
  rw [drop_at s k h] at hd ⊢
  rw [finI, if_neg (by omega), if_pos hd]
theorem cutB4 (s : ByteArray) (k : Nat) (h : ¬ k < s.size) : dsp (s.data.toList.drop k) = 0 ∧ false = finI (s.data.toList.drop k) := by
  rw [drop_end s k h]; exact ⟨rfl, rfl⟩
/-! The fraction. -/
theorem cutC1 (s : ByteArray) (k : Nat) (h : k < s.size) (hc : (s[k].toNat : Int) = 46) (hd : dsp (s.data.toList.drop (k + 1)) ≠ 0) : finF (s.data.toList.drop k) = finE (s.data.toList.drop (k + 1 + dsp (s.data.toList.drop (k + 1)))) := by
  rw [← List.drop_drop, drop_at s k h, finF, if_pos (by omega), if_neg hd]
theorem cutC2 (s : ByteArray) (k : Nat) (h : k < s.size) (hc : (s[k].toNat : Int) = 46) (hd : dsp (s.data.toList.drop (k + 1)) = 0) : false = finF (s.data.toList.drop k) := by
  rw [drop_at s k h, finF, if_pos (by omega), if_pos hd]
theorem cutC3 (s : ByteArray) (k : Nat) (h : k < s.size) (hc : ¬ (s[k].toNat : Int) = 46) : finF (s.data.toList.drop k) = finE (s.data.toList.drop k) := by
  rw [drop_at s k h, finF, if_neg (by omega)]
theorem cutC4 (s : ByteArray) (k : Nat) (h : ¬ k < s.size) : finF (s.data.toList.drop k) = finE (s.data.toList.drop k) := by
  rw [drop_end s k h]; rfl
/-! The exponent. -/
theorem cutD1 (s : ByteArray) (k : Nat) (h : k < s.size) (hc : (s[k].toNat : Int) = 101 ∨ (s[k].toNat : Int) = 69) : finE (s.data.toList.drop k) = allD (sgn (s.data.toList.drop (k + 1))) := by
  rw [drop_at s k h, finE, if_pos (by omega)]
theorem cutD2 (s : ByteArray) (k : Nat) (h : k < s.size) (hc : ¬ ((s[k].toNat : Int) = 101 ∨ (s[k].toNat : Int) = 69)) : ((k : Int) == (s.size : Int)) = finE (s.data.toList.drop k) := by
  rw [drop_at s k h, finE, if_neg (by omega)]; simp; omega
theorem cutD3 (s : ByteArray) (k : Nat) (hk : k ≤ s.size) (h : ¬ k < s.size) : ((k : Int) == (s.size : Int)) = finE (s.data.toList.drop k) := by
  rw [drop_end s k h]
  have : k = s.size := by omega
  simp [finE, this]
theorem cutE1 (s : ByteArray) (k : Nat) (h : k < s.size) (hc : (s[k].toNat : Int) = 43 ∨ (s[k].toNat : Int) = 45) : sgn (s.data.toList.drop k) = s.data.toList.drop (k + 1) := by
  rw [drop_at s k h, sgn, if_pos (by omega)]
theorem cutE2 (s : ByteArray) (k : Nat) (h : k < s.size) (hc : ¬ ((s[k].toNat : Int) = 43 ∨ (s[k].toNat : Int) = 45)) : sgn (s.data.toList.drop k) = s.data.toList.drop k := by
  rw [drop_at s k h, sgn, if_neg (by omega)]
theorem cutE3 (s : ByteArray) (k : Nat) (h : ¬ k < s.size) : sgn (s.data.toList.drop k) = s.data.toList.drop k := by
  rw [drop_end s k h]; rfl
theorem cutF1 (s : ByteArray) (k j : Nat) (hk : k ≤ s.size) (hd : dsp (s.data.toList.drop k) ≠ 0) (hj : j = k + dsp (s.data.toList.drop k)) : ((j : Int) == (s.size : Int)) = allD (s.data.toList.drop k) := by
  unfold allD
  have e : s.data.toList.length = s.size := by simp
  rw [List.length_drop, e, Bool.eq_iff_iff]
  simp only [beq_iff_eq, decide_eq_true_eq]
  omega
theorem cutF2 (s : ByteArray) (k : Nat) (hd : dsp (s.data.toList.drop k) = 0) : false = allD (s.data.toList.drop k) := by
  unfold allD; simp [hd]

set_option maxRecDepth 100000 in
set_option maxHeartbeats 1000000 in
theorem is_num (s : ByteArray) (w : World) (hs : s.size ≤ 1048576) :
    Calls Try.prog 29 #[.string s] w fun e w' => e = .returned (.bool (isNum s.data.toList)) ∧ w' = w := by
  go_enter Try.func29, Try.ntmps29
  iterate 18 go_step
  go_cut [3] (fun i wx => wx = w ∧ ∃ k : Nat, k ≤ s.size ∧ i = .int .i64 k ∧ Hid (isNum s.data.toList = finI (s.data.toList.drop k)))
  case first =>
    by_cases h : 0 < s.size
    · by_cases hc : (s[0].toNat : Int) = 45
      · have E : Hid ((s[0].toNat : Int) = 45) := hc
        have e : ((s[0].toNat : Int) == 45) = true := by simp [hc]
        clear hc
        go_wp2
        go_meet
        exact ⟨rfl, 1, by omega, rfl, cutA1 s h E.out⟩
      · have e : ((s[0].toNat : Int) == 45) = false := by simp only [beq_eq_false_iff_ne]; exact hc
        go_wp2
        go_meet
        exact ⟨rfl, 0, by omega, rfl, cutA2 s h hc⟩
    · go_wp2
      go_meet
      exact ⟨rfl, 0, by omega, rfl, cutA3 s h⟩
  case rest =>
    obtain ⟨hw, k, hk, rfl, HI⟩ := hcut
    obtain rfl := hw.symm
    iterate 2 go_step
    go_cut [3] (fun i wx => wx = w ∧ ∃ k : Nat, k ≤ s.size ∧ i = .int .i64 k ∧ Hid (isNum s.data.toList = finF (s.data.toList.drop k)))
    case first =>
      by_cases h : k < s.size
      · by_cases hc : (s[k].toNat : Int) = 48
        · have E : Hid ((s[k].toNat : Int) = 48) := hc
          have e : ((s[k].toNat : Int) == 48) = true := by simp [hc]
          clear hc
          go_wp2
          go_meet
          exact ⟨rfl, k + 1, by omega, by go_num, HI.out.trans (cutB1 s k h E.out)⟩
        · have e : ((s[k].toNat : Int) == 48) = false := by simp only [beq_eq_false_iff_ne]; exact hc
          by_cases hd : dsp (s.data.toList.drop k) = 0
          · have HD : Hid (dsp (s.data.toList.drop k) = 0) := hd
            clear hd
            go_wp2_with (go_at_call 34; refine (digits_no s _ k _ hs hk rfl HD.out).mono ?_; rintro e w' ⟨rfl, rfl⟩)
            go_ret
            exact ⟨ret_b (by rw [HI.out]; exact cutB3 s k h hc HD.out), rfl⟩
          · obtain ⟨j, hj⟩ : ∃ j, j = k + dsp (s.data.toList.drop k) := ⟨_, rfl⟩
            have hjs : j ≤ s.size := by rw [hj]; exact dsp_room s k hk
            have HJ : Hid (j = k + dsp (s.data.toList.drop k)) := hj
            have HD : Hid (dsp (s.data.toList.drop k) ≠ 0) := hd
            clear hd hj
            go_wp2_with (go_at_call 34; refine (digits_yes s _ k j _ hs hk rfl HD.out HJ.out).mono ?_; rintro e w' ⟨rfl, rfl⟩)
            go_meet
            exact ⟨rfl, j, hjs, rfl, HI.out.trans (by rw [HJ.out]; exact cutB2 s k h hc HD.out)⟩
      · go_wp2_with (go_at_call 34; refine (digits_no s _ k _ hs hk rfl (cutB4 s k h).1).mono ?_; rintro e w' ⟨rfl, rfl⟩)
        go_ret
        exact ⟨ret_b (by rw [HI.out]; exact (cutB4 s k h).2), rfl⟩
    case rest =>
      obtain ⟨hw, k, hk, rfl, HI⟩ := hcut
      obtain rfl := hw.symm
      iterate 2 go_step
      go_cut [3] (fun i wx => wx = w ∧ ∃ k : Nat, k ≤ s.size ∧ i = .int .i64 k ∧ Hid (isNum s.data.toList = finE (s.data.toList.drop k)))
      case first =>
        by_cases h : k < s.size
        · by_cases hc : (s[k].toNat : Int) = 46
          · have E : Hid ((s[k].toNat : Int) = 46) := hc
            have e : ((s[k].toNat : Int) == 46) = true := by simp [hc]
            clear hc
            by_cases hd : dsp (s.data.toList.drop (k + 1)) = 0
            · have HD : Hid (dsp (s.data.toList.drop (k + 1)) = 0) := hd
              clear hd
              go_wp2_with (go_at_call 34; refine (digits_no s _ (k + 1) _ hs (by omega) (by omega) HD.out).mono ?_; rintro e w' ⟨rfl, rfl⟩)
              go_ret
              exact ⟨ret_b (by rw [HI.out]; exact cutC2 s k h E.out HD.out), rfl⟩
            · obtain ⟨j, hj⟩ : ∃ j, j = k + 1 + dsp (s.data.toList.drop (k + 1)) := ⟨_, rfl⟩
              have hjs : j ≤ s.size := by rw [hj]; exact dsp_room s (k + 1) (by omega)
              have HJ : Hid (j = k + 1 + dsp (s.data.toList.drop (k + 1))) := hj
              have HD : Hid (dsp (s.data.toList.drop (k + 1)) ≠ 0) := hd
              clear hd hj
              go_wp2_with (go_at_call 34; refine (digits_yes s _ (k + 1) j _ hs (by omega) (by omega) HD.out HJ.out).mono ?_; rintro e w' ⟨rfl, rfl⟩)
              go_meet
              exact ⟨rfl, j, hjs, rfl, HI.out.trans (by rw [HJ.out]; exact cutC1 s k h E.out HD.out)⟩
          · have e : ((s[k].toNat : Int) == 46) = false := by simp only [beq_eq_false_iff_ne]; exact hc
            go_wp2
            go_meet
            exact ⟨rfl, k, hk, rfl, HI.out.trans (cutC3 s k h hc)⟩
        · go_wp2
          go_meet
          exact ⟨rfl, k, hk, rfl, HI.out.trans (cutC4 s k h)⟩
      case rest =>
        obtain ⟨hw, k, hk, rfl, HI⟩ := hcut
        obtain rfl := hw.symm
        by_cases h : k < s.size
        · by_cases hc : (s[k].toNat : Int) = 101 ∨ (s[k].toNat : Int) = 69
          · have HI : Hid (isNum s.data.toList = allD (sgn (s.data.toList.drop (k + 1)))) := HI.out.trans (cutD1 s k h hc)
            rcases hc with hc | hc
            · have e1 : ((s[k].toNat : Int) == 101) = true := by simp [hc]
              clear hc
              by_cases h1 : k + 1 < s.size
              · by_cases h43 : (s[k + 1].toNat : Int) = 43
                · have HX : Hid (sgn (s.data.toList.drop (k + 1)) = s.data.toList.drop (k + 1 + 1)) := cutE1 s (k + 1) h1 (.inl h43)
                  have s1 : ((s[k + 1].toNat : Int) == 43) = true := by simp [h43]
                  clear h43
                  by_cases hd : dsp (s.data.toList.drop (k + 1 + 1)) = 0
                  · have HD : Hid (dsp (s.data.toList.drop (k + 1 + 1)) = 0) := hd
                    clear hd
                    go_wp2_with (go_at_call 34; refine (digits_no s _ (k + 1 + 1) _ hs (by omega) (by omega) HD.out).mono ?_; rintro e w' ⟨rfl, rfl⟩)
                    go_ret
                    exact ⟨ret_b (by rw [HI.out, HX.out]; exact cutF2 s (k + 1 + 1) HD.out), rfl⟩
                  · obtain ⟨j, hj⟩ : ∃ j, j = (k + 1 + 1) + dsp (s.data.toList.drop (k + 1 + 1)) := ⟨_, rfl⟩
                    have hjs : j ≤ s.size := by rw [hj]; exact dsp_room s (k + 1 + 1) (by omega)
                    have HJ : Hid (j = (k + 1 + 1) + dsp (s.data.toList.drop (k + 1 + 1))) := hj
                    have HD : Hid (dsp (s.data.toList.drop (k + 1 + 1)) ≠ 0) := hd
                    clear hd hj
                    go_wp2_with (go_at_call 34; refine (digits_yes s _ (k + 1 + 1) j _ hs (by omega) (by omega) HD.out HJ.out).mono ?_; rintro e w' ⟨rfl, rfl⟩)
                    go_ret
                    exact ⟨ret_b (by rw [HI.out, HX.out]; exact cutF1 s (k + 1 + 1) j (by omega) HD.out HJ.out), rfl⟩
                · have s1 : ((s[k + 1].toNat : Int) == 43) = false := by simp only [beq_eq_false_iff_ne]; exact h43
                  by_cases h45 : (s[k + 1].toNat : Int) = 45
                  · have HX : Hid (sgn (s.data.toList.drop (k + 1)) = s.data.toList.drop (k + 1 + 1)) := cutE1 s (k + 1) h1 (.inr h45)
                    have s2 : ((s[k + 1].toNat : Int) == 45) = true := by simp [h45]
                    clear h45 h43
                    by_cases hd : dsp (s.data.toList.drop (k + 1 + 1)) = 0
                    · have HD : Hid (dsp (s.data.toList.drop (k + 1 + 1)) = 0) := hd
                      clear hd
                      go_wp2_with (go_at_call 34; refine (digits_no s _ (k + 1 + 1) _ hs (by omega) (by omega) HD.out).mono ?_; rintro e w' ⟨rfl, rfl⟩)
                      go_ret
                      exact ⟨ret_b (by rw [HI.out, HX.out]; exact cutF2 s (k + 1 + 1) HD.out), rfl⟩
                    · obtain ⟨j, hj⟩ : ∃ j, j = (k + 1 + 1) + dsp (s.data.toList.drop (k + 1 + 1)) := ⟨_, rfl⟩
                      have hjs : j ≤ s.size := by rw [hj]; exact dsp_room s (k + 1 + 1) (by omega)
                      have HJ : Hid (j = (k + 1 + 1) + dsp (s.data.toList.drop (k + 1 + 1))) := hj
                      have HD : Hid (dsp (s.data.toList.drop (k + 1 + 1)) ≠ 0) := hd
                      clear hd hj
                      go_wp2_with (go_at_call 34; refine (digits_yes s _ (k + 1 + 1) j _ hs (by omega) (by omega) HD.out HJ.out).mono ?_; rintro e w' ⟨rfl, rfl⟩)
                      go_ret
                      exact ⟨ret_b (by rw [HI.out, HX.out]; exact cutF1 s (k + 1 + 1) j (by omega) HD.out HJ.out), rfl⟩
                  · have HX : Hid (sgn (s.data.toList.drop (k + 1)) = s.data.toList.drop (k + 1)) := cutE2 s (k + 1) h1 (by omega)
                    have s2 : ((s[k + 1].toNat : Int) == 45) = false := by simp only [beq_eq_false_iff_ne]; exact h45
                    clear h45 h43
                    by_cases hd : dsp (s.data.toList.drop (k + 1)) = 0
                    · have HD : Hid (dsp (s.data.toList.drop (k + 1)) = 0) := hd
                      clear hd
                      go_wp2_with (go_at_call 34; refine (digits_no s _ (k + 1) _ hs (by omega) (by omega) HD.out).mono ?_; rintro e w' ⟨rfl, rfl⟩)
                      go_ret
                      exact ⟨ret_b (by rw [HI.out, HX.out]; exact cutF2 s (k + 1) HD.out), rfl⟩
                    · obtain ⟨j, hj⟩ : ∃ j, j = (k + 1) + dsp (s.data.toList.drop (k + 1)) := ⟨_, rfl⟩
                      have hjs : j ≤ s.size := by rw [hj]; exact dsp_room s (k + 1) (by omega)
                      have HJ : Hid (j = (k + 1) + dsp (s.data.toList.drop (k + 1))) := hj
                      have HD : Hid (dsp (s.data.toList.drop (k + 1)) ≠ 0) := hd
                      clear hd hj
                      go_wp2_with (go_at_call 34; refine (digits_yes s _ (k + 1) j _ hs (by omega) (by omega) HD.out HJ.out).mono ?_; rintro e w' ⟨rfl, rfl⟩)
                      go_ret
                      exact ⟨ret_b (by rw [HI.out, HX.out]; exact cutF1 s (k + 1) j (by omega) HD.out HJ.out), rfl⟩
              · have HX : Hid (sgn (s.data.toList.drop (k + 1)) = s.data.toList.drop (k + 1)) := cutE3 s (k + 1) h1
                by_cases hd : dsp (s.data.toList.drop (k + 1)) = 0
                · have HD : Hid (dsp (s.data.toList.drop (k + 1)) = 0) := hd
                  clear hd
                  go_wp2_with (go_at_call 34; refine (digits_no s _ (k + 1) _ hs (by omega) (by omega) HD.out).mono ?_; rintro e w' ⟨rfl, rfl⟩)
                  go_ret
                  exact ⟨ret_b (by rw [HI.out, HX.out]; exact cutF2 s (k + 1) HD.out), rfl⟩
                · obtain ⟨j, hj⟩ : ∃ j, j = (k + 1) + dsp (s.data.toList.drop (k + 1)) := ⟨_, rfl⟩
                  have hjs : j ≤ s.size := by rw [hj]; exact dsp_room s (k + 1) (by omega)
                  have HJ : Hid (j = (k + 1) + dsp (s.data.toList.drop (k + 1))) := hj
                  have HD : Hid (dsp (s.data.toList.drop (k + 1)) ≠ 0) := hd
                  clear hd hj
                  go_wp2_with (go_at_call 34; refine (digits_yes s _ (k + 1) j _ hs (by omega) (by omega) HD.out HJ.out).mono ?_; rintro e w' ⟨rfl, rfl⟩)
                  go_ret
                  exact ⟨ret_b (by rw [HI.out, HX.out]; exact cutF1 s (k + 1) j (by omega) HD.out HJ.out), rfl⟩
            · have e1 : ((s[k].toNat : Int) == 101) = false := by simp only [beq_eq_false_iff_ne]; omega
              have e2 : ((s[k].toNat : Int) == 69) = true := by simp [hc]
              clear hc
              by_cases h1 : k + 1 < s.size
              · by_cases h43 : (s[k + 1].toNat : Int) = 43
                · have HX : Hid (sgn (s.data.toList.drop (k + 1)) = s.data.toList.drop (k + 1 + 1)) := cutE1 s (k + 1) h1 (.inl h43)
                  have s1 : ((s[k + 1].toNat : Int) == 43) = true := by simp [h43]
                  clear h43
                  by_cases hd : dsp (s.data.toList.drop (k + 1 + 1)) = 0
                  · have HD : Hid (dsp (s.data.toList.drop (k + 1 + 1)) = 0) := hd
                    clear hd
                    go_wp2_with (go_at_call 34; refine (digits_no s _ (k + 1 + 1) _ hs (by omega) (by omega) HD.out).mono ?_; rintro e w' ⟨rfl, rfl⟩)
                    go_ret
                    exact ⟨ret_b (by rw [HI.out, HX.out]; exact cutF2 s (k + 1 + 1) HD.out), rfl⟩
                  · obtain ⟨j, hj⟩ : ∃ j, j = (k + 1 + 1) + dsp (s.data.toList.drop (k + 1 + 1)) := ⟨_, rfl⟩
                    have hjs : j ≤ s.size := by rw [hj]; exact dsp_room s (k + 1 + 1) (by omega)
                    have HJ : Hid (j = (k + 1 + 1) + dsp (s.data.toList.drop (k + 1 + 1))) := hj
                    have HD : Hid (dsp (s.data.toList.drop (k + 1 + 1)) ≠ 0) := hd
                    clear hd hj
                    go_wp2_with (go_at_call 34; refine (digits_yes s _ (k + 1 + 1) j _ hs (by omega) (by omega) HD.out HJ.out).mono ?_; rintro e w' ⟨rfl, rfl⟩)
                    go_ret
                    exact ⟨ret_b (by rw [HI.out, HX.out]; exact cutF1 s (k + 1 + 1) j (by omega) HD.out HJ.out), rfl⟩
                · have s1 : ((s[k + 1].toNat : Int) == 43) = false := by simp only [beq_eq_false_iff_ne]; exact h43
                  by_cases h45 : (s[k + 1].toNat : Int) = 45
                  · have HX : Hid (sgn (s.data.toList.drop (k + 1)) = s.data.toList.drop (k + 1 + 1)) := cutE1 s (k + 1) h1 (.inr h45)
                    have s2 : ((s[k + 1].toNat : Int) == 45) = true := by simp [h45]
                    clear h45 h43
                    by_cases hd : dsp (s.data.toList.drop (k + 1 + 1)) = 0
                    · have HD : Hid (dsp (s.data.toList.drop (k + 1 + 1)) = 0) := hd
                      clear hd
                      go_wp2_with (go_at_call 34; refine (digits_no s _ (k + 1 + 1) _ hs (by omega) (by omega) HD.out).mono ?_; rintro e w' ⟨rfl, rfl⟩)
                      go_ret
                      exact ⟨ret_b (by rw [HI.out, HX.out]; exact cutF2 s (k + 1 + 1) HD.out), rfl⟩
                    · obtain ⟨j, hj⟩ : ∃ j, j = (k + 1 + 1) + dsp (s.data.toList.drop (k + 1 + 1)) := ⟨_, rfl⟩
                      have hjs : j ≤ s.size := by rw [hj]; exact dsp_room s (k + 1 + 1) (by omega)
                      have HJ : Hid (j = (k + 1 + 1) + dsp (s.data.toList.drop (k + 1 + 1))) := hj
                      have HD : Hid (dsp (s.data.toList.drop (k + 1 + 1)) ≠ 0) := hd
                      clear hd hj
                      go_wp2_with (go_at_call 34; refine (digits_yes s _ (k + 1 + 1) j _ hs (by omega) (by omega) HD.out HJ.out).mono ?_; rintro e w' ⟨rfl, rfl⟩)
                      go_ret
                      exact ⟨ret_b (by rw [HI.out, HX.out]; exact cutF1 s (k + 1 + 1) j (by omega) HD.out HJ.out), rfl⟩
                  · have HX : Hid (sgn (s.data.toList.drop (k + 1)) = s.data.toList.drop (k + 1)) := cutE2 s (k + 1) h1 (by omega)
                    have s2 : ((s[k + 1].toNat : Int) == 45) = false := by simp only [beq_eq_false_iff_ne]; exact h45
                    clear h45 h43
                    by_cases hd : dsp (s.data.toList.drop (k + 1)) = 0
                    · have HD : Hid (dsp (s.data.toList.drop (k + 1)) = 0) := hd
                      clear hd
                      go_wp2_with (go_at_call 34; refine (digits_no s _ (k + 1) _ hs (by omega) (by omega) HD.out).mono ?_; rintro e w' ⟨rfl, rfl⟩)
                      go_ret
                      exact ⟨ret_b (by rw [HI.out, HX.out]; exact cutF2 s (k + 1) HD.out), rfl⟩
                    · obtain ⟨j, hj⟩ : ∃ j, j = (k + 1) + dsp (s.data.toList.drop (k + 1)) := ⟨_, rfl⟩
                      have hjs : j ≤ s.size := by rw [hj]; exact dsp_room s (k + 1) (by omega)
                      have HJ : Hid (j = (k + 1) + dsp (s.data.toList.drop (k + 1))) := hj
                      have HD : Hid (dsp (s.data.toList.drop (k + 1)) ≠ 0) := hd
                      clear hd hj
                      go_wp2_with (go_at_call 34; refine (digits_yes s _ (k + 1) j _ hs (by omega) (by omega) HD.out HJ.out).mono ?_; rintro e w' ⟨rfl, rfl⟩)
                      go_ret
                      exact ⟨ret_b (by rw [HI.out, HX.out]; exact cutF1 s (k + 1) j (by omega) HD.out HJ.out), rfl⟩
              · have HX : Hid (sgn (s.data.toList.drop (k + 1)) = s.data.toList.drop (k + 1)) := cutE3 s (k + 1) h1
                by_cases hd : dsp (s.data.toList.drop (k + 1)) = 0
                · have HD : Hid (dsp (s.data.toList.drop (k + 1)) = 0) := hd
                  clear hd
                  go_wp2_with (go_at_call 34; refine (digits_no s _ (k + 1) _ hs (by omega) (by omega) HD.out).mono ?_; rintro e w' ⟨rfl, rfl⟩)
                  go_ret
                  exact ⟨ret_b (by rw [HI.out, HX.out]; exact cutF2 s (k + 1) HD.out), rfl⟩
                · obtain ⟨j, hj⟩ : ∃ j, j = (k + 1) + dsp (s.data.toList.drop (k + 1)) := ⟨_, rfl⟩
                  have hjs : j ≤ s.size := by rw [hj]; exact dsp_room s (k + 1) (by omega)
                  have HJ : Hid (j = (k + 1) + dsp (s.data.toList.drop (k + 1))) := hj
                  have HD : Hid (dsp (s.data.toList.drop (k + 1)) ≠ 0) := hd
                  clear hd hj
                  go_wp2_with (go_at_call 34; refine (digits_yes s _ (k + 1) j _ hs (by omega) (by omega) HD.out HJ.out).mono ?_; rintro e w' ⟨rfl, rfl⟩)
                  go_ret
                  exact ⟨ret_b (by rw [HI.out, HX.out]; exact cutF1 s (k + 1) j (by omega) HD.out HJ.out), rfl⟩
          · have e1 : ((s[k].toNat : Int) == 101) = false := by simp only [beq_eq_false_iff_ne]; omega
            have e2 : ((s[k].toNat : Int) == 69) = false := by simp only [beq_eq_false_iff_ne]; omega
            have HC : Hid (¬ ((s[k].toNat : Int) = 101 ∨ (s[k].toNat : Int) = 69)) := hc
            clear hc
            go_wp2
            go_ret
            exact ⟨ret_b (by rw [HI.out]; exact cutD2 s k h HC.out), rfl⟩
        · go_wp2
          go_ret
          exact ⟨ret_b (by rw [HI.out]; exact cutD3 s k hk h), rfl⟩
end Go.Proofs.Qxb6000674a
