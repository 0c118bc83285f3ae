/-
  The walk of fmtb1NumberAutomaton (14).
-/
import Derived.Test.Qxb6000674aNumWalk
namespace Go.Proofs.Qxb6000674a
open Go.RowKit

theorem idx (s : ByteArray) (k : Nat) (h : k < s.size) (w : World) : (Instr.index 9 (.string s) (.int .i64 (k : Int))).run Try.prog w = .ok (.int .u8 (s[k].toNat : Int)) w := by
  have h1 : (k : Int) < (s.size : Int) := by omega
  go_simp

set_option maxRecDepth 100000 in
set_option maxHeartbeats 4000000 in
theorem automaton (s : ByteArray) (w : World) (hs : s.size ≤ 1048576) :
    Calls Try.prog 14 #[.string s] w fun e w' => e = .returned (.bool (aut 0 s.data.toList)) ∧ w' = w := by
  go_enter Try.func14, Try.ntmps14
  go_wp2
  go_loop [3, 4] (fun a j => ∃ (k : Nat) (st : Int), k ≤ s.size ∧ 0 ≤ st ∧ st ≤ 8 ∧ j = .int .i64 k ∧ a = .int .i64 st ∧ Hid (aut st (s.data.toList.drop k) = aut 0 s.data.toList)) (fun _ j => s.size - (intOf j).toNat)
  case atStart => exact ⟨0, 0, Nat.zero_le _, by omega, by omega, rfl, rfl, rfl⟩
  case round =>
    obtain ⟨k, st, hk, hs0, hs8, rfl, rfl, HK⟩ := hrel
    by_cases hlt : k < s.size
    · obtain ⟨u, t, c, HU, HC, hix, h0⟩ : ∃ (u : UInt8) (t : List UInt8) (c : Int), Hid (t = s.data.toList.drop (k + 1) ∧ s.data.toList.drop k = u :: t) ∧ Hid ((u.toNat : Int) = c) ∧ (∀ w, (Instr.index 9 (.string s) (.int .i64 (k : Int))).run Try.prog w = .ok (.int .u8 c) w) ∧ 0 ≤ c :=
        ⟨s[k], _, _, ⟨rfl, drop_at s k hlt⟩, rfl, idx s k hlt, by omega⟩
      have HK : Hid (aut st (u :: t) = aut 0 s.data.toList) := by have := HK.out; rw [HU.out.2] at this; exact this
      have HT : Hid (t = s.data.toList.drop (k + 1)) := HU.out.1
      clear HU
      obtain rfl | rfl | rfl | rfl | rfl | rfl | rfl | rfl | rfl : st = 0 ∨ st = 1 ∨ st = 2 ∨ st = 3 ∨ st = 4 ∨ st = 5 ∨ st = 6 ∨ st = 7 ∨ st = 8 := by omega
      · rcases (show (c = 43 ∨ c = 45 ∨ c = 46 ∨ c = 48 ∨ c = 69 ∨ c = 101) ∨ (49 ≤ c ∧ c ≤ 57) ∨ (c < 48 ∧ c ≠ 43 ∧ c ≠ 45 ∧ c ≠ 46) ∨ (57 < c ∧ c ≠ 69 ∧ c ≠ 101) by omega) with hx | hc | hc | hc
        · obtain rfl | rfl | rfl | rfl | rfl | rfl := hx
          all_goals
            go_wp2
            first
            | (go_round
               case rel => exact ⟨k + 1, _, by omega, by omega, by omega, by go_num, rfl, HT.out ▸ aut_step HK.out (by rw [HC.out, stp_0]; unfold stp0; (repeat' split) <;> omega) (by decide)⟩
               case measure => simp [intOf]; omega)
            | (go_ret
               exact ⟨ret_b (aut_fail HK.out (by rw [HC.out, stp_0]; unfold stp0; (repeat' split) <;> omega)), rfl⟩)
        all_goals
          have f43 : (c == 43) = false := by simp only [beq_eq_false_iff_ne]; omega
          have f45 : (c == 45) = false := by simp only [beq_eq_false_iff_ne]; omega
          have f46 : (c == 46) = false := by simp only [beq_eq_false_iff_ne]; omega
          have f48 : (c == 48) = false := by simp only [beq_eq_false_iff_ne]; omega
          have f69 : (c == 69) = false := by simp only [beq_eq_false_iff_ne]; omega
          have f101 : (c == 101) = false := by simp only [beq_eq_false_iff_ne]; omega
          go_wp2
          first
          | (go_round
             case rel => exact ⟨k + 1, _, by omega, by omega, by omega, by go_num, rfl, HT.out ▸ aut_step HK.out (by rw [HC.out, stp_0]; unfold stp0; (repeat' split) <;> omega) (by decide)⟩
             case measure => simp [intOf]; omega)
          | (go_ret
             exact ⟨ret_b (aut_fail HK.out (by rw [HC.out, stp_0]; unfold stp0; (repeat' split) <;> omega)), rfl⟩)
      · rcases (show (c = 43 ∨ c = 45 ∨ c = 46 ∨ c = 48 ∨ c = 69 ∨ c = 101) ∨ (49 ≤ c ∧ c ≤ 57) ∨ (c < 48 ∧ c ≠ 43 ∧ c ≠ 45 ∧ c ≠ 46) ∨ (57 < c ∧ c ≠ 69 ∧ c ≠ 101) by omega) with hx | hc | hc | hc
        · obtain rfl | rfl | rfl | rfl | rfl | rfl := hx
          all_goals
            go_wp2
            first
            | (go_round
               case rel => exact ⟨k + 1, _, by omega, by omega, by omega, by go_num, rfl, HT.out ▸ aut_step HK.out (by rw [HC.out, stp_1]; unfold stp1; (repeat' split) <;> omega) (by decide)⟩
               case measure => simp [intOf]; omega)
            | (go_ret
               exact ⟨ret_b (aut_fail HK.out (by rw [HC.out, stp_1]; unfold stp1; (repeat' split) <;> omega)), rfl⟩)
        all_goals
          have f43 : (c == 43) = false := by simp only [beq_eq_false_iff_ne]; omega
          have f45 : (c == 45) = false := by simp only [beq_eq_false_iff_ne]; omega
          have f46 : (c == 46) = false := by simp only [beq_eq_false_iff_ne]; omega
          have f48 : (c == 48) = false := by simp only [beq_eq_false_iff_ne]; omega
          have f69 : (c == 69) = false := by simp only [beq_eq_false_iff_ne]; omega
          have f101 : (c == 101) = false := by simp only [beq_eq_false_iff_ne]; omega
          go_wp2
          first
          | (go_round
             case rel => exact ⟨k + 1, _, by omega, by omega, by omega, by go_num, rfl, HT.out ▸ aut_step HK.out (by rw [HC.out, stp_1]; unfold stp1; (repeat' split) <;> omega) (by decide)⟩
             case measure => simp [intOf]; omega)
          | (go_ret
             exact ⟨ret_b (aut_fail HK.out (by rw [HC.out, stp_1]; unfold stp1; (repeat' split) <;> omega)), rfl⟩)
      · rcases (show (c = 43 ∨ c = 45 ∨ c = 46 ∨ c = 48 ∨ c = 69 ∨ c = 101) ∨ (49 ≤ c ∧ c ≤ 57) ∨ (c < 48 ∧ c ≠ 43 ∧ c ≠ 45 ∧ c ≠ 46) ∨ (57 < c ∧ c ≠ 69 ∧ c ≠ 101) by omega) with hx | hc | hc | hc
        · obtain rfl | rfl | rfl | rfl | rfl | rfl := hx
          all_goals
            go_wp2
            first
            | (go_round
               case rel => exact ⟨k + 1, _, by omega, by omega, by omega, by go_num, rfl, HT.out ▸ aut_step HK.out (by rw [HC.out, stp_2]; unfold stp2; (repeat' split) <;> omega) (by decide)⟩
               case measure => simp [intOf]; omega)
            | (go_ret
               exact ⟨ret_b (aut_fail HK.out (by rw [HC.out, stp_2]; unfold stp2; (repeat' split) <;> omega)), rfl⟩)
        all_goals
          have f43 : (c == 43) = false := by simp only [beq_eq_false_iff_ne]; omega
          have f45 : (c == 45) = false := by simp only [beq_eq_false_iff_ne]; omega
          have f46 : (c == 46) = false := by simp only [beq_eq_false_iff_ne]; omega
          have f48 : (c == 48) = false := by simp only [beq_eq_false_iff_ne]; omega
          have f69 : (c == 69) = false := by simp only [beq_eq_false_iff_ne]; omega
          have f101 : (c == 101) = false := by simp only [beq_eq_false_iff_ne]; omega
          go_wp2
          first
          | (go_round
             case rel => exact ⟨k + 1, _, by omega, by omega, by omega, by go_num, rfl, HT.out ▸ aut_step HK.out (by rw [HC.out, stp_2]; unfold stp2; (repeat' split) <;> omega) (by decide)⟩
             case measure => simp [intOf]; omega)
          | (go_ret
             exact ⟨ret_b (aut_fail HK.out (by rw [HC.out, stp_2]; unfold stp2; (repeat' split) <;> omega)), rfl⟩)
      · rcases (show (c = 43 ∨ c = 45 ∨ c = 46 ∨ c = 48 ∨ c = 69 ∨ c = 101) ∨ (49 ≤ c ∧ c ≤ 57) ∨ (c < 48 ∧ c ≠ 43 ∧ c ≠ 45 ∧ c ≠ 46) ∨ (57 < c ∧ c ≠ 69 ∧ c ≠ 101) by omega) with hx | hc | hc | hc
        · obtain rfl | rfl | rfl | rfl | rfl | rfl := hx
          all_goals
            go_wp2
            first
            | (go_round
               case rel => exact ⟨k + 1, _, by omega, by omega, by omega, by go_num, rfl, HT.out ▸ aut_step HK.out (by rw [HC.out, stp_3]; unfold stp3; (repeat' split) <;> omega) (by decide)⟩
               case measure => simp [intOf]; omega)
            | (go_ret
               exact ⟨ret_b (aut_fail HK.out (by rw [HC.out, stp_3]; unfold stp3; (repeat' split) <;> omega)), rfl⟩)
        all_goals
          have f43 : (c == 43) = false := by simp only [beq_eq_false_iff_ne]; omega
          have f45 : (c == 45) = false := by simp only [beq_eq_false_iff_ne]; omega
          have f46 : (c == 46) = false := by simp only [beq_eq_false_iff_ne]; omega
          have f48 : (c == 48) = false := by simp only [beq_eq_false_iff_ne]; omega
          have f69 : (c == 69) = false := by simp only [beq_eq_false_iff_ne]; omega
          have f101 : (c == 101) = false := by simp only [beq_eq_false_iff_ne]; omega
          go_wp2
          first
          | (go_round
             case rel => exact ⟨k + 1, _, by omega, by omega, by omega, by go_num, rfl, HT.out ▸ aut_step HK.out (by rw [HC.out, stp_3]; unfold stp3; (repeat' split) <;> omega) (by decide)⟩
             case measure => simp [intOf]; omega)
          | (go_ret
             exact ⟨ret_b (aut_fail HK.out (by rw [HC.out, stp_3]; unfold stp3; (repeat' split) <;> omega)), rfl⟩)
      · rcases (show (c = 43 ∨ c = 45 ∨ c = 46 ∨ c = 48 ∨ c = 69 ∨ c = 101) ∨ (49 ≤ c ∧ c ≤ 57) ∨ (c < 48 ∧ c ≠ 43 ∧ c ≠ 45 ∧ c ≠ 46) ∨ (57 < c ∧ c ≠ 69 ∧ c ≠ 101) by omega) with hx | hc | hc | hc
        · obtain rfl | rfl | rfl | rfl | rfl | rfl := hx
          all_goals
            go_wp2
            first
            | (go_round
               case rel => exact ⟨k + 1, _, by omega, by omega, by omega, by go_num, rfl, HT.out ▸ aut_step HK.out (by rw [HC.out, stp_4]; unfold stp4; (repeat' split) <;> omega) (by decide)⟩
               case measure => simp [intOf]; omega)
            | (go_ret
               exact ⟨ret_b (aut_fail HK.out (by rw [HC.out, stp_4]; unfold stp4; (repeat' split) <;> omega)), rfl⟩)
        all_goals
          have f43 : (c == 43) = false := by simp only [beq_eq_false_iff_ne]; omega
          have f45 : (c == 45) = false := by simp only [beq_eq_false_iff_ne]; omega
          have f46 : (c == 46) = false := by simp only [beq_eq_false_iff_ne]; omega
          have f48 : (c == 48) = false := by simp only [beq_eq_false_iff_ne]; omega
          have f69 : (c == 69) = false := by simp only [beq_eq_false_iff_ne]; omega
          have f101 : (c == 101) = false := by simp only [beq_eq_false_iff_ne]; omega
          go_wp2
          first
          | (go_round
             case rel => exact ⟨k + 1, _, by omega, by omega, by omega, by go_num, rfl, HT.out ▸ aut_step HK.out (by rw [HC.out, stp_4]; unfold stp4; (repeat' split) <;> omega) (by decide)⟩
             case measure => simp [intOf]; omega)
          | (go_ret
             exact ⟨ret_b (aut_fail HK.out (by rw [HC.out, stp_4]; unfold stp4; (repeat' split) <;> omega)), rfl⟩)
      · rcases (show (c = 43 ∨ c = 45 ∨ c = 46 ∨ c = 48 ∨ c = 69 ∨ c = 101) ∨ (49 ≤ c ∧ c ≤ 57) ∨ (c < 48 ∧ c ≠ 43 ∧ c ≠ 45 ∧ c ≠ 46) ∨ (57 < c ∧ c ≠ 69 ∧ c ≠ 101) by omega) with hx | hc | hc | hc
        · obtain rfl | rfl | rfl | rfl | rfl | rfl := hx
          all_goals
            go_wp2
            first
            | (go_round
               case rel => exact ⟨k + 1, _, by omega, by omega, by omega, by go_num, rfl, HT.out ▸ aut_step HK.out (by rw [HC.out, stp_5]; unfold stp5; (repeat' split) <;> omega) (by decide)⟩
               case measure => simp [intOf]; omega)
            | (go_ret
               exact ⟨ret_b (aut_fail HK.out (by rw [HC.out, stp_5]; unfold stp5; (repeat' split) <;> omega)), rfl⟩)
        all_goals
          have f43 : (c == 43) = false := by simp only [beq_eq_false_iff_ne]; omega
          have f45 : (c == 45) = false := by simp only [beq_eq_false_iff_ne]; omega
          have f46 : (c == 46) = false := by simp only [beq_eq_false_iff_ne]; omega
          have f48 : (c == 48) = false := by simp only [beq_eq_false_iff_ne]; omega
          have f69 : (c == 69) = false := by simp only [beq_eq_false_iff_ne]; omega
          have f101 : (c == 101) = false := by simp only [beq_eq_false_iff_ne]; omega
          go_wp2
          first
          | (go_round
             case rel => exact ⟨k + 1, _, by omega, by omega, by omega, by go_num, rfl, HT.out ▸ aut_step HK.out (by rw [HC.out, stp_5]; unfold stp5; (repeat' split) <;> omega) (by decide)⟩
             case measure => simp [intOf]; omega)
          | (go_ret
             exact ⟨ret_b (aut_fail HK.out (by rw [HC.out, stp_5]; unfold stp5; (repeat' split) <;> omega)), rfl⟩)
      · rcases (show (c = 43 ∨ c = 45 ∨ c = 46 ∨ c = 48 ∨ c = 69 ∨ c = 101) ∨ (49 ≤ c ∧ c ≤ 57) ∨ (c < 48 ∧ c ≠ 43 ∧ c ≠ 45 ∧ c ≠ 46) ∨ (57 < c ∧ c ≠ 69 ∧ c ≠ 101) by omega) with hx | hc | hc | hc
        · obtain rfl | rfl | rfl | rfl | rfl | rfl := hx
          all_goals
            go_wp2
            first
            | (go_round
               case rel => exact ⟨k + 1, _, by omega, by omega, by omega, by go_num, rfl, HT.out ▸ aut_step HK.out (by rw [HC.out, stp_6]; unfold stp6; (repeat' split) <;> omega) (by decide)⟩
               case measure => simp [intOf]; omega)
            | (go_ret
               exact ⟨ret_b (aut_fail HK.out (by rw [HC.out, stp_6]; unfold stp6; (repeat' split) <;> omega)), rfl⟩)
        all_goals
          have f43 : (c == 43) = false := by simp only [beq_eq_false_iff_ne]; omega
          have f45 : (c == 45) = false := by simp only [beq_eq_false_iff_ne]; omega
          have f46 : (c == 46) = false := by simp only [beq_eq_false_iff_ne]; omega
          have f48 : (c == 48) = false := by simp only [beq_eq_false_iff_ne]; omega
          have f69 : (c == 69) = false := by simp only [beq_eq_false_iff_ne]; omega
          have f101 : (c == 101) = false := by simp only [beq_eq_false_iff_ne]; omega
          go_wp2
          first
          | (go_round
             case rel => exact ⟨k + 1, _, by omega, by omega, by omega, by go_num, rfl, HT.out ▸ aut_step HK.out (by rw [HC.out, stp_6]; unfold stp6; (repeat' split) <;> omega) (by decide)⟩
             case measure => simp [intOf]; omega)
          | (go_ret
             exact ⟨ret_b (aut_fail HK.out (by rw [HC.out, stp_6]; unfold stp6; (repeat' split) <;> omega)), rfl⟩)
      · rcases (show (c = 43 ∨ c = 45 ∨ c = 46 ∨ c = 48 ∨ c = 69 ∨ c = 101) ∨ (49 ≤ c ∧ c ≤ 57) ∨ (c < 48 ∧ c ≠ 43 ∧ c ≠ 45 ∧ c ≠ 46) ∨ (57 < c ∧ c ≠ 69 ∧ c ≠ 101) by omega) with hx | hc | hc | hc
        · obtain rfl | rfl | rfl | rfl | rfl | rfl := hx
          all_goals
            go_wp2
            first
            | (go_round
               case rel => exact ⟨k + 1, _, by omega, by omega, by omega, by go_num, rfl, HT.out ▸ aut_step HK.out (by rw [HC.out, stp_7]; unfold stp7; (repeat' split) <;> omega) (by decide)⟩
               case measure => simp [intOf]; omega)
            | (go_ret
               exact ⟨ret_b (aut_fail HK.out (by rw [HC.out, stp_7]; unfold stp7; (repeat' split) <;> omega)), rfl⟩)
        all_goals
          have f43 : (c == 43) = false := by simp only [beq_eq_false_iff_ne]; omega
          have f45 : (c == 45) = false := by simp only [beq_eq_false_iff_ne]; omega
          have f46 : (c == 46) = false := by simp only [beq_eq_false_iff_ne]; omega
          have f48 : (c == 48) = false := by simp only [beq_eq_false_iff_ne]; omega
          have f69 : (c == 69) = false := by simp only [beq_eq_false_iff_ne]; omega
          have f101 : (c == 101) = false := by simp only [beq_eq_false_iff_ne]; omega
          go_wp2
          first
          | (go_round
             case rel => exact ⟨k + 1, _, by omega, by omega, by omega, by go_num, rfl, HT.out ▸ aut_step HK.out (by rw [HC.out, stp_7]; unfold stp7; (repeat' split) <;> omega) (by decide)⟩
             case measure => simp [intOf]; omega)
          | (go_ret
             exact ⟨ret_b (aut_fail HK.out (by rw [HC.out, stp_7]; unfold stp7; (repeat' split) <;> omega)), rfl⟩)
      · rcases (show (c = 43 ∨ c = 45 ∨ c = 46 ∨ c = 48 ∨ c = 69 ∨ c = 101) ∨ (49 ≤ c ∧ c ≤ 57) ∨ (c < 48 ∧ c ≠ 43 ∧ c ≠ 45 ∧ c ≠ 46) ∨ (57 < c ∧ c ≠ 69 ∧ c ≠ 101) by omega) with hx | hc | hc | hc
        · obtain rfl | rfl | rfl | rfl | rfl | rfl := hx
          all_goals
            go_wp2
            first
            | (go_round
               case rel => exact ⟨k + 1, _, by omega, by omega, by omega, by go_num, rfl, HT.out ▸ aut_step HK.out (by rw [HC.out, stp_8]; unfold stp7; (repeat' split) <;> omega) (by decide)⟩
               case measure => simp [intOf]; omega)
            | (go_ret
               exact ⟨ret_b (aut_fail HK.out (by rw [HC.out, stp_8]; unfold stp7; (repeat' split) <;> omega)), rfl⟩)
        all_goals
          have f43 : (c == 43) = false := by simp only [beq_eq_false_iff_ne]; omega
          have f45 : (c == 45) = false := by simp only [beq_eq_false_iff_ne]; omega
          have f46 : (c == 46) = false := by simp only [beq_eq_false_iff_ne]; omega
          have f48 : (c == 48) = false := by simp only [beq_eq_false_iff_ne]; omega
          have f69 : (c == 69) = false := by simp only [beq_eq_false_iff_ne]; omega
          have f101 : (c == 101) = false := by simp only [beq_eq_false_iff_ne]; omega
          go_wp2
          first
          | (go_round
             case rel => exact ⟨k + 1, _, by omega, by omega, by omega, by go_num, rfl, HT.out ▸ aut_step HK.out (by rw [HC.out, stp_8]; unfold stp7; (repeat' split) <;> omega) (by decide)⟩
             case measure => simp [intOf]; omega)
          | (go_ret
             exact ⟨ret_b (aut_fail HK.out (by rw [HC.out, stp_8]; unfold stp7; (repeat' split) <;> omega)), rfl⟩)
    · have HE : Hid (s.data.toList.drop k = []) := drop_end s k hlt
      have HK : Hid (aut st [] = aut 0 s.data.toList) := by have := HK.out; rw [HE.out] at this; exact this
      clear HE
      obtain rfl | rfl | rfl | rfl | rfl | rfl | rfl | rfl | rfl : st = 0 ∨ st = 1 ∨ st = 2 ∨ st = 3 ∨ st = 4 ∨ st = 5 ∨ st = 6 ∨ st = 7 ∨ st = 8 := by omega
      all_goals
        go_wp2
        go_ret
        exact ⟨ret_b (by rw [← HK.out]; rfl), rfl⟩
end Go.Proofs.Qxb6000674a
