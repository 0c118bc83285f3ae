/-
  The walks of zzLastPut (32), zzSumPieces (35), zzTakeFits (29) and the two zzBytes (28, 34).
-/
import Derived.Test.Qxb6000464aClones
namespace Go.Proofs.Qxb6000464a
open Go.RowKit Go.Deep

/-- It returns a bool; if true, p holds. -/
def BoolSo (e : Ending) (p : Prop) : Prop := ∃ b : Bool, e = .returned (.bool b) ∧ (b = true → p)

/-- The last index below n at which q holds s. -/
def lastPut (q : Nat → Int) (s : Int) : Nat → Option Nat
  | 0 => none
  | n + 1 => if q n = s then some n else lastPut q s n
def lpInt (o : Option Nat) : Int := match o with | none => -1 | some i => (i : Int)
theorem lastPut_lt {q : Nat → Int} {s : Int} : ∀ {n i : Nat}, lastPut q s n = some i → i < n ∧ q i = s
  | 0, i, h => by simp [lastPut] at h
  | n + 1, i, h => by
    unfold lastPut at h
    by_cases e : q n = s
    · rw [if_pos e] at h; cases h; exact ⟨by omega, e⟩
    · rw [if_neg e] at h
      have := lastPut_lt h
      exact ⟨by omega, this.2⟩

/-- zzLastPut. -/
theorem last_put (a : Option Addr) (m c n : Nat) (q : Nat → Int) (s : Int) (w : World) (hm : m ≤ 1048576) (hn : n ≤ m) (hv : View .u16 w a m q) :
    Calls Try.prog 32 #[.slice a m c, .int .i64 n, .int .u16 s] w fun e w' => e = .returned (.int .i64 (lpInt (lastPut q s n))) ∧ w' = w := by
  rcases Nat.eq_zero_or_pos n with rfl | hpos
  · go_enter Try.func32, Try.ntmps32
    go_wp2
    refine wp_loop_rounds 1 ?_
    rw [rounds_succ]
    go_wp2
    go_ret
    exact ⟨rfl, rfl⟩
  · obtain ⟨b, off, rfl, hc⟩ := hv (by omega)
    go_enter Try.func32, Try.ntmps32
    go_wp2
    go_loop [7] (fun i => ∃ k : Nat, k ≤ n ∧ i = .int .i64 ((k : Int) - 1) ∧ Hid (lastPut q s n = lastPut q s k)) (fun i => (intOf i + 1).toNat)
    case atStart => exact ⟨n, Nat.le_refl _, rfl, rfl⟩
    case round =>
      obtain ⟨k, hk, rfl, HK⟩ := hrel
      cases k with
      | zero =>
        go_wp2
        go_ret
        exact ⟨ret_int (by rw [HK.out]; rfl), rfl⟩
      | succ p =>
        have hcell := hc p (by omega)
        have HS : Hid (lastPut q s (p + 1) = if q p = s then some p else lastPut q s p) := rfl
        by_cases hq : q p = s
        · have e : (q p == s) = true := by simp [hq]
          have HQ : Hid (q p = s) := hq
          clear hq
          go_wp2
          go_ret
          exact ⟨ret_int (by rw [HK.out, HS.out, if_pos HQ.out]; show _ = ((p : Nat) : Int); omega), rfl⟩
        · have e : (q p == s) = false := by simp [hq]
          have HQ : Hid (¬ q p = s) := hq
          clear hq
          go_wp2
          go_round
          case rel => exact ⟨p, by omega, by go_num, by rw [HK.out, HS.out, if_neg HQ.out]; rfl⟩
          case measure => simp [intOf]

/-- zzSumPieces. -/
theorem sum_pieces (a : Option Addr) (n c : Nat) (A : Nat → Option Addr) (Lb Cb : Nat → Nat) (w : World) (hn : n ≤ 1048576) (ho : Outer w a n (fun i => .slice (A i) (Lb i) (Cb i))) (hl : ∀ i, i < n → Lb i ≤ 1048576) :
    Calls Try.prog 35 #[.slice a n c] w fun e w' => (∃ t : Int, e = .returned (.int .i64 t) ∧ 0 ≤ t ∧ t ≤ 2097152) ∧ w' = w := by
  rcases Nat.eq_zero_or_pos n with rfl | hpos
  · go_enter Try.func35, Try.ntmps35
    go_wp2
    refine wp_loop_rounds 1 ?_
    rw [rounds_succ]
    go_wp2
    go_ret
    exact ⟨⟨0, rfl, by omega, by omega⟩, rfl⟩
  · obtain ⟨b, off, rfl, hc⟩ := ho hpos
    go_enter Try.func35, Try.ntmps35
    go_wp2
    go_loop [3, 4] (fun t i => ∃ (k : Nat) (z : Int), k ≤ n ∧ i = .int .i64 k ∧ t = .int .i64 z ∧ 0 ≤ z ∧ z ≤ 1048576) (fun _ i => n - (intOf i).toNat)
    case atStart => exact ⟨0, 0, Nat.zero_le _, rfl, rfl, by omega, by omega⟩
    case round =>
      obtain ⟨k, z, hk, rfl, rfl, hz0, hz1⟩ := hrel
      by_cases hlt : k < n
      · have hcell := hc k hlt
        have hlk := hl k hlt
        by_cases hz : z + (Lb k : Int) ≤ 1048576
        · go_wp2
          go_round
          case rel => exact ⟨k + 1, z + (Lb k : Int), by omega, by go_num, rfl, by omega, by omega⟩
          case measure => simp [intOf]; omega
        · go_wp2
          go_ret
          exact ⟨⟨z + (Lb k : Int), rfl, by omega, by omega⟩, rfl⟩
      · go_wp2
        go_ret
        exact ⟨⟨z, rfl, by omega, by omega⟩, rfl⟩

/-- zzTakeFits. -/
theorem take_fits (a1 a2 a3 : Option Addr) (n1 n2 n3 c1 c2 c3 : Nat) (A : Nat → Option Addr) (Lb Cb : Nat → Nat) (w : World) (h1 : n1 ≤ 1048576) (h2 : n2 ≤ 1048576) (hn : n3 ≤ 1048576) (ho : Outer w a3 n3 (fun i => .slice (A i) (Lb i) (Cb i))) (hl : ∀ i, i < n3 → Lb i ≤ 1048576) :
    Calls Try.prog 29 #[.slice a1 n1 c1, .slice a2 n2 c2, .slice a3 n3 c3] w fun e w' => BoolSo e (n1 ≤ 4096 ∧ n2 ≤ 4096 ∧ n3 ≤ 4096) ∧ w' = w := by
  have HO : Hid (Outer w a3 n3 (fun i => .slice (A i) (Lb i) (Cb i))) := ho
  have HL : Hid (∀ i, i < n3 → Lb i ≤ 1048576) := hl
  clear ho hl
  by_cases g1 : n1 ≤ 4096
  · by_cases g2 : n2 ≤ 4096
    · by_cases g3 : n3 ≤ 4096
      · have d1 : decide ((4096 : Int) < (n1 : Int)) = false := by simp only [decide_eq_false_iff_not]; omega
        have d2 : decide ((4096 : Int) < (n2 : Int)) = false := by simp only [decide_eq_false_iff_not]; omega
        have d3 : decide ((4096 : Int) < (n3 : Int)) = false := by simp only [decide_eq_false_iff_not]; omega
        go_enter Try.func29, Try.ntmps29
        go_wp2_with (go_at_call 35; refine (sum_pieces a3 n3 c3 A Lb Cb _ hn HO.out HL.out).mono ?_; rintro e w' ⟨⟨t, rfl, ht0, ht1⟩, hw⟩; obtain rfl := hw.symm)
        go_ret
        exact ⟨⟨_, rfl, fun _ => ⟨g1, g2, g3⟩⟩, rfl⟩
      · have d1 : decide ((4096 : Int) < (n1 : Int)) = false := by simp only [decide_eq_false_iff_not]; omega
        have d2 : decide ((4096 : Int) < (n2 : Int)) = false := by simp only [decide_eq_false_iff_not]; omega
        have d3 : decide ((4096 : Int) < (n3 : Int)) = true := by simp only [decide_eq_true_eq]; omega
        go_enter Try.func29, Try.ntmps29
        go_wp2
        go_ret
        exact ⟨⟨false, rfl, fun h => by cases h⟩, rfl⟩
    · have d1 : decide ((4096 : Int) < (n1 : Int)) = false := by simp only [decide_eq_false_iff_not]; omega
      have d2 : decide ((4096 : Int) < (n2 : Int)) = true := by simp only [decide_eq_true_eq]; omega
      go_enter Try.func29, Try.ntmps29
      go_wp2
      go_ret
      exact ⟨⟨false, rfl, fun h => by cases h⟩, rfl⟩
  · have d1 : decide ((4096 : Int) < (n1 : Int)) = true := by simp only [decide_eq_true_eq]; omega
    go_enter Try.func29, Try.ntmps29
    go_wp2
    go_ret
    exact ⟨⟨false, rfl, fun h => by cases h⟩, rfl⟩

/-- zzBytes of the law. -/
theorem bytes28 (x : Int) (a1 a2 a3 : Option Addr) (n1 n2 n3 c1 c2 c3 : Nat) (A : Nat → Option Addr) (Lb Cb : Nat → Nat) (w : World) (h1 : n1 ≤ maxLen) (h2 : n2 ≤ maxLen) (h3 : n3 ≤ maxLen) (ho : Outer w a3 n3 (fun i => .slice (A i) (Lb i) (Cb i))) :
    Calls Try.prog 28 #[.int .u16 x, .slice a1 n1 c1, .slice a2 n2 c2, .slice a3 n3 c3] w fun e w' => BoolSo e (n1 ≤ 1048576 ∧ n2 ≤ 1048576 ∧ n3 ≤ 1048576 ∧ ∀ i, i < n3 → Lb i ≤ 1048576) ∧ w' = w := by
  unfold maxLen at h1 h2 h3
  by_cases g : n1 + n2 + n3 ≤ 1048576
  · rcases Nat.eq_zero_or_pos n3 with rfl | hpos
    · go_enter Try.func28, Try.ntmps28
      go_wp2
      refine wp_loop_rounds 1 ?_
      rw [rounds_succ]
      go_wp2
      go_ret
      exact ⟨⟨true, rfl, fun _ => ⟨by omega, by omega, by omega, fun i hi => by omega⟩⟩, rfl⟩
    · obtain ⟨b, off, rfl, hc⟩ := ho hpos
      go_enter Try.func28, Try.ntmps28
      go_wp2
      go_loop [9, 10] (fun t i => ∃ (k : Nat) (z : Int), k ≤ n3 ∧ i = .int .i64 k ∧ t = .int .i64 z ∧ 0 ≤ z ∧ z ≤ 1048576 ∧ Hid (∀ j, j < k → Lb j ≤ 1048576)) (fun _ i => n3 - (intOf i).toNat)
      case atStart => exact ⟨0, _, Nat.zero_le _, rfl, rfl, by omega, by omega, fun j hj => by omega⟩
      case round =>
        obtain ⟨k, z, hk, rfl, rfl, hz0, hz1, HL⟩ := hrel
        by_cases hlt : k < n3
        · have hcell := hc k hlt
          by_cases hlk : Lb k ≤ 1048576
          · by_cases hz : z + (Lb k : Int) ≤ 1048576
            · have HL' : Hid (∀ j, j < k + 1 → Lb j ≤ 1048576) := fun j hj => by
                rcases Nat.lt_or_ge j k with h | h
                · exact HL.out j h
                · obtain rfl : j = k := by omega
                  exact hlk
              go_wp2
              go_round
              case rel => exact ⟨k + 1, z + (Lb k : Int), by omega, by go_num, rfl, by omega, by omega, HL'⟩
              case measure => simp [intOf]; omega
            · go_wp2
              go_ret
              exact ⟨⟨false, rfl, fun h => by cases h⟩, rfl⟩
          · go_wp2
            go_ret
            exact ⟨⟨false, rfl, fun h => by cases h⟩, rfl⟩
        · go_wp2
          go_ret
          exact ⟨⟨true, rfl, fun _ => ⟨by omega, by omega, by omega, fun i hi => HL.out i (by omega)⟩⟩, rfl⟩
  · by_cases g1 : n1 ≤ 1048576
    · by_cases g2 : n2 ≤ 1048576
      · by_cases g12 : n1 + n2 ≤ 1048576
        · by_cases g3 : n3 ≤ 1048576
          all_goals
            go_enter Try.func28, Try.ntmps28
            go_wp2
            go_ret
            exact ⟨⟨false, rfl, fun h => by cases h⟩, rfl⟩
        · go_enter Try.func28, Try.ntmps28
          go_wp2
          go_ret
          exact ⟨⟨false, rfl, fun h => by cases h⟩, rfl⟩
      · go_enter Try.func28, Try.ntmps28
        go_wp2
        go_ret
        exact ⟨⟨false, rfl, fun h => by cases h⟩, rfl⟩
    · go_enter Try.func28, Try.ntmps28
      go_wp2
      go_ret
      exact ⟨⟨false, rfl, fun h => by cases h⟩, rfl⟩

/-- zzBytes of the law. -/
theorem bytes34 (x : Int) (a1 a2 a3 : Option Addr) (n1 n2 n3 c1 c2 c3 : Nat) (A : Nat → Option Addr) (Lb Cb : Nat → Nat) (w : World) (h1 : n1 ≤ maxLen) (h2 : n2 ≤ maxLen) (h3 : n3 ≤ maxLen) (ho : Outer w a3 n3 (fun i => .slice (A i) (Lb i) (Cb i))) :
    Calls Try.prog 34 #[.int .u16 x, .slice a1 n1 c1, .slice a2 n2 c2, .slice a3 n3 c3] w fun e w' => BoolSo e (n1 ≤ 1048576 ∧ n2 ≤ 1048576 ∧ n3 ≤ 1048576 ∧ ∀ i, i < n3 → Lb i ≤ 1048576) ∧ w' = w := by
  unfold maxLen at h1 h2 h3
  by_cases g : n1 + n2 + n3 ≤ 1048576
  · rcases Nat.eq_zero_or_pos n3 with rfl | hpos
    · go_enter Try.func34, Try.ntmps34
      go_wp2
      refine wp_loop_rounds 1 ?_
      rw [rounds_succ]
      go_wp2
      go_ret
      exact ⟨⟨true, rfl, fun _ => ⟨by omega, by omega, by omega, fun i hi => by omega⟩⟩, rfl⟩
    · obtain ⟨b, off, rfl, hc⟩ := ho hpos
      go_enter Try.func34, Try.ntmps34
      go_wp2
      go_loop [9, 10] (fun t i => ∃ (k : Nat) (z : Int), k ≤ n3 ∧ i = .int .i64 k ∧ t = .int .i64 z ∧ 0 ≤ z ∧ z ≤ 1048576 ∧ Hid (∀ j, j < k → Lb j ≤ 1048576)) (fun _ i => n3 - (intOf i).toNat)
      case atStart => exact ⟨0, _, Nat.zero_le _, rfl, rfl, by omega, by omega, fun j hj => by omega⟩
      case round =>
        obtain ⟨k, z, hk, rfl, rfl, hz0, hz1, HL⟩ := hrel
        by_cases hlt : k < n3
        · have hcell := hc k hlt
          by_cases hlk : Lb k ≤ 1048576
          · by_cases hz : z + (Lb k : Int) ≤ 1048576
            · have HL' : Hid (∀ j, j < k + 1 → Lb j ≤ 1048576) := fun j hj => by
                rcases Nat.lt_or_ge j k with h | h
                · exact HL.out j h
                · obtain rfl : j = k := by omega
                  exact hlk
              go_wp2
              go_round
              case rel => exact ⟨k + 1, z + (Lb k : Int), by omega, by go_num, rfl, by omega, by omega, HL'⟩
              case measure => simp [intOf]; omega
            · go_wp2
              go_ret
              exact ⟨⟨false, rfl, fun h => by cases h⟩, rfl⟩
          · go_wp2
            go_ret
            exact ⟨⟨false, rfl, fun h => by cases h⟩, rfl⟩
        · go_wp2
          go_ret
          exact ⟨⟨true, rfl, fun _ => ⟨by omega, by omega, by omega, fun i hi => HL.out i (by omega)⟩⟩, rfl⟩
  · by_cases g1 : n1 ≤ 1048576
    · by_cases g2 : n2 ≤ 1048576
      · by_cases g12 : n1 + n2 ≤ 1048576
        · by_cases g3 : n3 ≤ 1048576
          all_goals
            go_enter Try.func34, Try.ntmps34
            go_wp2
            go_ret
            exact ⟨⟨false, rfl, fun h => by cases h⟩, rfl⟩
        · go_enter Try.func34, Try.ntmps34
          go_wp2
          go_ret
          exact ⟨⟨false, rfl, fun h => by cases h⟩, rfl⟩
      · go_enter Try.func34, Try.ntmps34
        go_wp2
        go_ret
        exact ⟨⟨false, rfl, fun h => by cases h⟩, rfl⟩
    · go_enter Try.func34, Try.ntmps34
      go_wp2
      go_ret
      exact ⟨⟨false, rfl, fun h => by cases h⟩, rfl⟩

end Go.Proofs.Qxb6000464a
