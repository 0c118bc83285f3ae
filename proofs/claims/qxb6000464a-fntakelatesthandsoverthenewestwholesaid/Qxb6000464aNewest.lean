/-
  The walk of FnTakeLatestHandsOverTheNewestWhole (9).
-/
import Derived.Test.Qxb6000464aLatest
namespace Go.Proofs.Qxb6000464a
open Go.RowKit Go.Maps

/-- Put i counts: it is the last at its seq, and whole. -/
def Good (L : Nat → Nat) (len : Nat → Int) (q : Nat → Int) (n i : Nat) : Prop := lastPut q (q i) n = some i ∧ len i ≤ (L i : Int)

/-- What the law's loop knows after k puts. -/
def Best (L : Nat → Nat) (len : Nat → Int) (q : Nat → Int) (n k : Nat) (b bi : Int) : Prop :=
  (b = -1 ∧ bi = -1 ∧ ∀ i, i < k → ¬ Good L len q n i) ∨ ∃ j, j < k ∧ b = q j ∧ bi = (j : Int) ∧ Good L len q n j ∧ ∀ i, i < k → Good L len q n i → q i ≤ q j

variable {L : Nat → Nat} {len q : Nat → Int} {n k : Nat} {b bi : Int}

theorem Best.start : Best L len q n 0 (-1) (-1) := .inl ⟨rfl, rfl, fun i hi => by omega⟩
theorem Best.skip (h : Best L len q n k b bi) (hg : ¬ Good L len q n k) : Best L len q n (k + 1) b bi := by
  rcases h with ⟨h1, h2, h3⟩ | ⟨j, hj, h1, h2, h3, h4⟩
  · refine .inl ⟨h1, h2, fun i hi => ?_⟩
    rcases Nat.lt_or_ge i k with h' | h'
    · exact h3 i h'
    · obtain rfl : i = k := by omega
      exact hg
  · refine .inr ⟨j, by omega, h1, h2, h3, fun i hi hgi => ?_⟩
    rcases Nat.lt_or_ge i k with h' | h'
    · exact h4 i h' hgi
    · obtain rfl : i = k := by omega
      exact absurd hgi hg
theorem Best.stay (h : Best L len q n k b bi) (h0 : 0 ≤ q k) (hle : q k ≤ b) : Best L len q n (k + 1) b bi := by
  rcases h with ⟨h1, h2, h3⟩ | ⟨j, hj, h1, h2, h3, h4⟩
  · omega
  · refine .inr ⟨j, by omega, h1, h2, h3, fun i hi hgi => ?_⟩
    rcases Nat.lt_or_ge i k with h' | h'
    · exact h4 i h' hgi
    · obtain rfl : i = k := by omega
      omega
theorem Best.take (h : Best L len q n k b bi) (hg : Good L len q n k) (hlt : b < q k) : Best L len q n (k + 1) (q k) (k : Int) := by
  refine .inr ⟨k, by omega, rfl, rfl, hg, fun i hi hgi => ?_⟩
  rcases Nat.lt_or_ge i k with h' | h'
  · rcases h with ⟨h1, h2, h3⟩ | ⟨j, hj, h1, h2, h3, h4⟩
    · exact absurd hgi (h3 i h')
    · have := h4 i h' hgi; omega
  · obtain rfl : i = k := by omega
    exact Int.le_refl _

theorem good_of {s : Int} {i : Nat} (hF : lastPut q s n = some i) (hw : len i ≤ (L i : Int)) : i < n ∧ q i = s ∧ Good L len q n i := by
  obtain ⟨hi, rfl⟩ := lastPut_lt hF
  exact ⟨hi, rfl, hF, hw⟩
theorem none_whole (h : ∀ i, i < n → ¬ Good L len q n i) (s : Int) : ¬ Whole L len (fun s => lastPut q s n) s := by
  rintro ⟨i, hF, hw⟩
  obtain ⟨hi, _, hg⟩ := good_of hF hw
  exact h i hi hg
theorem best_whole {j : Nat} (h : ∀ i, i < n → Good L len q n i → q i ≤ q j) (s : Int) (hW : Whole L len (fun s => lastPut q s n) s) : s ≤ q j := by
  obtain ⟨i, hF, hw⟩ := hW
  obtain ⟨hi, rfl, hg⟩ := good_of hF hw
  exact h i hi hg
theorem past_best {F : Int → Option Nat} {s : Int} (hm : ∀ x, Whole L len F x → x ≤ s) (hs : s ≠ 65535) (x : Int) : ¬ Whole L len (cutF (succ16 s) F) x := by
  rintro ⟨i, hF, hw⟩
  unfold cutF succ16 at hF
  rw [if_neg hs] at hF
  split at hF
  · cases hF
  · have := hm x ⟨i, hF, hw⟩
    omega
theorem last_there {s : Int} : ∀ {n i : Nat}, i < n → q i = s → ∃ j, lastPut q s n = some j
  | 0, i, h, _ => by omega
  | n + 1, i, h, e => by
    unfold lastPut
    by_cases hq : q n = s
    · exact ⟨n, by rw [if_pos hq]⟩
    · rw [if_neg hq]
      refine last_there (i := i) ?_ e
      rcases Nat.lt_or_ge i n with h' | h'
      · exact h'
      · obtain rfl : i = n := by omega
        exact absurd e hq

set_option maxRecDepth 100000 in
set_option maxHeartbeats 1000000 in
theorem newest_walk (next : Int) (a1 a2 a3 : Option Addr) (n1 n2 n3 c1 c2 c3 : Nat) (q len : Nat → Int) (A : Nat → Option Addr) (Lb Cb : Nat → Nat) (g : Nat → Nat → Int) (w : World) (h0 : 0 ≤ next) (h1 : next ≤ 65535) (ha : Args w a1 a2 a3 n1 n2 n3 c1 c2 c3 q len A Lb Cb g) :
    Calls Try.prog 9 #[.int .u16 next, .slice a1 n1 c1, .slice a2 n2 c2, .slice a3 n3 c3] w fun e w' => e = .returned (.bool true) ∧ Below w.heap.size w w' := by
  have HA : Hid (Args w a1 a2 a3 n1 n2 n3 c1 c2 c3 q len A Lb Cb g) := ha
  clear ha
  go_enter Try.func9, Try.ntmps9
  go_wp2_with fail
  refine (bytes34 next a1 a2 a3 n1 n2 n3 c1 c2 c3 A Lb Cb w HA.out.m1 HA.out.m2 HA.out.m3 HA.out.v3).mono ?_
  rintro e w' ⟨⟨b, rfl, hb⟩, hw⟩
  obtain rfl := hw.symm
  cases b with
  | false =>
    go_wp2
    go_ret
    exact ⟨rfl, Below.refl _ _⟩
  | true =>
    obtain ⟨k1, k2, k3, kl⟩ := hb rfl
    have KL : Hid (∀ i, i < n3 → Lb i ≤ 1048576) := kl
    clear hb kl
    go_wp2_with fail
    refine (take_fits a1 a2 a3 n1 n2 n3 c1 c2 c3 A Lb Cb w k1 k2 k3 HA.out.v3 KL.out).mono ?_
    rintro e w' ⟨⟨b, rfl, hb⟩, hw⟩
    obtain rfl := hw.symm
    cases b with
    | false =>
      go_wp2
      go_ret
      exact ⟨rfl, Below.refl _ _⟩
    | true =>
      obtain ⟨j1, j2, j3⟩ := hb rfl
      clear hb
      go_upto_region 8 with (first
        | (go_at_call 30; refine (clone30_any a1 n1 c1 q w (by omega) HA.out.v1 HA.out.z1).mono ?_; rintro e w1 ⟨b1, rfl, hv1, _, hb1⟩)
        | (go_at_call 16; refine (clone16_any a2 n2 c2 len w1 (by omega) (HA.out.v2.later hb1) HA.out.z2).mono ?_; rintro e w2 ⟨b2, rfl, hv2, _, hb2⟩)
        | (go_at_call 17; refine (clone17_any a3 n3 c3 A Lb Cb g w2 (by omega) ((HA.out.v3.later hb1).later hb2) HA.out.z3 KL.out (fun i hi => ((HA.out.vs i hi).later hb1).later hb2) HA.out.zs).mono ?_; rintro e w3 ⟨b3, A', rfl, hv3, hvs, hb3⟩))
      have hM : Made w w3 b1 b2 b3 n1 n2 n3 q len A' Lb g := ⟨(hv1.later hb2).later hb3, hv2.later hb3, hv3, hvs, hb1.trans ((hb2.mono hb1.size).trans (hb3.mono (Nat.le_trans hb1.size hb2.size)))⟩
      have HM : Hid (Made w w3 b1 b2 b3 n1 n2 n3 q len A' Lb g) := hM
      clear hM hv1 hv2 hv3 hvs hb1 hb2 hb3
      go_cut [9] (fun a wx => wx = w3 ∧ ∃ n : Nat, n ≤ n1 ∧ n ≤ n2 ∧ n ≤ n3 ∧ a = .int .i64 n)
      case first =>
        go_wp2
        all_goals go_meet
        · have h : (n3 : Int) < if n2 < n1 then (n2 : Int) else (n1 : Int) := by assumption
          exact ⟨rfl, n3, by split at h <;> omega, by split at h <;> omega, Nat.le_refl _, rfl⟩
        · have h : (if n2 < n1 then (n2 : Int) else (n1 : Int)) ≤ (n3 : Int) := by assumption
          have h' : n2 < n1 := by assumption
          rw [if_pos h'] at h
          exact ⟨rfl, n2, by omega, Nat.le_refl _, by omega, rfl⟩
        · have h : (if n2 < n1 then (n2 : Int) else (n1 : Int)) ≤ (n3 : Int) := by assumption
          have h' : ¬ n2 < n1 := by first | assumption | omega
          rw [if_neg h'] at h
          exact ⟨rfl, n1, Nat.le_refl _, by omega, by omega, rfl⟩
      case rest =>
        obtain ⟨hw, n, l1, l2, l3, rfl⟩ := hcut
        obtain rfl := hw.symm
        go_wp2_with (go_at_call 31; refine (fill (A := A') (L := Lb) (len := len) (nx := next) (lat := true) b1 b2 b3 n1 n2 n3 n1 n2 n3 n q w3 l1 l2 l3 (by omega) j1 j2 j3 HM.out.v1 HM.out.v2 HM.out.v3 (fun i hi => HA.out.q1 i (by omega))).mono ?_; rintro e w4 ⟨rfl, hf⟩; have HF : Hid (Fil w3 next true A' Lb len q n w4) := hf; clear hf)
        rcases Nat.eq_zero_or_pos n with rfl | hpos
        · have HN : Hid (N0 w3 w3.heap.size next true w4) := N0.of (HF.out.1 rfl)
          refine wp_loop_rounds 1 ?_
          rw [rounds_succ]
          go_wp2_with fail
          refine (take_empty_lat _ HN.out h0 h1).mono ?_
          rintro e w5 ⟨rfl, ho5⟩
          have HO5 : Hid (N0 w3 w3.heap.size next true w5) := ho5
          clear ho5
          unfold noMsg
          go_wp2
          go_ret
          exact ⟨rfl, HM.out.old.trans ((HO5.out.alloc _).old.mono HM.out.old.size)⟩
        · have HB0 : Hid (Box w3 w3.heap.size n A' Lb len next true (fun s => lastPut q s n) w4) := (HF.out.2 hpos).1
          obtain ⟨bb1, oo1, hb1, hc1⟩ := HM.out.v1 (by omega)
          obtain ⟨bb2, oo2, rfl, hc2⟩ := HM.out.v2 (by omega)
          obtain ⟨bb3, oo3, rfl, hc3⟩ := HM.out.v3 (by omega)
          subst hb1
          have HC1 : Hid (∀ i, i < n1 → w3.cell? ⟨bb1, oo1 + i, none⟩ = some (.int .u16 (q i))) := hc1
          have HC2 : Hid (∀ i, i < n2 → w3.cell? ⟨bb2, oo2 + i, none⟩ = some (.int .i64 (len i))) := hc2
          have HC3 : Hid (∀ i, i < n3 → w3.cell? ⟨bb3, oo3 + i, none⟩ = some (.slice (A' i) (Lb i) (Lb i))) := hc3
          clear hc1 hc2 hc3 HF
          go_loopw [11, 12, 13] (fun c d t wr => ∃ (k : Nat) (b bi : Int), k ≤ n ∧ c = .int .i64 b ∧ d = .int .i64 bi ∧ t = .int .i64 k ∧ Hid (Best Lb len q n k b bi) ∧ Hid (Box w3 w3.heap.size n A' Lb len next true (fun s => lastPut q s n) wr)) (fun _ _ t _ => n - (intOf t).toNat)
          case atStart => exact ⟨0, -1, -1, Nat.zero_le _, rfl, rfl, rfl, Best.start, HB0.out⟩
          case round =>
            obtain ⟨k, b, bi, hk, rfl, rfl, rfl, HR, HB⟩ := hrel
            clear HB0
            by_cases hlt : k < n
            · have hq := bounds_u16 (HA.out.q1 k (by omega))
              have w64 : IntKind.i64.wrap (q k) = q k := by rw [IntKind.wrap_i64]; omega
              have x1 : wr.cell? ⟨bb1, oo1 + k, none⟩ = some (.int .u16 (q k)) := cell_later HB.out.old (HC1.out k (by omega))
              have x2 : wr.cell? ⟨bb2, oo2 + k, none⟩ = some (.int .i64 (len k)) := cell_later HB.out.old (HC2.out k (by omega))
              have x3 : wr.cell? ⟨bb3, oo3 + k, none⟩ = some (.slice (A' k) (Lb k) (Lb k)) := cell_later HB.out.old (HC3.out k (by omega))
              have i1 : (k : Int) < (n1 : Int) := by omega
              have i2 : (k : Int) < (n2 : Int) := by omega
              have i3 : (k : Int) < (n3 : Int) := by omega
              obtain ⟨j, hj⟩ := last_there (q := q) (n := n) hlt rfl
              have HL : Hid (lastPut q (q k) n = some j) := hj
              clear hj
              by_cases hjk : j = k
              · obtain rfl := hjk.symm
                by_cases hw : len k ≤ (Lb k : Int)
                · have hd : decide (len k ≤ (Lb k : Int)) = true := by simp only [decide_eq_true_eq]; exact hw
                  have HG : Hid (Good Lb len q n k) := ⟨HL.out, hw⟩
                  clear hw
                  by_cases hb : b < q k
                  · have he : decide (b < q k) = true := by simp only [decide_eq_true_eq]; exact hb
                    have HT : Hid (Best Lb len q n (k + 1) (q k) (k : Int)) := HR.out.take HG.out hb
                    clear hb
                    go_wp2_with fail
                    go_quiet ((go_at_call 32; exact Calls.quiet_of_same (last_some _ n1 n1 n q (q k) _ (by omega) l1 ((HM.out.v1.later HB.out.old).drewN _) k HL.out)))
                    go_wp2_with fail
                    go_roundw
                    case rel => exact ⟨k + 1, q k, k, by omega, rfl, rfl, by go_num, HT, HB.out.drewN _⟩
                    case measure => simp [intOf]; omega
                  · have he : decide (b < q k) = false := by simp only [decide_eq_false_iff_not]; exact hb
                    have HT : Hid (Best Lb len q n (k + 1) b bi) := HR.out.stay hq.1 (Int.not_lt.1 hb)
                    clear hb
                    go_wp2_with fail
                    go_quiet ((go_at_call 32; exact Calls.quiet_of_same (last_some _ n1 n1 n q (q k) _ (by omega) l1 ((HM.out.v1.later HB.out.old).drewN _) k HL.out)))
                    go_wp2_with fail
                    go_roundw
                    case rel => exact ⟨k + 1, b, bi, by omega, rfl, rfl, by go_num, HT, HB.out.drewN _⟩
                    case measure => simp [intOf]; omega
                · have hd : decide (len k ≤ (Lb k : Int)) = false := by simp only [decide_eq_false_iff_not]; exact hw
                  have HT : Hid (Best Lb len q n (k + 1) b bi) := HR.out.skip (fun hg => hw hg.2)
                  clear hw
                  go_wp2_with fail
                  go_quiet ((go_at_call 32; exact Calls.quiet_of_same (last_some _ n1 n1 n q (q k) _ (by omega) l1 ((HM.out.v1.later HB.out.old).drewN _) k HL.out)))
                  go_wp2_with fail
                  go_roundw
                  case rel => exact ⟨k + 1, b, bi, by omega, rfl, rfl, by go_num, HT, HB.out.drewN _⟩
                  case measure => simp [intOf]; omega
              · have e1 : ((j : Int) == (k : Int)) = false := by simp; omega
                have HT : Hid (Best Lb len q n (k + 1) b bi) := HR.out.skip (fun hg => by
                  have := hg.1
                  rw [HL.out] at this
                  cases this
                  exact hjk rfl)
                go_wp2_with fail
                go_quiet ((go_at_call 32; exact Calls.quiet_of_same (last_some _ n1 n1 n q (q k) _ (by omega) l1 ((HM.out.v1.later HB.out.old).drewN _) j HL.out)))
                go_wp2_with fail
                go_roundw
                case rel => exact ⟨k + 1, b, bi, by omega, rfl, rfl, by go_num, HT, HB.out.drewN _⟩
                case measure => simp [intOf]; omega
            · obtain rfl : k = n := by omega
              rcases HR.out with ⟨rfl, rfl, hno⟩ | ⟨j, hj, rfl, rfl, hg, hmx⟩
              · have HN : Hid (∀ s, ¬ Whole Lb len (fun s => lastPut q s k) s) := none_whole hno
                clear hno
                go_wp2_with fail
                refine (take_newest_no _ HB.out h0 h1 HN.out).mono ?_
                rintro e w5 ⟨rfl, hb5⟩
                have HB5 : Hid (Box w3 w3.heap.size k A' Lb len next true (fun s => lastPut q s k) w5) := hb5
                clear hb5
                unfold noMsg
                go_wp2
                go_ret
                exact ⟨rfl, HM.out.old.trans ((HB5.out.alloc _).old.mono HM.out.old.size)⟩
              · have hq := bounds_u16 (HA.out.q1 j (by omega))
                have w64 : IntKind.i64.wrap (q j) = q j := by rw [IntKind.wrap_i64]; omega
                have HX : Hid (∀ x, Whole Lb len (fun s => lastPut q s k) x → x ≤ q j) := best_whole hmx
                have HG : Hid (Good Lb len q k j) := hg
                clear hmx hg
                go_wp2_with fail
                refine (take_newest _ HB.out h0 h1 (q j) j HG.out.1 HG.out.2 HX.out).mono ?_
                rintro e w5 ⟨rfl, hb5⟩
                have HB5 : Hid (Box w3 w3.heap.size k A' Lb len (succ16 (q j)) true (cutF (succ16 (q j)) (fun s => lastPut q s k)) w5) := hb5
                clear hb5
                unfold msg
                have y3 : w5.cell? ⟨bb3, oo3 + j, none⟩ = some (.slice (A' j) (Lb j) (Lb j)) := cell_later HB5.out.old (HC3.out j (by omega))
                have V5 : Hid (View .u8 w5 (A' j) (Lb j) (g j)) := (HM.out.vs j (by omega)).later HB5.out.old
                have hl5 : bb3 < w5.heap.size := World.block_lt_of_cell? _ _ y3
                have i3 : (j : Int) < (n3 : Int) := by omega
                have w8 : IntKind.u8.wrap (j : Int) = (j : Int) % 256 := rfl
                have w16 : IntKind.u16.wrap (j : Int) = (j : Int) % 65536 := rfl
                have e0 : decide (q j < 0) = false := by simp only [decide_eq_false_iff_not]; omega
                by_cases hc : q j = 65535
                · have e1 : (q j == 65535) = true := by simp [hc]
                  clear hc
                  go_wp2_with fail
                  go_quiet ((go_at_call 27; exact Calls.quiet_of (same_self (A' j) (Lb j) (Lb j) (Lb j) (g j) _ (KL.out j (by omega)) ((V5.out.later ((Below.refl _ _).alloc (Nat.le_refl _) _)).drewN _))))
                  go_wp2
                  go_ret
                  exact ⟨rfl, HM.out.old.trans (((HB5.out.alloc _).drewN _).old.mono HM.out.old.size)⟩
                · have e1 : (q j == 65535) = false := by simp [hc]
                  have HP : Hid (∀ x, ¬ Whole Lb len (cutF (succ16 (q j)) (fun s => lastPut q s k)) x) := past_best HX.out hc
                  have hs16 : 0 ≤ succ16 (q j) ∧ succ16 (q j) ≤ 65535 := by unfold succ16; rw [if_neg hc]; omega
                  clear hc
                  go_wp2_with fail
                  go_quiet ((go_at_call 27; exact Calls.quiet_of (same_self (A' j) (Lb j) (Lb j) (Lb j) (g j) _ (KL.out j (by omega)) ((V5.out.later ((Below.refl _ _).alloc (Nat.le_refl _) _)).drewN _))))
                  go_wp2_with fail
                  refine (take_newest_no _ ((HB5.out.alloc _).drewN _) hs16.1 hs16.2 HP.out).mono ?_
                  rintro e w6 ⟨rfl, hb6⟩
                  have HB6 : Hid (Box w3 w3.heap.size k A' Lb len (succ16 (q j)) true (cutF (succ16 (q j)) (fun s => lastPut q s k)) w6) := hb6
                  clear hb6
                  unfold noMsg
                  go_wp2
                  go_ret
                  exact ⟨rfl, HM.out.old.trans ((HB6.out.alloc _).old.mono HM.out.old.size)⟩
end Go.Proofs.Qxb6000464a
