/-
  The walk of FnTakeHandsOverTheRunInOrder (8).
-/
import Derived.Test.Qxb6000464aRun
import Derived.Deep.CutBlock
import Derived.Deep.DeepCutAuto
import Derived.WalkLawsBesides
namespace Go.Proofs.Qxb6000464a
open Go.RowKit Go.Maps

/-- An Inbox into which nothing was put. -/
structure N0 (w0 : World) (ib : Nat) (nx : Int) (lat : Bool) (wr : World) : Prop where
  c0 : wr.cell? ⟨ib, 0, none⟩ = some (.int .u16 nx)
  c2 : wr.cell? ⟨ib, 2, none⟩ = some (.bool lat)
  c3 : wr.cell? ⟨ib, 3, none⟩ = some (.map none)
  lt : ib < wr.heap.size
  old : Below ib w0 wr
theorem N0.of {w0 : World} {ib : Nat} {nx : Int} {lat : Bool} {wr : World} (h : Box0 w0 ib nx lat wr) : N0 w0 ib nx lat wr := by
  have hc : ∀ o v, (#[Value.int .u16 nx, .bool false, .bool lat, .map none] : Array Value)[o]? = some v → wr.cell? ⟨ib, o, none⟩ = some v := fun o v hv => by rw [cell_of_row _ _ _ _ _ _ h.hb]; exact hv
  exact ⟨hc 0 _ rfl, hc 2 _ rfl, hc 3 _ rfl, by have := h.sz; omega, h.old⟩
theorem N0.alloc {w0 : World} {ib : Nat} {nx : Int} {lat : Bool} {wr : World} (h : N0 w0 ib nx lat wr) (o : Obj) : N0 w0 ib nx lat (wr.alloc o) := by
  have hb : Below wr.heap.size wr (wr.alloc o) := (Below.refl _ _).alloc (Nat.le_refl _) o
  have hlt := h.lt
  exact ⟨cell_later hb h.c0, cell_later hb h.c2, cell_later hb h.c3, by simp; omega, h.old.alloc (by omega) o⟩

theorem take_empty {w0 : World} {ib : Nat} {nx : Int} (w : World) (h : N0 w0 ib nx false w) (h0 : 0 ≤ nx) (h1 : nx ≤ 65535) :
    Calls Try.prog 33 #[.pointer (some ⟨ib, 0, none⟩)] w fun e w' => e = .returned (.tuple #[noMsg, .bool false]) ∧ N0 w0 ib nx false w' := by
  have hc0 := h.c0
  have hc2 := h.c2
  have hc3 := h.c3
  have hib := h.lt
  have hl : ∀ wx, (Instr.lookup 67 (.map none) (.int .u16 nx) false).run Try.prog wx = .ok (.pointer none) wx := fun wx => Maps.look_nil false law46 Try.underlying67 (zero36 wx) (keyOf_int_mk Try.underlying46 (WalkArith.wf_u16 (by omega)))
  go_enter Try.func33, Try.ntmps33
  go_wp2
  exact bodyPost_ret (v := .tuple #[noMsg, .bool false]) (by simp [results, Try.results33, go_sem, noMsg]) rfl ⟨rfl, h.alloc _⟩

theorem View.drewN {k : IntKind} {w : World} {a : Option Addr} {n : Nat} {f : Nat → Int} (h : View k w a n f) (m : Nat) : View k (w.drewN m) a n f := h

/-- What is known of the arguments. -/
structure Args (w : World) (a1 a2 a3 : Option Addr) (n1 n2 n3 c1 c2 c3 : Nat) (q len : Nat → Int) (A : Nat → Option Addr) (Lb Cb : Nat → Nat) (g : Nat → Nat → Int) : Prop where
  m1 : n1 ≤ maxLen
  m2 : n2 ≤ maxLen
  m3 : n3 ≤ maxLen
  v1 : View .u16 w a1 n1 q
  v2 : View .i64 w a2 n2 len
  v3 : Outer w a3 n3 (fun i => .slice (A i) (Lb i) (Cb i))
  z1 : a1 = none → n1 = 0 ∧ c1 = 0
  z2 : a2 = none → n2 = 0 ∧ c2 = 0
  z3 : a3 = none → n3 = 0 ∧ c3 = 0
  q1 : ∀ i, i < n1 → (Lit.int .u16 (q i)).wf = true
  vs : ∀ i, i < n3 → View .u8 w (A i) (Lb i) (g i)
  zs : ∀ i, i < n3 → A i = none → Lb i = 0 ∧ Cb i = 0

/-- What the clones are known by. -/
structure Made (w w3 : World) (b1 b2 b3 : Option Addr) (n1 n2 n3 : Nat) (q len : Nat → Int) (A : Nat → Option Addr) (Lb : Nat → Nat) (g : Nat → Nat → Int) : Prop where
  v1 : View .u16 w3 b1 n1 q
  v2 : View .i64 w3 b2 n2 len
  v3 : Outer w3 b3 n3 (fun i => .slice (A i) (Lb i) (Lb i))
  vs : ∀ i, i < n3 → View .u8 w3 (A i) (Lb i) (g i)
  old : Below w.heap.size w w3

/-- The run is over: every further Take answers false. -/
def Over (w3 : World) (n : Nat) (A : Nat → Option Addr) (L : Nat → Nat) (len : Nat → Int) (next : Int) (wx : World) : Prop :=
  N0 w3 w3.heap.size next false wx ∨ ∃ cu F, 0 ≤ cu ∧ cu ≤ 65535 ∧ Box w3 w3.heap.size n A L len cu false F wx ∧ Stuck L len cu F
theorem Over.old {w3 : World} {n : Nat} {A : Nat → Option Addr} {L : Nat → Nat} {len : Nat → Int} {next : Int} {wx : World} (h : Over w3 n A L len next wx) : Below w3.heap.size w3 wx := by
  rcases h with h | ⟨_, _, _, _, h, _⟩
  · exact h.old
  · exact h.old
theorem Over.alloc {w3 : World} {n : Nat} {A : Nat → Option Addr} {L : Nat → Nat} {len : Nat → Int} {next : Int} {wx : World} (h : Over w3 n A L len next wx) (o : Obj) : Over w3 n A L len next (wx.alloc o) := by
  rcases h with h | ⟨cu, F, h0, h1, h, hs⟩
  · exact .inl (h.alloc o)
  · exact .inr ⟨cu, F, h0, h1, h.alloc o, hs⟩
theorem take_over {w3 : World} {n : Nat} {A : Nat → Option Addr} {L : Nat → Nat} {len : Nat → Int} {next : Int} (wx : World) (h : Over w3 n A L len next wx) (h0 : 0 ≤ next) (h1 : next ≤ 65535) :
    Calls Try.prog 33 #[.pointer (some ⟨w3.heap.size, 0, none⟩)] wx fun e w' => e = .returned (.tuple #[noMsg, .bool false]) ∧ Over w3 n A L len next w' := by
  rcases h with h | ⟨cu, F, g0, g1, h, hs⟩
  · refine (take_empty wx h h0 h1).mono ?_
    rintro e w' ⟨rfl, h⟩
    exact ⟨rfl, .inl h⟩
  · refine (take_no wx h g0 g1 hs).mono ?_
    rintro e w' ⟨rfl, h⟩
    exact ⟨rfl, .inr ⟨cu, F, g0, g1, h, hs⟩⟩

theorem last_none (a : Option Addr) (m c n : Nat) (q : Nat → Int) (s : Int) (w : World) (hm : m ≤ 1048576) (hn : n ≤ m) (hv : View .u16 w a m q) (ho : lastPut q s n = none) :
    Calls Try.prog 32 #[.slice a m c, .int .i64 n, .int .u16 s] w fun e w' => e = .returned (.int .i64 (-1)) ∧ w' = w := by
  have := last_put a m c n q s w hm hn hv
  rw [ho] at this
  exact this
theorem last_some (a : Option Addr) (m c n : Nat) (q : Nat → Int) (s : Int) (w : World) (hm : m ≤ 1048576) (hn : n ≤ m) (hv : View .u16 w a m q) (j : Nat) (ho : lastPut q s n = some j) :
    Calls Try.prog 32 #[.slice a m c, .int .i64 n, .int .u16 s] w fun e w' => e = .returned (.int .i64 (j : Int)) ∧ w' = w := by
  have := last_put a m c n q s w hm hn hv
  rw [ho] at this
  exact this

set_option maxRecDepth 100000 in
set_option maxHeartbeats 1000000 in
theorem order_walk (next : Int) (a1 a2 a3 : Option Addr) (n1 n2 n3 c1 c2 c3 : Nat) (q len : Nat → Int) (A : Nat → Option Addr) (Lb Cb : Nat → Nat) (g : Nat → Nat → Int) (w : World) (h0 : 0 ≤ next) (h1 : next ≤ 65535) (ha : Args w a1 a2 a3 n1 n2 n3 c1 c2 c3 q len A Lb Cb g) :
    Calls Try.prog 8 #[.int .u16 next, .slice a1 n1 c1, .slice a2 n2 c2, .slice a3 n3 c3] w fun e w' => e = .returned (.bool true) ∧ Below w.heap.size w w' := by
  have HA : Hid (Args w a1 a2 a3 n1 n2 n3 c1 c2 c3 q len A Lb Cb g) := ha
  clear ha
  go_enter Try.func8, Try.ntmps8
  go_wp2_with fail
  refine (bytes28 next a1 a2 a3 n1 n2 n3 c1 c2 c3 A Lb Cb w HA.out.m1 HA.out.m2 HA.out.m3 HA.out.v3).mono ?_
  rintro e w' ⟨⟨b, rfl, hb⟩, hw⟩
  obtain rfl := hw.symm
  cases b with
  | false =>
    go_wp2
    go_ret
    exact ⟨rfl, Below.refl _ _⟩
  | true =>
    obtain ⟨k1, k2, k3, kl⟩ := hb rfl
    have KL : Hid (∀ i, i < n3 → Lb i ≤ 1048576) := kl
    clear hb kl
    go_wp2_with fail
    refine (take_fits a1 a2 a3 n1 n2 n3 c1 c2 c3 A Lb Cb w k1 k2 k3 HA.out.v3 KL.out).mono ?_
    rintro e w' ⟨⟨b, rfl, hb⟩, hw⟩
    obtain rfl := hw.symm
    cases b with
    | false =>
      go_wp2
      go_ret
      exact ⟨rfl, Below.refl _ _⟩
    | true =>
      obtain ⟨j1, j2, j3⟩ := hb rfl
      clear hb
      go_upto_region 8 with (first
        | (go_at_call 30; refine (clone30_any a1 n1 c1 q w (by omega) HA.out.v1 HA.out.z1).mono ?_; rintro e w1 ⟨b1, rfl, hv1, _, hb1⟩)
        | (go_at_call 16; refine (clone16_any a2 n2 c2 len w1 (by omega) (HA.out.v2.later hb1) HA.out.z2).mono ?_; rintro e w2 ⟨b2, rfl, hv2, _, hb2⟩)
        | (go_at_call 17; refine (clone17_any a3 n3 c3 A Lb Cb g w2 (by omega) ((HA.out.v3.later hb1).later hb2) HA.out.z3 KL.out (fun i hi => ((HA.out.vs i hi).later hb1).later hb2) HA.out.zs).mono ?_; rintro e w3 ⟨b3, A', rfl, hv3, hvs, hb3⟩))
      have hM : Made w w3 b1 b2 b3 n1 n2 n3 q len A' Lb g := ⟨(hv1.later hb2).later hb3, hv2.later hb3, hv3, hvs, hb1.trans ((hb2.mono hb1.size).trans (hb3.mono (Nat.le_trans hb1.size hb2.size)))⟩
      have HM : Hid (Made w w3 b1 b2 b3 n1 n2 n3 q len A' Lb g) := hM
      clear hM hv1 hv2 hv3 hvs hb1 hb2 hb3
      go_cut [9] (fun a wx => wx = w3 ∧ ∃ n : Nat, n ≤ n1 ∧ n ≤ n2 ∧ n ≤ n3 ∧ a = .int .i64 n)
      case first =>
        go_wp2
        all_goals go_meet
        · have h : (n3 : Int) < if n2 < n1 then (n2 : Int) else (n1 : Int) := by assumption
          exact ⟨rfl, n3, by split at h <;> omega, by split at h <;> omega, Nat.le_refl _, rfl⟩
        · have h : (if n2 < n1 then (n2 : Int) else (n1 : Int)) ≤ (n3 : Int) := by assumption
          have h' : n2 < n1 := by assumption
          rw [if_pos h'] at h
          exact ⟨rfl, n2, by omega, Nat.le_refl _, by omega, rfl⟩
        · have h : (if n2 < n1 then (n2 : Int) else (n1 : Int)) ≤ (n3 : Int) := by assumption
          have h' : ¬ n2 < n1 := by first | assumption | omega
          rw [if_neg h'] at h
          exact ⟨rfl, n1, Nat.le_refl _, by omega, by omega, rfl⟩
      case rest =>
        obtain ⟨hw, n, l1, l2, l3, rfl⟩ := hcut
        obtain rfl := hw.symm
        go_upto_block 0 with (go_at_call 31; refine (fill (A := A') (L := Lb) (len := len) (nx := next) (lat := false) b1 b2 b3 n1 n2 n3 n1 n2 n3 n q w3 l1 l2 l3 (by omega) j1 j2 j3 HM.out.v1 HM.out.v2 HM.out.v3 (fun i hi => HA.out.q1 i (by omega))).mono ?_; rintro e w4 ⟨rfl, hf⟩; have HF : Hid (Fil w3 next false A' Lb len q n w4) := hf; clear hf)
        go_cut [] (fun wx => Hid (Over w3 n A' Lb len next wx))
        case first =>
          rcases Nat.eq_zero_or_pos n with rfl | hpos
          · have hN : Hid (N0 w3 w3.heap.size next false w4) := N0.of (HF.out.1 rfl)
            go_wp2_with fail
            refine wp_loop_rounds 1 ?_
            rw [rounds_succ]
            go_wp2_with fail
            go_meet
            exact .inl hN.out
          · have HB0 : Hid (Box w3 w3.heap.size n A' Lb len next false (fun s => lastPut q s n) w4) := (HF.out.2 hpos).1
            obtain ⟨bb2, oo2, rfl, hc2⟩ := HM.out.v2 (by omega)
            obtain ⟨bb3, oo3, rfl, hc3⟩ := HM.out.v3 (by omega)
            have HC2 : Hid (∀ i, i < n2 → w3.cell? ⟨bb2, oo2 + i, none⟩ = some (.int .i64 (len i))) := hc2
            have HC3 : Hid (∀ i, i < n3 → w3.cell? ⟨bb3, oo3 + i, none⟩ = some (.slice (A' i) (Lb i) (Lb i))) := hc3
            clear hc2 hc3 HF
            go_wp2_with fail
            go_loopw [11, 12] (fun c t wr => ∃ (k : Nat) (cu : Int) (F : Int → Option Nat), k ≤ n ∧ c = .int .u16 cu ∧ t = .int .i64 k ∧ Hid (Run next n q k cu F) ∧ Hid (Box w3 w3.heap.size n A' Lb len cu false F wr)) (fun _ t _ => n - (intOf t).toNat)
            case atStart => exact ⟨0, next, _, Nat.zero_le _, rfl, rfl, Run.start h1, HB0.out⟩
            case round =>
              obtain ⟨k, cu, F, hk, rfl, rfl, HR, HB⟩ := hrel
              clear HB0
              have hcu := HR.out.range h0 (by omega)
              by_cases hlt : k < n
              · cases hl : lastPut q cu n with
                | none =>
                  have HL : Hid (lastPut q cu n = none) := hl
                  clear hl
                  go_wp2_with (go_at_call 32; refine (last_none b1 n1 n1 n q cu wr (by omega) l1 (HM.out.v1.later HB.out.old) HL.out).mono ?_; rintro e w5 ⟨rfl, hw⟩; obtain rfl := hw.symm)
                  go_quiet (fail)
                  go_wp2_with fail
                  go_meet
                  exact .inr ⟨cu, F, hcu.1, hcu.2, HB.out.drewN _, HR.out.hole HL.out⟩
                | some j =>
                  have hj := (lastPut_lt hl).1
                  have HL : Hid (lastPut q cu n = some j) := hl
                  clear hl
                  have x2 : wr.cell? ⟨bb2, oo2 + j, none⟩ = some (.int .i64 (len j)) := cell_later HB.out.old (HC2.out j (by omega))
                  have x3 : wr.cell? ⟨bb3, oo3 + j, none⟩ = some (.slice (A' j) (Lb j) (Lb j)) := cell_later HB.out.old (HC3.out j (by omega))
                  have i0 : decide ((j : Int) < 0) = false := by simp only [decide_eq_false_iff_not]; omega
                  have i2 : (j : Int) < (n2 : Int) := by omega
                  have i3 : (j : Int) < (n3 : Int) := by omega
                  by_cases hw : len j ≤ (Lb j : Int)
                  · have d1 : decide ((Lb j : Int) < len j) = false := by simp only [decide_eq_false_iff_not]; omega
                    have HW : Hid (len j ≤ (Lb j : Int)) := hw
                    have HF : Hid (F cu = some j) := (HR.out.up cu (Int.le_refl _)).trans HL.out
                    clear hw
                    go_wp2_with (go_at_call 32; refine (last_some b1 n1 n1 n q cu wr (by omega) l1 (HM.out.v1.later HB.out.old) j HL.out).mono ?_; rintro e w5 ⟨rfl, hw⟩; obtain rfl := hw.symm)
                    go_quiet (fail)
                    go_wp2_with fail
                    refine (take_whole _ (HB.out.drewN _) hcu.1 hcu.2 j HF.out HW.out).mono ?_
                    rintro e w5 ⟨rfl, hb5⟩
                    have HB5 : Hid (Box w3 w3.heap.size n A' Lb len (succ16 cu) false (cutF (succ16 cu) F) w5) := hb5
                    clear hb5
                    unfold msg
                    have y3 : w5.cell? ⟨bb3, oo3 + j, none⟩ = some (.slice (A' j) (Lb j) (Lb j)) := cell_later HB5.out.old (HC3.out j (by omega))
                    have V5 : Hid (View .u8 w5 (A' j) (Lb j) (g j)) := (HM.out.vs j (by omega)).later HB5.out.old
                    have hl5 : bb3 < w5.heap.size := World.block_lt_of_cell? _ _ y3
                    have w8 : IntKind.u8.wrap (j : Int) = (j : Int) % 256 := rfl
                    have w16 : IntKind.u16.wrap (j : Int) = (j : Int) % 65536 := rfl
                    go_wp2_with fail
                    go_quiet ((go_at_call 27; exact Calls.quiet_of (same_self (A' j) (Lb j) (Lb j) (Lb j) (g j) _ (KL.out j (by omega)) ((V5.out.later ((Below.refl _ _).alloc (Nat.le_refl _) _)).drewN _))))
                    have hwr : IntKind.u16.wrap (cu + 1) = succ16 cu := wrap_succ cu hcu.1 hcu.2
                    have HWR : Hid (IntKind.u16.wrap (cu + 1) = succ16 cu) := hwr
                    clear hwr w8 w16 y3 x2 x3
                    by_cases hc : cu = 65535
                    · by_cases hne : next = 65535
                      · have HR' : Hid (Run next n q (k + 1) (succ16 cu) (cutF (succ16 cu) F)) := HR.out.step h0 h1 hlt (by omega) (by rw [HL.out]; simp) (fun h => h.2 hne)
                        have e1 : (cu == 65535) = true := by simp [hc]
                        have e2 : (next != 65535) = false := by simp [hne]
                        have HS : Hid (succ16 cu = 0) := by show succ16 cu = 0; unfold succ16; rw [if_pos hc]
                        clear hc hne
                        go_wp2_with fail
                        go_roundw
                        case rel => exact ⟨k + 1, succ16 cu, cutF (succ16 cu) F, by omega, by rw [HWR.out], by go_num, HR', (HB5.out.alloc _).drewN _⟩
                        case measure => simp [intOf]; omega
                      · have e1 : (cu == 65535) = true := by simp [hc]
                        have e2 : (next != 65535) = true := by simp [hne]
                        have HP : Hid (Stuck Lb len (succ16 cu) (cutF (succ16 cu) F)) := HR.out.past h0 h1 hc hne
                        have hs16 : 0 ≤ succ16 cu ∧ succ16 cu ≤ 65535 := by unfold succ16; rw [if_pos hc]; omega
                        clear hc hne
                        go_wp2_with fail
                        go_meet
                        exact .inr ⟨_, _, hs16.1, hs16.2, (HB5.out.alloc _).drewN _, HP.out⟩
                    · have HR' : Hid (Run next n q (k + 1) (succ16 cu) (cutF (succ16 cu) F)) := HR.out.step h0 h1 hlt (by omega) (by rw [HL.out]; simp) (fun h => hc h.1)
                      have e1 : (cu == 65535) = false := by simp [hc]
                      have HS : Hid (succ16 cu = cu + 1) := by show succ16 cu = cu + 1; unfold succ16; rw [if_neg hc]
                      have hc' : cu + 1 ≤ 65535 := by omega
                      clear hc
                      go_wp2_with fail
                      go_roundw
                      case rel => exact ⟨k + 1, succ16 cu, cutF (succ16 cu) F, by omega, by rw [HS.out], by go_num, HR', (HB5.out.alloc _).drewN _⟩
                      case measure => simp [intOf]; omega
                  · have d1 : decide ((Lb j : Int) < len j) = true := by simp only [decide_eq_true_eq]; omega
                    have HW : Hid (¬ len j ≤ (Lb j : Int)) := hw
                    clear hw
                    go_wp2_with (go_at_call 32; refine (last_some b1 n1 n1 n q cu wr (by omega) l1 (HM.out.v1.later HB.out.old) j HL.out).mono ?_; rintro e w5 ⟨rfl, hw⟩; obtain rfl := hw.symm)
                    go_quiet (fail)
                    go_wp2_with fail
                    go_meet
                    exact .inr ⟨cu, F, hcu.1, hcu.2, HB.out.drewN _, HR.out.short HL.out (Int.not_le.2 HW.out)⟩
              · go_wp2_with fail
                go_meet
                obtain rfl : k = n := by omega
                exact .inr ⟨cu, F, hcu.1, hcu.2, HB.out, HR.out.full (by omega)⟩
        case rest =>
          have HO : Hid (Over w3 n A' Lb len next wc) := hcut
          clear hcut
          go_wp2_with fail
          refine (take_over wc HO.out h0 h1).mono ?_
          rintro e w5 ⟨rfl, ho5⟩
          have HO5 : Hid (Over w3 n A' Lb len next w5) := ho5
          clear ho5
          unfold noMsg
          go_wp2_with fail
          refine (take_over _ (HO5.out.alloc _) h0 h1).mono ?_
          rintro e w6 ⟨rfl, ho6⟩
          have HO6 : Hid (Over w3 n A' Lb len next w6) := ho6
          clear ho6
          unfold noMsg
          go_wp2
          go_ret
          exact ⟨rfl, HM.out.old.trans ((HO6.out.alloc _).old.mono HM.out.old.size)⟩
end Go.Proofs.Qxb6000464a
