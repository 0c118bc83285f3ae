/-
  Take (33) in the latest mode: the greatest whole seq.
-/
import Derived.Test.Qxb6000464aOrder
import Derived.Laws.IdiomRangeMap
import Derived.OpenShut
namespace Go.Proofs.Qxb6000464a
open Go.RowKit Go.Maps

variable {w0 : World} {ib n : Nat} {A : Nat → Option Addr} {L : Nat → Nat} {len : Nat → Int} {nx : Int} {F : Int → Option Nat}

/-- The message last put at s is whole. -/
def Whole (L : Nat → Nat) (len : Nat → Int) (F : Int → Option Nat) (s : Int) : Prop := ∃ i, F s = some i ∧ len i ≤ (L i : Int)

/-- What the sweep knows of the keys that it has seen. -/
structure Seen (L : Nat → Nat) (len : Nat → Int) (F : Int → Option Nat) (nx : Int) (left : Lit → Bool) (fo : Bool) (sv : Int) : Prop where
  no : fo = false → sv = nx ∧ ∀ s, left (.int .u16 s) = false → ¬ Whole L len F s
  yes : fo = true → Whole L len F sv ∧ ∀ s, left (.int .u16 s) = false → Whole L len F s → s ≤ sv
  lo : 0 ≤ sv
  hi : sv ≤ 65535

theorem strike {left : Lit → Bool} {s x : Int} (h : (left (.int .u16 s) && !(Lit.int .u16 s).sameKey (.int .u16 x)) = false) : left (.int .u16 s) = false ∨ s = x := by
  rw [same_u16] at h
  by_cases e : s = x
  · exact .inr e
  · simp [e] at h; exact .inl h

theorem Seen.start {c : Nat} {D : DataW Unit} (h : Reads c D F) (h0 : 0 ≤ nx) (h1 : nx ≤ 65535) : Seen L len F nx (Maps.has D) false nx := by
  refine ⟨fun _ => ⟨rfl, fun s hs => ?_⟩, (fun h => by cases h), h0, h1⟩
  rintro ⟨i, hi, _⟩
  have e := h s .nil
  rw [atKey_of_not_has hs, hi] at e
  cases e
theorem Seen.skip {left : Lit → Bool} {fo : Bool} {sv x : Int} (h : Seen L len F nx left fo sv) (hx : ¬ Whole L len F x) : Seen L len F nx (fun z => left z && !z.sameKey (.int .u16 x)) fo sv := by
  refine ⟨fun e => ⟨(h.no e).1, fun s hs => ?_⟩, fun e => ⟨(h.yes e).1, fun s hs hW => ?_⟩, h.lo, h.hi⟩
  · rcases strike hs with hs | rfl
    · exact (h.no e).2 s hs
    · exact hx
  · rcases strike hs with hs | rfl
    · exact (h.yes e).2 s hs hW
    · exact absurd hW hx
theorem Seen.first {left : Lit → Bool} {sv x : Int} (h : Seen L len F nx left false sv) (hx : Whole L len F x) (h0 : 0 ≤ x) (h1 : x ≤ 65535) : Seen L len F nx (fun z => left z && !z.sameKey (.int .u16 x)) true x := by
  refine ⟨(fun e => by cases e), fun _ => ⟨hx, fun s hs hW => ?_⟩, h0, h1⟩
  rcases strike hs with hs | rfl
  · exact absurd hW ((h.no rfl).2 s hs)
  · exact Int.le_refl _
theorem Seen.more {left : Lit → Bool} {sv x : Int} (h : Seen L len F nx left true sv) (hx : Whole L len F x) (hlt : sv < x) (h0 : 0 ≤ x) (h1 : x ≤ 65535) : Seen L len F nx (fun z => left z && !z.sameKey (.int .u16 x)) true x := by
  refine ⟨(fun e => by cases e), fun _ => ⟨hx, fun s hs hW => ?_⟩, h0, h1⟩
  rcases strike hs with hs | rfl
  · have := (h.yes rfl).2 s hs hW; omega
  · exact Int.le_refl _
theorem Seen.keep {left : Lit → Bool} {sv x : Int} (h : Seen L len F nx left true sv) (hlt : ¬ sv < x) : Seen L len F nx (fun z => left z && !z.sameKey (.int .u16 x)) true sv := by
  refine ⟨(fun e => by cases e), fun _ => ⟨(h.yes rfl).1, fun s hs hW => ?_⟩, h.lo, h.hi⟩
  rcases strike hs with hs | rfl
  · exact (h.yes rfl).2 s hs hW
  · omega

theorem found_at {cc : Nat} {D : DataW Unit} (h : Reads cc D F) {x : Int} {c : Option Nat} (hat : ∀ zd, D.atKey (.int .u16 x) zd = datP c) : ∃ i, F x = some i ∧ c = some (cc + i) := by
  cases hF : F x with
  | none =>
    have e1 := (h x .nil).symm.trans (hat .nil)
    have e2 := (h x (.lit (.int .i64 0))).symm.trans (hat (.lit (.int .i64 0)))
    rw [hF] at e1 e2
    simp only [encP] at e1 e2
    rw [← e2] at e1
    cases e1
  | some i =>
    have e1 := (h x .nil).symm.trans (hat .nil)
    rw [hF] at e1
    cases c with
    | none => simp [encP, datP] at e1
    | some g =>
      simp [encP, datP] at e1
      exact ⟨i, rfl, by congr 1; omega⟩

/-- What the sweep's rounds keep. -/
def Sweep (w : World) (o : Obj) (ib n : Nat) (D : DataW Unit) (L : Nat → Nat) (len : Nat → Int) (F : Int → Option Nat) (nx : Int) (c t : Value) (wr : World) : Prop :=
  ∃ (sv : Int) (fo : Bool) (left : Lit → Bool) (cnt : Nat), c = .int .u16 sv ∧ t = .bool fo ∧ wr.ranges Try.prog 46 ptrE (ib + 1) (w.heap.size + 1) n D left cnt ∧ Seen L len F nx left fo sv ∧ Below (w.heap.size + 1) (w.alloc o) wr

/-- Take's answer in the latest mode. -/
def Newest (w0 : World) (ib n : Nat) (A : Nat → Option Addr) (L : Nat → Nat) (len : Nat → Int) (nx : Int) (F : Int → Option Nat) (e : Ending) (w' : World) : Prop :=
  (e = .returned (.tuple #[noMsg, .bool false]) ∧ (∀ s, ¬ Whole L len F s) ∧ Box w0 ib n A L len nx true F w') ∨
  ∃ (s : Int) (i : Nat), F s = some i ∧ len i ≤ (L i : Int) ∧ (∀ x, Whole L len F x → x ≤ s) ∧ e = .returned (.tuple #[msg i s (A i) (L i), .bool true]) ∧ Box w0 ib n A L len (succ16 s) true (cutF (succ16 s) F) w'

theorem heap_drewN' (w : World) (k : Nat) : (w.drewN k).heap = w.heap := by
  induction k with
  | zero => rfl
  | succ k ih => exact ih
theorem ranges_drewN {w : World} {b r n : Nat} {D : DataW Unit} {left : Lit → Bool} {cnt : Nat} (h : w.ranges Try.prog 46 ptrE b r n D left cnt) (k : Nat) : (w.drewN k).ranges Try.prog 46 ptrE b r n D left cnt := by
  unfold World.ranges at h ⊢
  rw [heap_drewN']
  exact h
theorem Below.drewN' {b : Nat} {w wr : World} (h : Below b w wr) (k : Nat) : Below b w (wr.drewN k) := by
  induction k with
  | zero => exact h
  | succ k ih => exact ih.drew

set_option maxRecDepth 100000 in
set_option maxHeartbeats 1000000 in
theorem take_latest (w : World) (h : Box w0 ib n A L len nx true F w) (h0 : 0 ≤ nx) (h1 : nx ≤ 65535) :
    Calls Try.prog 33 #[.pointer (some ⟨ib, 0, none⟩)] w fun e w' => Newest w0 ib n A L len nx F e w' := by
  obtain ⟨D, hown, hr⟩ := h.own
  have hc0 := h.c0
  have hc2 := h.c2
  have hc3 := h.c3
  have hsz := h.sz
  have hib : ib < w.heap.size := by omega
  have HB : Hid (Box w0 ib n A L len nx true F w) := h
  have HR : Hid (Reads (ib + 2) D F) := hr
  clear hr h
  go_enter Try.func33, Try.ntmps33
  go_wp2_with (first
    | (at_range; refine wpList_range_own _ rfl _ 67 rfl 46 36 law46 Try.underlying67 _ (ib + 1) n _ rfl (hown.alloc _) ?_; intro w1 hrg0 hg0 hs0; rw [World.size_alloc] at hrg0 hs0)
    | go_in)
  rw [World.size_alloc]
  have HO : Hid (w.ownsMap Try.prog 46 ptrE (ib + 1) n D) := hown
  clear hown
  have hb0 : Below (w.heap.size + 1) (w.alloc (Obj.cells #[Value.int IntKind.u8 0, Value.int IntKind.u16 0, Value.int IntKind.u16 0, Value.slice none 0 0] 55)) w1 :=
    ⟨hg0.os, hg0.tape, hg0.output, hg0.size, fun k hk => hg0.block k (by simp; omega) (by simp)⟩
  have HS0 : Hid (Sweep w (Obj.cells #[Value.int IntKind.u8 0, Value.int IntKind.u16 0, Value.int IntKind.u16 0, Value.slice none 0 0] 55) ib n D L len F nx (.int .u16 nx) (.bool false) w1) := ⟨nx, false, _, _, rfl, rfl, hrg0, Seen.start HR.out h0 h1, hb0⟩
  clear hb0 hrg0 hg0 hs0
  go_frame
  go_loopw [4, 5, 6, 7] (fun c t _ _ wr => Hid (Sweep w (Obj.cells #[Value.int IntKind.u8 0, Value.int IntKind.u16 0, Value.int IntKind.u16 0, Value.slice none 0 0] 55) ib n D L len F nx c t wr)) (fun _ _ _ _ wr => wr.rangeLeft (ib + 1) (w.heap.size + 1))
  case atStart => exact HS0
  case round =>
    clear HS0
    obtain ⟨sv, fo, left, cnt, rfl, rfl, hrg, hse, hbe⟩ := hrel.out
    have HSE : Hid (Seen L len F nx left fo sv) := hse
    have HBE : Hid (Below (w.heap.size + 1) (w.alloc (Obj.cells #[Value.int IntKind.u8 0, Value.int IntKind.u16 0, Value.int IntKind.u16 0, Value.slice none 0 0] 55)) wr) := hbe
    have HW : Hid (Box w0 ib n A L len nx true F wr) := (HB.out.alloc _).kept (hbe.mono (by omega))
    clear hrel hse hbe
    go_wp2_with (first
      | (at_next; refine next_box rfl _ rfl (ib + 1) (w.heap.size + 1) n _ _ _ rfl hrg ?_ ?_)
      | go_in)
    · intro hl0
      clear hrg
      have hc3' := HW.out.c3
      have hlo := HSE.out.lo
      have hhi := HSE.out.hi
      have hlw : w.heap.size < wr.heap.size := by have := HBE.out.size; simp at this; omega
      have z0 := HBE.out.cell (p := ⟨w.heap.size, 0, none⟩) (by show w.heap.size < _; omega)
      have z1 := HBE.out.cell (p := ⟨w.heap.size, 1, none⟩) (by show w.heap.size < _; omega)
      have z2 := HBE.out.cell (p := ⟨w.heap.size, 2, none⟩) (by show w.heap.size < _; omega)
      have z3 := HBE.out.cell (p := ⟨w.heap.size, 3, none⟩) (by show w.heap.size < _; omega)
      have g0 := HBE.out.frozen (p := ⟨w.heap.size, 0, none⟩) (by show w.heap.size < _; omega)
      have g1 := HBE.out.frozen (p := ⟨w.heap.size, 1, none⟩) (by show w.heap.size < _; omega)
      have g2 := HBE.out.frozen (p := ⟨w.heap.size, 2, none⟩) (by show w.heap.size < _; omega)
      have g3 := HBE.out.frozen (p := ⟨w.heap.size, 3, none⟩) (by show w.heap.size < _; omega)
      simp at z0 z1 z2 z3 g0 g1 g2 g3
      cases fo with
      | false =>
        obtain ⟨rfl, hno⟩ := HSE.out.no rfl
        have HN : Hid (∀ s, ¬ Whole L len F s) := fun s => hno s (hl0 _)
        clear hno hl0
        cases hF : F sv with
        | none =>
          have HF : Hid (F sv = none) := hF
          clear hF
          go_wp2_with (first | (at_lookup; refine look_box rfl _ _ rfl HW.out sv (WalkArith.wf_u16 (by omega)) rfl rfl (.pointer none) (by rw [HF.out]; rfl) ?_))
          exact bodyPost_ret (v := .tuple #[noMsg, .bool false]) (by simp [results, Try.results33, go_sem, noMsg, z0, z1, z2, z3]) rfl (.inl ⟨rfl, HN.out, HW.out.set4 hsz _ _ _ _⟩)
        | some i =>
          have hi := HW.out.rng sv i hF
          have hd : decide (len i ≤ (L i : Int)) = false := by simp only [decide_eq_false_iff_not]; exact fun hw => HN.out sv ⟨i, hF, hw⟩
          have HF : Hid (F sv = some i) := hF
          clear hF
          go_wp2_with (first
            | (at_lookup; refine look_box rfl _ _ rfl HW.out sv (WalkArith.wf_u16 (by omega)) rfl rfl (.pointer (some ⟨ib + 2 + i, 0, none⟩)) (by rw [HF.out]; rfl) ?_)
            | (go_at_call 39; refine (whole_any (ib + 2 + i) (A i) (L i) (L i) (len i) _ (HW.out.a3 i hi) (HW.out.a2 i hi)).mono ?_; rintro e w' ⟨rfl, m, rfl⟩))
          exact bodyPost_ret (v := .tuple #[noMsg, .bool false]) (by simp [results, Try.results33, go_sem, noMsg, z0, z1, z2, z3]) rfl (.inl ⟨rfl, HN.out, (HW.out.drewN _).set4 hsz _ _ _ _⟩)
      | true =>
        obtain ⟨⟨i, hF, hw⟩, hmax⟩ := HSE.out.yes rfl
        have HM : Hid (∀ x, Whole L len F x → x ≤ sv) := fun x hW => hmax x (hl0 _) hW
        have hi := HW.out.rng sv i hF
        have hd : decide (len i ≤ (L i : Int)) = true := by simp only [decide_eq_true_eq]; exact hw
        have HF : Hid (F sv = some i) := hF
        have HWi : Hid (len i ≤ (L i : Int)) := hw
        clear hF hw hmax hl0
        obtain ⟨sq, hsq⟩ : ∃ sq, sq = succ16 sv := ⟨_, rfl⟩
        have hwr : IntKind.u16.wrap (sv + 1) = sq := by rw [hsq]; exact wrap_succ sv hlo hhi
        have HS : Hid (sq = succ16 sv) := hsq
        clear hsq
        go_wp2_with (first
          | (at_lookup; refine look_box rfl _ _ rfl HW.out sv (WalkArith.wf_u16 (by omega)) rfl rfl (.pointer (some ⟨ib + 2 + i, 0, none⟩)) (by rw [HF.out]; rfl) ?_)
          | (go_at_call 39; refine (whole_any (ib + 2 + i) (A i) (L i) (L i) (len i) _ (HW.out.a3 i hi) (HW.out.a2 i hi)).mono ?_; rintro e w' ⟨rfl, m, rfl⟩)
          | (go_at_call 40; refine (skip_to sq _ (HW.out.drewN m)).mono ?_; rintro e w2 ⟨rfl, hB, hfar⟩
             have r0 := hfar.cell (b := w.heap.size) (o := 0) (by simp; omega) (by omega) (by omega)
             have r1 := hfar.cell (b := w.heap.size) (o := 1) (by simp; omega) (by omega) (by omega)
             have r2 := hfar.cell (b := w.heap.size) (o := 2) (by simp; omega) (by omega) (by omega)
             have r3 := hfar.cell (b := w.heap.size) (o := 3) (by simp; omega) (by omega) (by omega)
             have q0 := hfar.frozen (b := w.heap.size) (o := 0) (by simp; omega) (by omega) (by omega)
             have q1 := hfar.frozen (b := w.heap.size) (o := 1) (by simp; omega) (by omega) (by omega)
             have q2 := hfar.frozen (b := w.heap.size) (o := 2) (by simp; omega) (by omega) (by omega)
             have q3 := hfar.frozen (b := w.heap.size) (o := 3) (by simp; omega) (by omega) (by omega)
             simp [z0, z1, z2, z3, g0, g1, g2, g3] at r0 r1 r2 r3 q0 q1 q2 q3
             have x0 := hB.a0 i hi
             have x1 := hB.a1 i hi
             have x3 := hB.a3 i hi))
        go_region
        all_goals
          go_wp2
          refine bodyPost_ret (v := .tuple #[msg i sv (A i) (L i), .bool true]) (by simp [results, Try.results33, go_sem, msg, r0, r1, r2, r3]) rfl (.inr ⟨sv, i, HF.out, HWi.out, HM.out, rfl, ?_⟩)
          rw [← HS.out]
          exact (hB.set4 hsz _ _ _ _).drewN 1
    · intro x c w2 cnt1 hwx hlx hat hrg1 hlt hg1 hen
      obtain ⟨i, hF, rfl⟩ := found_at HR.out hat
      have hx := bounds_u16 hwx
      have hi := HW.out.rng x i hF
      have HF : Hid (F x = some i) := hF
      have hb2 : Below (w.heap.size + 1) wr w2 := ⟨hg1.os, hg1.tape, hg1.output, hg1.size, fun k hk => hg1.block k (Nat.lt_of_lt_of_le (by simpa using hk) HBE.out.size) (by simp; omega)⟩
      have HBE2 : Hid (Below (w.heap.size + 1) (w.alloc (Obj.cells #[Value.int IntKind.u8 0, Value.int IntKind.u16 0, Value.int IntKind.u16 0, Value.slice none 0 0] 55)) w2) := HBE.out.trans hb2
      have HW2 : Hid (Box w0 ib n A L len nx true F w2) := HW.out.kept (hb2.mono (by omega))
      have HRG : Hid (w2.ranges Try.prog 46 ptrE (ib + 1) (w.heap.size + 1) n D (fun z => left z && !z.sameKey (.int .u16 x)) cnt1) := hrg1
      have HLT : Hid (w2.rangeLeft (ib + 1) (w.heap.size + 1) < wr.rangeLeft (ib + 1) (w.heap.size + 1)) := by
        show _ < _
        rw [hrg1.left_eq, hrg.left_eq]; exact hlt
      clear hF hat hlx hg1 hb2 hrg1 hlt hrg
      simp only [mkP] at hen ⊢
      by_cases hw : len i ≤ (L i : Int)
      · have hd : decide (len i ≤ (L i : Int)) = true := by simp only [decide_eq_true_eq]; exact hw
        have HWx : Hid (Whole L len F x) := ⟨i, HF.out, hw⟩
        clear hw
        cases fo with
        | false =>
          go_wp2_with (first
            | (go_at_call 39; refine (whole_any (ib + 2 + i) (A i) (L i) (L i) (len i) _ (HW2.out.a3 i hi) (HW2.out.a2 i hi)).mono ?_; rintro e w' ⟨rfl, m, rfl⟩)
            | go_in)
          go_roundw
          case rel => exact ⟨x, true, _, cnt1, rfl, rfl, ranges_drewN HRG.out _, HSE.out.first HWx.out hx.1 hx.2, Below.drewN' HBE2.out _⟩
          case measure => exact HLT.out
        | true =>
          by_cases hgt : sv < x
          · have hg : decide (sv < x) = true := by simp only [decide_eq_true_eq]; exact hgt
            go_wp2_with (first
              | (go_at_call 39; refine (whole_any (ib + 2 + i) (A i) (L i) (L i) (len i) _ (HW2.out.a3 i hi) (HW2.out.a2 i hi)).mono ?_; rintro e w' ⟨rfl, m, rfl⟩)
              | go_in)
            go_roundw
            case rel => exact ⟨x, true, _, cnt1, rfl, rfl, ranges_drewN HRG.out _, HSE.out.more HWx.out hgt hx.1 hx.2, Below.drewN' HBE2.out _⟩
            case measure => exact HLT.out
          · have hg : decide (sv < x) = false := by simp only [decide_eq_false_iff_not]; exact hgt
            go_wp2_with (first
              | (go_at_call 39; refine (whole_any (ib + 2 + i) (A i) (L i) (L i) (len i) _ (HW2.out.a3 i hi) (HW2.out.a2 i hi)).mono ?_; rintro e w' ⟨rfl, m, rfl⟩)
              | go_in)
            go_roundw
            case rel => exact ⟨sv, true, _, cnt1, rfl, rfl, ranges_drewN HRG.out _, HSE.out.keep (Int.not_lt.2 hgt), Below.drewN' HBE2.out _⟩
            case measure => exact HLT.out
      · have hd : decide (len i ≤ (L i : Int)) = false := by simp only [decide_eq_false_iff_not]; exact hw
        have HWx : Hid (¬ Whole L len F x) := by
          rintro ⟨j, hj, hwj⟩
          rw [HF.out] at hj
          cases hj
          exact hw hwj
        clear hw
        cases fo with
        | false =>
          go_wp2_with (first
            | (go_at_call 39; refine (whole_any (ib + 2 + i) (A i) (L i) (L i) (len i) _ (HW2.out.a3 i hi) (HW2.out.a2 i hi)).mono ?_; rintro e w' ⟨rfl, m, rfl⟩)
            | go_in)
          go_roundw
          case rel => exact ⟨sv, false, _, cnt1, rfl, rfl, ranges_drewN HRG.out _, HSE.out.skip HWx.out, Below.drewN' HBE2.out _⟩
          case measure => exact HLT.out
        | true =>
          go_wp2_with (first
            | (go_at_call 39; refine (whole_any (ib + 2 + i) (A i) (L i) (L i) (len i) _ (HW2.out.a3 i hi) (HW2.out.a2 i hi)).mono ?_; rintro e w' ⟨rfl, m, rfl⟩)
            | go_in)
          go_roundw
          case rel => exact ⟨sv, true, _, cnt1, rfl, rfl, ranges_drewN HRG.out _, HSE.out.skip HWx.out, Below.drewN' HBE2.out _⟩
          case measure => exact HLT.out

theorem take_newest_no (w : World) (h : Box w0 ib n A L len nx true F w) (h0 : 0 ≤ nx) (h1 : nx ≤ 65535) (hn : ∀ s, ¬ Whole L len F s) :
    Calls Try.prog 33 #[.pointer (some ⟨ib, 0, none⟩)] w fun e w' => e = .returned (.tuple #[noMsg, .bool false]) ∧ Box w0 ib n A L len nx true F w' := by
  refine (take_latest w h h0 h1).mono ?_
  rintro e w' (⟨he, _, hb⟩ | ⟨s, i, hF, hw, _⟩)
  · exact ⟨he, hb⟩
  · exact absurd ⟨i, hF, hw⟩ (hn s)
theorem take_newest (w : World) (h : Box w0 ib n A L len nx true F w) (h0 : 0 ≤ nx) (h1 : nx ≤ 65535) (s : Int) (i : Nat) (hF : F s = some i) (hw : len i ≤ (L i : Int)) (hm : ∀ x, Whole L len F x → x ≤ s) :
    Calls Try.prog 33 #[.pointer (some ⟨ib, 0, none⟩)] w fun e w' => e = .returned (.tuple #[msg i s (A i) (L i), .bool true]) ∧ Box w0 ib n A L len (succ16 s) true (cutF (succ16 s) F) w' := by
  refine (take_latest w h h0 h1).mono ?_
  rintro e w' (⟨_, hn, _⟩ | ⟨s', i', hF', hw', hm', he, hb⟩)
  · exact absurd ⟨i, hF, hw⟩ (hn s)
  · have e1 := hm s' ⟨i', hF', hw'⟩
    have e2 := hm' s ⟨i, hF, hw⟩
    obtain rfl : s = s' := by omega
    rw [hF] at hF'
    cases hF'
    exact ⟨he, hb⟩

theorem take_empty_lat (w : World) (h : N0 w0 ib nx true w) (h0 : 0 ≤ nx) (h1 : nx ≤ 65535) :
    Calls Try.prog 33 #[.pointer (some ⟨ib, 0, none⟩)] w fun e w' => e = .returned (.tuple #[noMsg, .bool false]) ∧ N0 w0 ib nx true w' := by
  have hc0 := h.c0
  have hc2 := h.c2
  have hc3 := h.c3
  have hib := h.lt
  have hl : ∀ wx, (Instr.lookup 67 (.map none) (.int .u16 nx) false).run Try.prog wx = .ok (.pointer none) wx := fun wx => Maps.look_nil false law46 Try.underlying67 (zero36 wx) (keyOf_int_mk Try.underlying46 (WalkArith.wf_u16 (by omega)))
  have hrg : ∀ wx : World, (Instr.range 67 (.map none)).run Try.prog wx = .ok (.pointer (some ⟨wx.heap.size, 0, none⟩)) (wx.alloc (.mapIter none 0 #[] 0)) := fun wx => run_range_nilMap wx 67 46 36 Try.underlying67
  have hnx : ∀ (o : Obj) (ty : TypeId), (Instr.next (.pointer (some ⟨w.heap.size + 1, 0, none⟩)) false ty).run Try.prog ((w.alloc o).alloc (.mapIter none 0 #[] 0)) = .ok (.tuple #[.bool false]) ((w.alloc o).alloc (.mapIter none 0 #[] 0)) := fun o ty => by
    have := run_next_nilMap (P := Try.prog) (w.alloc o) ty 0 0 #[]
    rw [World.size_alloc] at this
    exact this
  go_enter Try.func33, Try.ntmps33
  go_wp2
  refine wp_loop_rounds 1 ?_
  rw [rounds_succ]
  go_wp2
  exact bodyPost_ret (v := .tuple #[noMsg, .bool false]) (by simp [results, Try.results33, go_sem, noMsg]) rfl ⟨rfl, (h.alloc _).alloc _⟩
end Go.Proofs.Qxb6000464a
