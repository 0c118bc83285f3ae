/-
  The walk of Take (33).
-/
import Derived.Test.Qxb6000464aBox
import Derived.RegionTactic
namespace Go.Proofs.Qxb6000464a
open Go.RowKit Go.Maps

variable {w0 : World} {ib n : Nat} {A : Nat → Option Addr} {L : Nat → Nat} {len : Nat → Int} {nx : Int} {lat : Bool} {F : Int → Option Nat}

theorem Box.look {w : World} (h : Box w0 ib n A L len nx lat F w) (s : Int) (hs : (Lit.int .u16 s).wf = true) :
    (Instr.lookup 67 (.map (some (ib + 1))) (.int .u16 s) false).run Try.prog w = .ok (mkP ((F s).map (ib + 2 + ·))) w := by
  obtain ⟨D, hown, hr⟩ := h.own
  obtain ⟨v, ps, hrun, hv⟩ := hown.lookup law46 Try.underlying67 (zero36 w) ptrE_nil (keyOf_int_mk Try.underlying46 hs)
  rw [hrun]
  rw [hr s .nil] at hv
  cases hF : F s with
  | none =>
    rw [hF] at hv
    rcases ptrE_inv hv with ⟨rfl, _⟩ | ⟨g, rfl, h2⟩
    · rfl
    · simp [encP] at h2
  | some i =>
    rw [hF] at hv
    rcases ptrE_inv hv with ⟨rfl, h2⟩ | ⟨g, rfl, h2⟩
    · simp [encP] at h2
    · simp [encP] at h2
      have : g = ib + 2 + i := by omega
      subst this
      rfl

theorem Box.set4 {w : World} (h : Box w0 ib n A L len nx lat F w) {rb : Nat} (hrb : ib + 2 + n ≤ rb) (v0 v1 v2 v3 : Value) : Box w0 ib n A L len nx lat F ((((w.setCell ⟨rb, 0, none⟩ v0).setCell ⟨rb, 1, none⟩ v1).setCell ⟨rb, 2, none⟩ v2).setCell ⟨rb, 3, none⟩ v3) :=
  h.kept (((((Below.refl _ _).setCell hrb _).setCell hrb _).setCell hrb _).setCell hrb _)

/-- The lookup in 'pending', at the operation. -/
theorem look_box {w : World} {ops : Array Oper} {rest : List Oper} {o : Oper} {a : Act} {Q : Exit → Act → World → Prop} (hg : o.guard = none) (m x : Operand) (hop : o.op = Op.lookup 67 m x false) (h : Box w0 ib n A L len nx lat F w) (s : Int) (hs : (Lit.int .u16 s).wf = true)
    (hm : a.eval m = .map (some (ib + 1))) (hx : a.eval x = .int .u16 s) (v : Value) (hv : mkP ((F s).map (ib + 2 + ·)) = v) (hK : wpList Try.prog ops Q rest (a.put o.dst v) w) : wpList Try.prog ops Q (o :: rest) a w := by
  refine wpList_plain hg fun K' hK' => ?_
  have hrun := h.look s hs
  rw [hv] at hrun
  unfold Oper.wp
  simp [execOp, hop, hm, hx, hrun, Result.andThen]
  exact hK' _ _ hK

/-- The message that is no message. -/
def noMsg : Value := .agg #[.int .u8 0, .int .u16 0, .int .u16 0, .slice none 0 0]

theorem take_hole (w : World) (h : Box w0 ib n A L len nx false F w) (h0 : 0 ≤ nx) (h1 : nx ≤ 65535) (hF : F nx = none) :
    Calls Try.prog 33 #[.pointer (some ⟨ib, 0, none⟩)] w fun e w' => e = .returned (.tuple #[noMsg, .bool false]) ∧ Box w0 ib n A L len nx false F w' := by
  have hc0 := h.c0
  have hc2 := h.c2
  have hc3 := h.c3
  have hib : ib < w.heap.size := by have := h.sz; omega
  have HF : Hid (F nx = none) := hF
  clear hF
  go_enter Try.func33, Try.ntmps33
  go_wp2_with (first | (at_lookup; refine look_box rfl _ _ rfl (h.alloc _) nx (WalkArith.wf_u16 (by omega)) rfl rfl (.pointer none) (by rw [HF.out]; rfl) ?_))
  exact bodyPost_ret (v := .tuple #[noMsg, .bool false]) (by simp [results, Try.results33, go_sem, noMsg]) rfl ⟨rfl, h.alloc _⟩

theorem take_short (w : World) (h : Box w0 ib n A L len nx false F w) (h0 : 0 ≤ nx) (h1 : nx ≤ 65535) (i : Nat) (hF : F nx = some i) (hw : ¬ len i ≤ (L i : Int)) :
    Calls Try.prog 33 #[.pointer (some ⟨ib, 0, none⟩)] w fun e w' => e = .returned (.tuple #[noMsg, .bool false]) ∧ Box w0 ib n A L len nx false F w' := by
  have hc0 := h.c0
  have hc2 := h.c2
  have hc3 := h.c3
  have hi := h.rng nx i hF
  have hsz := h.sz
  have hib : ib < w.heap.size := by omega
  have HF : Hid (F nx = some i) := hF
  have hd : decide (len i ≤ (L i : Int)) = false := by simp only [decide_eq_false_iff_not]; exact hw
  clear hF hw
  go_enter Try.func33, Try.ntmps33
  go_wp2_with (first
    | (at_lookup; refine look_box rfl _ _ rfl (h.alloc _) nx (WalkArith.wf_u16 (by omega)) rfl rfl (.pointer (some ⟨ib + 2 + i, 0, none⟩)) (by rw [HF.out]; rfl) ?_)
    | (go_at_call 39; refine (whole_any (ib + 2 + i) (A i) (L i) (L i) (len i) _ ((h.alloc _).a3 i hi) ((h.alloc _).a2 i hi)).mono ?_; rintro e w' ⟨rfl, m, rfl⟩))
  exact bodyPost_ret (v := .tuple #[noMsg, .bool false]) (by simp [results, Try.results33, go_sem, noMsg]) rfl ⟨rfl, ((h.alloc _).drewN _).set4 hsz _ _ _ _⟩

/-- The message of put i at seq. -/
def msg (i : Nat) (seq : Int) (a : Option Addr) (l : Nat) : Value := .agg #[.int .u8 ((i : Int) % 256), .int .u16 seq, .int .u16 ((i : Int) % 65536), .slice a l l]

/-- seq + 1 in sixteen bits. -/
def succ16 (s : Int) : Int := if s = 65535 then 0 else s + 1

theorem wrap_succ (s : Int) (h0 : 0 ≤ s) (h1 : s ≤ 65535) : IntKind.u16.wrap (s + 1) = succ16 s := by
  unfold succ16
  by_cases h : s = 65535
  · subst h; rfl
  · rw [if_neg h]
    have : IntKind.u16.wrap (s + 1) = (s + 1) % 65536 := rfl
    rw [this]; omega

theorem take_whole (w : World) (h : Box w0 ib n A L len nx false F w) (h0 : 0 ≤ nx) (h1 : nx ≤ 65535) (i : Nat) (hF : F nx = some i) (hw : len i ≤ (L i : Int)) :
    Calls Try.prog 33 #[.pointer (some ⟨ib, 0, none⟩)] w fun e w' => e = .returned (.tuple #[msg i nx (A i) (L i), .bool true]) ∧ Box w0 ib n A L len (succ16 nx) false (cutF (succ16 nx) F) w' := by
  have hc0 := h.c0
  have hc2 := h.c2
  have hc3 := h.c3
  have hi := h.rng nx i hF
  have hsz := h.sz
  have hib : ib < w.heap.size := by omega
  have HF : Hid (F nx = some i) := hF
  have hd : decide (len i ≤ (L i : Int)) = true := by simp only [decide_eq_true_eq]; exact hw
  clear hF hw
  obtain ⟨sq, hsq⟩ : ∃ sq, sq = succ16 nx := ⟨_, rfl⟩
  have hwr : IntKind.u16.wrap (nx + 1) = sq := by rw [hsq]; exact wrap_succ nx h0 h1
  have HS : Hid (sq = succ16 nx) := hsq
  clear hsq
  go_enter Try.func33, Try.ntmps33
  go_wp2_with (first
    | (at_lookup; refine look_box rfl _ _ rfl (h.alloc _) nx (WalkArith.wf_u16 (by omega)) rfl rfl (.pointer (some ⟨ib + 2 + i, 0, none⟩)) (by rw [HF.out]; rfl) ?_)
    | (go_at_call 39; refine (whole_any (ib + 2 + i) (A i) (L i) (L i) (len i) _ ((h.alloc _).a3 i hi) ((h.alloc _).a2 i hi)).mono ?_; rintro e w' ⟨rfl, m, rfl⟩)
    | (go_at_call 40; refine (skip_to sq _ ((h.alloc _).drewN m)).mono ?_; rintro e w2 ⟨rfl, hB, hfar⟩
       have r0 := hfar.cell (b := w.heap.size) (o := 0) (by simp) (by omega) (by omega)
       have r1 := hfar.cell (b := w.heap.size) (o := 1) (by simp) (by omega) (by omega)
       have r2 := hfar.cell (b := w.heap.size) (o := 2) (by simp) (by omega) (by omega)
       have r3 := hfar.cell (b := w.heap.size) (o := 3) (by simp) (by omega) (by omega)
       have q0 := hfar.frozen (b := w.heap.size) (o := 0) (by simp) (by omega) (by omega)
       have q1 := hfar.frozen (b := w.heap.size) (o := 1) (by simp) (by omega) (by omega)
       have q2 := hfar.frozen (b := w.heap.size) (o := 2) (by simp) (by omega) (by omega)
       have q3 := hfar.frozen (b := w.heap.size) (o := 3) (by simp) (by omega) (by omega)
       simp at r0 r1 r2 r3 q0 q1 q2 q3
       have x0 := hB.a0 i hi
       have x1 := hB.a1 i hi
       have x3 := hB.a3 i hi))
  go_region
  all_goals
    go_wp2
    refine bodyPost_ret (v := .tuple #[msg i nx (A i) (L i), .bool true]) (by simp [results, Try.results33, go_sem, msg, r0, r1, r2, r3]) rfl ⟨rfl, ?_⟩
    rw [← HS.out]
    exact (hB.set4 hsz _ _ _ _).drewN 1
end Go.Proofs.Qxb6000464a
