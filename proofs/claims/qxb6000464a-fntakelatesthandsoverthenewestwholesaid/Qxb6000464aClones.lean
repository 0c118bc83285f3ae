/-
  The walks of zzCloneBytes (11), zzCloneInts (16), zzCloneU16 (30), zzCloneBodies (17), whatever slice comes in.
-/
import Derived.Test.Qxb6000464aClone
import Derived.Deep.QuietTactic
import Derived.BigQuiet
namespace Go.Proofs.Qxb6000464a
open Go.RowKit Go.Deep

/-- A slice of n integers, nil or empty or not: where there is an element, they lie in a row. -/
def View (k : IntKind) (w : World) (a : Option Addr) (n : Nat) (f : Nat → Int) : Prop := 0 < n → ∃ b off, a = some ⟨b, off, none⟩ ∧ ∀ i, i < n → w.cell? ⟨b, off + i, none⟩ = some (.int k (f i))
theorem View.later {k : IntKind} {w w' : World} {a : Option Addr} {n : Nat} {f : Nat → Int} (h : View k w a n f) (hb : Below w.heap.size w w') : View k w' a n f := fun hn => by
  obtain ⟨b, off, ha, hc⟩ := h hn
  exact ⟨b, off, ha, fun i hi => cell_later hb (hc i hi)⟩
/-- It lies in blocks from B on. -/
def From (B : Nat) (a : Option Addr) : Prop := ∀ x, a = some x → B ≤ x.block
theorem View.setCell {k : IntKind} {w : World} {a : Option Addr} {n : Nat} {f : Nat → Int} {B : Nat} (h : View k w a n f) (hf : From (B + 1) a) (o : Nat) (v : Value) : View k (w.setCell ⟨B, o, none⟩ v) a n f := fun hn => by
  obtain ⟨b, off, ha, hc⟩ := h hn
  refine ⟨b, off, ha, fun i hi => ?_⟩
  rw [World.cell?_setCell_other]
  · exact hc i hi
  · intro e; cases e; have := hf _ ha; simp at this; omega

theorem rowStepK {wr : World} {b e : Nat} {n k : Nat} {f : Nat → Value} {z : Value} (h : wr.rowIs b e n (fun j => if j < k then f j else z)) :
    (wr.setCell ⟨b, k, none⟩ (f k)).rowIs b e n (fun j => if j < k + 1 then f j else z) := by
  refine (h.set k (f k)).congr fun i hi => ?_
  by_cases e : i = k
  · subst e; simp
  · rw [if_neg e]
    by_cases l : i < k
    · rw [if_pos l, if_pos (by omega)]
    · rw [if_neg l, if_neg (by omega)]

theorem clone11_any (a : Option Addr) (n c : Nat) (f : Nat → Int) (w : World) (hn : n ≤ 1048576) (hv : View .u8 w a n f) (hnil : a = none → n = 0 ∧ c = 0) :
    Calls Try.prog 11 #[.slice a n c] w fun e w' => ∃ a', e = .returned (.slice a' n n) ∧ View .u8 w' a' n f ∧ From w.heap.size a' ∧ Below w.heap.size w w' := by
  rcases Nat.eq_zero_or_pos n with rfl | hpos
  · cases a with
    | none =>
      obtain ⟨_, rfl⟩ := hnil rfl
      refine (clone_nil w).mono ?_
      rintro e w' ⟨rfl, rfl⟩
      exact ⟨none, rfl, fun h => absurd h (Nat.lt_irrefl _), fun x hx => by (cases hx), Below.refl _ _⟩
    | some x =>
      refine (clone_empty x c w).mono ?_
      rintro e w' ⟨rfl, _, hb⟩
      exact ⟨_, rfl, fun h => absurd h (Nat.lt_irrefl _), fun x hx => by (cases hx; exact Nat.le_refl _), hb⟩
  · obtain ⟨b, off, rfl, hc⟩ := hv hpos
    refine (clone_some b off n c f w hn hc).mono ?_
    rintro e w' ⟨rfl, hr, _, hb⟩
    exact ⟨_, rfl, fun _ => ⟨_, 0, rfl, fun i hi => by rw [Nat.zero_add]; exact hr.cell hi⟩, fun x hx => by (cases hx; exact Nat.le_refl _), hb⟩

theorem Try.info3 : (Try.prog.info? 3).map (fun i => (i.zero, i.size, i.bytes)) = some (some (.int .i64 0), 1, 8) := by kernel_rfl
theorem clone16_nil (w : World) : Calls Try.prog 16 #[.slice none 0 0] w fun e w' => e = .returned (.slice none 0 0) ∧ w' = w := by
  have q : ∀ (w : World) (a : Option Addr) (n c : Nat), (binOp .eql 29 (.slice a n c) (.slice none 0 0)).run Try.prog w = .ok (.bool a.isNone) w := fun w a n c => Lib.run_eql_slice_nil w _ _ a n c _ _ Try.underlying29
  go_enter Try.func16, Try.ntmps16
  go_wp2
  go_ret
  exact ⟨rfl, rfl⟩
theorem clone16_some (b off n c : Nat) (zs : Nat → Int) (w : World) (hn : n ≤ 1048576) (hc : ∀ i, i < n → w.cell? ⟨b, off + i, none⟩ = some (.int .i64 (zs i))) :
    Calls Try.prog 16 #[.slice (some ⟨b, off, none⟩) n c] w fun e w' => e = .returned (.slice (some ⟨w.heap.size, 0, none⟩) n n) ∧ w'.rowIs w.heap.size 3 n (fun i => .int .i64 (zs i)) ∧ Below w.heap.size w w' := by
  have q : ∀ (w : World) (a : Option Addr) (n c : Nat), (binOp .eql 29 (.slice a n c) (.slice none 0 0)).run Try.prog w = .ok (.bool a.isNone) w := fun w a n c => Lib.run_eql_slice_nil w _ _ a n c _ _ Try.underlying29
  have hmk := run_make_row' (P := Try.prog) 29 3 (.int .i64 0) 8 Try.underlying29 Try.info3 rfl .i64 .i64 n (by omega) (by omega)
  have hcb : ∀ i, i < n → b < w.heap.size := fun i hi => World.block_lt_of_cell? _ _ (hc i hi)
  go_enter Try.func16, Try.ntmps16
  go_wp2
  go_loopw [4] (fun i wr => ∃ k : Nat, k ≤ n ∧ i = .int .i64 k ∧ wr.rowIs w.heap.size 3 n (fun j => if j < k then .int .i64 (zs j) else .int .i64 0) ∧ Below w.heap.size w wr) (fun i _ => n - (intOf i).toNat)
  case atStart => exact ⟨0, Nat.zero_le _, rfl, (World.rowIs_made w _ n 3).congr (fun i hi => by simp), (Below.refl _ _).alloc (Nat.le_refl _) _⟩
  case round =>
    obtain ⟨k, hk, rfl, hrow, hbel⟩ := hrel
    by_cases hlt : k < n
    · have hx : wr.cell? ⟨b, off + k, none⟩ = some (.int .i64 (zs k)) := (hbel.cell (hcb k hlt)).trans (hc k hlt)
      have hy := hrow.cell hlt
      have hf := hrow.frozen k
      have R := rowStepK (f := fun j => .int .i64 (zs j)) hrow
      have hne := hcb k hlt
      go_wp2
      go_roundw
      case rel => exact ⟨k + 1, by omega, by go_num, R, hbel.setCell (Nat.le_refl _) _⟩
      case measure => simp [intOf]; omega
    · go_wp2
      go_ret
      exact ⟨rfl, hrow.congr (fun i hi => by rw [if_pos (by omega)]), hbel⟩
theorem clone16_empty (x : Addr) (c : Nat) (w : World) :
    Calls Try.prog 16 #[.slice (some x) 0 c] w fun e w' => e = .returned (.slice (some ⟨w.heap.size, 0, none⟩) 0 0) ∧ Below w.heap.size w w' := by
  have q : ∀ (w : World) (a : Option Addr) (n c : Nat), (binOp .eql 29 (.slice a n c) (.slice none 0 0)).run Try.prog w = .ok (.bool a.isNone) w := fun w a n c => Lib.run_eql_slice_nil w _ _ a n c _ _ Try.underlying29
  have hmk := run_make_row' (P := Try.prog) 29 3 (.int .i64 0) 8 Try.underlying29 Try.info3 rfl .i64 .i64 0 (by omega) (by omega)
  simp only [Int.natCast_zero] at hmk
  go_enter Try.func16, Try.ntmps16
  go_wp2
  refine wp_loop_rounds 1 ?_
  rw [rounds_succ]
  go_wp2
  go_ret
  exact ⟨rfl, (Below.refl _ _).alloc (Nat.le_refl _) _⟩
theorem clone16_any (a : Option Addr) (n c : Nat) (f : Nat → Int) (w : World) (hn : n ≤ 1048576) (hv : View .i64 w a n f) (hnil : a = none → n = 0 ∧ c = 0) :
    Calls Try.prog 16 #[.slice a n c] w fun e w' => ∃ a', e = .returned (.slice a' n n) ∧ View .i64 w' a' n f ∧ From w.heap.size a' ∧ Below w.heap.size w w' := by
  rcases Nat.eq_zero_or_pos n with rfl | hpos
  · cases a with
    | none =>
      obtain ⟨_, rfl⟩ := hnil rfl
      refine (clone16_nil w).mono ?_
      rintro e w' ⟨rfl, rfl⟩
      exact ⟨none, rfl, fun h => absurd h (Nat.lt_irrefl _), fun x hx => by (cases hx), Below.refl _ _⟩
    | some x =>
      refine (clone16_empty x c w).mono ?_
      rintro e w' ⟨rfl, hb⟩
      exact ⟨_, rfl, fun h => absurd h (Nat.lt_irrefl _), fun x hx => by (cases hx; exact Nat.le_refl _), hb⟩
  · obtain ⟨b, off, rfl, hc⟩ := hv hpos
    refine (clone16_some b off n c f w hn hc).mono ?_
    rintro e w' ⟨rfl, hr, hb⟩
    exact ⟨_, rfl, fun _ => ⟨_, 0, rfl, fun i hi => by rw [Nat.zero_add]; exact hr.cell hi⟩, fun x hx => by (cases hx; exact Nat.le_refl _), hb⟩

theorem Try.info46 : (Try.prog.info? 46).map (fun i => (i.zero, i.size, i.bytes)) = some (some (.int .u16 0), 1, 2) := by kernel_rfl
theorem clone30_nil (w : World) : Calls Try.prog 30 #[.slice none 0 0] w fun e w' => e = .returned (.slice none 0 0) ∧ w' = w := by
  have q : ∀ (w : World) (a : Option Addr) (n c : Nat), (binOp .eql 47 (.slice a n c) (.slice none 0 0)).run Try.prog w = .ok (.bool a.isNone) w := fun w a n c => Lib.run_eql_slice_nil w _ _ a n c _ _ Try.underlying47
  go_enter Try.func30, Try.ntmps30
  go_wp2
  go_ret
  exact ⟨rfl, rfl⟩
theorem clone30_some (b off n c : Nat) (zs : Nat → Int) (w : World) (hn : n ≤ 1048576) (hc : ∀ i, i < n → w.cell? ⟨b, off + i, none⟩ = some (.int .u16 (zs i))) :
    Calls Try.prog 30 #[.slice (some ⟨b, off, none⟩) n c] w fun e w' => e = .returned (.slice (some ⟨w.heap.size, 0, none⟩) n n) ∧ w'.rowIs w.heap.size 46 n (fun i => .int .u16 (zs i)) ∧ Below w.heap.size w w' := by
  have q : ∀ (w : World) (a : Option Addr) (n c : Nat), (binOp .eql 47 (.slice a n c) (.slice none 0 0)).run Try.prog w = .ok (.bool a.isNone) w := fun w a n c => Lib.run_eql_slice_nil w _ _ a n c _ _ Try.underlying47
  have hmk := run_make_row' (P := Try.prog) 47 46 (.int .u16 0) 2 Try.underlying47 Try.info46 rfl .i64 .i64 n (by omega) (by omega)
  have hcb : ∀ i, i < n → b < w.heap.size := fun i hi => World.block_lt_of_cell? _ _ (hc i hi)
  go_enter Try.func30, Try.ntmps30
  go_wp2
  go_loopw [4] (fun i wr => ∃ k : Nat, k ≤ n ∧ i = .int .i64 k ∧ wr.rowIs w.heap.size 46 n (fun j => if j < k then .int .u16 (zs j) else .int .u16 0) ∧ Below w.heap.size w wr) (fun i _ => n - (intOf i).toNat)
  case atStart => exact ⟨0, Nat.zero_le _, rfl, (World.rowIs_made w _ n 46).congr (fun i hi => by simp), (Below.refl _ _).alloc (Nat.le_refl _) _⟩
  case round =>
    obtain ⟨k, hk, rfl, hrow, hbel⟩ := hrel
    by_cases hlt : k < n
    · have hx : wr.cell? ⟨b, off + k, none⟩ = some (.int .u16 (zs k)) := (hbel.cell (hcb k hlt)).trans (hc k hlt)
      have hy := hrow.cell hlt
      have hf := hrow.frozen k
      have R := rowStepK (f := fun j => .int .u16 (zs j)) hrow
      have hne := hcb k hlt
      go_wp2
      go_roundw
      case rel => exact ⟨k + 1, by omega, by go_num, R, hbel.setCell (Nat.le_refl _) _⟩
      case measure => simp [intOf]; omega
    · go_wp2
      go_ret
      exact ⟨rfl, hrow.congr (fun i hi => by rw [if_pos (by omega)]), hbel⟩
theorem clone30_empty (x : Addr) (c : Nat) (w : World) :
    Calls Try.prog 30 #[.slice (some x) 0 c] w fun e w' => e = .returned (.slice (some ⟨w.heap.size, 0, none⟩) 0 0) ∧ Below w.heap.size w w' := by
  have q : ∀ (w : World) (a : Option Addr) (n c : Nat), (binOp .eql 47 (.slice a n c) (.slice none 0 0)).run Try.prog w = .ok (.bool a.isNone) w := fun w a n c => Lib.run_eql_slice_nil w _ _ a n c _ _ Try.underlying47
  have hmk := run_make_row' (P := Try.prog) 47 46 (.int .u16 0) 2 Try.underlying47 Try.info46 rfl .i64 .i64 0 (by omega) (by omega)
  simp only [Int.natCast_zero] at hmk
  go_enter Try.func30, Try.ntmps30
  go_wp2
  refine wp_loop_rounds 1 ?_
  rw [rounds_succ]
  go_wp2
  go_ret
  exact ⟨rfl, (Below.refl _ _).alloc (Nat.le_refl _) _⟩
theorem clone30_any (a : Option Addr) (n c : Nat) (f : Nat → Int) (w : World) (hn : n ≤ 1048576) (hv : View .u16 w a n f) (hnil : a = none → n = 0 ∧ c = 0) :
    Calls Try.prog 30 #[.slice a n c] w fun e w' => ∃ a', e = .returned (.slice a' n n) ∧ View .u16 w' a' n f ∧ From w.heap.size a' ∧ Below w.heap.size w w' := by
  rcases Nat.eq_zero_or_pos n with rfl | hpos
  · cases a with
    | none =>
      obtain ⟨_, rfl⟩ := hnil rfl
      refine (clone30_nil w).mono ?_
      rintro e w' ⟨rfl, rfl⟩
      exact ⟨none, rfl, fun h => absurd h (Nat.lt_irrefl _), fun x hx => by (cases hx), Below.refl _ _⟩
    | some x =>
      refine (clone30_empty x c w).mono ?_
      rintro e w' ⟨rfl, hb⟩
      exact ⟨_, rfl, fun h => absurd h (Nat.lt_irrefl _), fun x hx => by (cases hx; exact Nat.le_refl _), hb⟩
  · obtain ⟨b, off, rfl, hc⟩ := hv hpos
    refine (clone30_some b off n c f w hn hc).mono ?_
    rintro e w' ⟨rfl, hr, hb⟩
    exact ⟨_, rfl, fun _ => ⟨_, 0, rfl, fun i hi => by rw [Nat.zero_add]; exact hr.cell hi⟩, fun x hx => by (cases hx; exact Nat.le_refl _), hb⟩

/-- A slice of n slices of bytes: element i is '.slice (A i) (Lb i) (Cb i)'. -/
def Outer (w : World) (a : Option Addr) (n : Nat) (V : Nat → Value) : Prop := 0 < n → ∃ b off, a = some ⟨b, off, none⟩ ∧ ∀ i, i < n → w.cell? ⟨b, off + i, none⟩ = some (V i)
theorem Outer.later {w w' : World} {a : Option Addr} {n : Nat} {V : Nat → Value} (h : Outer w a n V) (hb : Below w.heap.size w w') : Outer w' a n V := fun hn => by
  obtain ⟨b, off, ha, hc⟩ := h hn
  exact ⟨b, off, ha, fun i hi => cell_later hb (hc i hi)⟩

theorem Try.info22 : (Try.prog.info? 22).map (fun i => (i.zero, i.size, i.bytes)) = some (some (.slice none 0 0), 1, 24) := by kernel_rfl
theorem clone17_nil (w : World) : Calls Try.prog 17 #[.slice none 0 0] w fun e w' => e = .returned (.slice none 0 0) ∧ w' = w := by
  have q : ∀ (w : World) (a : Option Addr) (n c : Nat), (binOp .eql 30 (.slice a n c) (.slice none 0 0)).run Try.prog w = .ok (.bool a.isNone) w := fun w a n c => Lib.run_eql_slice_nil w _ _ a n c _ _ Try.underlying30
  go_enter Try.func17, Try.ntmps17
  go_wp2
  go_ret
  exact ⟨rfl, rfl⟩
theorem clone17_empty (x : Addr) (c : Nat) (w : World) :
    Calls Try.prog 17 #[.slice (some x) 0 c] w fun e w' => e = .returned (.slice (some ⟨w.heap.size, 0, none⟩) 0 0) ∧ Below w.heap.size w w' := by
  have q : ∀ (w : World) (a : Option Addr) (n c : Nat), (binOp .eql 30 (.slice a n c) (.slice none 0 0)).run Try.prog w = .ok (.bool a.isNone) w := fun w a n c => Lib.run_eql_slice_nil w _ _ a n c _ _ Try.underlying30
  have hmk := run_make_row' (P := Try.prog) 30 22 (.slice none 0 0) 24 Try.underlying30 Try.info22 rfl .i64 .i64 0 (by omega) (by omega)
  simp only [Int.natCast_zero] at hmk
  go_enter Try.func17, Try.ntmps17
  go_wp2
  refine wp_loop_rounds 1 ?_
  rw [rounds_succ]
  go_wp2
  go_ret
  exact ⟨rfl, (Below.refl _ _).alloc (Nat.le_refl _) _⟩

/-- What the clone holds after k rounds. -/
def Cl (w : World) (n : Nat) (Lb : Nat → Nat) (g : Nat → Nat → Int) (k : Nat) (wr : World) : Prop :=
  ∃ A' : Nat → Option Addr, wr.rowIs w.heap.size 22 n (fun j => if j < k then .slice (A' j) (Lb j) (Lb j) else .slice none 0 0) ∧ (∀ j, j < k → View .u8 wr (A' j) (Lb j) (g j)) ∧ (∀ j, j < k → From (w.heap.size + 1) (A' j)) ∧ Below w.heap.size w wr
theorem Cl.step {w wr w2 : World} {n : Nat} {Lb : Nat → Nat} {g : Nat → Nat → Int} {k : Nat} {a' : Option Addr} (h : Cl w n Lb g k wr) (hk : k < n) (hb : Below wr.heap.size wr w2) (hv : View .u8 w2 a' (Lb k) (g k)) (hf : From wr.heap.size a') :
    Cl w n Lb g (k + 1) (w2.setCell ⟨w.heap.size, k, none⟩ (.slice a' (Lb k) (Lb k))) := by
  obtain ⟨A', hrow, hvs, hfs, hbel⟩ := h
  have hlt := hrow.lt
  have hrow2 : w2.rowIs w.heap.size 22 n (fun j => if j < k then .slice (A' j) (Lb j) (Lb j) else .slice none 0 0) := hrow.of_block (hb.block _ hlt)
  refine ⟨fun j => if j = k then a' else A' j, ?_, fun j hj => ?_, fun j hj => ?_, (hbel.trans (hb.mono (by omega))).setCell (Nat.le_refl _) _⟩
  · refine (hrow2.set k _).congr fun i hi => ?_
    by_cases e : i = k
    · subst e; simp
    · rw [if_neg e]
      by_cases l : i < k
      · simp only [if_pos l, if_pos (show i < k + 1 by omega), if_neg e]
      · rw [if_neg l, if_neg (by omega)]
  · by_cases e : j = k
    · subst e
      simp only [if_pos]
      exact hv.setCell (fun x hx => by have := hf x hx; omega) _ _
    · simp only [if_neg e]
      exact ((hvs j (by omega)).later hb).setCell (hfs j (by omega)) _ _
  · by_cases e : j = k
    · subst e
      simp only [if_pos]
      exact fun x hx => by have := hf x hx; omega
    · simp only [if_neg e]
      exact hfs j (by omega)

theorem clone17_some (b off n c : Nat) (A : Nat → Option Addr) (Lb Cb : Nat → Nat) (g : Nat → Nat → Int) (w : World) (hn : n ≤ 1048576) (hc : ∀ i, i < n → w.cell? ⟨b, off + i, none⟩ = some (.slice (A i) (Lb i) (Cb i)))
    (hl : ∀ i, i < n → Lb i ≤ 1048576) (hv : ∀ i, i < n → View .u8 w (A i) (Lb i) (g i)) (hnil : ∀ i, i < n → A i = none → Lb i = 0 ∧ Cb i = 0) :
    Calls Try.prog 17 #[.slice (some ⟨b, off, none⟩) n c] w fun e w' => e = .returned (.slice (some ⟨w.heap.size, 0, none⟩) n n) ∧ Cl w n Lb g n w' := by
  have q : ∀ (w : World) (a : Option Addr) (n c : Nat), (binOp .eql 30 (.slice a n c) (.slice none 0 0)).run Try.prog w = .ok (.bool a.isNone) w := fun w a n c => Lib.run_eql_slice_nil w _ _ a n c _ _ Try.underlying30
  have hmk := run_make_row' (P := Try.prog) 30 22 (.slice none 0 0) 24 Try.underlying30 Try.info22 rfl .i64 .i64 n (by omega) (by omega)
  have hcb : ∀ i, i < n → b < w.heap.size := fun i hi => World.block_lt_of_cell? _ _ (hc i hi)
  have HV : Hid (∀ i, i < n → View .u8 w (A i) (Lb i) (g i)) := hv
  have HL : Hid (∀ i, i < n → Lb i ≤ 1048576) := hl
  have HN : Hid (∀ i, i < n → A i = none → Lb i = 0 ∧ Cb i = 0) := hnil
  have HC : Hid (∀ i, i < n → w.cell? ⟨b, off + i, none⟩ = some (.slice (A i) (Lb i) (Cb i))) := hc
  clear hv hl hnil hc
  go_enter Try.func17, Try.ntmps17
  go_wp2
  go_loopw [4] (fun i wr => ∃ k : Nat, k ≤ n ∧ i = .int .i64 k ∧ Hid (Cl w n Lb g k wr)) (fun i _ => n - (intOf i).toNat)
  case atStart => exact ⟨0, Nat.zero_le _, rfl, fun _ => none, (World.rowIs_made w _ n 22).congr (fun i hi => by simp), fun j hj => by omega, fun j hj => by omega, (Below.refl _ _).alloc (Nat.le_refl _) _⟩
  case round =>
    obtain ⟨k, hk, rfl, HCl⟩ := hrel
    by_cases hlt : k < n
    · obtain ⟨A', hrow, hvs, hfs, hbel⟩ := HCl.out
      have hx : wr.cell? ⟨b, off + k, none⟩ = some (.slice (A k) (Lb k) (Cb k)) := (hbel.cell (hcb k hlt)).trans (HC.out k hlt)
      have hB := hrow.lt
      have hk1 : k < n := hlt
      have V1 : Hid (View .u8 wr (A k) (Lb k) (g k)) := (HV.out k hlt).later hbel
      clear hvs hfs
      go_wp2_with (go_at_call 11; refine (clone11_any (A k) (Lb k) (Cb k) (g k) wr (HL.out k hlt) V1.out (HN.out k hlt)).mono ?_; rintro e w2 ⟨a', rfl, hv2, hf2, hb2⟩
                   have hy := (hrow.of_block (hb2.block _ hB)).cell hlt
                   have hf := (hrow.of_block (hb2.block _ hB)).frozen k
                   have R : Hid (Cl w n Lb g (k + 1) (w2.setCell ⟨w.heap.size, k, none⟩ (.slice a' (Lb k) (Lb k)))) := HCl.out.step hlt hb2 hv2 hf2
                   clear hv2 hf2 hrow)
      go_roundw
      case rel => exact ⟨k + 1, by omega, by go_num, R⟩
      case measure => simp [intOf]; omega
    · go_wp2
      go_ret
      obtain rfl : k = n := by omega
      exact ⟨rfl, HCl.out⟩

theorem clone17_any (a : Option Addr) (n c : Nat) (A : Nat → Option Addr) (Lb Cb : Nat → Nat) (g : Nat → Nat → Int) (w : World) (hn : n ≤ 1048576) (ho : Outer w a n (fun i => .slice (A i) (Lb i) (Cb i))) (hnil : a = none → n = 0 ∧ c = 0)
    (hl : ∀ i, i < n → Lb i ≤ 1048576) (hv : ∀ i, i < n → View .u8 w (A i) (Lb i) (g i)) (hnils : ∀ i, i < n → A i = none → Lb i = 0 ∧ Cb i = 0) :
    Calls Try.prog 17 #[.slice a n c] w fun e w' => ∃ (a' : Option Addr) (A' : Nat → Option Addr), e = .returned (.slice a' n n) ∧ Outer w' a' n (fun i => .slice (A' i) (Lb i) (Lb i)) ∧ (∀ i, i < n → View .u8 w' (A' i) (Lb i) (g i)) ∧ Below w.heap.size w w' := by
  rcases Nat.eq_zero_or_pos n with rfl | hpos
  · cases a with
    | none =>
      obtain ⟨_, rfl⟩ := hnil rfl
      refine (clone17_nil w).mono ?_
      rintro e w' ⟨rfl, rfl⟩
      exact ⟨none, A, rfl, fun h => absurd h (Nat.lt_irrefl _), fun i hi => by omega, Below.refl _ _⟩
    | some x =>
      refine (clone17_empty x c w).mono ?_
      rintro e w' ⟨rfl, hb⟩
      exact ⟨_, A, rfl, fun h => absurd h (Nat.lt_irrefl _), fun i hi => by omega, hb⟩
  · obtain ⟨b, off, rfl, hc⟩ := ho hpos
    refine (clone17_some b off n c A Lb Cb g w hn hc hl hv hnils).mono ?_
    rintro e w' ⟨rfl, A', hrow, hvs, _, hb⟩
    refine ⟨_, A', rfl, fun _ => ⟨_, 0, rfl, fun i hi => ?_⟩, hvs, hb⟩
    rw [Nat.zero_add, hrow.cell hi, if_pos hi]

/-- zzSameBytes of a slice and itself. -/
theorem same_self (a : Option Addr) (n c c' : Nat) (f : Nat → Int) (w : World) (hn : n ≤ 1048576) (hv : View .u8 w a n f) :
    Calls Try.prog 27 #[.slice a n c, .slice a n c'] w fun e w' => e = .returned (.bool true) ∧ ∃ m, w' = w.drewN m := by
  rcases Nat.eq_zero_or_pos n with rfl | hpos
  · go_enter Try.func27, Try.ntmps27
    go_wp2
    refine wp_loop_rounds 1 ?_
    rw [rounds_succ]
    go_wp2
    go_ret
    exact ⟨rfl, 0, rfl⟩
  · obtain ⟨b, off, rfl, hc⟩ := hv hpos
    go_enter Try.func27, Try.ntmps27
    go_wp2
    go_loopw [5] (fun i wr => ∃ k m : Nat, k ≤ n ∧ i = .int .i64 k ∧ wr = w.drewN m) (fun i _ => n - (intOf i).toNat)
    case atStart => exact ⟨0, 0, Nat.zero_le _, rfl, rfl⟩
    case round =>
      obtain ⟨k, m, hk, rfl, rfl⟩ := hrel
      by_cases hlt : k < n
      · have h1 := hc k hlt
        have i1 : (k : Int) < (n : Int) := by omega
        go_wp2_with fail
        go_quiet (fail)
        go_wp2
        go_roundw
        case rel => exact ⟨k + 1, _, by omega, by go_num, rfl⟩
        case measure => simp [intOf]; omega
      · go_wp2
        go_ret
        exact ⟨rfl, m, rfl⟩
end Go.Proofs.Qxb6000464a
