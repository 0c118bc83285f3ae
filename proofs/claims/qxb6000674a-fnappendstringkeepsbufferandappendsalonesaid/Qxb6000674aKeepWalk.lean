/-
  The walk of FnAppendStringKeepsBufferAndAppendsAlone (7): fmtb1CloneBytes (21), zzBytes (20), appendString twice.
-/
import Derived.Test.Qxb6000674aAppend
import Derived.Laws.CopyOwn
import Derived.Deep.QuietTactic
import Derived.BigQuiet
import Derived.Deep.OwnRows
namespace Go.Proofs.Qxb6000674a.fnAppendStringKeepsBufferAndAppendsAlone
open Go.RowKit

theorem bytes20 (a : Option Addr) (n c : Nat) (s : ByteArray) (w : World) (hn : n ≤ maxLen) (hm : s.size ≤ maxLen) :
    Calls Try.prog 20 #[.slice a n c, .string s] w fun e w' => e = .returned (.bool (decide (n + s.size ≤ 1048576))) ∧ w' = w := by
  unfold maxLen at hn hm
  by_cases h : n + s.size ≤ 1048576
  · go_enter Try.func20, Try.ntmps20
    go_wp2
    go_ret
    exact ⟨by simp [h], rfl⟩
  · by_cases h1 : n ≤ 1048576
    · by_cases h2 : s.size ≤ 1048576
      all_goals
        go_enter Try.func20, Try.ntmps20
        go_wp2
        go_ret
        exact ⟨by simp [h], rfl⟩
    · go_enter Try.func20, Try.ntmps20
      go_wp2
      go_ret
      exact ⟨by simp [h], rfl⟩

theorem clone_nil (w : World) (c : Nat) : Calls Try.prog 21 #[.slice none 0 c] w fun e w' => e = .returned (.slice none 0 0) ∧ w' = w := by
  have q : ∀ (w : World) (a : Option Addr) (n c : Nat), (binOp .eql 24 (.slice a n c) (.slice none 0 0)).run Try.prog w = .ok (.bool a.isNone) w := fun w a n c => Lib.run_eql_slice_nil w _ _ a n c _ _ Try.underlying24
  go_enter Try.func21, Try.ntmps21
  go_wp2
  go_ret
  exact ⟨rfl, rfl⟩

theorem size5 : (Try.prog.info? 5).map (·.size) = some 1 := by kernel_rfl

theorem clone_some (x : Addr) (n c : Nat) (Z : List Int) (hZ : Z.length = n) (w : World) (hn : n ≤ 1048576) (hc : ∀ j u, (bs Z)[j]? = some u → w.cell? (x.add j) = some u) :
    Calls Try.prog 21 #[.slice (some x) n c] w fun e w' => e = .returned (.slice (some ⟨w.heap.size, 0, none⟩) n n) ∧ w'.heap[w.heap.size]? = some (.cells (bs Z).toArray 5 (0, 0)) ∧ Below w.heap.size w w' := by
  have q : ∀ (w : World) (a : Option Addr) (n c : Nat), (binOp .eql 24 (.slice a n c) (.slice none 0 0)).run Try.prog w = .ok (.bool a.isNone) w := fun w a n c => Lib.run_eql_slice_nil w _ _ a n c _ _ Try.underlying24
  have hmk := run_make_row' (P := Try.prog) 24 5 (.int .u8 0) 1 Try.underlying24 Try.info5 rfl .i64 .i64 n (by omega) (by omega)
  have HZ : Hid (Z.length = n) := hZ
  have HC : Hid (∀ j u, (bs Z)[j]? = some u → w.cell? (x.add j) = some u) := hc
  clear hZ hc
  have hcur : ((madeCells #[Value.int .u8 0] n).toList).length = n := by rw [Array.length_toList, size_madeCells]
  have HCU : Hid (((madeCells #[Value.int .u8 0] n).toList).length = n) := hcur
  clear hcur
  go_enter Try.func21, Try.ntmps21
  go_wp2_with (refine wpList_copy_splice rfl (.tmp 9) (.tmp 10) 24 24 rfl 5 Try.underlying24 size5 _ _ _ _ _ _ rfl rfl w.heap.size 0 (madeCells #[.int .u8 0] n).toList 5 ?c1 (bs Z) ?c2 ?c3 ?c4 (bs_one _) w.heap.size w ?c5 (Nat.le_refl _) ?_)
  case c1 => exact heap_alloc_new _ _
  case c2 => rw [bs_len, HZ.out]; exact (Nat.min_self n).symm
  case c3 => exact fun _ j v hv => cell_later ((Below.refl _ _).alloc (Nat.le_refl _) _) (HC.out j v hv)
  case c4 => rw [HCU.out, bs_len, HZ.out]; omega
  case c5 => exact (Below.refl _ _).alloc (Nat.le_refl _) _
  · intro w2 hg hb
    have hg' : Hid (w2.heap[w.heap.size]? = some (.cells (bs Z).toArray 5 (0, 0))) := by
      have := hg.out
      have e : splice (madeCells #[Value.int .u8 0] n).toList 0 (bs Z) = bs Z := by
        unfold splice
        rw [List.drop_eq_nil_of_le (by rw [HCU.out, bs_len, HZ.out]; omega)]
        simp
      rw [e] at this
      exact this
    clear hg
    go_wp2
    go_ret
    exact ⟨rfl, hg'.out, hb⟩

/-- What the three rows hold at the end: the clone of buf (block B0), what was appended to it (gg), what was made alone (ga). -/
structure Three (w : World) (B0 gg ga n : Nat) (Z Lt : List Int) (wr : World) : Prop where
  buf : ∀ i, i < n → wr.cell? ⟨B0, i, none⟩ = some (.int .u8 (Z.getD i 0))
  head : ∀ i, i < n → wr.cell? ⟨gg, i, none⟩ = some (.int .u8 (Z.getD i 0))
  tail : ∀ i, i < Lt.length → wr.cell? ⟨gg, n + i, none⟩ = some (.int .u8 (Lt.getD i 0))
  alone : ∀ i, i < Lt.length → wr.cell? ⟨ga, i, none⟩ = some (.int .u8 (Lt.getD i 0))
  below : Below w.heap.size w wr

theorem bs_get (l : List Int) (i : Nat) (h : i < l.length) : (bs l)[i]? = some (.int .u8 (l.getD i 0)) := by
  simp [bs, h]

theorem three_mk {w w1 wa wg : World} {n ga capa gg capg : Nat} {Z : List Int} {Lt : List Int} (hZ : Z.length = n)
    (hb1 : 0 < n → w1.heap[w.heap.size]? = some (.cells (bs Z).toArray 5 (0, 0))) (hbel1 : Below w.heap.size w w1)
    (hA : Held w1 [] 0 Lt (.slice (some ⟨ga, 0, none⟩) Lt.length capa) wa) (hG : Held wa (bs Z) n Lt (.slice (some ⟨gg, 0, none⟩) (n + Lt.length) capg) wg) : Three w w.heap.size gg ga n Z Lt wg := by
  obtain ⟨g1, c1, e1, o1, b1, l1⟩ := hA
  obtain ⟨g2, c2, e2, o2, b2, l2⟩ := hG
  simp only [Nat.zero_add, List.nil_append] at o1 e1
  have hga : ga < wa.heap.size := by
    rcases o1.2 with ⟨h, _⟩ | ⟨g', _, cur, h, _, hh, _⟩
    · simp at h
    · simp at h
      obtain ⟨hlt, _⟩ := Array.getElem?_eq_some_iff.1 hh
      omega
  refine ⟨fun i hi => ?_, fun i hi => ?_, fun i hi => ?_, fun i hi => ?_, ?_⟩
  · have h := hb1 (by omega)
    have hlt : w.heap.size < w1.heap.size := (Array.getElem?_eq_some_iff.1 h).1
    rw [b2.cell (p := ⟨w.heap.size, i, none⟩) (by have := b1.size; show w.heap.size < wa.heap.size; omega), b1.cell (p := ⟨w.heap.size, i, none⟩) hlt]
    have := bs_get Z i (by omega)
    simp only [World.cell?, h, List.getElem?_toArray]
    exact this
  · rw [o2.cellAt i (by omega), List.getElem?_append_left (by rw [bs_len]; omega)]
    exact bs_get Z i (by omega)
  · rw [o2.cellAt (n + i) (by omega), List.getElem?_append_right (by rw [bs_len]; omega), bs_len, hZ]
    rw [show n + i - n = i by omega]
    exact bs_get Lt i hi
  · rw [b2.cell (p := ⟨ga, i, none⟩) hga, o1.cellAt i (by omega)]
    exact bs_get Lt i hi
  · exact hbel1.trans ((b1.mono hbel1.size).trans (b2.mono (Nat.le_trans hbel1.size b1.size)))

theorem Three.drewN {w : World} {B0 gg ga n : Nat} {Z Lt : List Int} {wr : World} (h : Three w B0 gg ga n Z Lt wr) (k : Nat) : Three w B0 gg ga n Z Lt (wr.drewN k) := by
  induction k with
  | zero => exact h
  | succ k ih => exact ⟨ih.buf, ih.head, ih.tail, ih.alone, ih.below.drew⟩

theorem olds_of {w w1 wa : World} {Z Lt : List Int} {v : Value} (hb1 : w1.heap[w.heap.size]? = some (.cells (bs Z).toArray 5 (0, 0))) (hA : Held w1 [] 0 Lt v wa) :
    ∀ b, (some (⟨w.heap.size, 0, none⟩ : Addr)) = some b → ∀ j u, (bs Z)[j]? = some u → wa.cell? (b.add j) = some u := by
  intro b hb j u hu
  obtain ⟨_, _, _, _, hbel, _⟩ := hA
  cases hb
  exact cell_later hbel (World.news_of_block hb1 j u (by simpa using hu))

theorem walk_long (a : Option Addr) (n c : Nat) (s : ByteArray) (w : World) (hn : n ≤ maxLen) (hm : s.size ≤ maxLen) (h : ¬ n + s.size ≤ 1048576) :
    Calls Try.prog 7 #[.slice a n c, .string s] w fun e w' => e = .returned (.bool true) ∧ Below w.heap.size w w' := by
  have hd : decide (n + s.size ≤ 1048576) = false := by simp; omega
  go_enter Try.func7, Try.ntmps7
  go_wp2_with (first | (go_at_call 20; refine (bytes20 _ _ _ _ _ hn hm).mono ?_; rintro e w' ⟨rfl, rfl⟩))
  go_ret
  exact ⟨rfl, Below.refl _ _⟩

theorem walk_half (a : Option Addr) (n c : Nat) (s : ByteArray) (w : World) (h0 : n + s.size ≤ 1048576) (h : 524288 < n ∨ 524288 < s.size) :
    Calls Try.prog 7 #[.slice a n c, .string s] w fun e w' => e = .returned (.bool true) ∧ Below w.heap.size w w' := by
  have hd : decide (n + s.size ≤ 1048576) = true := by simp; omega
  by_cases h1 : 524288 < n
  all_goals
    go_enter Try.func7, Try.ntmps7
    go_wp2_with (first | (go_at_call 20; refine (bytes20 _ _ _ _ _ (by unfold maxLen; omega) (by unfold maxLen; omega)).mono ?_; rintro e w' ⟨rfl, rfl⟩))
    go_ret
    exact ⟨rfl, Below.refl _ _⟩

set_option maxHeartbeats 1000000 in
theorem walk_some (x : Addr) (n c : Nat) (Z : List Int) (hZ : Z.length = n) (s : ByteArray) (w : World) (hn : n ≤ 524288) (hm : s.size ≤ 524288) (hc : ∀ j u, (bs Z)[j]? = some u → w.cell? (x.add j) = some u) :
    Calls Try.prog 7 #[.slice (some x) n c, .string s] w fun e w' => e = .returned (.bool true) ∧ Below w.heap.size w w' := by
  have hd : decide (n + s.size ≤ 1048576) = true := by simp; omega
  have HZ : Hid (Z.length = n) := hZ
  have HC : Hid (∀ j u, (bs Z)[j]? = some u → w.cell? (x.add j) = some u) := hc
  have hl := encL_len s.data.toList
  have hz : s.data.toList.length = s.size := by simp
  obtain ⟨L, hL⟩ : ∃ L, L = (lit s.data.toList).length := ⟨_, rfl⟩
  have b2 : L ≤ 3145730 := by rw [hL, lit_len]; omega
  have HL : Hid (L = (lit s.data.toList).length) := hL
  clear hZ hc hl hz hL
  go_enter Try.func7, Try.ntmps7
  go_wp2_with (first
    | (go_at_call 20; refine (bytes20 _ _ _ _ _ (by unfold maxLen; omega) (by unfold maxLen; omega)).mono ?_; rintro e w' ⟨rfl, hw⟩; obtain rfl := hw.symm)
    | (go_at_call 21; refine (clone_some x n c Z HZ.out _ (by omega) HC.out).mono ?_; rintro e w1 ⟨rfl, hb1, hbel1⟩; have HB1 : Hid _ := hb1; clear hb1)
    | (go_at_call_of 18 (Value.slice none 0 0); refine (zz_append_string none 0 [] s _ (by omega) (by omega) (fun _ => rfl) rfl (by intro b hb; cases hb)).mono ?_; rintro e wa ⟨va, rfl, hheld⟩; obtain ⟨ga, capa, hva⟩ := hheld.form0; rw [← HL.out] at hva; rw [hva] at hheld ⊢; have HA : Hid _ := hheld; clear hheld hva)
    | (go_at_call 18; refine (zz_append_string (some ⟨w.heap.size, 0, none⟩) n (bs Z) s wa (by omega) (by omega) (by simp) ((bs_len Z).trans HZ.out) (olds_of HB1.out HA.out)).mono ?_; rintro e wg ⟨vg, rfl, hheld⟩; obtain ⟨gg, capg, hvg⟩ := hheld.form1; rw [← HL.out] at hvg; rw [hvg] at hheld ⊢; have HG : Hid _ := hheld; clear hheld hvg))
  have T3 : Three w w.heap.size gg ga n Z (lit s.data.toList) wg := three_mk HZ.out (fun _ => HB1.out) hbel1 (by rw [← HL.out]; exact HA.out) (by rw [← HL.out]; exact HG.out)
  clear HB1 HA HG hbel1
  go_loopw [7] (fun i wr => ∃ k : Nat, k ≤ n ∧ i = .int .i64 k ∧ Three w w.heap.size gg ga n Z (lit s.data.toList) wr) (fun i _ => n - (intOf i).toNat)
  case atStart => exact ⟨0, Nat.zero_le _, rfl, T3⟩
  case round =>
    obtain ⟨k, hk, rfl, T⟩ := hrel
    clear T3
    by_cases hlt : k < n
    · have h1 := T.head k hlt
      have h2 := T.buf k hlt
      have i1 : (k : Int) < (n : Int) + (L : Int) := by omega
      have i2 : (k : Int) < (n : Int) := by omega
      go_wp2_with fail
      go_quiet (fail)
      go_wp2
      go_roundw
      case rel => exact ⟨k + 1, by omega, by go_num, T.drewN _⟩
      case measure => simp [intOf]; omega
    · go_wp2
      go_loopw [8] (fun i wr => ∃ k : Nat, k ≤ L ∧ i = .int .i64 k ∧ Three w w.heap.size gg ga n Z (lit s.data.toList) wr) (fun i _ => L - (intOf i).toNat)
      case atStart => exact ⟨0, Nat.zero_le _, rfl, T⟩
      case round =>
        obtain ⟨j, hj, rfl, T'⟩ := hrel
        clear T
        by_cases hlt2 : j < L
        · have h1 := T'.tail j (by rw [← HL.out]; exact hlt2)
          have h2 := T'.alone j (by rw [← HL.out]; exact hlt2)
          have i1 : (n : Int) + (j : Int) < (n : Int) + (L : Int) := by omega
          have i2 : (j : Int) < (L : Int) := by omega
          go_wp2_with fail
          go_quiet (fail)
          go_wp2
          go_roundw
          case rel => exact ⟨j + 1, by omega, by go_num, T'.drewN _⟩
          case measure => simp [intOf]; omega
        · go_wp2
          go_ret
          exact ⟨rfl, T'.below⟩

set_option maxHeartbeats 1000000 in
theorem walk_nil (s : ByteArray) (w : World) (hm : s.size ≤ 524288) :
    Calls Try.prog 7 #[.slice none 0 0, .string s] w fun e w' => e = .returned (.bool true) ∧ Below w.heap.size w w' := by
  have hd : decide (s.size ≤ 1048576) = true := by simp; omega
  have hl := encL_len s.data.toList
  have hz : s.data.toList.length = s.size := by simp
  obtain ⟨L, hL⟩ : ∃ L, L = (lit s.data.toList).length := ⟨_, rfl⟩
  have b2 : L ≤ 3145730 := by rw [hL, lit_len]; omega
  have HL : Hid (L = (lit s.data.toList).length) := hL
  clear hl hz hL
  go_enter Try.func7, Try.ntmps7
  go_wp2_with (first
    | (go_at_call 20; refine (bytes20 none 0 0 s _ (by unfold maxLen; omega) (by unfold maxLen; omega)).mono ?_; rintro e w' ⟨rfl, hw⟩; obtain rfl := hw.symm)
    | (go_at_call 21; refine (clone_nil _ _).mono ?_; rintro e w1 ⟨rfl, hw⟩; obtain rfl := hw.symm))
  refine (zz_append_string none 0 [] s _ (by omega) (by omega) (fun _ => rfl) rfl (by intro b hb; cases hb)).mono ?_
  rintro e wa ⟨va, rfl, hheld⟩
  obtain ⟨ga, capa, hva⟩ := hheld.form0
  rw [← HL.out] at hva
  rw [hva] at hheld ⊢
  have HA : Hid _ := hheld
  clear hheld hva
  go_wp2_with fail
  refine (zz_append_string none 0 [] s _ (by omega) (by omega) (fun _ => rfl) rfl (by intro b hb; cases hb)).mono ?_
  rintro e wg ⟨vg, rfl, hheld⟩
  obtain ⟨gg, capg, hvg⟩ := hheld.form0
  rw [← HL.out] at hvg
  rw [hvg] at hheld ⊢
  have HG : Hid _ := hheld
  clear hheld hvg
  have T3 : Three w w.heap.size gg ga 0 [] (lit s.data.toList) wg := three_mk (w1 := w) rfl (fun h => absurd h (by omega)) (Below.refl _ _) (by rw [← HL.out]; exact HA.out) (by rw [← HL.out, Nat.zero_add]; exact HG.out)
  clear HA HG
  go_wp2_with fail
  refine wp_loop_rounds 1 ?_
  rw [rounds_succ]
  go_wp2
  go_loopw [8] (fun i wr => ∃ k : Nat, k ≤ L ∧ i = .int .i64 k ∧ Three w w.heap.size gg ga 0 [] (lit s.data.toList) wr) (fun i _ => L - (intOf i).toNat)
  case atStart => exact ⟨0, Nat.zero_le _, rfl, T3⟩
  case round =>
    obtain ⟨j, hj, rfl, T'⟩ := hrel
    clear T3
    by_cases hlt2 : j < L
    · have h1 := T'.tail j (by rw [← HL.out]; exact hlt2)
      rw [Nat.zero_add] at h1
      have h2 := T'.alone j (by rw [← HL.out]; exact hlt2)
      have i2 : (j : Int) < (L : Int) := by omega
      go_wp2_with fail
      go_quiet (fail)
      go_wp2
      go_roundw
      case rel => exact ⟨j + 1, by omega, by go_num, T'.drewN _⟩
      case measure => simp [intOf]; omega
    · go_wp2
      go_ret
      exact ⟨rfl, T'.below⟩

end Go.Proofs.Qxb6000674a.fnAppendStringKeepsBufferAndAppendsAlone
