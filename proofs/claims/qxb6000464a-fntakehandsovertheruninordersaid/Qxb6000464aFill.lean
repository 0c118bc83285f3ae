/-
  The walks of ZZPut (38) and zzFillInbox (31).
-/
import Derived.Test.Qxb6000464aBox
import Derived.Test.Qxb6000464aFits
import Derived.Deep.RegionHeld3
namespace Go.Proofs.Qxb6000464a
open Go.RowKit Go.Maps

/-- The Inbox as it is made: no map yet. -/
structure Box0 (w0 : World) (ib : Nat) (nx : Int) (lat : Bool) (wr : World) : Prop where
  hb : wr.heap[ib]? = some (.cells #[.int .u16 nx, .bool false, .bool lat, .map none] 69 (0, 0))
  sz : wr.heap.size = ib + 1
  old : Below ib w0 wr

variable {w0 : World} {ib n : Nat} {A : Nat → Option Addr} {L : Nat → Nat} {len : Nat → Int} {nx : Int} {lat : Bool} {F : Int → Option Nat}

/-- The map behind one more put. -/
def putF (F : Int → Option Nat) (s : Int) (n : Nat) : Int → Option Nat := fun x => if x = s then some n else F x

theorem reads_put {c : Nat} {D : DataW Unit} (h : Reads c D F) (hm : IsMap D) (s : Int) (n : Nat) : Reads c (D.put (.int .u16 s) (.lit (.int .i64 ((c + n : Nat) : Int)))) (putF F s n) := by
  intro x zd
  unfold putF
  by_cases e : x = s
  · subst e
    rw [atKey_put_same hm (show WideAt.IsKeyLit (Lit.int .u16 x) from trivial), if_pos rfl]; rfl
  · rw [atKey_put_other (by intro e'; cases e'; exact e rfl), if_neg e]
    exact h x zd

theorem turned_size {w w' : World} {b : Nat} (h : w.mapTurned w' b) : w'.heap.size = w.heap.size := by
  obtain ⟨es, cl, es', cl', _, rfl⟩ := h
  simp [ChangeMaps.setBlock]

/-- One put more: the new assembly is the last block; then the map has turned. -/
theorem Box.put {w w1 : World} {s t e : Int} {D : DataW Unit} (h : Box w0 ib n A L len nx lat F w) (hsz : w.heap.size = ib + 2 + n) (hr : Reads (ib + 2) D F) (hm : IsMap D) (ht : t = (n : Int) % 256) (he : e = (n : Int) % 65536)
    (hown : w1.ownsMap Try.prog 46 ptrE (ib + 1) (n + 1) (D.put (.int .u16 s) (.lit (.int .i64 (w.heap.size : Int)))))
    (hg : (w.alloc (.cells #[.int .u8 t, .int .u16 e, .int .i64 (len n), .slice (A n) (L n) (L n), .slice none 0 0] 61)).mapTurned w1 (ib + 1)) :
    Box w0 ib (n + 1) A L len nx lat (putF F s n) w1 ∧ w1.heap.size = ib + 2 + (n + 1) := by
  have hs1 := turned_size hg
  rw [World.size_alloc] at hs1
  have hB := h.alloc (.cells #[.int .u8 t, .int .u16 e, .int .i64 (len n), .slice (A n) (L n) (L n), .slice none 0 0] 61)
  have hgg := hg.grown
  have hc : ∀ b o, b < ib + 2 + n + 1 → b ≠ ib + 1 → w1.cell? ⟨b, o, none⟩ = (w.alloc (.cells #[.int .u8 t, .int .u16 e, .int .i64 (len n), .slice (A n) (L n) (L n), .slice none 0 0] 61)).cell? ⟨b, o, none⟩ := fun b o h1 h2 => World.cell?_of_block (hgg.block b (by simp; omega) (by simp; exact h2))
  have hnew : ∀ o v, (#[Value.int .u8 t, .int .u16 e, .int .i64 (len n), .slice (A n) (L n) (L n), .slice none 0 0] : Array Value)[o]? = some v → w1.cell? ⟨ib + 2 + n, o, none⟩ = some v := fun o v hv => by
    rw [hc _ _ (by omega) (by omega), ← hsz]
    rw [cell_of_row _ _ _ _ _ _ (heap_alloc_new w _)]
    exact hv
  refine ⟨⟨?_, ?_, ?_, ?_, ⟨_, hown, ?_⟩, fun i hi => ?_, fun i hi => ?_, fun i hi => ?_, fun i hi => ?_, by omega, ?_, fun x i hx => ?_⟩, by omega⟩
  · rw [hc ib 0 (by omega) (by omega)]; exact hB.c0
  · rw [World.frozen?_of_block (a := ⟨ib, 0, none⟩) (hgg.block ib (by simp; omega) (by simp))]; exact hB.f0
  · rw [hc ib 2 (by omega) (by omega)]; exact hB.c2
  · rw [hc ib 3 (by omega) (by omega)]; exact hB.c3
  · rw [hsz]; exact reads_put hr hm s n
  · rcases Nat.lt_or_ge i n with h' | h'
    · rw [hc _ 0 (by omega) (by omega)]; exact hB.a0 i h'
    · obtain rfl : i = n := by omega
      rw [← ht]; exact hnew 0 _ rfl
  · rcases Nat.lt_or_ge i n with h' | h'
    · rw [hc _ 1 (by omega) (by omega)]; exact hB.a1 i h'
    · obtain rfl : i = n := by omega
      rw [← he]; exact hnew 1 _ rfl
  · rcases Nat.lt_or_ge i n with h' | h'
    · rw [hc _ 2 (by omega) (by omega)]; exact hB.a2 i h'
    · obtain rfl : i = n := by omega
      exact hnew 2 _ rfl
  · rcases Nat.lt_or_ge i n with h' | h'
    · rw [hc _ 3 (by omega) (by omega)]; exact hB.a3 i h'
    · obtain rfl : i = n := by omega
      exact hnew 3 _ rfl
  · exact hB.old.trans ⟨hgg.os, hgg.tape, hgg.output, hgg.size, fun k hk => hgg.block k (by simp; omega) (by simp; omega)⟩
  · unfold putF at hx
    split at hx
    · cases hx; omega
    · have := h.rng x i hx; omega

theorem put_next (s : Int) (t e : Int) (w : World) (h : Box w0 ib n A L len nx lat F w) (hsz : w.heap.size = ib + 2 + n) (hs : (Lit.int .u16 s).wf = true) (ht : t = (n : Int) % 256) (he : e = (n : Int) % 65536) (hn : n ≤ 4096) :
    Calls Try.prog 38 #[.pointer (some ⟨ib, 0, none⟩), .int .u16 s, .int .u8 t, .int .u16 e, .int .i64 (len n), .slice (A n) (L n) (L n)] w fun x w' => x = .returned (.tuple #[]) ∧ Box w0 ib (n + 1) A L len nx lat (putF F s n) w' ∧ w'.heap.size = ib + 2 + (n + 1) := by
  have q : ∀ (w : World) (r : Option Nat), (binOp .eql 67 (.map r) (.map none)).run Try.prog w = .ok (.bool r.isNone) w := fun w r => run_eql_map_nil w _ _ _ r Try.underlying67
  obtain ⟨D, hown, hr⟩ := h.own
  have hc3 := h.c3
  have hib : ib < w.heap.size := by omega
  have HB : Hid (Box w0 ib n A L len nx lat F w) := h
  have HR : Hid (Reads (ib + 2) D F) := hr
  have HT : Hid (t = (n : Int) % 256 ∧ e = (n : Int) % 65536) := ⟨ht, he⟩
  have HS : Hid (w.heap.size = ib + 2 + n) := hsz
  clear h hr ht he hsz
  go_enter Try.func38, Try.ntmps38
  go_wp2_with (first
    | (at_mapUpdate; refine wpList_mapUpdate_in (H := Unit) _ rfl _ _ _ 67 rfl 46 36 law46 Try.underlying67 ptrE (ib + 1) n D rfl (hown.alloc _) (by unfold maxLen; omega) _ _ (.int .u16 s) rfl rfl (keyOf_int_mk Try.underlying46 hs) _ [] (ptrE_some _) ?_; intro w1 hown1 hturn1))
  go_end0
  exact ⟨rfl, HB.out.put HS.out HR.out hown.isMap HT.out.1 HT.out.2 hown1 hturn1⟩

/-- The Inbox behind 'in.pending = make(..)'. -/
def W1 (w : World) (ib : Nat) : World := (w.setCell ⟨ib, 3, none⟩ (.map (some (ib + 1)))).alloc (.map #[] 0)

theorem box_first {w : World} (h : Box0 w0 ib nx lat w) : Box w0 ib 0 A L len nx lat (fun _ => none) (W1 w ib) ∧ (W1 w ib).ownsMap Try.prog 46 ptrE (ib + 1) 0 (.map []) ∧ (W1 w ib).heap.size = ib + 2 := by
  have hsz := h.sz
  have hs1 : (w.setCell ⟨ib, 3, none⟩ (.map (some (ib + 1)))).heap.size = ib + 1 := by simp [hsz]
  have hcell : ∀ o v, (#[Value.int .u16 nx, .bool false, .bool lat, .map none] : Array Value)[o]? = some v → w.cell? ⟨ib, o, none⟩ = some v := fun o v hv => by
    rw [cell_of_row _ _ _ _ _ _ h.hb]; exact hv
  have hc1 : ∀ o, (W1 w ib).cell? ⟨ib, o, none⟩ = (w.setCell ⟨ib, 3, none⟩ (.map (some (ib + 1)))).cell? ⟨ib, o, none⟩ := fun o => World.cell?_of_block (Below.heap_alloc _ _ ib (by omega))
  have hown : (W1 w ib).ownsMap Try.prog 46 ptrE (ib + 1) 0 (.map []) := by
    have := World.ownsMap_made (w.setCell ⟨ib, 3, none⟩ (.map (some (ib + 1)))) Try.prog 46 ptrE
    rw [hs1] at this
    exact this
  have hsz2 : (W1 w ib).heap.size = ib + 2 := by unfold W1; rw [World.size_alloc, hs1]
  refine ⟨⟨?_, ?_, ?_, ?_, ⟨.map [], hown, fun s zd => rfl⟩, fun i hi => by omega, fun i hi => by omega, fun i hi => by omega, fun i hi => by omega, by omega, ?_, fun s i hs => by cases hs⟩, hown, hsz2⟩
  · rw [hc1, World.cell?_setCell_other]
    · exact hcell 0 _ rfl
    · intro e; cases e
  · rw [show (W1 w ib).frozen? ⟨ib, 0, none⟩ = (w.setCell ⟨ib, 3, none⟩ (.map (some (ib + 1)))).frozen? ⟨ib, 0, none⟩ from World.frozen?_of_block (Below.heap_alloc _ _ ib (by omega)), World.frozen?_setCell]
    simp [World.frozen?, h.hb]
  · rw [hc1, World.cell?_setCell_other]
    · exact hcell 2 _ rfl
    · intro e; cases e
  · rw [hc1]
    exact World.cell?_setCell_same' _ _ _ (by rw [hcell 3 _ rfl]; rfl)
  · exact (h.old.setCell (Nat.le_refl _) _).alloc (by omega) _

theorem put_first (s : Int) (w : World) (h : Box0 w0 ib nx lat w) (hs : (Lit.int .u16 s).wf = true) :
    Calls Try.prog 38 #[.pointer (some ⟨ib, 0, none⟩), .int .u16 s, .int .u8 0, .int .u16 0, .int .i64 (len 0), .slice (A 0) (L 0) (L 0)] w fun x w' => x = .returned (.tuple #[]) ∧ Box w0 ib 1 A L len nx lat (putF (fun _ => none) s 0) w' ∧ w'.heap.size = ib + 2 + 1 := by
  have q : ∀ (w : World) (r : Option Nat), (binOp .eql 67 (.map r) (.map none)).run Try.prog w = .ok (.bool r.isNone) w := fun w r => run_eql_map_nil w _ _ _ r Try.underlying67
  have hmm := @run_makeMap Try.prog
  have hsz := h.sz
  obtain ⟨hB, hown, hsz2⟩ := box_first (A := A) (L := L) (len := len) h
  have hc3 : w.cell? ⟨ib, 3, none⟩ = some (.map none) := by rw [cell_of_row _ _ _ _ _ _ h.hb]; rfl
  have hf3 : w.frozen? ⟨ib, 3, none⟩ = false := by simp [World.frozen?, h.hb]
  have HB : Hid (Box w0 ib 0 A L len nx lat (fun _ => none) (W1 w ib)) := hB
  have HO : Hid ((W1 w ib).ownsMap Try.prog 46 ptrE (ib + 1) 0 (.map [])) := hown
  have HZ : Hid ((W1 w ib).heap.size = ib + 2) := hsz2
  clear hB hown h hsz2
  go_enter Try.func38, Try.ntmps38
  go_wp2_with (first
    | (at_mapUpdate; refine wpList_mapUpdate_in (H := Unit) _ rfl _ _ _ 67 rfl 46 36 law46 Try.underlying67 ptrE (ib + 1) 0 (.map []) rfl (HO.out.alloc _) (by unfold maxLen; omega) _ _ (.int .u16 s) rfl rfl (keyOf_int_mk Try.underlying46 hs) _ [] (ptrE_some _) ?_; intro w1 hown1 hturn1))
  go_end0
  refine ⟨rfl, HB.out.put HZ.out (fun s zd => rfl) isMap_empty rfl rfl (by rw [HZ.out]; exact hown1) hturn1⟩

/-- The Inbox after k puts. -/
def Fil (w : World) (nx : Int) (lat : Bool) (A : Nat → Option Addr) (L : Nat → Nat) (len : Nat → Int) (q : Nat → Int) (k : Nat) (wr : World) : Prop :=
  (k = 0 → Box0 w w.heap.size nx lat wr) ∧ (0 < k → Box w w.heap.size k A L len nx lat (fun s => lastPut q s k) wr ∧ wr.heap.size = w.heap.size + 2 + k)

theorem Fil.old {w wr : World} {q : Nat → Int} {k : Nat} (h : Fil w nx lat A L len q k wr) : Below w.heap.size w wr := by
  rcases Nat.eq_zero_or_pos k with h0 | h0
  · exact (h.1 h0).old
  · exact (h.2 h0).1.old
theorem Fil.drew {w wr : World} {q : Nat → Int} {k : Nat} (h : Fil w nx lat A L len q k wr) : Fil w nx lat A L len q k wr.drew :=
  ⟨fun h0 => ⟨(h.1 h0).hb, (h.1 h0).sz, (h.1 h0).old.drew⟩, fun h0 => ⟨(h.2 h0).1.kept (Below.refl _ _).drew, (h.2 h0).2⟩⟩

/-- One call of ZZPut, whatever has been put. -/
theorem put_any {w wr : World} {q : Nat → Int} {k : Nat} (t e : Int) (h : Fil w nx lat A L len q k wr) (hs : (Lit.int .u16 (q k)).wf = true) (hk : k ≤ 4095) (ht : t = (k : Int) % 256) (he : e = (k : Int) % 65536) :
    Calls Try.prog 38 #[.pointer (some ⟨w.heap.size, 0, none⟩), .int .u16 (q k), .int .u8 t, .int .u16 e, .int .i64 (len k), .slice (A k) (L k) (L k)] wr fun x w' => x = .returned (.tuple #[]) ∧ Fil w nx lat A L len q (k + 1) w' := by
  rcases Nat.eq_zero_or_pos k with rfl | h0
  · subst ht he
    refine (put_first (q 0) wr (h.1 rfl) hs).mono ?_
    rintro x w' ⟨rfl, hB, hz⟩
    refine ⟨rfl, fun h => by omega, fun _ => ⟨?_, hz⟩⟩
    have e : (putF (fun _ => none) (q 0) 0) = fun s => lastPut q s (0 + 1) := by
      funext s
      simp only [putF, lastPut]
      by_cases hs : s = q 0
      · simp [hs]
      · rw [if_neg hs, if_neg (fun h => hs h.symm)]
    rw [← e]
    exact hB
  · obtain ⟨hB, hz⟩ := h.2 h0
    refine (put_next (q k) t e wr hB hz hs ht he (by omega)).mono ?_
    rintro x w' ⟨rfl, hB', hz'⟩
    refine ⟨rfl, fun h => by omega, fun _ => ⟨?_, hz'⟩⟩
    have e : (putF (fun s => lastPut q s k) (q k) k) = fun s => lastPut q s (k + 1) := by
      funext s
      simp only [putF, lastPut]
      by_cases hs : s = q k
      · simp [hs]
      · rw [if_neg hs, if_neg (fun h => hs h.symm)]
    rw [← e]
    exact hB'

set_option maxRecDepth 100000 in
theorem fill (a1 a2 a3 : Option Addr) (n1 n2 n3 c1 c2 c3 n : Nat) (q : Nat → Int) (w : World) (h1 : n ≤ n1) (h2 : n ≤ n2) (h3 : n ≤ n3) (hn : n ≤ 4096) (g1 : n1 ≤ 4096) (g2 : n2 ≤ 4096) (g3 : n3 ≤ 4096)
    (hv1 : View .u16 w a1 n1 q) (hv2 : View .i64 w a2 n2 len) (ho : Outer w a3 n3 (fun i => .slice (A i) (L i) (L i))) (hq : ∀ i, i < n → (Lit.int .u16 (q i)).wf = true) :
    Calls Try.prog 31 #[.int .u16 nx, .bool lat, .slice a1 n1 c1, .slice a2 n2 c2, .slice a3 n3 c3, .int .i64 n] w fun e w' => e = .returned (.pointer (some ⟨w.heap.size, 0, none⟩)) ∧ Fil w nx lat A L len q n w' := by
  have hf0 : Fil w nx lat A L len q 0 (w.alloc (.cells #[.int .u16 nx, .bool false, .bool lat, .map none] 69)) := ⟨fun _ => ⟨heap_alloc_new _ _, by simp, (Below.refl _ _).alloc (Nat.le_refl _) _⟩, fun h => by omega⟩
  have HF0 : Hid (Fil w nx lat A L len q 0 (w.alloc (.cells #[.int .u16 nx, .bool false, .bool lat, .map none] 69))) := hf0
  clear hf0
  rcases Nat.eq_zero_or_pos n with rfl | hpos
  · go_enter Try.func31, Try.ntmps31
    go_wp2
    refine wp_loop_rounds 1 ?_
    rw [rounds_succ]
    go_wp2
    go_ret
    exact ⟨rfl, HF0.out⟩
  · obtain ⟨b1, o1, rfl, hc1⟩ := hv1 (by omega)
    obtain ⟨b2, o2, rfl, hc2⟩ := hv2 (by omega)
    obtain ⟨b3, o3, rfl, hc3⟩ := ho (by omega)
    have HC1 : Hid (∀ i, i < n1 → w.cell? ⟨b1, o1 + i, none⟩ = some (.int .u16 (q i))) := hc1
    have HC2 : Hid (∀ i, i < n2 → w.cell? ⟨b2, o2 + i, none⟩ = some (.int .i64 (len i))) := hc2
    have HC3 : Hid (∀ i, i < n3 → w.cell? ⟨b3, o3 + i, none⟩ = some (.slice (A i) (L i) (L i))) := hc3
    have HQ : Hid (∀ i, i < n → (Lit.int .u16 (q i)).wf = true) := hq
    clear hc1 hc2 hc3 hq hv1 hv2 ho
    go_enter Try.func31, Try.ntmps31
    go_wp2
    go_loopw [14] (fun i wr => ∃ k : Nat, k ≤ n ∧ i = .int .i64 k ∧ Hid (Fil w nx lat A L len q k wr)) (fun i _ => n - (intOf i).toNat)
    case atStart => exact ⟨0, Nat.zero_le _, rfl, HF0.out⟩
    case round =>
      obtain ⟨k, hk, rfl, HF⟩ := hrel
      by_cases hlt : k < n
      · have x1 : wr.cell? ⟨b1, o1 + k, none⟩ = some (.int .u16 (q k)) := cell_later HF.out.old (HC1.out k (by omega))
        have x2 : wr.cell? ⟨b2, o2 + k, none⟩ = some (.int .i64 (len k)) := cell_later HF.out.old (HC2.out k (by omega))
        have x3 : wr.cell? ⟨b3, o3 + k, none⟩ = some (.slice (A k) (L k) (L k)) := cell_later HF.out.old (HC3.out k (by omega))
        have i1 : (k : Int) < (n1 : Int) := by omega
        have i2 : (k : Int) < (n2 : Int) := by omega
        have i3 : (k : Int) < (n3 : Int) := by omega
        go_wp2_with fail
        go_region_held3 (fun w' => w'.cell? ⟨b1, o1 + k, none⟩ = some (.int .u16 (q k)) ∧ w'.cell? ⟨b2, o2 + k, none⟩ = some (.int .i64 (len k)) ∧ w'.cell? ⟨b3, o3 + k, none⟩ = some (.slice (A k) (L k) (L k))) (go_keep)
          ((go_at_call 38; refine (put_any _ _ HF.out.drew (HQ.out k hlt) (by omega) ?t1 ?t2).mono ?_; (case t1 => first | rfl | omega); (case t2 => first | rfl | omega); rintro e w2 ⟨rfl, hf2⟩; have y1 : w2.cell? ⟨b1, o1 + k, none⟩ = some (.int .u16 (q k)) := cell_later hf2.old (HC1.out k (by omega)); have y2 : w2.cell? ⟨b2, o2 + k, none⟩ = some (.int .i64 (len k)) := cell_later hf2.old (HC2.out k (by omega)); have y3 : w2.cell? ⟨b3, o3 + k, none⟩ = some (.slice (A k) (L k) (L k)) := cell_later hf2.old (HC3.out k (by omega))))
        have R : Hid (Fil w nx lat A L len q (k + 1) w2) := hf2
        clear hf2 y1 y2 y3 x1 x2 x3
        go_wp2
        go_roundw
        case rel =>
          repeat apply Exists.intro
          exact ⟨⟨k + 1, by omega, by go_num, R⟩, rfl⟩
        case measure => simp [intOf]; omega
      · go_wp2
        go_ret
        obtain rfl : k = n := by omega
        exact ⟨rfl, HF.out⟩
end Go.Proofs.Qxb6000464a
