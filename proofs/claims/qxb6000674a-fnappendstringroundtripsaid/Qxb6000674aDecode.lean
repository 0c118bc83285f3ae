/-
  The walk of fmtb1DecodeJSONString (19) at what appendString has made, and of fmtb1HexVal (31).
-/
import Derived.Test.Qxb6000674aAppend
import Derived.Lib.SlBytesRow
import Derived.Deep.OwnRows
namespace Go.Proofs.Qxb6000674a
open Go.RowKit

/-- The bytes that have been read back: 'out' owns them. -/
def Out (w : World) (l : List Int) (v : Value) (wr : World) : Prop :=
  ∃ g cap, v = .slice (some ⟨g, 0, none⟩) l.length cap ∧ wr.ownsRow w.heap.size 5 1 v l.length (bs l) ∧ Below w.heap.size w wr

theorem Out.alloc {w wr : World} {l : List Int} {v : Value} (h : Out w l v wr) (o : Obj) : Out w l v (wr.alloc o) := by
  obtain ⟨g, cap, hv, ho, hb⟩ := h
  exact ⟨g, cap, hv, ho.alloc _, hb.alloc hb.size o⟩
theorem Out.put {w wr : World} {l m : List Int} {v : Value} (h : Out w l v wr) (e : l = m) : Out w m v wr := e ▸ h
theorem Out.below {w wr : World} {l : List Int} {v : Value} (h : Out w l v wr) : Below w.heap.size w wr := by
  obtain ⟨g, cap, hv, ho, hb⟩ := h
  exact hb

theorem out_law {w wx : World} {ops : Array Oper} {rest : List Oper} {o : Oper} {a : Act} {Q : Exit → Act → World → Prop} {l : List Int} {v : Value} (hgd : o.guard = none) (s x : Operand)
    (ho : o.op = .call { callee := .builtin .append, args := #[s, x], argTypes := #[24, 24] }) (hs : a.eval s = v) (h : Out w l v wx) (B : Nat) (cs : Array Value) (fr : Nat × Nat) (hb : wx.heap[B]? = some (.cells cs 5 fr))
    (z : Int) (c : Nat) (hx : a.eval x = .slice (some ⟨B, 0, none⟩) 1 c) (hcs : cs.toList = bs [z]) (hbd : l.length + 1 ≤ 100000000)
    (hK : ∀ v' w1, Out w (l ++ [z]) v' w1 → wpList Try.prog ops Q rest (a.put o.dst v') w1) : wpList Try.prog ops Q (o :: rest) a wx := by
  obtain ⟨i0, hi, hz0, hz1, hz2⟩ := info_parts Try.info5
  obtain ⟨g, cap, rfl, hown, hbel⟩ := h
  refine wpList_append_lies (P := Try.prog) wx hgd s x 24 ho w.heap.size 5 i0 (.int .u8 0) 1 1 Try.underlying24 hi hz0 hz1 hz2 rfl (by decide) _ _ _ hs hown ⟨B, 0, none⟩ 1 c (bs [z]) hx rfl
    (fun j u hu => World.news_of_block hb j u (by rw [hcs]; exact hu)) (bs_one _) (by decide) (by unfold maxLen; omega) (by omega) hbel.size wx.heap.size rfl ?_
  intro g' cap' w1 h1 h2 _ _
  have e : l.length + 1 = (l ++ [z]).length := by simp
  refine hK _ _ ⟨g', cap', by rw [e], by rw [← e, bs_append]; exact h1, hbel.grown h2 hbel.size ?_⟩
  intro k hk
  simp [Value.ownBlock] at hk
  rcases hown.2 with ⟨h2, _⟩ | ⟨g2, cap2, cur, hv, hg2, _⟩
  · simp at h2
  · simp at hv; omega

/-- The value of a lower-case hexadecimal digit. -/
theorem hex_val (m : Int) (w : World) (h0 : 0 ≤ m) (h1 : m < 16) : Calls Try.prog 31 #[.int .u8 (hexd m)] w fun e w' => e = .returned (.int .i64 m) ∧ w' = w := by
  obtain rfl | rfl | rfl | rfl | rfl | rfl | rfl | rfl | rfl | rfl | rfl | rfl | rfl | rfl | rfl | rfl : m = 0 ∨ m = 1 ∨ m = 2 ∨ m = 3 ∨ m = 4 ∨ m = 5 ∨ m = 6 ∨ m = 7 ∨ m = 8 ∨ m = 9 ∨ m = 10 ∨ m = 11 ∨ m = 12 ∨ m = 13 ∨ m = 14 ∨ m = 15 := by omega
  all_goals
    simp only [hexd]
    go_enter Try.func31, Try.ntmps31
    go_wp2
    go_ret
    exact ⟨rfl, rfl⟩

/-! ### Where the chunks lie -/
/-- Where the chunk of byte k begins. -/
def posn (l : List UInt8) (k : Nat) : Nat := 1 + (encL (l.take k)).length

theorem posn_zero (l : List UInt8) : posn l 0 = 1 := rfl
theorem posn_succ (s : ByteArray) (k : Nat) (h : k < s.size) : posn s.data.toList (k + 1) = posn s.data.toList k + (esc (s[k].toNat : Int)).length := by
  unfold posn; rw [encL_step s k h, List.length_append]; omega
theorem posn_end (s : ByteArray) : posn s.data.toList s.size + 1 = (lit s.data.toList).length := by
  unfold posn; rw [List.take_of_length_le (by simp), lit_len]; omega
theorem posn_room (s : ByteArray) (k : Nat) (h : k < s.size) : posn s.data.toList k + (esc (s[k].toNat : Int)).length + 1 ≤ (lit s.data.toList).length := by
  have e : s.data.toList = s.data.toList.take (k + 1) ++ s.data.toList.drop (k + 1) := (List.take_append_drop _ _).symm
  have h1 := posn_succ s k h
  have h2 : (encL s.data.toList).length = (encL (s.data.toList.take (k + 1))).length + (encL (s.data.toList.drop (k + 1))).length := by
    rw [← List.length_append, ← encL_append, List.take_append_drop]
  rw [lit_len]
  unfold posn at h1 ⊢
  omega
theorem chunk (s : ByteArray) (k t : Nat) (h : k < s.size) (ht : t < (esc (s[k].toNat : Int)).length) : (lit s.data.toList).getD (posn s.data.toList k + t) 0 = (esc (s[k].toNat : Int)).getD t 0 := by
  have e : s.data.toList = s.data.toList.take k ++ (s[k] :: s.data.toList.drop (k + 1)) := by
    conv => lhs; rw [← List.take_append_drop k s.data.toList]
    rw [List.drop_eq_getElem_cons (by simpa using h)]
    rfl
  have e2 : lit s.data.toList = (34 :: encL (s.data.toList.take k)) ++ (esc (s[k].toNat : Int) ++ (encL (s.data.toList.drop (k + 1)) ++ [34])) := by
    unfold lit
    conv => lhs; rw [e]
    rw [encL_append, encL_cons]
    simp
  rw [e2]
  unfold posn
  rw [List.getD_eq_getElem?_getD, List.getElem?_append_right (by simp; omega), List.getElem?_append_left (by simp; omega), ← List.getD_eq_getElem?_getD]
  congr 1
  simp
  omega
/-- The bytes as numbers. -/
def nums (l : List UInt8) : List Int := l.map fun c => (c.toNat : Int)
theorem nums_step (s : ByteArray) (k : Nat) (h : k < s.size) : nums (s.data.toList.take k) ++ [(s[k].toNat : Int)] = nums (s.data.toList.take (k + 1)) := by
  unfold nums; rw [take_snoc s k h]; simp
theorem nums_len (s : ByteArray) (k : Nat) (h : k ≤ s.size) : (nums (s.data.toList.take k)).length = k := by
  unfold nums; simp; omega


theorem out_conv {w wr : World} {s : ByteArray} {v : Value} (h : Out w (nums s.data.toList) v wr) : ∃ g cap, v = .slice (some ⟨g, 0, none⟩) s.size cap ∧ (convert 24 9 (.slice (some ⟨g, 0, none⟩) s.size cap)).run Try.prog wr = .ok (.string s) wr := by
  obtain ⟨g, cap, hv, ho, hb⟩ := h
  have e : (nums s.data.toList).length = s.size := by unfold nums; simp
  rw [e] at hv ho
  refine ⟨g, cap, hv, Lib.run_convert_whole (P := Try.prog) wr 24 5 9 Try.underlying24 Try.underlying5 Try.underlying9 g 0 s ?_ cap⟩
  intro i hi
  rw [hv] at ho
  rw [Nat.zero_add, ho.cellAt i (by omega)]
  unfold bs nums
  have : i < s.data.toList.length := by simpa using hi
  simp [List.getElem?_eq_getElem this]
  rfl

/-- The four hexadecimal digits of a control byte, and what has been read of them. -/
def nib (c : Int) (t : Nat) : Int := if t = 2 then c / 16 else if t = 3 then c % 16 else 0
def hval (c : Int) (t : Nat) : Int := if t = 3 then c / 16 else if t = 4 then c else 0
theorem nib_cells {wr : World} {gb p : Nat} {c : Int} (h : ∀ t, t < [92, 117, 48, 48, hexd (c / 16), hexd (c % 16)].length → wr.cell? ⟨gb, p + t, none⟩ = some (.int .u8 (([92, 117, 48, 48, hexd (c / 16), hexd (c % 16)] : List Int).getD t 0))) :
    ∀ t, t < 4 → wr.cell? ⟨gb, p + 2 + t, none⟩ = some (.int .u8 (hexd (nib c t))) := by
  intro t ht
  have h2 := h (2 + t) (by simp; omega)
  rw [show p + 2 + t = p + (2 + t) by omega, h2]
  obtain rfl | rfl | rfl | rfl : t = 0 ∨ t = 1 ∨ t = 2 ∨ t = 3 := by omega
  all_goals rfl
theorem nib_bd (c : Int) (t : Nat) (h0 : 0 ≤ c) (h1 : c < 32) : 0 ≤ nib c t ∧ nib c t < 16 := by
  unfold nib; repeat' split
  all_goals omega
theorem hval_bd (c : Int) (t : Nat) (h0 : 0 ≤ c) (h1 : c < 32) : 0 ≤ hval c t ∧ hval c t < 32 := by
  unfold hval; repeat' split
  all_goals omega
theorem hval_succ (c : Int) (t : Nat) (ht : t < 4) : hval c t * 16 + nib c t = hval c (t + 1) := by
  obtain rfl | rfl | rfl | rfl : t = 0 ∨ t = 1 ∨ t = 2 ∨ t = 3 := by omega
  all_goals simp [hval, nib]
  omega

theorem pos_last {s : ByteArray} {k p L : Nat} (hp : posn s.data.toList k = p) (hk : k ≤ s.size) (hlt : ¬ k < s.size) (hL : L = (lit s.data.toList).length) : p + 1 = L := by
  have h := posn_end s
  obtain rfl : k = s.size := by omega
  omega

/-- All that a round wants of byte k: its number c, its chunk, where the chunk lies, what is gathered behind it. -/
theorem chunk_facts {w wr : World} {s : ByteArray} {gb k p L : Nat} (hlt : k < s.size) (hp : posn s.data.toList k = p) (hL : L = (lit s.data.toList).length) (hgb : gb < w.heap.size)
    (hc : ∀ i, i < L → w.cell? ⟨gb, i, none⟩ = some (.int .u8 ((lit s.data.toList).getD i 0))) (hb : Below w.heap.size w wr) :
    ∃ c : Int, 0 ≤ c ∧ c ≤ 255 ∧ (∀ z, z = c → nums (s.data.toList.take k) ++ [z] = nums (s.data.toList.take (k + 1))) ∧ (∀ n, (esc c).length = n → posn s.data.toList (k + 1) = p + n ∧ p + n + 1 ≤ L) ∧
      ∀ t, t < (esc c).length → wr.cell? ⟨gb, p + t, none⟩ = some (.int .u8 ((esc c).getD t 0)) := by
  refine ⟨(s[k].toNat : Int), by omega, by have := s[k].toNat_lt; omega, fun z hz => ?_, fun n hn => ?_, fun t ht => ?_⟩
  · rw [hz]; exact nums_step s k hlt
  · have h1 := posn_succ s k hlt
    have h2 := posn_room s k hlt
    omega
  · have h2 := posn_room s k hlt
    rw [hb.cell (p := ⟨gb, p + t, none⟩) hgb, hc (p + t) (by omega), ← hp, chunk s k t hlt ht]

set_option maxRecDepth 100000 in
set_option maxHeartbeats 4000000 in
theorem decode (gb cb L : Nat) (s : ByteArray) (w : World) (hs : s.size ≤ 1048576) (hL : L = (lit s.data.toList).length) (hgb : gb < w.heap.size) (hc : ∀ i, i < L → w.cell? ⟨gb, i, none⟩ = some (.int .u8 ((lit s.data.toList).getD i 0))) :
    Calls Try.prog 19 #[.slice (some ⟨gb, 0, none⟩) L cb] w fun e w' => e = .returned (.tuple #[.string s, .bool true]) ∧ Below w.heap.size w w' := by
  have hl := encL_len s.data.toList
  have hz : s.data.toList.length = s.size := by simp
  have b2 : L ≤ 6291458 := by rw [hL, lit_len]; omega
  have b3 : 2 ≤ L := by rw [hL, lit_len]; omega
  have c0 : w.cell? ⟨gb, 0, none⟩ = some (.int .u8 34) := by rw [hc 0 (by omega)]; rfl
  have c1 : w.cell? ⟨gb, L - 1, none⟩ = some (.int .u8 34) := by
    rw [hc (L - 1) (by omega)]
    congr 2
    rw [hL, lit_len, show (encL s.data.toList).length + 2 - 1 = (encL s.data.toList).length + 1 by omega]
    unfold lit
    simp
  have HL : Hid (L = (lit s.data.toList).length) := hL
  have HC : Hid (∀ i, i < L → w.cell? ⟨gb, i, none⟩ = some (.int .u8 ((lit s.data.toList).getD i 0))) := hc
  clear hl hz hL hc
  obtain ⟨i0, hi, hz0, hz1, hz2⟩ := info_parts Try.info5
  go_enter Try.func19, Try.ntmps19
  go_wp2_with (first | (at_make; refine wpList_make_own _ rfl _ _ 24 rfl w.heap.size 5 i0 (.int .u8 0) 1 Try.underlying24 hi hz0 hz1 .i64 .i64 _ L rfl rfl rfl (by rw [hz2]; omega) (by unfold maxLen; omega) (Nat.le_refl _) ?_; intro w1 hown1 hgrow1))
  have hh1 : Out w [] (.slice (some ⟨w.heap.size, 0, none⟩) 0 L) w1 := ⟨_, _, rfl, hown1, (Below.refl _ _).grown hgrow1 (Nat.le_refl _) (fun k hk => by cases hk)⟩
  clear hown1 hgrow1 c0 c1
  go_loopw [5, 6] (fun v i wr => ∃ k p : Nat, k ≤ s.size ∧ i = .int .i64 p ∧ Out w (nums (s.data.toList.take k)) v wr ∧ Hid (posn s.data.toList k = p)) (fun _ i _ => L - (intOf i).toNat)
  case atStart => exact ⟨0, 1, Nat.zero_le _, rfl, hh1, rfl⟩
  case round =>
    obtain ⟨k, p, hk, rfl, hh, HP⟩ := hrel
    clear hh1
    by_cases hlt : k < s.size
    · have hb := hh.below
      obtain ⟨c, hc0, hc255, hz, hq, hx⟩ := chunk_facts hlt HP.out HL.out hgb HC.out hb
      have HZ : Hid (∀ z, z = c → nums (s.data.toList.take k) ++ [z] = nums (s.data.toList.take (k + 1))) := hz
      have HQ : Hid (∀ n, (esc c).length = n → posn s.data.toList (k + 1) = p + n ∧ p + n + 1 ≤ L) := hq
      have HX : Hid (∀ t, t < (esc c).length → wr.cell? ⟨gb, p + t, none⟩ = some (.int .u8 ((esc c).getD t 0))) := hx
      have HN : Hid ((nums (s.data.toList.take k)).length = k) := nums_len s k hk
      clear hz hq hx hb
      rcases (show c = 34 ∨ c = 92 ∨ c = 10 ∨ c = 13 ∨ c = 9 ∨ (c < 32 ∧ c ≠ 10 ∧ c ≠ 13 ∧ c ≠ 9) ∨ (32 ≤ c ∧ c ≠ 34 ∧ c ≠ 92) by omega) with rfl | rfl | rfl | rfl | rfl | hc | hc
      · have ESC : esc 34 = [92, 34] := rfl
        have HR : Hid (posn s.data.toList (k + 1) = p + 2) := (HQ.out 2 (by rw [ESC]; rfl)).1
        have hroom : p + 2 + 1 ≤ L := (HQ.out 2 (by rw [ESC]; rfl)).2
        have x0 : wr.cell? ⟨gb, p, none⟩ = some (.int .u8 92) := by have := HX.out 0 (by rw [ESC]; decide); rw [ESC] at this; exact this
        have x1 : wr.cell? ⟨gb, p + 1, none⟩ = some (.int .u8 34) := by have := HX.out 1 (by rw [ESC]; decide); rw [ESC] at this; exact this
        clear HX HQ ESC
        go_wp2_with (first | (at_builtin; refine out_law rfl _ _ rfl rfl (hh.alloc _) wr.heap.size _ _ (heap_alloc_new _ _) 34 1 rfl rfl (by rw [HN.out]; omega) ?_; intro v' w2 hh2))
        go_roundw
        case rel => exact ⟨k + 1, p + 2, by omega, by go_num, hh2.put (HZ.out _ rfl), HR.out⟩
        case measure => simp [intOf]; omega
      · have ESC : esc 92 = [92, 92] := rfl
        have HR : Hid (posn s.data.toList (k + 1) = p + 2) := (HQ.out 2 (by rw [ESC]; rfl)).1
        have hroom : p + 2 + 1 ≤ L := (HQ.out 2 (by rw [ESC]; rfl)).2
        have x0 : wr.cell? ⟨gb, p, none⟩ = some (.int .u8 92) := by have := HX.out 0 (by rw [ESC]; decide); rw [ESC] at this; exact this
        have x1 : wr.cell? ⟨gb, p + 1, none⟩ = some (.int .u8 92) := by have := HX.out 1 (by rw [ESC]; decide); rw [ESC] at this; exact this
        clear HX HQ ESC
        go_wp2_with (first | (at_builtin; refine out_law rfl _ _ rfl rfl (hh.alloc _) wr.heap.size _ _ (heap_alloc_new _ _) 92 1 rfl rfl (by rw [HN.out]; omega) ?_; intro v' w2 hh2))
        go_roundw
        case rel => exact ⟨k + 1, p + 2, by omega, by go_num, hh2.put (HZ.out _ rfl), HR.out⟩
        case measure => simp [intOf]; omega
      · have ESC : esc 10 = [92, 110] := rfl
        have HR : Hid (posn s.data.toList (k + 1) = p + 2) := (HQ.out 2 (by rw [ESC]; rfl)).1
        have hroom : p + 2 + 1 ≤ L := (HQ.out 2 (by rw [ESC]; rfl)).2
        have x0 : wr.cell? ⟨gb, p, none⟩ = some (.int .u8 92) := by have := HX.out 0 (by rw [ESC]; decide); rw [ESC] at this; exact this
        have x1 : wr.cell? ⟨gb, p + 1, none⟩ = some (.int .u8 110) := by have := HX.out 1 (by rw [ESC]; decide); rw [ESC] at this; exact this
        clear HX HQ ESC
        go_wp2_with (first | (at_builtin; refine out_law rfl _ _ rfl rfl (hh.alloc _) wr.heap.size _ _ (heap_alloc_new _ _) 10 1 rfl rfl (by rw [HN.out]; omega) ?_; intro v' w2 hh2))
        go_roundw
        case rel => exact ⟨k + 1, p + 2, by omega, by go_num, hh2.put (HZ.out _ rfl), HR.out⟩
        case measure => simp [intOf]; omega
      · have ESC : esc 13 = [92, 114] := rfl
        have HR : Hid (posn s.data.toList (k + 1) = p + 2) := (HQ.out 2 (by rw [ESC]; rfl)).1
        have hroom : p + 2 + 1 ≤ L := (HQ.out 2 (by rw [ESC]; rfl)).2
        have x0 : wr.cell? ⟨gb, p, none⟩ = some (.int .u8 92) := by have := HX.out 0 (by rw [ESC]; decide); rw [ESC] at this; exact this
        have x1 : wr.cell? ⟨gb, p + 1, none⟩ = some (.int .u8 114) := by have := HX.out 1 (by rw [ESC]; decide); rw [ESC] at this; exact this
        clear HX HQ ESC
        go_wp2_with (first | (at_builtin; refine out_law rfl _ _ rfl rfl (hh.alloc _) wr.heap.size _ _ (heap_alloc_new _ _) 13 1 rfl rfl (by rw [HN.out]; omega) ?_; intro v' w2 hh2))
        go_roundw
        case rel => exact ⟨k + 1, p + 2, by omega, by go_num, hh2.put (HZ.out _ rfl), HR.out⟩
        case measure => simp [intOf]; omega
      · have ESC : esc 9 = [92, 116] := rfl
        have HR : Hid (posn s.data.toList (k + 1) = p + 2) := (HQ.out 2 (by rw [ESC]; rfl)).1
        have hroom : p + 2 + 1 ≤ L := (HQ.out 2 (by rw [ESC]; rfl)).2
        have x0 : wr.cell? ⟨gb, p, none⟩ = some (.int .u8 92) := by have := HX.out 0 (by rw [ESC]; decide); rw [ESC] at this; exact this
        have x1 : wr.cell? ⟨gb, p + 1, none⟩ = some (.int .u8 116) := by have := HX.out 1 (by rw [ESC]; decide); rw [ESC] at this; exact this
        clear HX HQ ESC
        go_wp2_with (first | (at_builtin; refine out_law rfl _ _ rfl rfl (hh.alloc _) wr.heap.size _ _ (heap_alloc_new _ _) 9 1 rfl rfl (by rw [HN.out]; omega) ?_; intro v' w2 hh2))
        go_roundw
        case rel => exact ⟨k + 1, p + 2, by omega, by go_num, hh2.put (HZ.out _ rfl), HR.out⟩
        case measure => simp [intOf]; omega
      · have ESC : esc c = [92, 117, 48, 48, hexd (c / 16), hexd (c % 16)] := esc_ctl hc.1 hc.2.1 hc.2.2.1 hc.2.2.2
        have HR : Hid (posn s.data.toList (k + 1) = p + 6) := (HQ.out 6 (by rw [ESC]; rfl)).1
        have hroom : p + 6 + 1 ≤ L := (HQ.out 6 (by rw [ESC]; rfl)).2
        have x0 : wr.cell? ⟨gb, p, none⟩ = some (.int .u8 92) := by have := HX.out 0 (by rw [ESC]; simp); rw [ESC] at this; exact this
        have x1 : wr.cell? ⟨gb, p + 1, none⟩ = some (.int .u8 117) := by have := HX.out 1 (by rw [ESC]; simp); rw [ESC] at this; exact this
        have X2 : Hid (∀ t, t < 4 → wr.cell? ⟨gb, p + 2 + t, none⟩ = some (.int .u8 (hexd (nib c t)))) := nib_cells (by rw [← ESC]; exact HX.out)
        clear HX HQ ESC
        have hc32 : c < 32 := hc.1
        clear hc
        have d1 : decide ((p : Int) < (L : Int) - 1) = true := by simp only [decide_eq_true_eq]; omega
        have d2 : decide ((L : Int) - 1 ≤ (p : Int) + 1) = false := by simp only [decide_eq_false_iff_not]; omega
        have d3 : decide ((L : Int) - 1 - (p : Int) < 6) = false := by simp only [decide_eq_false_iff_not]; omega
        go_wp2
        go_loop [9, 10] (fun v q => ∃ (t : Nat) (y : Int), t ≤ 4 ∧ q = .int .i64 ((p + 2 + t : Nat) : Int) ∧ v = .int .i64 y ∧ Hid (y = hval c t)) (fun _ q => p + 6 - (intOf q).toNat)
        case atStart => exact ⟨0, 0, by omega, by go_num, rfl, rfl⟩
        case round =>
          obtain ⟨t, y, ht, rfl, rfl, HY⟩ := hrel
          have hyb := hval_bd c t hc0 hc32
          rw [← HY.out] at hyb
          by_cases htl : t < 4
          · obtain ⟨m, hm⟩ : ∃ m, m = nib c t := ⟨_, rfl⟩
            have hmb := nib_bd c t hc0 hc32
            have hcell := X2.out t htl
            rw [← hm] at hmb hcell
            have HM : Hid (m = nib c t) := hm
            clear hm
            go_wp2_with (first | (go_at_call 31; refine (hex_val m _ hmb.1 hmb.2).mono ?_; rintro e w' ⟨rfl, rfl⟩))
            go_round
            case rel => exact ⟨t + 1, y * 16 + m, by omega, by go_num, rfl, by rw [HY.out, HM.out]; exact hval_succ c t htl⟩
            case measure => simp [intOf]; omega
          · obtain rfl : t = 4 := by omega
            obtain rfl : y = c := HY.out
            go_wp2_with (first | (at_builtin; refine out_law rfl _ _ rfl rfl (hh.alloc _) wr.heap.size _ _ (heap_alloc_new _ _) y 1 rfl rfl (by rw [HN.out]; omega) ?_; intro v' w2 hh2))
            go_roundw
            case rel => exact ⟨k + 1, p + 6, by omega, by go_num, hh2.put (HZ.out _ rfl), HR.out⟩
            case measure => simp [intOf]; omega
      · have ESC : esc c = [c] := esc_plain hc.1 hc.2.1 hc.2.2
        have HR : Hid (posn s.data.toList (k + 1) = p + 1) := (HQ.out 1 (by rw [ESC]; rfl)).1
        have hroom : p + 1 + 1 ≤ L := (HQ.out 1 (by rw [ESC]; rfl)).2
        have x0 : wr.cell? ⟨gb, p, none⟩ = some (.int .u8 c) := by have := HX.out 0 (by rw [ESC]; simp); rw [ESC] at this; exact this
        clear HX HQ ESC
        have e34 : (c == 34) = false := by simp only [beq_eq_false_iff_ne]; exact hc.2.1
        have e92 : (c == 92) = false := by simp only [beq_eq_false_iff_ne]; exact hc.2.2
        have hc32 : 32 ≤ c := hc.1
        clear hc
        go_wp2_with (first | (at_builtin; refine out_law rfl _ _ rfl rfl (hh.alloc _) wr.heap.size _ _ (heap_alloc_new _ _) c 1 rfl rfl (by rw [HN.out]; omega) ?_; intro v' w2 hh2))
        go_roundw
        case rel => exact ⟨k + 1, p + 1, by omega, by go_num, hh2.put (HZ.out _ rfl), HR.out⟩
        case measure => simp [intOf]; omega
    · have hp : p + 1 = L := pos_last HP.out hk hlt HL.out
      have hh' : Out w (nums s.data.toList) _ wr := hh.put (by rw [List.take_of_length_le (by simp; omega)])
      obtain ⟨g, cap, hv, hcv⟩ := out_conv hh'
      have hb := hh'.below
      clear hh hh'
      subst hv
      go_wp2
      go_ret2
      exact ⟨rfl, hb⟩
end Go.Proofs.Qxb6000674a
