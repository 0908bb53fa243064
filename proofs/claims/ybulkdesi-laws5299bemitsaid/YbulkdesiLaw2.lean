import Derived.Test.YbulkdesiLaw
namespace Go.Proofs.Ybulkdesi
open Go.RowKit
set_option linter.unusedVariables false

theorem rowCell {B g L j : Nat} {t : ByteArray} {xs : List Int} {w : World} (h : Lw B g t (xs.map (Value.int .u8)) w) (hx : xs.length = L) (hj : j < L) :
    w.cell? ⟨g, j, none⟩ = some (.int .u8 (xs.getD j 0)) := by
  rw [cell_of_row w g j _ 5 (0, 0) h.row, List.getElem?_toArray]
  simp [List.getElem?_map, List.getElem?_eq_getElem (show j < xs.length by omega), List.getD]

set_option maxHeartbeats 1000000 in
theorem law_in2 (blk off L cap n r : Nat) (k : Int) (xs : List Int) (s : ByteArray) (w : World) (hxs : xs.length = L) (hb : blk < w.heap.size) (hc : ∀ j, j < L → w.cell? ⟨blk, off + j, none⟩ = some (.int .u8 (xs.getD j 0)))
    (hLcap : L ≤ cap) (hL : (L : Int) ≤ 4096) (hs : (s.size : Int) ≤ 4096) (hk0 : 0 ≤ k) (hk1 : k ≤ 65535) (hkn : k % ((L : Int) + 1) = (n : Int)) (hr : (L : Int) - (n : Int) = (r : Int)) (hr0 : 0 < r) (ht : ¬ (s.size : Int) < (r : Int)) :
    Calls Yba.prog 3 #[.slice (some ⟨blk, off, none⟩) L cap, .int .u16 k, .string s] w fun e w' => e = .returned (.bool true) ∧ Below w.heap.size w w' := by
  obtain ⟨i0, hi, hz0, hz1, hz2⟩ := info_parts info5
  have HX : Hid (xs.length = L) := hxs
  have HC : Hid (∀ j, j < L → w.cell? ⟨blk, off + j, none⟩ = some (.int .u8 (xs.getD j 0))) := hc
  have hd : decide ((4096 : Int) < (L : Int)) = false := by simpa using hL
  have hd2 : decide (s.size < r) = false := by simp; omega
  clear hxs hc
  go_enter Yba.func3, Yba.ntmps3
  go_wp2_with (first
    | (at_make; refine wpList_make_full _ rfl _ _ 22 rfl w.heap.size 5 i0 (.int .u8 0) 1 Yba.underlying22 hi hz0 hz1 .i64 .i64 _ _ L rfl rfl rfl rfl (by rw [hz2]; omega) (by unfold maxLen; omega) (Nat.le_refl _) ?_; intro w1 hown hg; have HM : Hid (w1.heap[w.heap.size]? = some (.cells (List.replicate L (Value.int .u8 0)).toArray 5 (0, 0))) := row_of_made hown; have hB1 : Below w.heap.size w w1 := (Below.refl _ w).grown hg (Nat.le_refl _) (by simp); clear hown hg)
    | (refine wpList_copy_splice rfl (.tmp 25) (.tmp 26) 22 22 rfl 5 Yba.underlying22 size5 (some ⟨w.heap.size, 0, none⟩) (some ⟨blk, off, none⟩) L L L cap rfl rfl w.heap.size 0 (List.replicate L (Value.int .u8 0)) 5 HM.out (xs.map (Value.int .u8)) (by simpa using HX.out) (fun _ => ⟨rfl, _, rfl, src_of hB1 hb HX.out HC.out⟩) (by simp [HX.out]) (ints_oneCell _ _) w.heap.size w hB1 (Nat.le_refl _) ?_; intro w2 hg2 hB2; rw [splice_zero xs L HX.out] at hg2; have HW : Hid (Lw w2.heap.size w.heap.size ⟨#[111, 108, 100]⟩ (xs.map (Value.int .u8)) (w2.alloc (.cells #[.pointer none, .string ⟨#[111, 108, 100]⟩] 27))) := Lw.new hg2.out; have hlt2 : w.heap.size < w2.heap.size := lt_of_row hg2.out; clear HM hB1))
  refine (emit_in w2.heap.size w.heap.size L n r r s _ _ _ HW.out hlt2 (by simpa using HX.out) (by omega) (by omega) hr0 (by omega) (Nat.min_eq_right (by omega)).symm).mono ?_
  rintro e w3 ⟨rfl, hLw, hB3⟩
  have hBw : Below w.heap.size w w3 := (hB2.alloc (Nat.le_of_lt hlt2) _).trans hB3
  have q0 := hLw.rd
  have q1 := hLw.str
  clear HW hg2 hB2 hB3
  go_wp2_with fail
  go_quiet (fail)
  go_wp2
  have HLw : Hid (Lw w2.heap.size w.heap.size (s.extract r s.size) (splice (xs.map (Value.int .u8)) n (byteCells (s.data.toList.take r))) w3) := hLw
  clear hLw q0 q1
  go_loopw [12] (fun i wq => ∃ j : Nat, j ≤ L ∧ i = .int .i64 j ∧ ∃ q, wq = w3.drewN q) (fun i _ => L - (intOf i).toNat)
  case atStart => exact ⟨0, Nat.zero_le _, rfl, _, rfl⟩
  case round =>
    obtain ⟨j, hj, rfl, q, rfl⟩ := hrel
    by_cases hjl : j < L
    · have p1 := (hBw.cell (p := ⟨blk, off + j, none⟩) hb).trans (HC.out j hjl)
      have p2 := qCell HLw.out HX.out (by omega) (by omega) hjl
      have hjI : (j : Int) < (L : Int) := by omega
      by_cases hin : n ≤ j ∧ j < n + r
      · rw [if_pos hin] at p2
        obtain ⟨hn1, hn2⟩ := hin
        obtain ⟨m, rfl⟩ : ∃ m, j = n + m := ⟨j - n, by omega⟩
        have hm : m < s.size := by omega
        rw [byte_at s (n + m - n) m (by omega) hm] at p2
        go_wp2
        go_roundw
        case rel => exact ⟨n + m + 1, by omega, by go_num, _, rfl⟩
        case measure => simp [intOf]; omega
      · rw [if_neg hin] at p2
        by_cases hlo : n ≤ j
        · have hloI : (n : Int) ≤ (j : Int) := by omega
          have hhiI : ¬ (j : Int) < (n : Int) + (r : Int) := by omega
          clear hin
          go_wp2
          go_roundw
          case rel => exact ⟨j + 1, by omega, by go_num, _, rfl⟩
          case measure => simp [intOf]; omega
        · have hloI : ¬ (n : Int) ≤ (j : Int) := by omega
          clear hin
          go_wp2
          go_roundw
          case rel => exact ⟨j + 1, by omega, by go_num, _, rfl⟩
          case measure => simp [intOf]; omega
    · go_wp2
      go_ret
      exact ⟨rfl, below_drewN hBw _⟩

set_option maxHeartbeats 1000000 in
theorem law_end (blk off L cap : Nat) (k : Int) (xs : List Int) (s : ByteArray) (w : World) (hxs : xs.length = L) (hb : blk < w.heap.size) (hc : ∀ j, j < L → w.cell? ⟨blk, off + j, none⟩ = some (.int .u8 (xs.getD j 0)))
    (hLcap : L ≤ cap) (hL : (L : Int) ≤ 4096) (hs : (s.size : Int) ≤ 4096) (hk0 : 0 ≤ k) (hk1 : k ≤ 65535) (hkn : k % ((L : Int) + 1) = (L : Int)) :
    Calls Yba.prog 3 #[.slice (some ⟨blk, off, none⟩) L cap, .int .u16 k, .string s] w fun e w' => e = .returned (.bool true) ∧ Below w.heap.size w w' := by
  obtain ⟨i0, hi, hz0, hz1, hz2⟩ := info_parts info5
  have HX : Hid (xs.length = L) := hxs
  have HC : Hid (∀ j, j < L → w.cell? ⟨blk, off + j, none⟩ = some (.int .u8 (xs.getD j 0))) := hc
  have hd : decide ((4096 : Int) < (L : Int)) = false := by simpa using hL
  clear hxs hc
  go_enter Yba.func3, Yba.ntmps3
  go_wp2_with (first
    | (at_make; refine wpList_make_full _ rfl _ _ 22 rfl w.heap.size 5 i0 (.int .u8 0) 1 Yba.underlying22 hi hz0 hz1 .i64 .i64 _ _ L rfl rfl rfl rfl (by rw [hz2]; omega) (by unfold maxLen; omega) (Nat.le_refl _) ?_; intro w1 hown hg; have HM : Hid (w1.heap[w.heap.size]? = some (.cells (List.replicate L (Value.int .u8 0)).toArray 5 (0, 0))) := row_of_made hown; have hB1 : Below w.heap.size w w1 := (Below.refl _ w).grown hg (Nat.le_refl _) (by simp); clear hown hg)
    | (refine wpList_copy_splice rfl (.tmp 25) (.tmp 26) 22 22 rfl 5 Yba.underlying22 size5 (some ⟨w.heap.size, 0, none⟩) (some ⟨blk, off, none⟩) L L L cap rfl rfl w.heap.size 0 (List.replicate L (Value.int .u8 0)) 5 HM.out (xs.map (Value.int .u8)) (by simpa using HX.out) (fun _ => ⟨rfl, _, rfl, src_of hB1 hb HX.out HC.out⟩) (by simp [HX.out]) (ints_oneCell _ _) w.heap.size w hB1 (Nat.le_refl _) ?_; intro w2 hg2 hB2; rw [splice_zero xs L HX.out] at hg2; have HW : Hid (Lw w2.heap.size w.heap.size ⟨#[111, 108, 100]⟩ (xs.map (Value.int .u8)) (w2.alloc (.cells #[.pointer none, .string ⟨#[111, 108, 100]⟩] 27))) := Lw.new hg2.out; have hlt2 : w.heap.size < w2.heap.size := lt_of_row hg2.out; clear HM hB1))
  refine (emit_end w2.heap.size w.heap.size L s _ _ _ HW.out hlt2 (by simpa using HX.out) (by omega) (by omega)).mono ?_
  rintro e w3 ⟨rfl, hLw, hB3⟩
  have hBw : Below w.heap.size w w3 := (hB2.alloc (Nat.le_of_lt hlt2) _).trans hB3
  have q0 := hLw.rd
  have q1 := hLw.str
  clear HW hg2 hB2 hB3
  go_wp2_with fail
  go_quiet (fail)
  go_wp2
  have HLw : Hid (Lw w2.heap.size w.heap.size s (xs.map (Value.int .u8)) w3) := hLw
  clear hLw q0 q1
  go_loopw [12] (fun i wq => ∃ j : Nat, j ≤ L ∧ i = .int .i64 j ∧ ∃ q, wq = w3.drewN q) (fun i _ => L - (intOf i).toNat)
  case atStart => exact ⟨0, Nat.zero_le _, rfl, _, rfl⟩
  case round =>
    obtain ⟨j, hj, rfl, q, rfl⟩ := hrel
    by_cases hjl : j < L
    · have p1 := (hBw.cell (p := ⟨blk, off + j, none⟩) hb).trans (HC.out j hjl)
      have p2 := rowCell HLw.out HX.out hjl
      have hjI : (j : Int) < (L : Int) := by omega
      have hloI : ¬ (L : Int) ≤ (j : Int) := by omega
      go_wp2
      go_roundw
      case rel => exact ⟨j + 1, by omega, by go_num, _, rfl⟩
      case measure => simp [intOf]; omega
    · go_wp2
      go_ret
      exact ⟨rfl, below_drewN hBw _⟩

set_option maxHeartbeats 1000000 in
theorem law_zero (a0 : Option Addr) (cap : Nat) (k : Int) (s : ByteArray) (w : World)
    (hs : (s.size : Int) ≤ 4096) (hk0 : 0 ≤ k) (hk1 : k ≤ 65535) :
    Calls Yba.prog 3 #[.slice a0 0 cap, .int .u16 k, .string s] w fun e w' => e = .returned (.bool true) ∧ Below w.heap.size w w' := by
  obtain ⟨i0, hi, hz0, hz1, hz2⟩ := info_parts info5
  go_enter Yba.func3, Yba.ntmps3
  go_wp2_with (first
    | (at_make; refine wpList_make_full _ rfl _ _ 22 rfl w.heap.size 5 i0 (.int .u8 0) 1 Yba.underlying22 hi hz0 hz1 .i64 .i64 _ _ 0 rfl rfl rfl rfl (by rw [hz2]; omega) (by unfold maxLen; omega) (Nat.le_refl _) ?_; intro w1 hown hg; have HM : Hid (w1.heap[w.heap.size]? = some (.cells (List.replicate 0 (Value.int .u8 0)).toArray 5 (0, 0))) := row_of_made hown; have hB1 : Below w.heap.size w w1 := (Below.refl _ w).grown hg (Nat.le_refl _) (by simp); clear hown hg)
    | (refine wpList_copy_splice rfl (.tmp 25) (.tmp 26) 22 22 rfl 5 Yba.underlying22 size5 (some ⟨w.heap.size, 0, none⟩) a0 0 0 0 cap rfl rfl w.heap.size 0 (List.replicate 0 (Value.int .u8 0)) 5 HM.out [] rfl (by simp) (by simp) (by simp) w.heap.size w hB1 (Nat.le_refl _) ?_; intro w2 hg2 hB2; rw [show splice (List.replicate 0 (Value.int .u8 0)) 0 [] = [] from rfl] at hg2; have HW : Hid (Lw w2.heap.size w.heap.size ⟨#[111, 108, 100]⟩ [] (w2.alloc (.cells #[.pointer none, .string ⟨#[111, 108, 100]⟩] 27))) := Lw.new hg2.out; have hlt2 : w.heap.size < w2.heap.size := lt_of_row hg2.out; clear HM hB1))
  refine (emit_end w2.heap.size w.heap.size 0 s _ _ _ HW.out hlt2 rfl (by omega) (by omega)).mono ?_
  rintro e w3 ⟨rfl, hLw, hB3⟩
  have hBw : Below w.heap.size w w3 := (hB2.alloc (Nat.le_of_lt hlt2) _).trans hB3
  have q0 := hLw.rd
  have q1 := hLw.str
  clear HW hg2 hB2 hB3
  go_wp2_with fail
  go_quiet (fail)
  go_wp2
  have HLw : Hid (Lw w2.heap.size w.heap.size s [] w3) := hLw
  clear hLw q0 q1
  refine wp_loop_rounds 1 ?_
  rw [rounds_succ]
  go_wp2
  go_ret
  exact ⟨rfl, below_drewN hBw _⟩
end Go.Proofs.Ybulkdesi
