import Derived.Test.YbulkdesiEmit
namespace Go.Proofs.Ybulkdesi
open Go.RowKit
set_option linter.unusedVariables false

theorem law_bigp (a0 : Option Addr) (L cap : Nat) (k : Int) (s : ByteArray) (w : World) (h : (4096 : Int) < (L : Int)) :
    Calls Yba.prog 3 #[.slice a0 L cap, .int .u16 k, .string s] w fun e w' => e = .returned (.bool true) ∧ Below w.heap.size w w' := by
  have hd : decide ((4096 : Int) < (L : Int)) = true := by simpa using h
  go_enter Yba.func3, Yba.ntmps3
  go_wp2
  go_ret
  exact ⟨rfl, Below.refl _ _⟩

theorem law_bigs (a0 : Option Addr) (L cap : Nat) (k : Int) (s : ByteArray) (w : World) (h : (L : Int) ≤ 4096) (hs : (4096 : Int) < (s.size : Int)) :
    Calls Yba.prog 3 #[.slice a0 L cap, .int .u16 k, .string s] w fun e w' => e = .returned (.bool true) ∧ Below w.heap.size w w' := by
  have hd : decide ((4096 : Int) < (L : Int)) = false := by simpa using h
  go_enter Yba.func3, Yba.ntmps3
  go_wp2
  go_ret
  exact ⟨rfl, Below.refl _ _⟩

theorem row_of_made {w w1 : World} {L : Nat} (hown : w1.ownsRow w.heap.size 5 1 (.slice (some ⟨w.heap.size, 0, none⟩) L L) L (madeCells (Value.int .u8 0).cells (L * 1)).toList) :
    w1.heap[w.heap.size]? = some (.cells (List.replicate L (Value.int .u8 0)).toArray 5 (0, 0)) := by
  have e : (madeCells (Value.int .u8 0).cells (L * 1)).toList = List.replicate L (Value.int .u8 0) := by
    show (madeCells #[Value.int .u8 0] (L * 1)).toList = _
    rw [toList_madeCells_one, Nat.mul_one]
  rw [e] at hown
  rcases hown.2 with ⟨h', _⟩ | ⟨g, cap, cur, h', _, hg, _, _, hcs, htake⟩
  · simp at h'
  · simp only [Value.slice.injEq, Option.some.injEq, Addr.mk.injEq, and_true, true_and] at h'
    obtain ⟨rfl, rfl⟩ := h'
    have hl : cur.toList.length = L := by simpa using hcs
    rw [List.take_of_length_le (by omega)] at htake
    rw [hg, ← htake]

theorem src_of {w w1 : World} {blk off L : Nat} {xs : List Int} (hB : Below w.heap.size w w1) (hb : blk < w.heap.size) (hx : xs.length = L)
    (hc : ∀ j, j < L → w.cell? ⟨blk, off + j, none⟩ = some (.int .u8 (xs.getD j 0))) :
    ∀ j v, (xs.map (Value.int .u8))[j]? = some v → w1.cell? ((⟨blk, off, none⟩ : Addr).add j) = some v := by
  intro j v hj
  have hjl : j < xs.length := by simpa using (List.getElem?_eq_some_iff.1 hj).1
  have h1 : w1.cell? ⟨blk, off + j, none⟩ = some v := by
    rw [hB.cell (p := ⟨blk, off + j, none⟩) hb, hc j (by omega), ← hj]
    simp [List.getElem?_map, List.getElem?_eq_getElem hjl, List.getD]
  by_cases h0 : j = 0
  · subst h0; simpa [Addr.add] using h1
  · simpa [Addr.add, h0] using h1

theorem splice_zero (xs : List Int) (L : Nat) (hx : xs.length = L) : splice (List.replicate L (Value.int .u8 0)) 0 (xs.map (Value.int .u8)) = xs.map (Value.int .u8) := by
  simp [splice, hx]

/-- the lineWalk's new box. -/
theorem Lw.new {w w2 : World} {row : List Value} {t : ByteArray} (hg : w2.heap[w.heap.size]? = some (.cells row.toArray 5 (0, 0))) : Lw w2.heap.size w.heap.size t row (w2.alloc (.cells #[.pointer none, .string t] 27)) := by
  have hlt : w.heap.size < w2.heap.size := by
    rcases Nat.lt_or_ge w.heap.size w2.heap.size with h' | h'
    · exact h'
    · simp [Array.getElem?_eq_none h'] at hg
  refine ⟨by rw [World.cell?_alloc_new]; rfl, by rw [World.cell?_alloc_new]; rfl, ?_, by rw [Below.heap_alloc _ _ _ hlt]; exact hg⟩
  rw [frozen?_alloc_cells]
  simp [World.frozen?]

theorem lt_of_row {w w2 : World} {o : Obj} (hg : w2.heap[w.heap.size]? = some o) : w.heap.size < w2.heap.size := by
  rcases Nat.lt_or_ge w.heap.size w2.heap.size with h' | h'
  · exact h'
  · simp [Array.getElem?_eq_none h'] at hg

theorem qCell {B g L n c j : Nat} {t s : ByteArray} {xs : List Int} {w : World} (h : Lw B g t (splice (xs.map (Value.int .u8)) n (byteCells (s.data.toList.take c))) w) (hx : xs.length = L) (hn : n + c ≤ L) (hc : c ≤ s.size) (hj : j < L) :
    w.cell? ⟨g, j, none⟩ = some (.int .u8 (if n ≤ j ∧ j < n + c then ((s.data.toList.getD (j - n) 0).toNat : Int) else xs.getD j 0)) := by
  rw [cell_of_row w g j _ 5 (0, 0) h.row, List.getElem?_toArray]
  exact cell_splice xs L n c j s hx hn hc hj

theorem byte_at (s : ByteArray) (i m : Nat) (hi : i = m) (hm : m < s.size) : s.data.toList.getD i 0 = s[m] := by
  subst hi
  have h2 : i < s.data.toList.length := by simpa using hm
  simp [List.getD, List.getElem?_eq_getElem h2]
  rfl

set_option maxHeartbeats 1000000 in
theorem law_in1 (blk off L cap n r : Nat) (k : Int) (xs : List Int) (s : ByteArray) (w : World) (hxs : xs.length = L) (hb : blk < w.heap.size) (hc : ∀ j, j < L → w.cell? ⟨blk, off + j, none⟩ = some (.int .u8 (xs.getD j 0)))
    (hLcap : L ≤ cap) (hL : (L : Int) ≤ 4096) (hs : (s.size : Int) ≤ 4096) (hk0 : 0 ≤ k) (hk1 : k ≤ 65535) (hkn : k % ((L : Int) + 1) = (n : Int)) (hr : (L : Int) - (n : Int) = (r : Int)) (hr0 : 0 < r) (ht : (s.size : Int) < (r : Int)) :
    Calls Yba.prog 3 #[.slice (some ⟨blk, off, none⟩) L cap, .int .u16 k, .string s] w fun e w' => e = .returned (.bool true) ∧ Below w.heap.size w w' := by
  obtain ⟨i0, hi, hz0, hz1, hz2⟩ := info_parts info5
  have HX : Hid (xs.length = L) := hxs
  have HC : Hid (∀ j, j < L → w.cell? ⟨blk, off + j, none⟩ = some (.int .u8 (xs.getD j 0))) := hc
  have hd : decide ((4096 : Int) < (L : Int)) = false := by simpa using hL
  clear hxs hc
  go_enter Yba.func3, Yba.ntmps3
  go_wp2_with (first
    | (at_make; refine wpList_make_full _ rfl _ _ 22 rfl w.heap.size 5 i0 (.int .u8 0) 1 Yba.underlying22 hi hz0 hz1 .i64 .i64 _ _ L rfl rfl rfl rfl (by rw [hz2]; omega) (by unfold maxLen; omega) (Nat.le_refl _) ?_; intro w1 hown hg; have HM : Hid (w1.heap[w.heap.size]? = some (.cells (List.replicate L (Value.int .u8 0)).toArray 5 (0, 0))) := row_of_made hown; have hB1 : Below w.heap.size w w1 := (Below.refl _ w).grown hg (Nat.le_refl _) (by simp); clear hown hg)
    | (refine wpList_copy_splice rfl (.tmp 25) (.tmp 26) 22 22 rfl 5 Yba.underlying22 size5 (some ⟨w.heap.size, 0, none⟩) (some ⟨blk, off, none⟩) L L L cap rfl rfl w.heap.size 0 (List.replicate L (Value.int .u8 0)) 5 HM.out (xs.map (Value.int .u8)) (by simpa using HX.out) (fun _ => ⟨rfl, _, rfl, src_of hB1 hb HX.out HC.out⟩) (by simp [HX.out]) (ints_oneCell _ _) w.heap.size w hB1 (Nat.le_refl _) ?_; intro w2 hg2 hB2; rw [splice_zero xs L HX.out] at hg2; have HW : Hid (Lw w2.heap.size w.heap.size ⟨#[111, 108, 100]⟩ (xs.map (Value.int .u8)) (w2.alloc (.cells #[.pointer none, .string ⟨#[111, 108, 100]⟩] 27))) := Lw.new hg2.out; have hlt2 : w.heap.size < w2.heap.size := lt_of_row hg2.out; clear HM hB1))
  refine (emit_in w2.heap.size w.heap.size L n r s.size s _ _ _ HW.out hlt2 (by simpa using HX.out) (by omega) (by omega) hr0 (by omega) (Nat.min_eq_left (by omega)).symm).mono ?_
  rintro e w3 ⟨rfl, hLw, hB3⟩
  have hBw : Below w.heap.size w w3 := (hB2.alloc (Nat.le_of_lt hlt2) _).trans hB3
  have q0 := hLw.rd
  have q1 := hLw.str
  clear HW hg2 hB2 hB3
  go_wp2_with fail
  go_quiet (fail)
  go_wp2
  have HLw : Hid (Lw w2.heap.size w.heap.size (s.extract s.size s.size) (splice (xs.map (Value.int .u8)) n (byteCells (s.data.toList.take s.size))) w3) := hLw
  clear hLw q0 q1
  go_loopw [12] (fun i wq => ∃ j : Nat, j ≤ L ∧ i = .int .i64 j ∧ ∃ q, wq = w3.drewN q) (fun i _ => L - (intOf i).toNat)
  case atStart => exact ⟨0, Nat.zero_le _, rfl, _, rfl⟩
  case round =>
    obtain ⟨j, hj, rfl, q, rfl⟩ := hrel
    by_cases hjl : j < L
    · have p1 := (hBw.cell (p := ⟨blk, off + j, none⟩) hb).trans (HC.out j hjl)
      have p2 := qCell HLw.out HX.out (by omega) (Nat.le_refl _) hjl
      have hjI : (j : Int) < (L : Int) := by omega
      by_cases hin : n ≤ j ∧ j < n + s.size
      · rw [if_pos hin] at p2
        obtain ⟨hn1, hn2⟩ := hin
        obtain ⟨m, rfl⟩ : ∃ m, j = n + m := ⟨j - n, by omega⟩
        have hm : m < s.size := by omega
        rw [byte_at s (n + m - n) m (by omega) hm] at p2
        go_wp2
        go_roundw
        case rel => exact ⟨n + m + 1, by omega, by go_num, _, rfl⟩
        case measure => simp [intOf]; omega
      · rw [if_neg hin] at p2
        by_cases hlo : n ≤ j
        · have hloI : (n : Int) ≤ (j : Int) := by omega
          have hhiI : ¬ (j : Int) < (n : Int) + (s.size : Int) := by omega
          clear hin
          go_wp2
          go_roundw
          case rel => exact ⟨j + 1, by omega, by go_num, _, rfl⟩
          case measure => simp [intOf]; omega
        · have hloI : ¬ (n : Int) ≤ (j : Int) := by omega
          clear hin
          go_wp2
          go_roundw
          case rel => exact ⟨j + 1, by omega, by go_num, _, rfl⟩
          case measure => simp [intOf]; omega
    · go_wp2
      go_ret
      exact ⟨rfl, below_drewN hBw _⟩
end Go.Proofs.Ybulkdesi
