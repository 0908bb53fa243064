import Derived.Test.YbulkdeqeFmtFacts
import Derived.Laws.BitsLemmas
import Derived.OwnWalk
import Derived.Below
import Derived.BigQuiet
import Derived.Deep.QuietTactic
namespace Go.Proofs.YbulkdeqeFmt
open Go.RowKit Go.Extern.Stop Go.Stop Go.Extern
attribute [local go_sem] call6 guardF fmt0 fmt0r op5_100w op5_100 ptr33 elem33 isError33 ptr32 elem32 isError32

set_option maxHeartbeats 400000 in
theorem decode_low (F : Interp) (b : Int) (g n cap : Nat) (w : World) (hF : F.answers w.tape) (h0 : 0 ≤ b) (h1 : b < 256) (hn : 0 < n) (hlo : b % 16 < 5)
    (hc : w.cell? ⟨g, 0, none⟩ = some (.int .u8 b)) :
    Calls Ybaf.prog 4 #[.slice (some ⟨g, 0, none⟩) n cap] w fun e w' => (∃ p, e = .returned (.tuple #[.int .u8 0, .iface 33 (.pointer (some p))])) ∧ Below w.heap.size w w' := by
  have hF' := answers_open hF
  have hb := u8_and15 b h0 h1
  have hn' : (0 : Int) < (n : Int) := by omega
  go_enter Ybaf.func4, Ybaf.ntmps4
  go_wp2
  go_ret2
  exact ⟨⟨_, rfl⟩, (((Below.refl _ w).alloc (Nat.le_refl _) _).alloc (by simp) _).drew⟩

set_option maxHeartbeats 400000 in
theorem decode_high (b : Int) (g n cap : Nat) (w : World) (h0 : 0 ≤ b) (h1 : b < 256) (hn : 0 < n) (hlo : ¬ b % 16 < 5)
    (hc : w.cell? ⟨g, 0, none⟩ = some (.int .u8 b)) :
    Calls Ybaf.prog 4 #[.slice (some ⟨g, 0, none⟩) n cap] w fun e w' => e = .returned (.tuple #[.int .u8 (b % 16), .nilIface]) ∧ Below w.heap.size w w' := by
  have hb := u8_and15 b h0 h1
  have hn' : (0 : Int) < (n : Int) := by omega
  go_enter Ybaf.func4, Ybaf.ntmps4
  go_wp2
  go_ret2
  exact ⟨rfl, Below.refl _ _⟩

theorem info5 : (Ybaf.prog.info? 5).map (fun i => (i.zero, i.size, i.bytes)) = some (some (.int .u8 0), 1, 1) := by kernel_rfl

/-- WHAT THE WALK IS TOLD OF A SLICE OF INTEGERS THAT CAME IN: it is nil; or it leads to a row of 'cap' cells, the numbers 'zs' (the first 'len' are its elements, the rest its spare room), each fitting its kind. -/
def IsRow (k : IntKind) (w : World) (a : Option Addr) (len cap : Nat) (zs : List Int) : Prop :=
  (a = none ∧ len = 0 ∧ cap = 0 ∧ zs = []) ∨
  ∃ x, a = some x ∧ len ≤ cap ∧ cap ≤ maxLen ∧ zs.length = cap ∧ (∀ i, i < zs.length → w.cell? (x.add i) = some (.int k (zs.getD i 0))) ∧ ∀ n ∈ zs, (Lit.int k n).wf = true


theorem getD_map_int (k : IntKind) (xs : List Int) (j : Nat) (h : j < xs.length) : (xs.map (Value.int k))[j]? = some (.int k (xs.getD j 0)) := by
  simp [List.getElem?_map, List.getElem?_eq_getElem h, List.getD]

theorem below2 {w w1 w2 : World} {o : Obj} (hg1 : w.grownBy w1 none) (hg2 : (w1.alloc o).grownBy w2 (some w.heap.size)) : Below w.heap.size w w2 := by
  have b1 : Below w.heap.size w w1 := (Below.refl _ w).grown hg1 (Nat.le_refl _) (by simp)
  have b2 := b1.alloc b1.size o
  exact b2.grown hg2 b2.size (by simp)

theorem src_cells {w w2 : World} {blk off len : Nat} {xs : List Int} (hB : Below w.heap.size w w2) (hb : blk < w.heap.size) (hxs : xs.length = len)
    (hc : ∀ j, j < len → w.cell? ⟨blk, off + j, none⟩ = some (.int .u8 (xs.getD j 0))) :
    ∀ j u, (xs.map (Value.int .u8))[j]? = some u → w2.cell? ((⟨blk, off, none⟩ : Addr).add j) = some u := by
  intro j u hj
  have hjl : j < xs.length := by
    have := (List.getElem?_eq_some_iff.1 hj).1
    simpa using this
  rw [getD_map_int .u8 xs j hjl] at hj
  have : w2.cell? ⟨blk, off + j, none⟩ = some u := by
    rw [hB.cell (p := ⟨blk, off + j, none⟩) hb, hc j (by omega)]
    exact hj
  rcases Nat.eq_zero_or_pos j with rfl | hj0
  · simpa [Addr.add] using this
  · have hne : ¬ j = 0 := by omega
    simpa [Addr.add, hne] using this

/-- what the loop is told: v holds b and then the numbers; the argument lies as it lay. -/
structure Held (w wr : World) (b : Int) (blk off len : Nat) (xs : List Int) : Prop where
  head : wr.cell? ⟨w.heap.size, 0, none⟩ = some (.int .u8 b)
  tail : ∀ j, j < len → wr.cell? ⟨w.heap.size, 1 + j, none⟩ = some (.int .u8 (xs.getD j 0))
  src : ∀ j, j < len → wr.cell? ⟨blk, off + j, none⟩ = some (.int .u8 (xs.getD j 0))
  below : Below w.heap.size w wr

theorem Held.mk3 {w w2 w3 : World} {b : Int} {blk off len cap : Nat} {xs : List Int} (hB : Below w.heap.size w w2) (hg : w2.grownBy w3 (some w.heap.size)) (hb : 0 < len → blk < w.heap.size) (hxs : xs.length = len)
    (hc : ∀ j, j < len → w.cell? ⟨blk, off + j, none⟩ = some (.int .u8 (xs.getD j 0)))
    (hown : w3.ownsRow w.heap.size 5 1 (.slice (some ⟨w.heap.size, 0, none⟩) (1 + len) cap) (1 + len) ([.int .u8 b] ++ xs.map (Value.int .u8))) : Held w w3 b blk off len xs := by
  have hB3 : Below w.heap.size w w3 := hB.grown hg hB.size (by simp)
  refine ⟨?_, ?_, ?_, hB3⟩
  · rw [hown.cellAt 0 (by omega)]; rfl
  · intro j hj
    rw [hown.cellAt (1 + j) (by omega)]
    have := getD_map_int .u8 xs j (by omega)
    rw [List.getElem?_append_right (by simp)]
    simpa using this
  · intro j hj
    rw [hB3.cell (p := ⟨blk, off + j, none⟩) (hb (by omega)), hc j hj]

theorem Held.later {w w3 w4 : World} {b : Int} {blk off len : Nat} {xs : List Int} (h : Held w w3 b blk off len xs) (hb : 0 < len → blk < w.heap.size) (hs : w.heap.size < w3.heap.size) (h4 : Below w3.heap.size w3 w4) : Held w w4 b blk off len xs := by
  refine ⟨?_, ?_, ?_, h.below.trans (h4.mono h.below.size)⟩
  · rw [h4.cell (p := ⟨w.heap.size, 0, none⟩) hs]; exact h.head
  · intro j hj; rw [h4.cell (p := ⟨w.heap.size, 1 + j, none⟩) hs]; exact h.tail j hj
  · intro j hj; rw [h4.cell (p := ⟨blk, off + j, none⟩) (by have := h.below.size; have := hb (by omega); show blk < _; omega)]; exact h.src j hj

theorem Held.drewN {w wr : World} {b : Int} {blk off len : Nat} {xs : List Int} (h : Held w wr b blk off len xs) (n : Nat) : Held w (wr.drewN n) b blk off len xs :=
  ⟨h.head, h.tail, h.src, ⟨h.below.os, h.below.tape, h.below.output, h.below.size, h.below.block⟩⟩

theorem size_of_owns {w3 : World} {base n cap : Nat} {xs : List Value} (hown : w3.ownsRow base 5 1 (.slice (some ⟨base, 0, none⟩) n cap) n xs) : base < w3.heap.size := by
  rcases hown.2 with ⟨h, _⟩ | ⟨g, c, cur, h, _, hg, _⟩
  · simp at h
  · simp only [Value.slice.injEq, Option.some.injEq, Addr.mk.injEq, and_true] at h
    obtain ⟨rfl, _⟩ := h
    rcases Nat.lt_or_ge base w3.heap.size with h | h
    · exact h
    · simp [Array.getElem?_eq_none h] at hg

theorem ret_bool {x y : Bool} (h : x = y) : Ending.returned (.bool x) = .returned (.bool y) := by rw [h]

set_option maxHeartbeats 1000000 in
theorem law_low (F : Interp) (b : Int) (blk off len cap : Nat) (xs : List Int) (w : World) (hF : F.answers w.tape) (h0 : 0 ≤ b) (h1 : b < 256) (hxs : xs.length = len)
    (hb : blk < w.heap.size) (hc : ∀ j, j < len → w.cell? ⟨blk, off + j, none⟩ = some (.int .u8 (xs.getD j 0))) (hlen : len ≤ 1024) (hlo : b % 16 < 5) :
    Calls Ybaf.prog 3 #[.int .u8 b, .slice (some ⟨blk, off, none⟩) len cap] w fun e w' => e = .returned (.bool true) ∧ Below w.heap.size w w' := by
  obtain ⟨i0, hi, hz0, hz1, hz2⟩ := info_parts info5
  have HX : Hid (xs.length = len) := hxs
  have HC : Hid (∀ j, j < len → w.cell? ⟨blk, off + j, none⟩ = some (.int .u8 (xs.getD j 0))) := hc
  clear hxs hc
  go_enter Ybaf.func3, Ybaf.ntmps3
  go_wp2_with (first
    | (at_make; refine wpList_make_own _ rfl _ _ 22 rfl w.heap.size 5 i0 (.int .u8 0) 1 Ybaf.underlying22 hi hz0 hz1 .i64 .i64 _ (1 + len) rfl rfl (by omega) (by rw [hz2]; omega) (by unfold maxLen; omega) (Nat.le_refl _) ?_; intro w1 hown1 hg1)
    | (at_builtin; refine wpList_append_fits _ rfl (.tmp 17) (.tmp 19) 22 rfl w.heap.size 5 i0 1 Ybaf.underlying22 hi hz1 w.heap.size 0 (1 + len) [] rfl (hown1.alloc _) ⟨w1.heap.size, 0, none⟩ 1 1 [.int .u8 b] rfl rfl (cell_one_new _ _ _) (by simp [Value.oneCell']) (by omega) ?_; intro w2 hown2 hg2; simp only [Nat.zero_add, List.nil_append] at hown2; have hB2 := below2 hg1 hg2)
    | (at_builtin; refine wpList_append_fits _ rfl (.tmp 21) (.tmp 22) 22 rfl w.heap.size 5 i0 1 Ybaf.underlying22 hi hz1 w.heap.size 1 (1 + len) [.int .u8 b] rfl hown2 ⟨blk, off, none⟩ len cap (xs.map (Value.int .u8)) rfl (by simpa using HX.out) (src_cells hB2 hb HX.out HC.out) (ints_oneCell _ _) (by omega) ?_; intro w3 hown3 hg3; have hH3 := Held.mk3 hB2 hg3 (fun _ => hb) HX.out HC.out hown3; have hs3 := size_of_owns hown3; clear hown1 hg1 hown2 hg2 hown3 hg3 hB2)
    | (go_at_call 4; refine (decode_low F b w.heap.size (1 + len) (1 + len) w3 (by rw [hH3.below.tape]; exact hF) h0 h1 (by omega) hlo hH3.head).mono ?_; rintro e w4 ⟨⟨p, rfl⟩, hb4⟩; have hH4 := hH3.later (fun _ => hb) hs3 hb4; have hd4 := hH4.head; clear hb4 hH3 hs3)
    | fail)
  clear hd4
  go_loopw [8] (fun i wr => ∃ k : Nat, k ≤ len ∧ i = .int .i64 k ∧ Held w wr b blk off len xs) (fun i _ => len - (intOf i).toNat)
  case atStart => exact ⟨0, Nat.zero_le _, rfl, hH4⟩
  case round =>
    obtain ⟨k, hk, rfl, hH⟩ := hrel
    by_cases hlt : k < len
    · have g1 := hH.tail k hlt
      have g2 := hH.src k hlt
      have hltI : (k : Int) < (len : Int) := by omega
      go_wp2_with fail
      go_quiet (fail)
      go_wp2
      go_roundw
      case rel => exact ⟨k + 1, by omega, by go_num, hH.drewN _⟩
      case measure => simp [intOf]; omega
    · go_wp2
      go_ret
      exact ⟨rfl, hH.below⟩

set_option maxHeartbeats 1000000 in
theorem law_high (b : Int) (blk off len cap : Nat) (xs : List Int) (w : World) (h0 : 0 ≤ b) (h1 : b < 256) (hxs : xs.length = len)
    (hb : blk < w.heap.size) (hc : ∀ j, j < len → w.cell? ⟨blk, off + j, none⟩ = some (.int .u8 (xs.getD j 0))) (hlen : len ≤ 1024) (hlo : ¬ b % 16 < 5) :
    Calls Ybaf.prog 3 #[.int .u8 b, .slice (some ⟨blk, off, none⟩) len cap] w fun e w' => e = .returned (.bool true) ∧ Below w.heap.size w w' := by
  obtain ⟨i0, hi, hz0, hz1, hz2⟩ := info_parts info5
  have HX : Hid (xs.length = len) := hxs
  have HC : Hid (∀ j, j < len → w.cell? ⟨blk, off + j, none⟩ = some (.int .u8 (xs.getD j 0))) := hc
  clear hxs hc
  go_enter Ybaf.func3, Ybaf.ntmps3
  go_wp2_with (first
    | (at_make; refine wpList_make_own _ rfl _ _ 22 rfl w.heap.size 5 i0 (.int .u8 0) 1 Ybaf.underlying22 hi hz0 hz1 .i64 .i64 _ (1 + len) rfl rfl (by omega) (by rw [hz2]; omega) (by unfold maxLen; omega) (Nat.le_refl _) ?_; intro w1 hown1 hg1)
    | (at_builtin; refine wpList_append_fits _ rfl (.tmp 17) (.tmp 19) 22 rfl w.heap.size 5 i0 1 Ybaf.underlying22 hi hz1 w.heap.size 0 (1 + len) [] rfl (hown1.alloc _) ⟨w1.heap.size, 0, none⟩ 1 1 [.int .u8 b] rfl rfl (cell_one_new _ _ _) (by simp [Value.oneCell']) (by omega) ?_; intro w2 hown2 hg2; simp only [Nat.zero_add, List.nil_append] at hown2; have hB2 := below2 hg1 hg2)
    | (at_builtin; refine wpList_append_fits _ rfl (.tmp 21) (.tmp 22) 22 rfl w.heap.size 5 i0 1 Ybaf.underlying22 hi hz1 w.heap.size 1 (1 + len) [.int .u8 b] rfl hown2 ⟨blk, off, none⟩ len cap (xs.map (Value.int .u8)) rfl (by simpa using HX.out) (src_cells hB2 hb HX.out HC.out) (ints_oneCell _ _) (by omega) ?_; intro w3 hown3 hg3; have hH3 := Held.mk3 hB2 hg3 (fun _ => hb) HX.out HC.out hown3; have hs3 := size_of_owns hown3; clear hown1 hg1 hown2 hg2 hown3 hg3 hB2)
    | (go_at_call 4; refine (decode_high b w.heap.size (1 + len) (1 + len) w3 h0 h1 (by omega) hlo hH3.head).mono ?_; rintro e w4 ⟨rfl, hb4⟩; have hH4 := hH3.later (fun _ => hb) hs3 hb4; have hd4 := hH4.head; clear hb4 hH3 hs3)
    | fail)
  clear hd4
  go_loopw [8] (fun i wr => ∃ k : Nat, k ≤ len ∧ i = .int .i64 k ∧ Held w wr b blk off len xs) (fun i _ => len - (intOf i).toNat)
  case atStart => exact ⟨0, Nat.zero_le _, rfl, hH4⟩
  case round =>
    obtain ⟨k, hk, rfl, hH⟩ := hrel
    by_cases hlt : k < len
    · have g1 := hH.tail k hlt
      have g2 := hH.src k hlt
      have hltI : (k : Int) < (len : Int) := by omega
      go_wp2_with fail
      go_quiet (fail)
      go_wp2
      go_roundw
      case rel => exact ⟨k + 1, by omega, by go_num, hH.drewN _⟩
      case measure => simp [intOf]; omega
    · go_wp2
      go_ret
      exact ⟨ret_bool (by simp; omega), hH.below⟩

set_option maxHeartbeats 1000000 in
theorem zero_low (F : Interp) (b : Int) (a0 : Option Addr) (cap : Nat) (w : World) (hF : F.answers w.tape) (h0 : 0 ≤ b) (h1 : b < 256) (hnone : a0 = none → (0 : Nat) = 0 ∧ cap = 0) (hlo : b % 16 < 5) :
    Calls Ybaf.prog 3 #[.int .u8 b, .slice a0 0 cap] w fun e w' => e = .returned (.bool true) ∧ Below w.heap.size w w' := by
  obtain ⟨i0, hi, hz0, hz1, hz2⟩ := info_parts info5
  have HN : Hid (a0 = none → (0 : Nat) = 0 ∧ cap = 0) := hnone
  clear hnone
  go_enter Ybaf.func3, Ybaf.ntmps3
  go_wp2_with (first
    | (at_make; refine wpList_make_own _ rfl _ _ 22 rfl w.heap.size 5 i0 (.int .u8 0) 1 Ybaf.underlying22 hi hz0 hz1 .i64 .i64 _ 1 rfl rfl (by omega) (by rw [hz2]; omega) (by unfold maxLen; omega) (Nat.le_refl _) ?_; intro w1 hown1 hg1)
    | (at_builtin; refine wpList_append_fits _ rfl (.tmp 17) (.tmp 19) 22 rfl w.heap.size 5 i0 1 Ybaf.underlying22 hi hz1 w.heap.size 0 1 [] rfl (hown1.alloc _) ⟨w1.heap.size, 0, none⟩ 1 1 [.int .u8 b] rfl rfl (cell_one_new _ _ _) (by simp [Value.oneCell']) (by omega) ?_; intro w2 hown2 hg2; simp only [Nat.zero_add, List.nil_append] at hown2; have hB2 := below2 hg1 hg2)
    | (at_builtin; refine wpList_append_fits_any _ rfl (.tmp 21) (.tmp 22) 22 rfl w.heap.size 5 i0 1 Ybaf.underlying22 hi hz1 w.heap.size 1 1 [.int .u8 b] rfl hown2 a0 0 cap [] rfl rfl HN.out (by simp) (by simp) (by omega) ?_; intro w3 hown3 hg3; have hH3 := Held.mk3 (blk := 0) (off := 0) (len := 0) (xs := []) hB2 hg3 (by omega) rfl (by omega) hown3; have hs3 := size_of_owns hown3; clear hown1 hg1 hown2 hg2 hown3 hg3 hB2)
    | (go_at_call 4; refine (decode_low F b w.heap.size 1 1 w3 (by rw [hH3.below.tape]; exact hF) h0 h1 (by omega) hlo hH3.head).mono ?_; rintro e w4 ⟨⟨p, rfl⟩, hb4⟩; have hH4 := hH3.later (by omega) hs3 hb4; have hd4 := hH4.head; clear hb4 hH3 hs3)
    | fail)
  clear hd4
  refine wp_loop_rounds 1 ?_
  rw [rounds_succ]
  go_wp2
  go_ret
  exact ⟨rfl, hH4.below⟩

set_option maxHeartbeats 1000000 in
theorem zero_high (b : Int) (a0 : Option Addr) (cap : Nat) (w : World) (h0 : 0 ≤ b) (h1 : b < 256) (hnone : a0 = none → (0 : Nat) = 0 ∧ cap = 0) (hlo : ¬ b % 16 < 5) :
    Calls Ybaf.prog 3 #[.int .u8 b, .slice a0 0 cap] w fun e w' => e = .returned (.bool true) ∧ Below w.heap.size w w' := by
  obtain ⟨i0, hi, hz0, hz1, hz2⟩ := info_parts info5
  have HN : Hid (a0 = none → (0 : Nat) = 0 ∧ cap = 0) := hnone
  clear hnone
  go_enter Ybaf.func3, Ybaf.ntmps3
  go_wp2_with (first
    | (at_make; refine wpList_make_own _ rfl _ _ 22 rfl w.heap.size 5 i0 (.int .u8 0) 1 Ybaf.underlying22 hi hz0 hz1 .i64 .i64 _ 1 rfl rfl (by omega) (by rw [hz2]; omega) (by unfold maxLen; omega) (Nat.le_refl _) ?_; intro w1 hown1 hg1)
    | (at_builtin; refine wpList_append_fits _ rfl (.tmp 17) (.tmp 19) 22 rfl w.heap.size 5 i0 1 Ybaf.underlying22 hi hz1 w.heap.size 0 1 [] rfl (hown1.alloc _) ⟨w1.heap.size, 0, none⟩ 1 1 [.int .u8 b] rfl rfl (cell_one_new _ _ _) (by simp [Value.oneCell']) (by omega) ?_; intro w2 hown2 hg2; simp only [Nat.zero_add, List.nil_append] at hown2; have hB2 := below2 hg1 hg2)
    | (at_builtin; refine wpList_append_fits_any _ rfl (.tmp 21) (.tmp 22) 22 rfl w.heap.size 5 i0 1 Ybaf.underlying22 hi hz1 w.heap.size 1 1 [.int .u8 b] rfl hown2 a0 0 cap [] rfl rfl HN.out (by simp) (by simp) (by omega) ?_; intro w3 hown3 hg3; have hH3 := Held.mk3 (blk := 0) (off := 0) (len := 0) (xs := []) hB2 hg3 (by omega) rfl (by omega) hown3; have hs3 := size_of_owns hown3; clear hown1 hg1 hown2 hg2 hown3 hg3 hB2)
    | (go_at_call 4; refine (decode_high b w.heap.size 1 1 w3 h0 h1 (by omega) hlo hH3.head).mono ?_; rintro e w4 ⟨rfl, hb4⟩; have hH4 := hH3.later (by omega) hs3 hb4; have hd4 := hH4.head; clear hb4 hH3 hs3)
    | fail)
  clear hd4
  refine wp_loop_rounds 1 ?_
  rw [rounds_succ]
  go_wp2
  go_ret
  exact ⟨ret_bool (by simp; omega), hH4.below⟩

theorem law_big (b : Int) (a0 : Option Addr) (len cap : Nat) (w : World) (hlen : (1024 : Int) < (len : Int)) :
    Calls Ybaf.prog 3 #[.int .u8 b, .slice a0 len cap] w fun e w' => e = .returned (.bool true) ∧ Below w.heap.size w w' := by
  go_enter Ybaf.func3, Ybaf.ntmps3
  go_wp2
  go_ret
  exact ⟨rfl, Below.refl _ _⟩

end Go.Proofs.YbulkdeqeFmt
