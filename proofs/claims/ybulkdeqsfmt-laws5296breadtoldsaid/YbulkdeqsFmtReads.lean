import Derived.Test.YbulkdeqsFmtRead
namespace Go.Proofs.YbulkdeqsFmt
open Go.RowKit
set_option linter.unusedVariables false

set_option maxHeartbeats 1000000 in
theorem read_2 (w1 : World) (R bb db doff dlen dcap ch : Nat) (fv : Value) (xs : List Int) (L k n r : Nat) (w : World) (h : St w1 R bb (some ⟨db, doff, none⟩) dlen dcap ch fv xs L k w) (hRb : R < bb) (hRs : R < w.heap.size)
    (hdb : db < R) (hx : xs.length = dlen) (hdc : dlen ≤ dcap) (hd1 : dlen ≤ 1024) (hL : L ≤ 255) (hc1 : ch ≤ 8) (hch0 : 0 < ch)
    (hc : ∀ j, j < dlen → w1.cell? ⟨db, doff + j, none⟩ = some (.int .u8 (xs.getD j 0)))
    (hn : (dlen : Int) - (k : Int) = (n : Int)) (hn0 : 0 < n) (hr : k + r = L) (hr0 : 0 < r) (t1 : ¬ (ch : Int) < (n : Int)) (t2 : (r : Int) < (n : Int)) :
    Calls Ybaf.prog 28 #[.pointer (some ⟨R, 0, none⟩), .slice (some ⟨bb, k, none⟩) r r] w fun e w' => e = .returned (.tuple #[.int .i64 r, .nilIface]) ∧ St w1 R bb (some ⟨db, doff, none⟩) dlen dcap ch fv xs L (k + r) w' := by
  have c0 := h.d
  have c1 := h.pos
  have c2 := h.chunk
  have cf := h.fz
  have hlt : ¬ (dlen : Int) ≤ (k : Int) := by omega
  have HS : Hid (k + r ≤ L ∧ k + r ≤ xs.length ∧ (((xs.drop k).take r).map (Value.int .u8)).length = r) := ⟨by omega, by omega, by simp; omega⟩
  have HW : Hid (w.heap[bb]? = some (.cells ((mix xs L k).map (Value.int .u8)).toArray 5 (0, 0))) := h.row
  have HL : Hid (((mix xs L k).map (Value.int .u8)).length = L) := by rw [List.length_map]; exact mix_length xs L k (by omega) (by omega)
  have HC := src_of (k := k) (m := r) h.below hdb hx (by omega) hc
  have hrl : k + r ≤ L := by omega
  clear hr
  go_enter Ybaf.func28, Ybaf.ntmps28
  go_wp2_with fail
  go_quiet (fail)
  go_wp2_with fail
  go_quiet (fail)
  go_wp2_with fail
  have HCh : Hid (∀ j v, (((xs.drop k).take r).map (Value.int .u8))[j]? = some v → w.cell? ((⟨db, doff + k, none⟩ : Addr).add j) = some v) := HC
  clear HC hc
  have hw1 : IntKind.i64.wrap ((k : Int) + (r : Int)) = (k : Int) + (r : Int) := wrap_small _ (by omega) (by omega)
  have hw2 : ((k : Int) + (r : Int)).toNat = k + r := by omega
  have hw3 : (k : Int) + (r : Int) ≤ (dcap : Int) := by omega
  have hw4 : ¬ dcap = k := by omega
  have hw5 : 0 ≤ (k : Int) + (r : Int) := by omega
  go_region_law (refine step_copy_splice rfl (.tmp 49) (.tmp 64) 22 22 rfl 5 Ybaf.underlying22 size5 (some ⟨bb, k, none⟩) (some ⟨db, doff + k, none⟩) r r r (dcap - k) (by simp [Act.eval, Act.put]) (by simp [Act.eval, Act.put]) bb k ((mix xs L k).map (Value.int .u8)) 5 HW.out (((xs.drop k).take r).map (Value.int .u8)) (by rw [HS.out.2.2]; simp) (fun _ => ⟨rfl, _, rfl, HCh.out⟩) (by rw [HS.out.2.2, HL.out]; exact HS.out.1) (ints_oneCell _ _) bb w (below_drewN (Below.refl bb w) _) (Nat.le_refl _) ?_; intro w2 hg2 hb2; have d1 := (hb2.cell (p := ⟨R, 1, none⟩) hRb).trans c1; have df := (hb2.frozen (p := ⟨R, 1, none⟩) hRb).trans cf; have HM := h.moved hRb hRs hg2.out hb2 HS.out.1 HS.out.2.1; clear hb2 hg2)
  all_goals clear c0 c1 c2 cf HW HL HCh
  all_goals go_wp2
  all_goals go_ret2
  all_goals exact ⟨rfl, HM⟩

set_option maxHeartbeats 1000000 in
theorem read_3 (w1 : World) (R bb db doff dlen dcap ch : Nat) (fv : Value) (xs : List Int) (L k n r : Nat) (w : World) (h : St w1 R bb (some ⟨db, doff, none⟩) dlen dcap ch fv xs L k w) (hRb : R < bb) (hRs : R < w.heap.size)
    (hdb : db < R) (hx : xs.length = dlen) (hdc : dlen ≤ dcap) (hd1 : dlen ≤ 1024) (hL : L ≤ 255) (hc1 : ch ≤ 8) (hch0 : 0 < ch)
    (hc : ∀ j, j < dlen → w1.cell? ⟨db, doff + j, none⟩ = some (.int .u8 (xs.getD j 0)))
    (hn : (dlen : Int) - (k : Int) = (n : Int)) (hn0 : 0 < n) (hr : k + r = L) (hr0 : 0 < r) (t1 : (ch : Int) < (n : Int)) (t2 : ¬ (r : Int) < (ch : Int)) :
    Calls Ybaf.prog 28 #[.pointer (some ⟨R, 0, none⟩), .slice (some ⟨bb, k, none⟩) r r] w fun e w' => e = .returned (.tuple #[.int .i64 ch, .nilIface]) ∧ St w1 R bb (some ⟨db, doff, none⟩) dlen dcap ch fv xs L (k + ch) w' := by
  have c0 := h.d
  have c1 := h.pos
  have c2 := h.chunk
  have cf := h.fz
  have hlt : ¬ (dlen : Int) ≤ (k : Int) := by omega
  have HS : Hid (k + ch ≤ L ∧ k + ch ≤ xs.length ∧ (((xs.drop k).take ch).map (Value.int .u8)).length = ch) := ⟨by omega, by omega, by simp; omega⟩
  have HW : Hid (w.heap[bb]? = some (.cells ((mix xs L k).map (Value.int .u8)).toArray 5 (0, 0))) := h.row
  have HL : Hid (((mix xs L k).map (Value.int .u8)).length = L) := by rw [List.length_map]; exact mix_length xs L k (by omega) (by omega)
  have HC := src_of (k := k) (m := ch) h.below hdb hx (by omega) hc
  have hrl : k + r ≤ L := by omega
  clear hr
  go_enter Ybaf.func28, Ybaf.ntmps28
  go_wp2_with fail
  go_quiet (fail)
  go_wp2_with fail
  go_quiet (fail)
  go_wp2_with fail
  have HCh : Hid (∀ j v, (((xs.drop k).take ch).map (Value.int .u8))[j]? = some v → w.cell? ((⟨db, doff + k, none⟩ : Addr).add j) = some v) := HC
  clear HC hc
  have hw1 : IntKind.i64.wrap ((k : Int) + (ch : Int)) = (k : Int) + (ch : Int) := wrap_small _ (by omega) (by omega)
  have hw2 : ((k : Int) + (ch : Int)).toNat = k + ch := by omega
  have hw3 : (k : Int) + (ch : Int) ≤ (dcap : Int) := by omega
  have hw4 : ¬ dcap = k := by omega
  have hw5 : 0 ≤ (k : Int) + (ch : Int) := by omega
  go_region_law (refine step_copy_splice rfl (.tmp 49) (.tmp 64) 22 22 rfl 5 Ybaf.underlying22 size5 (some ⟨bb, k, none⟩) (some ⟨db, doff + k, none⟩) ch r ch (dcap - k) (by simp [Act.eval, Act.put]) (by simp [Act.eval, Act.put]) bb k ((mix xs L k).map (Value.int .u8)) 5 HW.out (((xs.drop k).take ch).map (Value.int .u8)) (by rw [HS.out.2.2]; simp) (fun _ => ⟨rfl, _, rfl, HCh.out⟩) (by rw [HS.out.2.2, HL.out]; exact HS.out.1) (ints_oneCell _ _) bb w (below_drewN (Below.refl bb w) _) (Nat.le_refl _) ?_; intro w2 hg2 hb2; have d1 := (hb2.cell (p := ⟨R, 1, none⟩) hRb).trans c1; have df := (hb2.frozen (p := ⟨R, 1, none⟩) hRb).trans cf; have HM := h.moved hRb hRs hg2.out hb2 HS.out.1 HS.out.2.1; clear hb2 hg2)
  all_goals clear c0 c1 c2 cf HW HL HCh
  all_goals go_wp2
  all_goals go_ret2
  all_goals exact ⟨rfl, HM⟩

set_option maxHeartbeats 1000000 in
theorem read_4 (w1 : World) (R bb db doff dlen dcap ch : Nat) (fv : Value) (xs : List Int) (L k n r : Nat) (w : World) (h : St w1 R bb (some ⟨db, doff, none⟩) dlen dcap ch fv xs L k w) (hRb : R < bb) (hRs : R < w.heap.size)
    (hdb : db < R) (hx : xs.length = dlen) (hdc : dlen ≤ dcap) (hd1 : dlen ≤ 1024) (hL : L ≤ 255) (hc1 : ch ≤ 8) (hch0 : 0 < ch)
    (hc : ∀ j, j < dlen → w1.cell? ⟨db, doff + j, none⟩ = some (.int .u8 (xs.getD j 0)))
    (hn : (dlen : Int) - (k : Int) = (n : Int)) (hn0 : 0 < n) (hr : k + r = L) (hr0 : 0 < r) (t1 : (ch : Int) < (n : Int)) (t2 : (r : Int) < (ch : Int)) :
    Calls Ybaf.prog 28 #[.pointer (some ⟨R, 0, none⟩), .slice (some ⟨bb, k, none⟩) r r] w fun e w' => e = .returned (.tuple #[.int .i64 r, .nilIface]) ∧ St w1 R bb (some ⟨db, doff, none⟩) dlen dcap ch fv xs L (k + r) w' := by
  have c0 := h.d
  have c1 := h.pos
  have c2 := h.chunk
  have cf := h.fz
  have hlt : ¬ (dlen : Int) ≤ (k : Int) := by omega
  have HS : Hid (k + r ≤ L ∧ k + r ≤ xs.length ∧ (((xs.drop k).take r).map (Value.int .u8)).length = r) := ⟨by omega, by omega, by simp; omega⟩
  have HW : Hid (w.heap[bb]? = some (.cells ((mix xs L k).map (Value.int .u8)).toArray 5 (0, 0))) := h.row
  have HL : Hid (((mix xs L k).map (Value.int .u8)).length = L) := by rw [List.length_map]; exact mix_length xs L k (by omega) (by omega)
  have HC := src_of (k := k) (m := r) h.below hdb hx (by omega) hc
  have hrl : k + r ≤ L := by omega
  clear hr
  go_enter Ybaf.func28, Ybaf.ntmps28
  go_wp2_with fail
  go_quiet (fail)
  go_wp2_with fail
  go_quiet (fail)
  go_wp2_with fail
  have HCh : Hid (∀ j v, (((xs.drop k).take r).map (Value.int .u8))[j]? = some v → w.cell? ((⟨db, doff + k, none⟩ : Addr).add j) = some v) := HC
  clear HC hc
  have hw1 : IntKind.i64.wrap ((k : Int) + (r : Int)) = (k : Int) + (r : Int) := wrap_small _ (by omega) (by omega)
  have hw2 : ((k : Int) + (r : Int)).toNat = k + r := by omega
  have hw3 : (k : Int) + (r : Int) ≤ (dcap : Int) := by omega
  have hw4 : ¬ dcap = k := by omega
  have hw5 : 0 ≤ (k : Int) + (r : Int) := by omega
  go_region_law (refine step_copy_splice rfl (.tmp 49) (.tmp 64) 22 22 rfl 5 Ybaf.underlying22 size5 (some ⟨bb, k, none⟩) (some ⟨db, doff + k, none⟩) r r r (dcap - k) (by simp [Act.eval, Act.put]) (by simp [Act.eval, Act.put]) bb k ((mix xs L k).map (Value.int .u8)) 5 HW.out (((xs.drop k).take r).map (Value.int .u8)) (by rw [HS.out.2.2]; simp) (fun _ => ⟨rfl, _, rfl, HCh.out⟩) (by rw [HS.out.2.2, HL.out]; exact HS.out.1) (ints_oneCell _ _) bb w (below_drewN (Below.refl bb w) _) (Nat.le_refl _) ?_; intro w2 hg2 hb2; have d1 := (hb2.cell (p := ⟨R, 1, none⟩) hRb).trans c1; have df := (hb2.frozen (p := ⟨R, 1, none⟩) hRb).trans cf; have HM := h.moved hRb hRs hg2.out hb2 HS.out.1 HS.out.2.1; clear hb2 hg2)
  all_goals clear c0 c1 c2 cf HW HL HCh
  all_goals go_wp2
  all_goals go_ret2
  all_goals exact ⟨rfl, HM⟩

/-- Read, wherever the data has not yet gone over: some bytes, at least one. -/
theorem read_some (w1 : World) (R bb db doff dlen dcap ch : Nat) (fv : Value) (xs : List Int) (L k r : Nat) (w : World) (h : St w1 R bb (some ⟨db, doff, none⟩) dlen dcap ch fv xs L k w) (hRb : R < bb) (hRs : R < w.heap.size)
    (hdb : db < R) (hx : xs.length = dlen) (hdc : dlen ≤ dcap) (hd1 : dlen ≤ 1024) (hL : L ≤ 255) (hc1 : ch ≤ 8) (hch0 : 0 < ch)
    (hc : ∀ j, j < dlen → w1.cell? ⟨db, doff + j, none⟩ = some (.int .u8 (xs.getD j 0)))
    (hk : k < dlen) (hr : k + r = L) (hr0 : 0 < r) :
    Calls Ybaf.prog 28 #[.pointer (some ⟨R, 0, none⟩), .slice (some ⟨bb, k, none⟩) r r] w fun e w' => ∃ m : Nat, 1 ≤ m ∧ k + m ≤ L ∧ k + m ≤ dlen ∧ e = .returned (.tuple #[.int .i64 m, .nilIface]) ∧ St w1 R bb (some ⟨db, doff, none⟩) dlen dcap ch fv xs L (k + m) w' := by
  obtain ⟨n, hn⟩ : ∃ n, k + n = dlen := ⟨dlen - k, by omega⟩
  have hnI : (dlen : Int) - (k : Int) = (n : Int) := by omega
  by_cases t1 : (ch : Int) < (n : Int)
  · by_cases t2 : (r : Int) < (ch : Int)
    · exact (read_4 w1 R bb db doff dlen dcap ch fv xs L k n r w h hRb hRs hdb hx hdc hd1 hL hc1 hch0 hc hnI (by omega) hr hr0 t1 t2).mono fun e w' ⟨he, hs⟩ => ⟨r, hr0, by omega, by omega, he, hs⟩
    · exact (read_3 w1 R bb db doff dlen dcap ch fv xs L k n r w h hRb hRs hdb hx hdc hd1 hL hc1 hch0 hc hnI (by omega) hr hr0 t1 t2).mono fun e w' ⟨he, hs⟩ => ⟨ch, hch0, by omega, by omega, he, hs⟩
  · by_cases t2 : (r : Int) < (n : Int)
    · exact (read_2 w1 R bb db doff dlen dcap ch fv xs L k n r w h hRb hRs hdb hx hdc hd1 hL hc1 hch0 hc hnI (by omega) hr hr0 t1 t2).mono fun e w' ⟨he, hs⟩ => ⟨r, hr0, by omega, by omega, he, hs⟩
    · exact (read_1 w1 R bb db doff dlen dcap ch fv xs L k n r w h hRb hRs hdb hx hdc hd1 hL hc1 hch0 hc hnI (by omega) hr hr0 t1 t2).mono fun e w' ⟨he, hs⟩ => ⟨n, by omega, by omega, by omega, he, hs⟩

end Go.Proofs.YbulkdeqsFmt
