import Derived.Test.YbulkdeqsFmtCards
import Derived.WalkKit
import Derived.WalkSpells
import Derived.OwnWalk
import Derived.Below
import Derived.WalkSmall
import Derived.BigQuiet
import Derived.Deep.QuietTactic
import Derived.Deep.RegionLaw
import Derived.Laws.CopyOwn
namespace Go.Proofs.YbulkdeqsFmt
open Go.RowKit
set_option linter.unusedVariables false

theorem info5 : (Ybaf.prog.info? 5).map (fun i => (i.zero, i.size, i.bytes)) = some (some (.int .u8 0), 1, 1) := by kernel_rfl
theorem size5 : (Ybaf.prog.info? 5).map (·.size) = some 1 := by kernel_rfl

/-- what the buffer holds behind k bytes of the data: they, then the marks. -/
def mix (xs : List Int) (L k : Nat) : List Int := xs.take k ++ List.replicate (L - k) 165
theorem mix_length (xs : List Int) (L k : Nat) (hk : k ≤ L) (hx : k ≤ xs.length) : (mix xs L k).length = L := by
  simp [mix]; omega

theorem splice_mix (xs : List Int) (L k m : Nat) (hk : k + m ≤ L) (hx : k + m ≤ xs.length) :
    splice ((mix xs L k).map (Value.int .u8)) k (((xs.drop k).take m).map (Value.int .u8)) = (mix xs L (k + m)).map (Value.int .u8) := by
  have hl : ((xs.drop k).take m).length = m := by simp; omega
  have ht : (xs.take k).length = k := by simp; omega
  unfold splice
  rw [List.length_map, hl, ← List.map_take, ← List.map_drop, ← List.map_append, ← List.map_append]
  congr 1
  have e1 : (mix xs L k).take k = xs.take k := by
    rw [mix, List.take_append_of_le_length (by omega), List.take_of_length_le (by omega)]
  have e2 : (mix xs L k).drop (k + m) = List.replicate (L - (k + m)) 165 := by
    rw [mix, List.drop_append, ht]
    simp
    have : List.drop (k + m) (List.take k xs) = [] := List.drop_eq_nil_of_le (by omega)
    simp [this]
    omega
  rw [e1, e2, ← List.append_assoc, mix]
  congr 1
  rw [List.take_add]

/-- the reader's box at R, the buffer at bb, the data at da: k bytes have gone over. -/
structure St (w1 : World) (R bb : Nat) (da : Option Addr) (dlen dcap ch : Nat) (fv : Value) (xs : List Int) (L k : Nat) (w : World) : Prop where
  d : w.cell? ⟨R, 0, none⟩ = some (.slice da dlen dcap)
  pos : w.cell? ⟨R, 1, none⟩ = some (.int .i64 k)
  chunk : w.cell? ⟨R, 2, none⟩ = some (.int .i64 ch)
  fail : w.cell? ⟨R, 3, none⟩ = some fv
  fz : w.frozen? ⟨R, 1, none⟩ = false
  row : w.heap[bb]? = some (.cells ((mix xs L k).map (Value.int .u8)).toArray 5 (0, 0))
  below : Below R w1 w

theorem St.drewN {w1 : World} {R bb : Nat} {da : Option Addr} {dlen dcap ch : Nat} {fv : Value} {xs : List Int} {L k : Nat} {w : World} (h : St w1 R bb da dlen dcap ch fv xs L k w) (n : Nat) : St w1 R bb da dlen dcap ch fv xs L k (w.drewN n) :=
  ⟨h.d, h.pos, h.chunk, h.fail, h.fz, h.row, below_drewN h.below n⟩

theorem read_end (w1 : World) (R bb : Nat) (da : Option Addr) (dlen dcap ch : Nat) (fv : Value) (xs : List Int) (L k : Nat) (p : Value) (w : World) (h : St w1 R bb da dlen dcap ch fv xs L k w) (hk : (dlen : Int) ≤ (k : Int)) :
    Calls Ybaf.prog 28 #[.pointer (some ⟨R, 0, none⟩), p] w fun e w' => e = .returned (.tuple #[.int .i64 0, fv]) ∧ St w1 R bb da dlen dcap ch fv xs L k w' := by
  have c0 := h.d
  have c1 := h.pos
  have c3 := h.fail
  go_enter Ybaf.func28, Ybaf.ntmps28
  go_wp2_with fail
  go_quiet (fail)
  go_wp2_with fail
  go_quiet (fail)
  go_wp2
  go_ret2
  exact ⟨rfl, (h.drewN _).drewN _⟩


theorem wrap_small (x : Int) (h0 : 0 ≤ x) (h1 : x ≤ 1000000) : IntKind.i64.wrap x = x := by
  rw [IntKind.wrap_i64]; omega

/-- the source's cells, as the copy asks them. -/
theorem src_of {w1 w : World} {R db doff dlen k m : Nat} {xs : List Int} (hb : Below R w1 w) (hdb : db < R) (hx : xs.length = dlen) (hkm : k + m ≤ dlen)
    (hc : ∀ j, j < dlen → w1.cell? ⟨db, doff + j, none⟩ = some (.int .u8 (xs.getD j 0))) :
    ∀ j v, (((xs.drop k).take m).map (Value.int .u8))[j]? = some v → w.cell? ((⟨db, doff + k, none⟩ : Addr).add j) = some v := by
  intro j v hj
  have hl : ((xs.drop k).take m).length = m := by simp; omega
  have hjm : j < m := by
    have := (List.getElem?_eq_some_iff.1 hj).1
    simp at this; omega
  have h1 : w.cell? ⟨db, doff + k + j, none⟩ = some v := by
    rw [hb.cell (p := ⟨db, doff + k + j, none⟩) hdb, Nat.add_assoc, hc (k + j) (by omega)]
    rw [← hj]
    have hkj : k + j < xs.length := by omega
    simp [List.getElem?_map, hjm, List.getElem?_drop, List.getElem?_eq_getElem hkj, List.getD]
  by_cases h0 : j = 0
  · subst h0; simpa [Addr.add] using h1
  · simpa [Addr.add, h0] using h1

theorem St.moved {w1 : World} {R bb : Nat} {da : Option Addr} {dlen dcap ch : Nat} {fv : Value} {xs : List Int} {L k m : Nat} {w w2 : World} (h : St w1 R bb da dlen dcap ch fv xs L k w) (hRb : R < bb) (hRs : R < w.heap.size)
    (hg : w2.heap[bb]? = some (.cells (splice ((mix xs L k).map (Value.int .u8)) k (((xs.drop k).take m).map (Value.int .u8))).toArray 5 (0, 0))) (hb : Below bb w w2) (hk : k + m ≤ L) (hx : k + m ≤ xs.length) :
    St w1 R bb da dlen dcap ch fv xs L (k + m) (w2.setCell ⟨R, 1, none⟩ (.int .i64 (k + m : Nat))) := by
  have hpos : w2.cell? ⟨R, 1, none⟩ = some (.int .i64 k) := (hb.cell (p := ⟨R, 1, none⟩) hRb).trans h.pos
  have hoth : ∀ i v, i ≠ 1 → w.cell? ⟨R, i, none⟩ = some v → (w2.setCell ⟨R, 1, none⟩ (.int .i64 (k + m : Nat))).cell? ⟨R, i, none⟩ = some v := by
    intro i v hi hv
    rw [World.cell?_setCell_other (h := by intro e; apply hi; exact (congrArg Addr.off e).symm) ..]
    exact (hb.cell (p := ⟨R, i, none⟩) hRb).trans hv
  refine ⟨hoth 0 _ (by decide) h.d, ?_, hoth 2 _ (by decide) h.chunk, hoth 3 _ (by decide) h.fail, ?_, ?_, ?_⟩
  · exact World.cell?_setCell_same (h := hpos) ..
  · rw [World.frozen?_setCell]; exact (hb.frozen (p := ⟨R, 1, none⟩) hRb).trans h.fz
  · rw [Below.heap_setCell _ _ _ _ (by show bb ≠ R; omega), hg, splice_mix xs L k m hk hx]
  · exact (h.below.trans (hb.mono (Nat.le_of_lt hRb))).setCell (p := ⟨R, 1, none⟩) (Nat.le_refl _) _

set_option maxHeartbeats 1000000 in
theorem read_1 (w1 : World) (R bb db doff dlen dcap ch : Nat) (fv : Value) (xs : List Int) (L k n r : Nat) (w : World) (h : St w1 R bb (some ⟨db, doff, none⟩) dlen dcap ch fv xs L k w) (hRb : R < bb) (hRs : R < w.heap.size)
    (hdb : db < R) (hx : xs.length = dlen) (hdc : dlen ≤ dcap) (hd1 : dlen ≤ 1024) (hL : L ≤ 255) (hc1 : ch ≤ 8) (hch0 : 0 < ch)
    (hc : ∀ j, j < dlen → w1.cell? ⟨db, doff + j, none⟩ = some (.int .u8 (xs.getD j 0)))
    (hn : (dlen : Int) - (k : Int) = (n : Int)) (hn0 : 0 < n) (hr : k + r = L) (hr0 : 0 < r) (t1 : ¬ (ch : Int) < (n : Int)) (t2 : ¬ (r : Int) < (n : Int)) :
    Calls Ybaf.prog 28 #[.pointer (some ⟨R, 0, none⟩), .slice (some ⟨bb, k, none⟩) r r] w fun e w' => e = .returned (.tuple #[.int .i64 n, .nilIface]) ∧ St w1 R bb (some ⟨db, doff, none⟩) dlen dcap ch fv xs L (k + n) w' := by
  have c0 := h.d
  have c1 := h.pos
  have c2 := h.chunk
  have cf := h.fz
  have hlt : ¬ (dlen : Int) ≤ (k : Int) := by omega
  have HS : Hid (k + n ≤ L ∧ k + n ≤ xs.length ∧ (((xs.drop k).take n).map (Value.int .u8)).length = n) := ⟨by omega, by omega, by simp; omega⟩
  have HW : Hid (w.heap[bb]? = some (.cells ((mix xs L k).map (Value.int .u8)).toArray 5 (0, 0))) := h.row
  have HL : Hid (((mix xs L k).map (Value.int .u8)).length = L) := by rw [List.length_map]; exact mix_length xs L k (by omega) (by omega)
  have HC := src_of (k := k) (m := n) h.below hdb hx (by omega) hc
  have hrl : k + r ≤ L := by omega
  clear hr
  go_enter Ybaf.func28, Ybaf.ntmps28
  go_wp2_with fail
  go_quiet (fail)
  go_wp2_with fail
  go_quiet (fail)
  go_wp2_with fail
  have HCh : Hid (∀ j v, (((xs.drop k).take n).map (Value.int .u8))[j]? = some v → w.cell? ((⟨db, doff + k, none⟩ : Addr).add j) = some v) := HC
  clear HC hc
  have hw1 : IntKind.i64.wrap ((k : Int) + (n : Int)) = (k : Int) + (n : Int) := wrap_small _ (by omega) (by omega)
  have hw2 : ((k : Int) + (n : Int)).toNat = k + n := by omega
  have hw3 : (k : Int) + (n : Int) ≤ (dcap : Int) := by omega
  have hw4 : ¬ dcap = k := by omega
  have hw5 : 0 ≤ (k : Int) + (n : Int) := by omega
  go_region_law (refine step_copy_splice rfl (.tmp 49) (.tmp 64) 22 22 rfl 5 Ybaf.underlying22 size5 (some ⟨bb, k, none⟩) (some ⟨db, doff + k, none⟩) n r n (dcap - k) (by simp [Act.eval, Act.put]) (by simp [Act.eval, Act.put]) bb k ((mix xs L k).map (Value.int .u8)) 5 HW.out (((xs.drop k).take n).map (Value.int .u8)) (by rw [HS.out.2.2]; simp) (fun _ => ⟨rfl, _, rfl, HCh.out⟩) (by rw [HS.out.2.2, HL.out]; exact HS.out.1) (ints_oneCell _ _) bb w (below_drewN (Below.refl bb w) _) (Nat.le_refl _) ?_; intro w2 hg2 hb2; have d1 := (hb2.cell (p := ⟨R, 1, none⟩) hRb).trans c1; have df := (hb2.frozen (p := ⟨R, 1, none⟩) hRb).trans cf; have HM := h.moved hRb hRs hg2.out hb2 HS.out.1 HS.out.2.1; clear hb2 hg2)
  all_goals clear c0 c1 c2 cf HW HL HCh
  all_goals go_wp2
  all_goals go_ret2
  all_goals exact ⟨rfl, HM⟩
end Go.Proofs.YbulkdeqsFmt
