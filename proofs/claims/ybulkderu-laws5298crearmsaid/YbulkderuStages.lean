import Derived.Test.YbulkderuWaits
namespace Go.Proofs.Ybulkderu
open Go.RowKit
set_option linter.unusedVariables false

/-- a row of one-cell elements, filled up to place j. -/
structure Row1 (blk n j : Nat) (f : Nat → Value) (w : World) : Prop where
  cells : ∀ i, i < j → w.cell? ⟨blk, i, none⟩ = some (f i)
  there : ∀ i, i < n → (w.cell? ⟨blk, i, none⟩).isSome = true
  fz : ∀ k, w.frozen? ⟨blk, k, none⟩ = false

theorem Row1.keep {blk n j K : Nat} {f : Nat → Value} {w w' : World} (h : Row1 blk n j f w) (hB : Below K w w') (hK : blk < K) : Row1 blk n j f w' := by
  refine ⟨?_, ?_, ?_⟩
  · intro i hi; rw [hB.cell (p := ⟨blk, _, none⟩) hK]; exact h.cells i hi
  · intro m hm; rw [hB.cell (p := ⟨blk, _, none⟩) hK]; exact h.there m hm
  · intro k; rw [hB.frozen (p := ⟨blk, _, none⟩) hK]; exact h.fz k

theorem Row1.set {blk n j : Nat} {f : Nat → Value} {w : World} (h : Row1 blk n j f w) (hj : j < n) : Row1 blk n (j + 1) f (w.setCell ⟨blk, j, none⟩ (f j)) := by
  obtain ⟨u, hu⟩ := Option.isSome_iff_exists.1 (h.there j hj)
  refine ⟨?_, ?_, ?_⟩
  · intro i hi
    by_cases e : i = j
    · subst e; exact set_same hu
    · rw [set_other (by omega)]; exact h.cells i (by omega)
  · intro i hi
    by_cases e : i = j
    · subst e; rw [set_same hu]; rfl
    · rw [set_other (by omega)]; exact h.there i hi
  · intro k
    rw [World.frozen?_setCell]
    exact h.fz k

theorem fz_of_owns {w : World} {base e s g n cap : Nat} {xs : List Value} (hown : w.ownsRow base e s (.slice (some ⟨g, 0, none⟩) n cap) n xs) (k : Nat) : w.frozen? ⟨g, k, none⟩ = false := by
  rcases hown.2 with ⟨h', _⟩ | ⟨g', cap', cur, h', _, hg, _⟩
  · simp at h'
  · simp only [Value.slice.injEq, Option.some.injEq, Addr.mk.injEq, and_true, true_and] at h'
    obtain ⟨rfl, rfl⟩ := h'
    simp [World.frozen?, hg]

theorem Row1.start {blk n base e : Nat} {f : Nat → Value} {z : Value} {w : World} (hown : w.ownsRow base e 1 (.slice (some ⟨blk, 0, none⟩) n n) n (madeCells #[z] (n * 1)).toList) : Row1 blk n 0 f w := by
  refine ⟨by omega, ?_, fz_of_owns hown⟩
  intro i hi
  rw [hown.cellAt i (by omega), toList_madeCells_one, List.getElem?_eq_getElem (by simp; omega)]
  rfl

theorem cell_alloc_at {w : World} {cs : Array Value} {t : TypeId} {k : Nat} {v : Value} (h : cs[k]? = some v) : (w.alloc (.cells cs t)).cell? ⟨w.heap.size, k, none⟩ = some v := by
  rw [World.cell?_alloc_new]; exact h

/-- behind loop 1: the instance's box, the row of places. -/
theorem stage2 {w wA w7 : World} {D DB ZB GW n : Nat} {ds : Nat → Int} {occ : Int} {cs : Array Value} (hBa : Base D DB ZB n ds wA) (hWp : Wp GW n n ds occ wA) (hBw : Below w.heap.size w wA) (hgs : GW < wA.heap.size) (hzs : ZB < wA.heap.size)
    (h6 : cs[6]? = some (.slice (some ⟨GW, 0, none⟩) n n)) (hown : w7.ownsRow w.heap.size 3 1 (.slice (some ⟨(wA.alloc (.cells cs 42)).heap.size, 0, none⟩) n n) n (madeCells (Value.int .i64 0).cells (n * 1)).toList)
    (hg : (wA.alloc (.cells cs 42)).grownBy w7 none) :
    Base D DB ZB n ds w7 ∧ Ws GW wA.heap.size n ds (fun _ => occ) w7 ∧ Row1 (wA.heap.size + 1) n 0 (fun i => .int .i64 i) w7 ∧ Below w.heap.size w w7 ∧ wA.heap.size + 1 < w7.heap.size := by
  have hsz : (wA.alloc (.cells cs 42)).heap.size = wA.heap.size + 1 := by simp
  rw [hsz] at hown
  have hBx : Below (wA.heap.size + 1) (wA.alloc (.cells cs 42)) w7 := (Below.refl _ _).grown hg (by rw [hsz]; exact Nat.le_refl _) (by simp)
  have hBy : Below wA.heap.size wA (wA.alloc (.cells cs 42)) := (Below.refl _ _).alloc (Nat.le_refl _) _
  have hBz : Below wA.heap.size wA w7 := hBy.trans (hBx.mono (by omega))
  have hW7 := hWp.keep hBz hgs
  refine ⟨hBa.keep hBz hzs, ⟨hgs, hBa.n1, ?_, ?_, hW7.fz⟩, Row1.start hown, ?_, lt_of_owns hown⟩
  · rw [hBx.cell (p := ⟨wA.heap.size, 6, none⟩) (Nat.lt_succ_self _)]
    exact cell_alloc_at h6
  · intro j k hj hk; exact hW7.cells j k hj hk
  · exact hBw.trans (hBz.mono hBw.size)
end Go.Proofs.Ybulkderu
