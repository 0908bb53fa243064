import Derived.Test.YbulkderuRearm2
import Derived.Test.YbulkderuSort
import Derived.OneCell
namespace Go.Proofs.Ybulkderu
open Go.RowKit
set_option linter.unusedVariables false

theorem info2 : (Yba.prog.info? 2).map (fun i => (i.zero, i.size, i.bytes)) = some (some (.int .i64 0), 1, 8) := by kernel_rfl
theorem info3 : (Yba.prog.info? 3).map (fun i => (i.zero, i.size, i.bytes)) = some (some (.int .i64 0), 1, 8) := by kernel_rfl
theorem info4 : (Yba.prog.info? 4).map (fun i => (i.zero, i.size, i.bytes)) = some (some (.bool false), 1, 1) := by kernel_rfl
theorem info49 : (Yba.prog.info? 49).map (fun i => (i.zero, i.size, i.bytes)) = some (some (.pointer none), 1, 8) := by kernel_rfl
theorem size34 : (Yba.prog.info? 34).map (·.size) = some 16 := by kernel_rfl

/-- the zero and the drawn dues. -/
def dsF (xs : List Int) (j : Nat) : Int := (0 :: xs).getD j 0

theorem lt_of_owns {w : World} {base e s g n cap : Nat} {xs : List Value} (hown : w.ownsRow base e s (.slice (some ⟨g, 0, none⟩) n cap) n xs) : g < w.heap.size := by
  rcases hown.2 with ⟨h, _⟩ | ⟨g', c, cur, h, _, hg, _⟩
  · simp at h
  · simp only [Value.slice.injEq, Option.some.injEq, Addr.mk.injEq, and_true] at h
    obtain ⟨rfl, _⟩ := h
    rcases Nat.lt_or_ge g w.heap.size with h | h
    · exact h
    · simp [Array.getElem?_eq_none h] at hg

theorem one_new (w : World) (v : Value) (t : TypeId) : ∀ j u, [v][j]? = some u → (w.alloc (.cells #[v] t)).cell? ((⟨w.heap.size, 0, none⟩ : Addr).add j) = some u := by
  intro j u h
  have hj : j = 0 := by
    rcases j with _ | j
    · rfl
    · simp at h
  subst hj
  simp at h
  subst h
  show World.cell? _ ⟨w.heap.size, 0, none⟩ = _
  rw [World.cell?_alloc_new]
  rfl

theorem box_kept {w1 w2 : World} {H : Nat} {v : Value} {t : TypeId} {o : Obj} (hH : H < w1.heap.size) (hg : ((w1.alloc (.cells #[v] t)).alloc o).grownBy w2 (some H)) :
    w2.cell? ⟨w1.heap.size, 0, none⟩ = some v ∧ w2.frozen? ⟨w1.heap.size, 0, none⟩ = false ∧ w1.heap.size < w2.heap.size := by
  have hs := hg.size
  have hb := hg.block w1.heap.size (by simp; omega) (by simp; omega)
  have e : ((w1.alloc (.cells #[v] t)).alloc o).heap[w1.heap.size]? = some (.cells #[v] t (0, 0)) := by
    rw [Below.heap_alloc _ _ _ (by simp)]
    show (w1.heap.push _)[w1.heap.size]? = _
    simp
  rw [e] at hb
  refine ⟨?_, ?_, ?_⟩
  · rw [cell_of_row w2 _ 0 _ t (0, 0) hb]; rfl
  · simp [World.frozen?, hb]
  · simp at hs; omega

theorem box_again {w2 w3 : World} {H DB : Nat} {v : Value} (hne : H ≠ DB) (hc : w2.cell? ⟨DB, 0, none⟩ = some v) (hf : w2.frozen? ⟨DB, 0, none⟩ = false) (u : Value) (hg : (w2.setCell ⟨DB, 0, none⟩ u).grownBy w3 (some H)) :
    w3.cell? ⟨DB, 0, none⟩ = some u ∧ w3.frozen? ⟨DB, 0, none⟩ = false ∧ DB < w3.heap.size := by
  have hlt := cell_lt hc
  have hs := hg.size
  have hsz : (w2.setCell ⟨DB, 0, none⟩ u).heap.size = w2.heap.size := by simp [World.setCell]
  have hb := hg.block DB (by omega) (by simp; omega)
  refine ⟨?_, ?_, by omega⟩
  · rw [World.cell?_of_block (a := ⟨DB, 0, none⟩) (w := w2.setCell ⟨DB, 0, none⟩ u) hb]; exact set_same hc
  · rw [World.frozen?_of_block (a := ⟨DB, 0, none⟩) (w := w2.setCell ⟨DB, 0, none⟩ u) hb, World.frozen?_setCell]; exact hf

/-- the dues' row D, its box DB, the zero time's box ZB. -/
structure Base (D DB ZB n : Nat) (ds : Nat → Int) (w : World) : Prop where
  l1 : D < DB
  l2 : DB < ZB
  n1 : n ≤ 1025
  hb : w.cell? ⟨DB, 0, none⟩ = some (.slice (some ⟨D, 0, none⟩) n n)
  hd : ∀ j, j < n → w.cell? ⟨D, j, none⟩ = some (.int .i64 (ds j))
  z0 : w.cell? ⟨ZB, 0, none⟩ = some (.int .u64 0)
  z1 : w.cell? ⟨ZB, 1, none⟩ = some (.int .i64 0)
  z2 : w.cell? ⟨ZB, 2, none⟩ = some (.pointer none)

theorem Base.keep {D DB ZB n K : Nat} {ds : Nat → Int} {w w' : World} (h : Base D DB ZB n ds w) (hB : Below K w w') (hK : ZB < K) : Base D DB ZB n ds w' := by
  have l1 := h.l1
  have l2 := h.l2
  have c : ∀ b o, b < K → w'.cell? ⟨b, o, none⟩ = w.cell? ⟨b, o, none⟩ := fun b o hb => hB.cell (p := ⟨b, o, none⟩) hb
  refine ⟨h.l1, h.l2, h.n1, ?_, ?_, ?_, ?_, ?_⟩
  · rw [c _ _ (by omega)]; exact h.hb
  · intro j hj; rw [c _ _ (by omega)]; exact h.hd j hj
  · rw [c _ _ hK]; exact h.z0
  · rw [c _ _ hK]; exact h.z1
  · rw [c _ _ hK]; exact h.z2

/-- the row of dues as the two appends leave it. -/
theorem row_ds {w3 : World} {H n : Nat} {xs : List Int} (hn : xs.length + 1 = n) (hown : w3.ownsRow H 2 1 (.slice (some ⟨H, 0, none⟩) n n) n ([.int .i64 0] ++ xs.map (Value.int .i64))) :
    ∀ j, j < n → w3.cell? ⟨H, j, none⟩ = some (.int .i64 (dsF xs j)) := by
  intro j hj
  rw [hown.cellAt j (by omega)]
  have e : [Value.int .i64 0] ++ xs.map (Value.int .i64) = (0 :: xs).map (Value.int .i64) := rfl
  rw [e, List.getElem?_map, List.getElem?_eq_getElem (by simp; omega)]
  simp [dsF, List.getD, List.getElem?_eq_getElem (show j < (0 :: xs).length by simp; omega)]

theorem base_of {w3 : World} {H DB n : Nat} {xs : List Int} {v : Value} {o : Obj} (ho : o = .cells #[.int .u64 0, .int .i64 0, .pointer none] 27) (hn : xs.length + 1 = n) (hn1 : n ≤ 1025) (hl : H < DB) (hown : w3.ownsRow H 2 1 (.slice (some ⟨H, 0, none⟩) n n) n ([.int .i64 0] ++ xs.map (Value.int .i64)))
    (hc : w3.cell? ⟨DB, 0, none⟩ = some v) :
    Base H DB w3.heap.size n (dsF xs) ((w3.setCell ⟨DB, 0, none⟩ (.slice (some ⟨H, 0, none⟩) n n)).alloc o) := by
  have hlt := cell_lt hc
  have hsz : (w3.setCell ⟨DB, 0, none⟩ (.slice (some ⟨H, 0, none⟩) n n)).heap.size = w3.heap.size := by simp [World.setCell]
  have c : ∀ b o', b < w3.heap.size → ((w3.setCell ⟨DB, 0, none⟩ (.slice (some ⟨H, 0, none⟩) n n)).alloc o).cell? ⟨b, o', none⟩ = (w3.setCell ⟨DB, 0, none⟩ (.slice (some ⟨H, 0, none⟩) n n)).cell? ⟨b, o', none⟩ := by
    intro b o' hb
    exact World.cell?_alloc_lt _ _ _ (by rw [hsz]; exact hb)
  refine ⟨hl, hlt, hn1, ?_, ?_, ?_, ?_, ?_⟩
  · rw [c _ _ hlt]; exact set_same hc
  · intro j hj
    rw [c _ _ (by omega), set_other (by omega)]
    exact row_ds hn hown j hj
  all_goals (subst ho; rw [← hsz, World.cell?_alloc_new]; rfl)
end Go.Proofs.Ybulkderu
