import Derived.Test.YbulkderuStages
namespace Go.Proofs.Ybulkderu
open Go.RowKit
set_option linter.unusedVariables false

theorem setO_block {w : World} {b k : Nat} {o : Obj} (h : b ≠ k) : (setO w b o).heap[k]? = w.heap[k]? := by
  show (w.heap.setIfInBounds b o)[k]? = _
  simp [h]
theorem setO_same {w : World} {b : Nat} {o : Obj} (h : b < w.heap.size) : (setO w b o).heap[b]? = some o := by
  show (w.heap.setIfInBounds b o)[b]? = _
  simp [h]
theorem setO_size {w : World} {b : Nat} {o : Obj} : (setO w b o).heap.size = w.heap.size := by
  show (w.heap.setIfInBounds b o).size = _
  simp
theorem setO_cell {w : World} {b k i : Nat} {o : Obj} (h : b ≠ k) : (setO w b o).cell? ⟨k, i, none⟩ = w.cell? ⟨k, i, none⟩ := World.cell?_of_block (w := w) (setO_block h)
theorem setO_frozen {w : World} {b k i : Nat} {o : Obj} (h : b ≠ k) : (setO w b o).frozen? ⟨k, i, none⟩ = w.frozen? ⟨k, i, none⟩ := World.frozen?_of_block (w := w) (setO_block h)
theorem setO_below {w : World} {b : Nat} {o : Obj} : Below b w (setO w b o) := ⟨rfl, rfl, rfl, by rw [setO_size]; exact Nat.le_refl _, fun k hk => setO_block (by omega)⟩

/-- the first p timers. -/
structure Ts (T0 p IB : Nat) (ds : Nat → Int) (ord : Nat → Nat) (w : World) : Prop where
  c0 : ∀ q, q < p → w.cell? ⟨T0 + q, 0, none⟩ = some (.pointer (some ⟨IB, 0, none⟩))
  c1 : ∀ q, q < p → w.cell? ⟨T0 + q, 1, none⟩ = some (.int .i64 ((ord q : Int) + 1))
  c2 : ∀ q, q < p → w.cell? ⟨T0 + q, 2, none⟩ = some (.int .u64 (tw (ds (ord q))))
  c3 : ∀ q, q < p → w.cell? ⟨T0 + q, 3, none⟩ = some (.int .i64 (te (ds (ord q))))
  c4 : ∀ q, q < p → w.cell? ⟨T0 + q, 4, none⟩ = some (.pointer none)
  c5 : ∀ q, q < p → w.cell? ⟨T0 + q, 5, none⟩ = some (.int .i64 q)
  fz : ∀ q k, q < p → w.frozen? ⟨T0 + q, k, none⟩ = false

def tbox (IB : Nat) (s d : Int) (p : Nat) : Obj := .cells #[.pointer (some ⟨IB, 0, none⟩), .int .i64 s, .int .u64 (tw d), .int .i64 (te d), .pointer none, .int .i64 p] 53

/-- all that stands while the timers are built. -/
structure Bd (D DB ZB GW IB OB G MB T0 n p : Nat) (ds : Nat → Int) (occ : Int) (ord : Nat → Nat) (w : World) : Prop where
  base : Base D DB ZB n ds w
  ws : Ws GW IB n ds (fun _ => occ) w
  ordc : ∀ i, i < n → w.cell? ⟨OB, i, none⟩ = some (.int .i64 (ord i : Nat))
  hrow : Row1 G n p (fun i => .pointer (some ⟨T0 + i, 0, none⟩)) w
  mp : ∃ o, w.heap[MB]? = some o ∧ Ents T0 (fun q => (ord q : Int) + 1) p o
  ts : Ts T0 p IB ds ord w
  sz : w.heap.size = T0 + p
  lG : ZB < GW
  lO : IB < OB
  lH : OB < G
  lM : G < MB
  lT : MB < T0

variable {D DB ZB GW IB OB G MB T0 n p : Nat} {ds : Nat → Int} {occ : Int} {ord : Nat → Nat} {w : World}

theorem Bd.step (h : Bd D DB ZB GW IB OB G MB T0 n p ds occ ord w) (hp : p < n) {o : Obj} (ho : Ents T0 (fun q => (ord q : Int) + 1) (p + 1) o) :
    Bd D DB ZB GW IB OB G MB T0 n (p + 1) ds occ ord (setO ((w.alloc (tbox IB ((ord p : Int) + 1) (ds (ord p)) p)).setCell ⟨G, p, none⟩ (.pointer (some ⟨T0 + p, 0, none⟩))) MB o) := by
  have lG := h.lG
  have lO := h.lO
  have lH := h.lH
  have lM := h.lM
  have lT := h.lT
  have sz := h.sz
  have lI := h.ws.g
  have hB : Below G w (setO ((w.alloc (tbox IB ((ord p : Int) + 1) (ds (ord p)) p)).setCell ⟨G, p, none⟩ (.pointer (some ⟨T0 + p, 0, none⟩))) MB o) :=
    (((Below.refl G w).alloc (by omega) _).setCell (p := ⟨G, p, none⟩) (Nat.le_refl _) _).trans (setO_below.mono (by omega))
  have hBa : Below w.heap.size w (w.alloc (tbox IB ((ord p : Int) + 1) (ds (ord p)) p)) := (Below.refl _ w).alloc (Nat.le_refl _) _
  have co : ∀ b i, b < w.heap.size → b ≠ G → b ≠ MB → (setO ((w.alloc (tbox IB ((ord p : Int) + 1) (ds (ord p)) p)).setCell ⟨G, p, none⟩ (.pointer (some ⟨T0 + p, 0, none⟩))) MB o).cell? ⟨b, i, none⟩ = w.cell? ⟨b, i, none⟩ := by
    intro b i h1 h2 h3
    rw [setO_cell (by omega), set_other (by omega), hBa.cell (p := ⟨b, i, none⟩) h1]
  have fo : ∀ b i, b < w.heap.size → b ≠ G → b ≠ MB → (setO ((w.alloc (tbox IB ((ord p : Int) + 1) (ds (ord p)) p)).setCell ⟨G, p, none⟩ (.pointer (some ⟨T0 + p, 0, none⟩))) MB o).frozen? ⟨b, i, none⟩ = w.frozen? ⟨b, i, none⟩ := by
    intro b i h1 h2 h3
    rw [setO_frozen (by omega), World.frozen?_setCell, hBa.frozen (p := ⟨b, i, none⟩) h1]
  have cn : ∀ i v, (#[Value.pointer (some ⟨IB, 0, none⟩), .int .i64 ((ord p : Int) + 1), .int .u64 (tw (ds (ord p))), .int .i64 (te (ds (ord p))), .pointer none, .int .i64 p])[i]? = some v → (setO ((w.alloc (tbox IB ((ord p : Int) + 1) (ds (ord p)) p)).setCell ⟨G, p, none⟩ (.pointer (some ⟨T0 + p, 0, none⟩))) MB o).cell? ⟨T0 + p, i, none⟩ = some v := by
    intro i v hv
    rw [setO_cell (by omega), set_other (by omega), ← sz]
    exact cell_alloc_at hv
  have fn : ∀ i, (setO ((w.alloc (tbox IB ((ord p : Int) + 1) (ds (ord p)) p)).setCell ⟨G, p, none⟩ (.pointer (some ⟨T0 + p, 0, none⟩))) MB o).frozen? ⟨T0 + p, i, none⟩ = false := by
    intro i
    rw [setO_frozen (by omega), World.frozen?_setCell, ← sz]
    have e : (w.alloc (tbox IB ((ord p : Int) + 1) (ds (ord p)) p)).heap[w.heap.size]? = some (tbox IB ((ord p : Int) + 1) (ds (ord p)) p) := by
      show (w.heap.push _)[w.heap.size]? = _
      simp
    unfold World.frozen?
    rw [e]
    rfl
  refine ⟨h.base.keep hB (by omega), h.ws.keep hB (by omega), ?_, ?_, ?_, ?_, ?_, lG, lO, lH, lM, lT⟩
  · intro i hi; rw [hB.cell (p := ⟨OB, i, none⟩) (by show OB < G; omega)]; exact h.ordc i hi
  · exact ((h.hrow.keep hBa (by omega)).set hp).keep setO_below lM
  · refine ⟨o, ?_, ho⟩
    exact setO_same (by simp [World.setCell]; omega)
  · refine ⟨?_, ?_, ?_, ?_, ?_, ?_, ?_⟩
    · intro q hq
      by_cases e : q = p
      · subst e; exact cn 0 _ rfl
      · rw [co _ _ (by omega) (by omega) (by omega)]; exact h.ts.c0 q (by omega)
    · intro q hq
      by_cases e : q = p
      · subst e; exact cn 1 _ rfl
      · rw [co _ _ (by omega) (by omega) (by omega)]; exact h.ts.c1 q (by omega)
    · intro q hq
      by_cases e : q = p
      · subst e; exact cn 2 _ rfl
      · rw [co _ _ (by omega) (by omega) (by omega)]; exact h.ts.c2 q (by omega)
    · intro q hq
      by_cases e : q = p
      · subst e; exact cn 3 _ rfl
      · rw [co _ _ (by omega) (by omega) (by omega)]; exact h.ts.c3 q (by omega)
    · intro q hq
      by_cases e : q = p
      · subst e; exact cn 4 _ rfl
      · rw [co _ _ (by omega) (by omega) (by omega)]; exact h.ts.c4 q (by omega)
    · intro q hq
      by_cases e : q = p
      · subst e; exact cn 5 _ rfl
      · rw [co _ _ (by omega) (by omega) (by omega)]; exact h.ts.c5 q (by omega)
    · intro q k hq
      by_cases e : q = p
      · subst e; exact fn k
      · rw [fo _ _ (by omega) (by omega) (by omega)]; exact h.ts.fz q k (by omega)
  · rw [setO_size]; simp [World.setCell]; omega

/-- behind the sort: the heap's row, the map. -/
theorem stage3 {w wB w8 w9 : World} (hBa : Base D DB ZB n ds wB) (hWs : Ws GW IB n ds (fun _ => occ) wB) (hBw : Below w.heap.size w wB) (lG : ZB < GW) (lO : IB < OB) (hwO : w.heap.size ≤ OB)
    (hOs : OB < w8.heap.size) (hB8 : Below OB wB w8) (hord : ∀ i, i < n → w8.cell? ⟨OB, i, none⟩ = some (.int .i64 (ord i : Nat)))
    (hown : w9.ownsRow w.heap.size 49 1 (.slice (some ⟨w8.heap.size, 0, none⟩) n n) n (madeCells (Value.pointer none).cells (n * 1)).toList) (hg : w8.grownBy w9 none) :
    Bd D DB ZB GW IB OB w8.heap.size w9.heap.size (w9.heap.size + 1) n 0 ds occ ord (w9.alloc (.map #[] 0)) ∧ Below w.heap.size w (w9.alloc (.map #[] 0)) := by
  have hG := lt_of_owns hown
  have lI := hWs.g
  have hB9 : Below w8.heap.size w8 w9 := (Below.refl _ _).grown hg (Nat.le_refl _) (by simp)
  have hBx : Below w9.heap.size w9 (w9.alloc (.map #[] 0)) := (Below.refl _ _).alloc (Nat.le_refl _) _
  have hBo : Below OB wB (w9.alloc (.map #[] 0)) := (hB8.trans (hB9.mono (by omega))).trans (hBx.mono (by omega))
  refine ⟨⟨hBa.keep hBo (by omega), hWs.keep hBo lO, ?_, (Row1.start hown).keep hBx hG, ⟨.map #[] 0, ?_, #[], rfl, rfl⟩, ?_, by simp, lG, lO, hOs, hG, Nat.lt_succ_self _⟩, ?_⟩
  · intro i hi
    rw [hBx.cell (p := ⟨OB, i, none⟩) (by show OB < _; omega), hB9.cell (p := ⟨OB, i, none⟩) hOs]
    exact hord i hi
  · show (w9.heap.push _)[w9.heap.size]? = _
    simp
  · refine ⟨?_, ?_, ?_, ?_, ?_, ?_, ?_⟩ <;> intros <;> omega
  · exact hBw.trans (hBo.mono hwO)
end Go.Proofs.Ybulkderu
