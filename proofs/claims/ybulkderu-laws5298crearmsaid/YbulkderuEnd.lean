import Derived.Test.YbulkderuClone
namespace Go.Proofs.Ybulkderu
open Go.RowKit
set_option linter.unusedVariables false
variable {D DB ZB GW IB OB G MB T0 n p : Nat} {ds : Nat → Int} {occ : Int} {ord : Nat → Nat} {w : World}

theorem stage4 (h : Bd D DB ZB GW IB OB G MB T0 n n ds occ ord w) (hn0 : 0 < n) {cs : Array Value} {t : TypeId} (h12 : cs[12]? = some (.slice (some ⟨G, 0, none⟩) n n)) (h13 : cs[13]? = some (.map (some MB))) :
    ∃ o, Hs (T0 + n) G T0 n IB MB o (.map (some MB)) (fun q => ds (ord q)) (fun q => (ord q : Int) + 1) (fun q => q) (w.alloc (.cells cs t)) ∧ Ents T0 (fun q => (ord q : Int) + 1) n o := by
  obtain ⟨o, ho, hE⟩ := h.mp
  have hB : Below w.heap.size w (w.alloc (.cells cs t)) := (Below.refl _ w).alloc (Nat.le_refl _) _
  have sz := h.sz
  have lM := h.lM
  have lT := h.lT
  have lH := h.lH
  have hr := h.hrow.keep hB (by omega)
  have c : ∀ b i, b < w.heap.size → (w.alloc (.cells cs t)).cell? ⟨b, i, none⟩ = w.cell? ⟨b, i, none⟩ := fun b i hb => hB.cell (p := ⟨b, i, none⟩) hb
  refine ⟨o, ⟨h.lM, h.lT, Nat.le_refl _, hn0, h.base.n1, ⟨fun p hp => hp, fun p q _ _ e => e⟩, ?_, ?_, ?_, hr.cells, fun p _ => hr.fz p, ?_, ?_, ?_, ?_, ?_, ?_, ?_⟩, hE⟩
  · rw [← sz]; exact cell_alloc_at h12
  · rw [← sz]; exact cell_alloc_at h13
  · rw [hB.block _ (by omega)]; exact ho
  · intro q hq; rw [c _ _ (by omega)]; exact h.ts.c0 q hq
  · intro q hq; rw [c _ _ (by omega)]; exact h.ts.c1 q hq
  · intro q hq; rw [c _ _ (by omega)]; exact h.ts.c2 q hq
  · intro q hq; rw [c _ _ (by omega)]; exact h.ts.c3 q hq
  · intro q hq; rw [c _ _ (by omega)]; exact h.ts.c4 q hq
  · intro q hq; rw [c _ _ (by omega)]; exact h.ts.c5 q hq
  · intro q k hq; rw [hB.frozen (p := ⟨T0 + q, k, none⟩) (by show T0 + q < _; omega)]; exact h.ts.fz q k hq

/-- sorted, but for the place that is due anew. -/
theorem dn_of {n p : Nat} {ds : Nat → Int} {ord : Nat → Nat} (h : Sorted n ds ord) (d : Int) : Dn (upd (fun q => ds (ord q)) p d) (fun q => (ord q : Int) + 1) n p p (fun q => q) := by
  refine Dn.start ?_
  intro a b hab hb ha hb'
  unfold le
  rw [upd_other _ _ _ _ ha, upd_other _ _ _ _ hb']
  have := h.asc a b hab hb
  simp only
  omega

/-- what stands behind rearm. -/
structure Fin1 (D DB ZB GW IB G MB T0 n : Nat) (o : Obj) (ds ds' oc' due' : Nat → Int) (ord hp' : Nat → Nat) (w : World) : Prop where
  base : Base D DB ZB n ds w
  ws : Ws GW IB n ds' oc' w
  hs : Hs (T0 + n) G T0 n IB MB o (.map (some MB)) due' (fun q => (ord q : Int) + 1) hp' w
  heap : Heap due' (fun q => (ord q : Int) + 1) n hp'
  ents : Ents T0 (fun q => (ord q : Int) + 1) n o
  lG : ZB < GW
  lI : IB < G

theorem Fin1.keep {GW IB G MB T0 n : Nat} {o : Obj} {ds ds' oc' due' : Nat → Int} {ord hp' : Nat → Nat} {w w' : World} (h : Fin1 D DB ZB GW IB G MB T0 n o ds ds' oc' due' ord hp' w) {K : Nat} (hK : T0 + n < K) (hB : Below K w w') (hKs : K ≤ w.heap.size) : Fin1 D DB ZB GW IB G MB T0 n o ds ds' oc' due' ord hp' w' := by
  have lG := h.lG
  have lI := h.lI
  have g := h.ws.g
  have o1 := h.hs.o1
  have o2 := h.hs.o2
  refine ⟨h.base.keep hB (by omega), h.ws.keep hB (by omega), ?_, h.heap, h.ents, lG, lI⟩
  have c : ∀ b i, b < K → w'.cell? ⟨b, i, none⟩ = w.cell? ⟨b, i, none⟩ := fun b i hb => hB.cell (p := ⟨b, i, none⟩) hb
  have f : ∀ b i, b < K → w'.frozen? ⟨b, i, none⟩ = w.frozen? ⟨b, i, none⟩ := fun b i hb => hB.frozen (p := ⟨b, i, none⟩) hb
  have k := h.hs
  refine ⟨k.o1, k.o2, k.o3, k.n0, k.n1, k.perm, ?_, ?_, ?_, ?_, ?_, ?_, ?_, ?_, ?_, ?_, ?_, ?_⟩
  · rw [c _ _ (by omega)]; exact k.hd
  · rw [c _ _ (by omega)]; exact k.mp
  · rw [hB.block _ (by omega)]; exact k.mb
  · intro p hp'; rw [c _ _ (by omega)]; exact k.row p hp'
  · intro p hp'; rw [f _ _ (by omega)]; exact k.rowf p hp'
  · intro p hp'; rw [c _ _ (by omega)]; exact k.c0 p hp'
  · intro p hp'; rw [c _ _ (by omega)]; exact k.c1 p hp'
  · intro p hp'; rw [c _ _ (by omega)]; exact k.c2 p hp'
  · intro p hp'; rw [c _ _ (by omega)]; exact k.c3 p hp'
  · intro p hp'; rw [c _ _ (by omega)]; exact k.c4 p hp'
  · intro p hp'; have := k.perm.lt p hp'; rw [c _ _ (by omega)]; exact k.c5 p hp'
  · intro p i hp'; rw [f _ _ (by omega)]; exact k.fz p i hp'

theorem stage5 {w11 : World} (h : Bd D DB ZB GW IB OB G MB T0 n n ds occ ord w) (hn0 : 0 < n) {cs : Array Value} {t : TypeId} (hB : Below (w.alloc (.cells cs t)).heap.size (w.alloc (.cells cs t)) w11) (h12 : cs[12]? = some (.slice (some ⟨G, 0, none⟩) n n)) (h13 : cs[13]? = some (.map (some MB))) :
    ∃ o, Ents T0 (fun q => (ord q : Int) + 1) n o ∧ (∀ O, Hs (T0 + n) G T0 n IB MB o (.map (some MB)) (fun q => ds (ord q)) (fun q => (ord q : Int) + 1) (fun q => q) (w11.alloc O)) ∧ (∀ O, Ws GW IB n ds (fun _ => occ) (w11.alloc O)) ∧ (∀ O, Base D DB ZB n ds (w11.alloc O)) ∧ Below w.heap.size w w11 ∧ T0 + n < w11.heap.size := by
  obtain ⟨o, h1, h2⟩ := stage4 (t := t) h hn0 h12 h13
  have sz := h.sz
  have lM := h.lM
  have lT := h.lT
  have lH := h.lH
  have lO := h.lO
  have lG := h.lG
  have g := h.ws.g
  have hs : (w.alloc (.cells cs t)).heap.size = w.heap.size + 1 := by simp
  have hB1 : Below w.heap.size w w11 := ((Below.refl _ w).alloc (Nat.le_refl _) _).trans (hB.mono (by omega))
  have hsz := hB.size
  refine ⟨o, h2, fun O => (h1.keep hB).keep ((Below.refl _ _).alloc (Nat.le_refl _) _), fun O => ?_, fun O => ?_, hB1, by omega⟩
  · exact (h.ws.keep hB1 (by omega)).keep ((Below.refl w11.heap.size _).alloc (Nat.le_refl _) _) (by omega)
  · exact (h.base.keep hB1 (by omega)).keep ((Below.refl w11.heap.size _).alloc (Nat.le_refl _) _) (by omega)

/-- the row of marks: what is marked was met at a place ahead of p. -/
structure Seen (SB n p : Nat) (at' : Nat → Nat) (w : World) : Prop where
  ex : ∃ sv : Nat → Bool, (∀ s, s < n → w.cell? ⟨SB, s, none⟩ = some (.bool (sv s))) ∧ ∀ s, sv s = true → ∃ q, q < p ∧ at' q = s
  fz : ∀ k, w.frozen? ⟨SB, k, none⟩ = false

theorem Seen.keep {SB n p K : Nat} {at' : Nat → Nat} {w w' : World} (h : Seen SB n p at' w) (hB : Below K w w') (hK : SB < K) : Seen SB n p at' w' := by
  obtain ⟨sv, h1, h2⟩ := h.ex
  refine ⟨⟨sv, ?_, h2⟩, ?_⟩
  · intro s hs; rw [hB.cell (p := ⟨SB, s, none⟩) hK]; exact h1 s hs
  · intro k; rw [hB.frozen (p := ⟨SB, k, none⟩) hK]; exact h.fz k

theorem Seen.fresh {SB n p : Nat} {at' : Nat → Nat} {w : World} (h : Seen SB n p at' w) (hs : at' p < n) (hinj : ∀ q, q < p → at' q ≠ at' p) : w.cell? ⟨SB, at' p, none⟩ = some (.bool false) := by
  obtain ⟨sv, h1, h2⟩ := h.ex
  rw [h1 _ hs]
  cases e : sv (at' p) with
  | false => rfl
  | true =>
    obtain ⟨q, hq, e'⟩ := h2 _ e
    exact absurd e' (hinj q hq)

theorem Seen.mark {SB n p : Nat} {at' : Nat → Nat} {w : World} (h : Seen SB n p at' w) (hs : at' p < n) : Seen SB n (p + 1) at' (w.setCell ⟨SB, at' p, none⟩ (.bool true)) := by
  obtain ⟨sv, h1, h2⟩ := h.ex
  refine ⟨⟨fun s => if s = at' p then true else sv s, ?_, ?_⟩, ?_⟩
  · intro s hs'
    by_cases e : s = at' p
    · subst e
      rw [set_same (h1 _ hs)]
      simp
    · rw [set_other (by omega), h1 s hs']
      simp [e]
  · intro s hs'
    by_cases e : s = at' p
    · exact ⟨p, by omega, e.symm⟩
    · simp [e] at hs'
      obtain ⟨q, hq, e'⟩ := h2 s hs'
      exact ⟨q, by omega, e'⟩
  · intro k
    rw [World.frozen?_setCell]
    exact h.fz k

theorem stage6 {w wD w16 : World} {G MB T0 g : Nat} {o : Obj} {ds' oc' due' m : Nat → Int} {hp' : Nat → Nat} (h : Fin1 D DB ZB GW IB G MB T0 n o ds ds' oc' due' ord hp' wD) (hM : ∀ j, j < n → wD.cell? ⟨g, j, none⟩ = some (.int .i64 (m j))) (hBw : Below w.heap.size w wD) (hgs : g < wD.heap.size)
    (hown : w16.ownsRow w.heap.size 4 1 (.slice (some ⟨wD.heap.size, 0, none⟩) n n) n (madeCells (Value.bool false).cells (n * 1)).toList) (hg : wD.grownBy w16 none) :
    Fin1 D DB ZB GW IB G MB T0 n o ds ds' oc' due' ord hp' w16 ∧ (∀ j, j < n → w16.cell? ⟨g, j, none⟩ = some (.int .i64 (m j))) ∧ Seen wD.heap.size n 0 (fun q => ord (hp' q)) w16 ∧ Below w.heap.size w w16 ∧ wD.heap.size < w16.heap.size := by
  have hB : Below wD.heap.size wD w16 := (Below.refl _ _).grown hg (Nat.le_refl _) (by simp)
  refine ⟨h.keep (cell_lt h.hs.hd) hB (Nat.le_refl _), ?_, ⟨⟨fun _ => false, ?_, by simp⟩, fz_of_owns hown⟩, hBw.trans (hB.mono hBw.size), lt_of_owns hown⟩
  · intro j hj; rw [hB.cell (p := ⟨g, j, none⟩) hgs]; exact hM j hj
  · intro s hs
    rw [hown.cellAt s (by omega)]
    show (madeCells #[Value.bool false] (n * 1)).toList[s]? = _
    rw [toList_madeCells_one, List.getElem?_eq_getElem (by simp; omega)]
    simp

/-- the due of the timer at a number is the model's. -/
theorem due_model {ord : Nat → Nat} {kk pk : Nat} {nd : Int} (hS : Sorted n ds ord) (hpk : pk < n) (hk : ord pk = kk) (q : Nat) (hq : q < n) : upd (fun q => ds (ord q)) pk nd q = upd ds kk nd (ord q) := by
  by_cases e : q = pk
  · subst e; rw [upd_same, hk, upd_same]
  · rw [upd_other _ _ _ _ e, upd_other]
    intro e'
    exact e (hS.inj q pk hq hpk (by omega))

/-- the model's own order along the heap. -/
theorem model_order {ord hp' : Nat → Nat} {due' : Nat → Int} (h : Heap due' (fun q => (ord q : Int) + 1) n hp') (p : Nat) (h0 : 0 < p) (hp : p < n) : ¬ due' (hp' p) < due' (hp' (par p)) := by
  have := h p h0 hp
  unfold le at this
  omega

/-- the model's row. -/
theorem model_set {g k : Nat} {m : Nat → Int} {w : World} (hk : k < n) (h : ∀ j, j < n → w.cell? ⟨g, j, none⟩ = some (.int .i64 (m j))) (d : Int) : ∀ j, j < n → (w.setCell ⟨g, k, none⟩ (.int .i64 d)).cell? ⟨g, j, none⟩ = some (.int .i64 (upd m k d j)) := by
  intro j hj
  by_cases e : j = k
  · subst e; rw [upd_same]; exact set_same (h j hj)
  · rw [upd_other _ _ _ _ e, set_other (by omega)]; exact h j hj
end Go.Proofs.Ybulkderu
