import Derived.Test.YbulkderuRearm
namespace Go.Proofs.Ybulkderu
open Go.RowKit Go.MapKept
set_option linter.unusedVariables false
variable {B G T0 n IB MB GW : Nat} {mobj : Obj} {mv : Value} {due sq ds oc : Nat → Int} {hp : Nat → Nat} {w w' : World}

/-- a wait's sixteen cells. -/
def wlist (j : Nat) (d o : Int) : List Value :=
  [.pointer none, .string ByteArray.empty, .int .i64 ((j : Int) + 1), .int .i64 0, .int .i64 0, .string ByteArray.empty, .string ByteArray.empty, .slice none 0 0, .int .u64 (tw d), .int .i64 (te d), .pointer none, .int .i64 o, .int .u64 0, .int .i64 0, .pointer none, .string ByteArray.empty]

structure Ws (GW IB n : Nat) (ds oc : Nat → Int) (w : World) : Prop where
  g : GW < IB
  n1 : n ≤ 1025
  inst : w.cell? ⟨IB, 6, none⟩ = some (.slice (some ⟨GW, 0, none⟩) n n)
  cells : ∀ j k, j < n → k < 16 → w.cell? ⟨GW, j * 16 + k, none⟩ = (wlist j (ds j) (oc j))[k]?
  fz : ∀ k, w.frozen? ⟨GW, k, none⟩ = false

theorem Ws.keep (h : Ws GW IB n ds oc w) {K : Nat} (hB : Below K w w') (hK : IB < K) : Ws GW IB n ds oc w' := by
  have g := h.g
  refine ⟨h.g, h.n1, ?_, ?_, ?_⟩
  · rw [hB.cell (p := ⟨IB, 6, none⟩) hK]; exact h.inst
  · intro j k hj hk; rw [hB.cell (p := ⟨GW, _, none⟩) (by show GW < K; omega)]; exact h.cells j k hj hk
  · intro k; rw [hB.frozen (p := ⟨GW, _, none⟩) (by show GW < K; omega)]; exact h.fz k

/-- the wait's due and occurrence turned. -/
theorem Ws.redue (h : Ws GW IB n ds oc w) (k : Nat) (hk : k < n) (d o : Int) :
    Ws GW IB n (upd ds k d) (upd oc k o) ((((w.setCell ⟨GW, k * 16 + 8, none⟩ (.int .u64 (tw d))).setCell ⟨GW, k * 16 + 9, none⟩ (.int .i64 (te d))).setCell ⟨GW, k * 16 + 10, none⟩ (.pointer none)).setCell ⟨GW, k * 16 + 11, none⟩ (.int .i64 o)) := by
  have g := h.g
  refine ⟨h.g, h.n1, ?_, ?_, ?_⟩
  · iterate 4 rw [set_other (by omega)]
    exact h.inst
  · intro j i hj hi
    by_cases e : j = k
    · subst e
      rw [upd_same, upd_same]
      have c8 : w.cell? ⟨GW, j * 16 + 8, none⟩ = some (.int .u64 (tw (ds j))) := h.cells j 8 hj (by omega)
      have c9 : w.cell? ⟨GW, j * 16 + 9, none⟩ = some (.int .i64 (te (ds j))) := h.cells j 9 hj (by omega)
      have c10 : w.cell? ⟨GW, j * 16 + 10, none⟩ = some (.pointer none) := h.cells j 10 hj (by omega)
      have c11 : w.cell? ⟨GW, j * 16 + 11, none⟩ = some (.int .i64 (oc j)) := h.cells j 11 hj (by omega)
      by_cases e8 : i = 8
      · subst e8
        rw [set_other (by omega), set_other (by omega), set_other (by omega), set_same c8]; rfl
      by_cases e9 : i = 9
      · subst e9
        rw [set_other (by omega), set_other (by omega), set_same (u := .int .i64 (te (ds j)))]
        · rfl
        · rw [set_other (by omega)]; exact c9
      by_cases e10 : i = 10
      · subst e10
        rw [set_other (by omega), set_same (u := .pointer none)]
        · rfl
        · rw [set_other (by omega), set_other (by omega)]; exact c10
      by_cases e11 : i = 11
      · subst e11
        rw [set_same (u := .int .i64 (oc j))]
        · rfl
        · rw [set_other (by omega), set_other (by omega), set_other (by omega)]; exact c11
      iterate 4 rw [set_other (by omega)]
      rw [h.cells j i hj hi]
      have : i = 0 ∨ i = 1 ∨ i = 2 ∨ i = 3 ∨ i = 4 ∨ i = 5 ∨ i = 6 ∨ i = 7 ∨ i = 12 ∨ i = 13 ∨ i = 14 ∨ i = 15 := by omega
      rcases this with rfl | rfl | rfl | rfl | rfl | rfl | rfl | rfl | rfl | rfl | rfl | rfl <;> rfl
    · iterate 4 rw [set_other (by omega)]
      rw [upd_other _ _ _ _ e, upd_other _ _ _ _ e]
      exact h.cells j i hj hi
  · intro i
    simp only [World.frozen?_setCell]
    exact h.fz i

/-- the queue reads as it did where the blocks from its row on are as they were. -/
theorem Hs.frame (h : Hs B G T0 n IB MB mobj mv due sq hp w) (hB : ∀ k, G ≤ k → k < w.heap.size → w'.heap[k]? = w.heap[k]?) : Hs B G T0 n IB MB mobj mv due sq hp w' := by
  have s := h.size
  have o1 := h.o1
  have o2 := h.o2
  have o3 := h.o3
  have c : ∀ b o, G ≤ b → b < w.heap.size → w'.cell? ⟨b, o, none⟩ = w.cell? ⟨b, o, none⟩ := fun b o h1 h2 => World.cell?_of_block (w := w) (hB b h1 h2)
  have f : ∀ b o, G ≤ b → b < w.heap.size → w'.frozen? ⟨b, o, none⟩ = w.frozen? ⟨b, o, none⟩ := fun b o h1 h2 => World.frozen?_of_block (w := w) (hB b h1 h2)
  refine ⟨h.o1, h.o2, h.o3, h.n0, h.n1, h.perm, ?_, ?_, ?_, ?_, ?_, ?_, ?_, ?_, ?_, ?_, ?_, ?_⟩
  · rw [c _ _ (by omega) s]; exact h.hd
  · rw [c _ _ (by omega) s]; exact h.mp
  · rw [hB _ (by omega) (by omega)]; exact h.mb
  · intro p hp'; rw [c _ _ (by omega) (by omega)]; exact h.row p hp'
  · intro p hp'; rw [f _ _ (by omega) (by omega)]; exact h.rowf p hp'
  · intro p hp'; rw [c _ _ (by omega) (by omega)]; exact h.c0 p hp'
  · intro p hp'; rw [c _ _ (by omega) (by omega)]; exact h.c1 p hp'
  · intro p hp'; rw [c _ _ (by omega) (by omega)]; exact h.c2 p hp'
  · intro p hp'; rw [c _ _ (by omega) (by omega)]; exact h.c3 p hp'
  · intro p hp'; rw [c _ _ (by omega) (by omega)]; exact h.c4 p hp'
  · intro p hp'; have := h.perm.lt p hp'; rw [c _ _ (by omega) (by omega)]; exact h.c5 p hp'
  · intro p k hp'; rw [f _ _ (by omega) (by omega)]; exact h.fz p k hp'

set_option maxHeartbeats 1000000 in
theorem rearm_at (h : Hs B G T0 n IB MB mobj (.map (some MB)) due sq hp w) (hW : Ws GW IB n ds oc w) (hIG : IB < G) (hE : Ents T0 sq n mobj) (hinj : ∀ a b, a < n → b < n → sq a = sq b → a = b) (k p : Nat) (hk : k < n) (hpn : p < n)
    (hsq : sq (hp p) = (k : Int) + 1) (d : Int) (hD : Dn (upd due (hp p) d) sq n p p hp) :
    Calls Yba.prog 9 #[.pointer (some ⟨B, 0, none⟩), .pointer (some ⟨IB, 0, none⟩), .int .i64 k, timeV d] w fun e w' =>
      e = .returned (.tuple #[]) ∧ (∃ hp', Hs B G T0 n IB MB mobj (.map (some MB)) (upd due (hp p) d) sq hp' w' ∧ Heap (upd due (hp p) d) sq n hp') ∧ Ws GW IB n (upd ds k d) (upd oc k (wrap64 (oc k + 1))) w' ∧ Below GW w w' := by
  have hBa : Below w.heap.size w (w.alloc (timeO d)) := (Below.refl _ w).alloc (Nat.le_refl _) _
  have hIs : IB < w.heap.size := cell_lt hW.inst
  have h1 := h.keep hBa
  have hW1 := hW.keep hBa hIs
  have gw := hW.g
  have hn := hW.n1
  have ci := hW1.inst
  have c2 : (w.alloc (timeO d)).cell? ⟨GW, k * 16 + 2, none⟩ = some (.int .i64 ((k : Int) + 1)) := hW1.cells k 2 hk (by omega)
  have c8 : (w.alloc (timeO d)).cell? ⟨GW, k * 16 + 8, none⟩ = some (.int .u64 (tw (ds k))) := hW1.cells k 8 hk (by omega)
  have c9 : (w.alloc (timeO d)).cell? ⟨GW, k * 16 + 9, none⟩ = some (.int .i64 (te (ds k))) := hW1.cells k 9 hk (by omega)
  have c10 : (w.alloc (timeO d)).cell? ⟨GW, k * 16 + 10, none⟩ = some (.pointer none) := hW1.cells k 10 hk (by omega)
  have c11 : (w.alloc (timeO d)).cell? ⟨GW, k * 16 + 11, none⟩ = some (.int .i64 (oc k)) := hW1.cells k 11 hk (by omega)
  have f8 := hW1.fz (k * 16 + 8)
  have f9 := hW1.fz (k * 16 + 9)
  have f10 := hW1.fz (k * 16 + 10)
  have f11 := hW1.fz (k * 16 + 11)
  have ne : ¬ w.heap.size = GW := by omega
  have ne' : ¬ GW = w.heap.size := by omega
  have hkI : (k : Int) < (n : Int) := by omega
  have H1 : Hid (Hs B G T0 n IB MB mobj (.map (some MB)) due sq hp (w.alloc (timeO d))) := h1
  have HW1 : Hid (Ws GW IB n (upd ds k d) (upd oc k (wrap64 (oc k + 1))) (((((w.alloc (timeO d)).setCell ⟨GW, k * 16 + 8, none⟩ (.int .u64 (tw d))).setCell ⟨GW, k * 16 + 9, none⟩ (.int .i64 (te d))).setCell ⟨GW, k * 16 + 10, none⟩ (.pointer none)).setCell ⟨GW, k * 16 + 11, none⟩ (.int .i64 (wrap64 (oc k + 1))))) := hW1.redue k hk d _
  have HSQ : Hid (sq (hp p) = (k : Int) + 1) := hsq
  clear h hW h1 hW1 hsq
  unfold timeV
  unfold timeO at *
  go_enter Yba.func9, Yba.ntmps9
  go_wp2_with fail
  have HG : Hid (∃ W, W = (((((w.alloc (.cells #[.int .u64 (tw d), .int .i64 (te d), .pointer none] 27)).setCell ⟨GW, k * 16 + 8, none⟩ (.int .u64 (tw d))).setCell ⟨GW, k * 16 + 8 + 1, none⟩ (.int .i64 (te d))).setCell ⟨GW, k * 16 + 8 + 2, none⟩ (.pointer none)).setCell ⟨GW, k * 16 + 11, none⟩ (.int .i64 (wrap64 (oc k + 1))))) := ⟨_, rfl⟩
  obtain ⟨W, hWd⟩ := HG.out
  have z0 : W.cell? ⟨w.heap.size, 0, none⟩ = some (.int .u64 (tw d)) := by rw [hWd]; iterate 4 rw [set_other (by omega)]
                                                                           rw [World.cell?_alloc_new]; rfl
  have z1 : W.cell? ⟨w.heap.size, 1, none⟩ = some (.int .i64 (te d)) := by rw [hWd]; iterate 4 rw [set_other (by omega)]
                                                                           rw [World.cell?_alloc_new]; rfl
  have z2 : W.cell? ⟨w.heap.size, 2, none⟩ = some (.pointer none) := by rw [hWd]; iterate 4 rw [set_other (by omega)]
                                                                        rw [World.cell?_alloc_new]; rfl
  have z3 : W.cell? ⟨GW, k * 16 + 2, none⟩ = some (.int .i64 ((k : Int) + 1)) := by rw [hWd]; iterate 4 rw [set_other (by omega)]
                                                                                    exact c2
  have HWW : Hid (Ws GW IB n (upd ds k d) (upd oc k (wrap64 (oc k + 1))) W) := by rw [hWd]; exact HW1.out
  have HBW : Hid (Below GW w W) := by rw [hWd]; exact (((((Below.refl GW w).alloc (by omega) _).setCell (Nat.le_refl _) _).setCell (Nat.le_refl _) _).setCell (Nat.le_refl _) _).setCell (Nat.le_refl _) _
  have HM : Hid (Calls Yba.prog 20 #[.pointer (some ⟨B, 12, none⟩), .int .i64 ((k : Int) + 1), .agg #[.int .u64 (tw d), .int .i64 (te d), .pointer none]] W.drew fun e w' =>
      e = .returned (.tuple #[]) ∧ (∃ hp', Hs B G T0 n IB MB mobj (.map (some MB)) (upd due (hp p) d) sq hp' w' ∧ Heap (upd due (hp p) d) sq n hp') ∧ Below G W w') := by
    have hh : Hs B G T0 n IB MB mobj (.map (some MB)) due sq hp W := by
      refine H1.out.frame ?_
      intro i hi _
      rw [hWd]
      iterate 4 rw [set_block (by omega)]
    have := move_at (hh.keep (drew_below _ _)) hE hinj p hpn d hD
    rw [HSQ.out] at this
    exact this.mono fun e w' ⟨he, hx, hb⟩ => ⟨he, hx, (drew_below _ _).trans hb⟩
  rw [← hWd]
  clear hWd HG H1 HW1 c2 c8 c9 c10 c11 f8 f9 f10 f11 ci
  go_region_with (go_at_call 20; refine Calls.mono HM.out ?_; rintro e w2 ⟨rfl, hE2, hB2⟩)
  all_goals (go_end0; exact ⟨rfl, hE2, HWW.out.keep hB2 hIG, HBW.out.trans (hB2.mono (by omega))⟩)
end Go.Proofs.Ybulkderu
