import Derived.Test.YbulkderuMove
namespace Go.Proofs.Ybulkderu
open Go.RowKit Go.MapKept
set_option linter.unusedVariables false
variable {B G T0 n IB MB : Nat} {mobj : Obj} {mv : Value} {due sq : Nat → Int} {hp : Nat → Nat} {w w' : World}

def upd (f : Nat → Int) (q : Nat) (d : Int) : Nat → Int := fun r => if r = q then d else f r
theorem upd_same (f : Nat → Int) (q : Nat) (d : Int) : upd f q d q = d := by simp [upd]
theorem upd_other (f : Nat → Int) (q r : Nat) (d : Int) (h : r ≠ q) : upd f q d r = f r := by simp [upd, h]

theorem Hs.redue (h : Hs B G T0 n IB MB mobj mv due sq hp w) (q : Nat) (hq : q < n) (d : Int) :
    Hs B G T0 n IB MB mobj mv (upd due q d) sq hp (((w.setCell ⟨T0 + q, 2, none⟩ (.int .u64 (tw d))).setCell ⟨T0 + q, 3, none⟩ (.int .i64 (te d))).setCell ⟨T0 + q, 4, none⟩ (.pointer none)) := by
  have o1 := h.o1
  have o2 := h.o2
  have o3 := h.o3
  refine ⟨h.o1, h.o2, h.o3, h.n0, h.n1, h.perm, ?_, ?_, ?_, ?_, ?_, ?_, ?_, ?_, ?_, ?_, ?_, ?_⟩
  · iterate 3 rw [set_other (by omega)]
    exact h.hd
  · iterate 3 rw [set_other (by omega)]
    exact h.mp
  · iterate 3 rw [set_block (by omega)]
    exact h.mb
  · intro p hp'
    iterate 3 rw [set_other (by omega)]
    exact h.row p hp'
  · intro p hp'
    simp only [World.frozen?_setCell]
    exact h.rowf p hp'
  · intro r hr
    iterate 3 rw [set_other (by omega)]
    exact h.c0 r hr
  · intro r hr
    iterate 3 rw [set_other (by omega)]
    exact h.c1 r hr
  · intro r hr
    rw [set_other (by omega), set_other (by omega)]
    by_cases e : r = q
    · subst e
      rw [upd_same, set_same (h.c2 r hr)]
    · rw [upd_other _ _ _ _ e, set_other (by omega)]
      exact h.c2 r hr
  · intro r hr
    rw [set_other (by omega)]
    by_cases e : r = q
    · subst e
      rw [upd_same, set_same (u := .int .i64 (te (due r)))]
      rw [set_other (by omega)]
      exact h.c3 r hr
    · rw [upd_other _ _ _ _ e, set_other (by omega), set_other (by omega)]
      exact h.c3 r hr
  · intro r hr
    by_cases e : r = q
    · subst e
      rw [set_same (u := .pointer none)]
      rw [set_other (by omega), set_other (by omega)]
      exact h.c4 r hr
    · iterate 3 rw [set_other (by omega)]
      exact h.c4 r hr
  · intro p hp'
    iterate 3 rw [set_other (by omega)]
    exact h.c5 p hp'
  · intro r k hr
    simp only [World.frozen?_setCell]
    exact h.fz r k hr

set_option maxHeartbeats 1000000 in
theorem move_at (h : Hs B G T0 n IB MB mobj (.map (some MB)) due sq hp w) (hE : Ents T0 sq n mobj) (hinj : ∀ a b, a < n → b < n → sq a = sq b → a = b) (p : Nat) (hpn : p < n) (d : Int) (hD : Dn (upd due (hp p) d) sq n p p hp) :
    Calls Yba.prog 20 #[.pointer (some ⟨B, 12, none⟩), .int .i64 (sq (hp p)), timeV d] w fun e w' =>
      e = .returned (.tuple #[]) ∧ (∃ hp', Hs B G T0 n IB MB mobj (.map (some MB)) (upd due (hp p) d) sq hp' w' ∧ Heap (upd due (hp p) d) sq n hp') ∧ Below G w w' := by
  have hq := h.perm.lt p hpn
  have h1 : Hs B G T0 n IB MB mobj (.map (some MB)) due sq hp (w.alloc (timeO d)) := h.keep ((Below.refl _ w).alloc (Nat.le_refl _) _)
  have hl := look_at (w := w.alloc (timeO d)) h1.mb hE hq hinj
  have hmp := h1.mp
  have c2 := h1.c2 _ hq
  have c3 := h1.c3 _ hq
  have c4 := h1.c4 _ hq
  have c5 := h1.c5 p hpn
  have f2 := h1.fz (hp p) 2 hq
  have f3 := h1.fz (hp p) 3 hq
  have f4 := h1.fz (hp p) 4 hq
  have hn := h.n1
  have hsz := h.size
  have HH : Hid (Hs B G T0 n IB MB mobj (.map (some MB)) (upd due (hp p) d) sq hp ((((w.alloc (timeO d)).setCell ⟨T0 + hp p, 2, none⟩ (.int .u64 (tw d))).setCell ⟨T0 + hp p, 3, none⟩ (.int .i64 (te d))).setCell ⟨T0 + hp p, 4, none⟩ (.pointer none))) := h1.redue _ hq d
  have o1 := h.o1
  have o2 := h.o2
  have o3 := h.o3
  have HO : Hid (G < MB ∧ MB < T0 ∧ T0 + n ≤ B) := ⟨o1, o2, o3⟩
  have HD : Hid (Dn (upd due (hp p) d) sq n p p hp) := hD
  have ne : ¬ w.heap.size = T0 + hp p := by omega
  clear h h1 o1 o2 o3 hD
  unfold timeV
  unfold timeO at *
  generalize hp p = q at *
  go_enter Yba.func20, Yba.ntmps20
  go_wp2_with fail
  refine Calls.mono (fix_at HH.out p hpn HD.out) ?_
  rintro e w2 ⟨rfl, hE2, hB2⟩
  have HE2 : Hid (∃ hp', Hs B G T0 n IB MB mobj (.map (some MB)) (upd due q d) sq hp' w2 ∧ Heap (upd due q d) sq n hp') := hE2
  clear hE2
  go_wp2_with fail
  go_end0
  have HO' := HO.out
  refine ⟨rfl, HE2.out, Below.trans ?_ hB2⟩
  exact ((((Below.refl G w).alloc (by omega) _).setCell (by show G ≤ T0 + q; omega) _).setCell (by show G ≤ T0 + q; omega) _).setCell (by show G ≤ T0 + q; omega) _
end Go.Proofs.Ybulkderu
