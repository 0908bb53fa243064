import Derived.Test.YbulkderuHeap
import Derived.BigRegion
namespace Go.Proofs.Ybulkderu
open Go.RowKit
set_option linter.unusedVariables false
variable {B G T0 n IB MB : Nat} {mobj : Obj} {mv : Value} {due sq : Nat → Int} {hp : Nat → Nat} {w w' : World}

theorem set_same {w : World} {b o : Nat} {u v : Value} (h : w.cell? ⟨b, o, none⟩ = some u) : (w.setCell ⟨b, o, none⟩ v).cell? ⟨b, o, none⟩ = some v := World.cell?_setCell_same (h := h) ..
theorem set_other {w : World} {b o b' o' : Nat} {v : Value} (h : b ≠ b' ∨ o ≠ o') : (w.setCell ⟨b, o, none⟩ v).cell? ⟨b', o', none⟩ = w.cell? ⟨b', o', none⟩ :=
  World.cell?_setCell_other (h := fun e => by simp at e; omega) ..

theorem set_block {w : World} {b o k : Nat} {v : Value} (h : b ≠ k) : (w.setCell ⟨b, o, none⟩ v).heap[k]? = w.heap[k]? := Below.heap_setCell _ _ _ _ (fun e => h e.symm)

theorem Hs.swapped (h : Hs B G T0 n IB MB mobj mv due sq hp w) (a b : Nat) (ha : a < n) (hb : b < n) (hab : a ≠ b) :
    Hs B G T0 n IB MB mobj mv due sq (swapF hp a b) ((((w.setCell ⟨G, a, none⟩ (.pointer (some ⟨T0 + hp b, 0, none⟩))).setCell ⟨G, b, none⟩ (.pointer (some ⟨T0 + hp a, 0, none⟩))).setCell ⟨T0 + hp b, 5, none⟩ (.int .i64 a)).setCell ⟨T0 + hp a, 5, none⟩ (.int .i64 b)) := by
  have o1 := h.o1
  have o2 := h.o2
  have o3 := h.o3
  have la := h.perm.lt a ha
  have lb := h.perm.lt b hb
  have hne : hp a ≠ hp b := fun e => hab (h.perm.inj a b ha hb e)
  refine ⟨h.o1, h.o2, h.o3, h.n0, h.n1, h.perm.swap ha hb, ?_, ?_, ?_, ?_, ?_, ?_, ?_, ?_, ?_, ?_, ?_, ?_⟩
  · iterate 4 rw [set_other (by omega)]
    exact h.hd
  · iterate 4 rw [set_other (by omega)]
    exact h.mp
  · iterate 4 rw [set_block (by omega)]
    exact h.mb
  · intro p hp'
    iterate 2 rw [set_other (by omega)]
    by_cases h1 : p = b
    · subst h1
      rw [swapF_right, set_same (u := .pointer (some ⟨T0 + hp p, 0, none⟩))]
      rw [set_other (by omega)]
      exact h.row p hp'
    · rw [set_other (by omega)]
      by_cases h2 : p = a
      · subst h2
        rw [swapF_left, set_same (h.row p hp')]
      · rw [set_other (by omega), swapF_other _ _ _ _ h2 h1]
        exact h.row p hp'
  · intro p hp'
    simp only [World.frozen?_setCell]
    exact h.rowf p hp'
  · intro q hq
    iterate 4 rw [set_other (by omega)]
    exact h.c0 q hq
  · intro q hq
    iterate 4 rw [set_other (by omega)]
    exact h.c1 q hq
  · intro q hq
    iterate 4 rw [set_other (by omega)]
    exact h.c2 q hq
  · intro q hq
    iterate 4 rw [set_other (by omega)]
    exact h.c3 q hq
  · intro q hq
    iterate 4 rw [set_other (by omega)]
    exact h.c4 q hq
  · intro p hp'
    have lp := h.perm.lt p hp'
    by_cases h1 : p = b
    · subst h1
      rw [swapF_right, set_same (u := .int .i64 a)]
      rw [set_other (by omega), set_other (by omega), set_other (by omega)]
      exact h.c5 a ha
    · by_cases h2 : p = a
      · subst h2
        rw [swapF_left, set_other (by omega), set_same (u := .int .i64 b)]
        rw [set_other (by omega), set_other (by omega)]
        exact h.c5 b hb
      · rw [swapF_other _ _ _ _ h2 h1]
        have i1 : hp p ≠ hp a := fun e => h2 (h.perm.inj _ _ hp' ha e)
        have i2 : hp p ≠ hp b := fun e => h1 (h.perm.inj _ _ hp' hb e)
        iterate 4 rw [set_other (by omega)]
        exact h.c5 p hp'
  · intro q k hq
    simp only [World.frozen?_setCell]
    exact h.fz q k hq

theorem drew_below (k : Nat) (w : World) : Below k w w.drew := (Below.refl k w).drew

set_option maxHeartbeats 4000000 in
theorem swap_at (h : Hs B G T0 n IB MB mobj mv due sq hp w) (a b : Nat) (ha : a < n) (hb : b < n) (hab : a ≠ b) :
    Calls Yba.prog 72 #[.pointer (some ⟨B, 12, none⟩), .int .i64 a, .int .i64 b] w fun e w' => e = .returned (.tuple #[]) ∧ Hs B G T0 n IB MB mobj mv due sq (swapF hp a b) w' ∧ Below G w w' := by
  have hd := h.hd
  have ra := h.row a ha
  have rb := h.row b hb
  have fa := h.rowf a ha
  have fb := h.rowf b hb
  have la := h.perm.lt a ha
  have lb := h.perm.lt b hb
  have hne : hp a ≠ hp b := fun e => hab (h.perm.inj a b ha hb e)
  have ca := h.c5 a ha
  have cb := h.c5 b hb
  have za := h.fz (hp a) 5 la
  have zb := h.fz (hp b) 5 lb
  have hn := h.n1
  have haI : (a : Int) < (n : Int) := by omega
  have hbI : (b : Int) < (n : Int) := by omega
  have g1 : ¬ G = B := by have := h.o1; have := h.o2; have := h.o3; omega
  have g1' : ¬ B = G := by have := h.o1; have := h.o2; have := h.o3; omega
  have g2 : ¬ G = T0 + hp a := by have := h.o1; have := h.o2; have := h.o3; omega
  have g3 : ¬ G = T0 + hp b := by have := h.o1; have := h.o2; have := h.o3; omega
  have hab' : ¬ b = a := fun e => hab e.symm
  clear la lb
  go_enter Yba.func72, Yba.ntmps72
  go_wp2_with fail
  go_region
  go_wp2_with fail
  go_region
  go_wp2
  go_end0
  have o1 := h.o1
  have o2 := h.o2
  exact ⟨rfl, ((h.swapped a b ha hb hab).keep (drew_below _ _)).keep (drew_below _ _), (((((Below.refl G w).setCell (Nat.le_refl _) _).setCell (Nat.le_refl _) _).setCell (by show G ≤ T0 + hp b; omega) _).setCell (by show G ≤ T0 + hp a; omega) _).drew.drew⟩
end Go.Proofs.Ybulkderu
