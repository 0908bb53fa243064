import Derived.Test.YbulkderuPlain
import Derived.BigRegion
namespace Go.Proofs.Ybulkderu
open Go.RowKit
set_option linter.unusedVariables false

theorem cell_lt {w : World} {b o : Nat} {v : Value} (h : w.cell? ⟨b, o, none⟩ = some v) : b < w.heap.size := World.block_lt_of_cell? w ⟨b, o, none⟩ h

/-- the queue inside the engine's box B; its row G; the timers' boxes T0, T0 + 1, ..; the map's block MB. -/
structure Hs (B G T0 n IB MB : Nat) (mobj : Obj) (mv : Value) (due sq : Nat → Int) (hp : Nat → Nat) (w : World) : Prop where
  o1 : G < MB
  o2 : MB < T0
  o3 : T0 + n ≤ B
  n0 : 0 < n
  n1 : n ≤ 1025
  perm : Perm n hp
  hd : w.cell? ⟨B, 12, none⟩ = some (.slice (some ⟨G, 0, none⟩) n n)
  mp : w.cell? ⟨B, 13, none⟩ = some mv
  mb : w.heap[MB]? = some mobj
  row : ∀ p, p < n → w.cell? ⟨G, p, none⟩ = some (.pointer (some ⟨T0 + hp p, 0, none⟩))
  rowf : ∀ p, p < n → w.frozen? ⟨G, p, none⟩ = false
  c0 : ∀ q, q < n → w.cell? ⟨T0 + q, 0, none⟩ = some (.pointer (some ⟨IB, 0, none⟩))
  c1 : ∀ q, q < n → w.cell? ⟨T0 + q, 1, none⟩ = some (.int .i64 (sq q))
  c2 : ∀ q, q < n → w.cell? ⟨T0 + q, 2, none⟩ = some (.int .u64 (tw (due q)))
  c3 : ∀ q, q < n → w.cell? ⟨T0 + q, 3, none⟩ = some (.int .i64 (te (due q)))
  c4 : ∀ q, q < n → w.cell? ⟨T0 + q, 4, none⟩ = some (.pointer none)
  c5 : ∀ p, p < n → w.cell? ⟨T0 + hp p, 5, none⟩ = some (.int .i64 p)
  fz : ∀ q k, q < n → w.frozen? ⟨T0 + q, k, none⟩ = false

variable {B G T0 n IB MB : Nat} {mobj : Obj} {mv : Value} {due sq : Nat → Int} {hp : Nat → Nat} {w w' : World}

theorem Hs.size (h : Hs B G T0 n IB MB mobj mv due sq hp w) : B < w.heap.size := cell_lt h.hd

theorem Hs.keep (h : Hs B G T0 n IB MB mobj mv due sq hp w) (hB : Below w.heap.size w w') : Hs B G T0 n IB MB mobj mv due sq hp w' := by
  have s := h.size
  have o1 := h.o1
  have o2 := h.o2
  have o3 := h.o3
  have c : ∀ b o, b < w.heap.size → w'.cell? ⟨b, o, none⟩ = w.cell? ⟨b, o, none⟩ := fun b o hb => hB.cell (p := ⟨b, o, none⟩) hb
  have f : ∀ b o, b < w.heap.size → w'.frozen? ⟨b, o, none⟩ = w.frozen? ⟨b, o, none⟩ := fun b o hb => hB.frozen (p := ⟨b, o, none⟩) hb
  refine ⟨h.o1, h.o2, h.o3, h.n0, h.n1, h.perm, ?_, ?_, ?_, ?_, ?_, ?_, ?_, ?_, ?_, ?_, ?_, ?_⟩
  · rw [c _ _ s]; exact h.hd
  · rw [c _ _ s]; exact h.mp
  · rw [hB.block _ (by omega)]; exact h.mb
  · intro p hp'; rw [c _ _ (by omega)]; exact h.row p hp'
  · intro p hp'; rw [f _ _ (by omega)]; exact h.rowf p hp'
  · intro p hp'; rw [c _ _ (by omega)]; exact h.c0 p hp'
  · intro p hp'; rw [c _ _ (by omega)]; exact h.c1 p hp'
  · intro p hp'; rw [c _ _ (by omega)]; exact h.c2 p hp'
  · intro p hp'; rw [c _ _ (by omega)]; exact h.c3 p hp'
  · intro p hp'; rw [c _ _ (by omega)]; exact h.c4 p hp'
  · intro p hp'; have := h.perm.lt p hp'; rw [c _ _ (by omega)]; exact h.c5 p hp'
  · intro p k hp'; rw [f _ _ (by omega)]; exact h.fz p k hp'

theorem len_at (h : Hs B G T0 n IB MB mobj mv due sq hp w) : Calls Yba.prog 70 #[.pointer (some ⟨B, 12, none⟩)] w fun e w' => e = .returned (.int .i64 n) ∧ w' = w := by
  have hd := h.hd
  go_enter Yba.func70, Yba.ntmps70
  go_wp2
  go_ret
  exact ⟨rfl, rfl⟩

set_option maxHeartbeats 1000000 in
theorem less_at (h : Hs B G T0 n IB MB mobj mv due sq hp w) (a b : Nat) (ha : a < n) (hb : b < n) :
    Calls Yba.prog 71 #[.pointer (some ⟨B, 12, none⟩), .int .i64 a, .int .i64 b] w fun e w' => e = .returned (.bool (lt due sq (hp a) (hp b))) ∧ Below w.heap.size w w' := by
  have hd := h.hd
  have ra := h.row a ha
  have rb := h.row b hb
  have la := h.perm.lt a ha
  have lb := h.perm.lt b hb
  have HC : Hid (∀ w2, Below w.heap.size w w2 → Calls Yba.prog 73 #[.pointer (some ⟨T0 + hp a, 0, none⟩), .pointer (some ⟨T0 + hp b, 0, none⟩)] w2 fun e w' => e = .returned (.int .i64 (orI (cmpI (due (hp a)) (due (hp b))) (cmpI (sq (hp a)) (sq (hp b))))) ∧ Below w.heap.size w2 w') := by
    intro w2 hB
    have k := h.keep hB
    exact (compareTimers_at (T0 + hp a) (T0 + hp b) (due (hp a)) (due (hp b)) (sq (hp a)) (sq (hp b)) w2 (k.c1 _ la) (k.c2 _ la) (k.c3 _ la) (k.c4 _ la) (k.c1 _ lb) (k.c2 _ lb) (k.c3 _ lb) (k.c4 _ lb)).mono fun e w' ⟨he, hw⟩ => ⟨he, hw.mono hB.size⟩
  have hn := h.n1
  have haI : (a : Int) < (n : Int) := by omega
  have hbI : (b : Int) < (n : Int) := by omega
  have s1 := cell_lt hd
  have s2 := cell_lt ra
  clear la lb
  unfold lt
  generalize orI (cmpI (due (hp a)) (due (hp b))) (cmpI (sq (hp a)) (sq (hp b))) = r at HC ⊢
  go_enter Yba.func71, Yba.ntmps71
  go_wp2_with fail
  go_region_held3 (fun w' => w'.cell? ⟨B, 12, none⟩ = some (.slice (some ⟨G, 0, none⟩) n n) ∧ w'.cell? ⟨G, a, none⟩ = some (.pointer (some ⟨T0 + hp a, 0, none⟩)) ∧ w'.cell? ⟨G, b, none⟩ = some (.pointer (some ⟨T0 + hp b, 0, none⟩))) (simp [*])
    (first
      | (go_at_call 73; refine (Calls.mono (HC.out _ (Below.refl _ w).drew) ?_); rintro e w' ⟨rfl, hB⟩; have q1 := (hB.cell (p := ⟨B, 12, none⟩) s1).trans hd; have q2 := (hB.cell (p := ⟨G, a, none⟩) s2).trans ra; have q3 := (hB.cell (p := ⟨G, b, none⟩) s2).trans rb))
  all_goals go_wp2
  all_goals go_ret
  all_goals exact ⟨rfl, (Below.refl _ w).drew.trans hB⟩
end Go.Proofs.Ybulkderu
