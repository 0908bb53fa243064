import Derived.Test.YbulkderuTime
import Derived.Deep.RegionHeld3
namespace Go.Proofs.Ybulkderu
open Go.RowKit
set_option linter.unusedVariables false

def orI (a b : Int) : Int := if a = 0 then b else a

theorem or_two (g : Nat) (x y : Int) (w : World) (h0 : w.cell? ⟨g, 0, none⟩ = some (.int .i64 x)) (h1 : w.cell? ⟨g, 1, none⟩ = some (.int .i64 y)) :
    Calls Yba.prog 74 #[.slice (some ⟨g, 0, none⟩) 2 2] w fun e w' => e = .returned (.int .i64 (orI x y)) ∧ w' = w := by
  unfold orI
  by_cases hx : x = 0
  · subst hx
    rw [if_pos rfl]
    by_cases hy : y = 0
    · subst hy
      go_enter Yba.func74, Yba.ntmps74
      go_wp2
      refine wp_loop_rounds 3 ?_
      iterate 3
        rw [rounds_succ]
        go_wp2
      go_ret
      exact ⟨rfl, rfl⟩
    · go_enter Yba.func74, Yba.ntmps74
      go_wp2
      refine wp_loop_rounds 2 ?_
      iterate 2
        rw [rounds_succ]
        go_wp2
      go_ret
      exact ⟨rfl, rfl⟩
  · rw [if_neg hx]
    go_enter Yba.func74, Yba.ntmps74
    go_wp2
    refine wp_loop_rounds 1 ?_
    rw [rounds_succ]
    go_wp2
    go_ret
    exact ⟨rfl, rfl⟩

theorem new3_0 (w : World) (o1 o2 : Obj) (x y : Value) (t : TypeId) : (((w.alloc o1).alloc o2).alloc (.cells #[x, y] t)).drew.cell? ⟨w.heap.size + 2, 0, none⟩ = some x := by
  rw [show w.heap.size + 2 = ((w.alloc o1).alloc o2).heap.size by simp]
  show World.cell? (((w.alloc o1).alloc o2).alloc (.cells #[x, y] t)) _ = _
  rw [World.cell?_alloc_new]
  rfl
theorem new3_1 (w : World) (o1 o2 : Obj) (x y : Value) (t : TypeId) : (((w.alloc o1).alloc o2).alloc (.cells #[x, y] t)).drew.cell? ⟨w.heap.size + 2, 1, none⟩ = some y := by
  rw [show w.heap.size + 2 = ((w.alloc o1).alloc o2).heap.size by simp]
  show World.cell? (((w.alloc o1).alloc o2).alloc (.cells #[x, y] t)) _ = _
  rw [World.cell?_alloc_new]
  rfl

set_option maxHeartbeats 2000000 in
theorem compareTimers_at (A B : Nat) (d1 d2 s1 s2 : Int) (w : World)
    (a1 : w.cell? ⟨A, 1, none⟩ = some (.int .i64 s1)) (a2 : w.cell? ⟨A, 2, none⟩ = some (.int .u64 (tw d1))) (a3 : w.cell? ⟨A, 3, none⟩ = some (.int .i64 (te d1))) (a4 : w.cell? ⟨A, 4, none⟩ = some (.pointer none))
    (b1 : w.cell? ⟨B, 1, none⟩ = some (.int .i64 s2)) (b2 : w.cell? ⟨B, 2, none⟩ = some (.int .u64 (tw d2))) (b3 : w.cell? ⟨B, 3, none⟩ = some (.int .i64 (te d2))) (b4 : w.cell? ⟨B, 4, none⟩ = some (.pointer none)) :
    Calls Yba.prog 73 #[.pointer (some ⟨A, 0, none⟩), .pointer (some ⟨B, 0, none⟩)] w fun e w' => e = .returned (.int .i64 (orI (cmpI d1 d2) (cmpI s1 s2))) ∧ Below w.heap.size w w' := by
  go_enter Yba.func73, Yba.ntmps73
  go_wp2_with fail
  go_region_held3 (fun w' => w'.cell? ⟨A, 1, none⟩ = some (.int .i64 s1) ∧ w'.cell? ⟨A, 2, none⟩ = some (.int .u64 (tw d1)) ∧ w'.cell? ⟨A, 3, none⟩ = some (.int .i64 (te d1)) ∧ w'.cell? ⟨A, 4, none⟩ = some (.pointer none) ∧ w'.cell? ⟨B, 1, none⟩ = some (.int .i64 s2) ∧ w'.cell? ⟨B, 2, none⟩ = some (.int .u64 (tw d2)) ∧ w'.cell? ⟨B, 3, none⟩ = some (.int .i64 (te d2)) ∧ w'.cell? ⟨B, 4, none⟩ = some (.pointer none)) (simp (maxDischargeDepth := 9) [*, World.cell?_alloc_some])
    (first
      | (go_at_call 75; refine (compare_any d1 d2 _).mono ?_; rintro e w' ⟨rfl, rfl⟩)
      | (go_at_call 8; refine (cmpInt s1 s2 _).mono ?_; rintro e w' ⟨rfl, rfl⟩)
      | (go_at_call 74; refine (or_two (w.heap.size + 2) (cmpI d1 d2) (cmpI s1 s2) _ (new3_0 ..) (new3_1 ..)).mono ?_; rintro e w' ⟨rfl, rfl⟩))
  go_wp2
  go_ret
  exact ⟨rfl, ((((Below.refl _ w).alloc (Nat.le_refl _) _).alloc (by simp) _).alloc (by simp; omega) _).drew⟩
end Go.Proofs.Ybulkderu
