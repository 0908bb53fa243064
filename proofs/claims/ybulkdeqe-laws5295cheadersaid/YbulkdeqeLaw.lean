import Derived.Test.YbulkdeqeNew
import Derived.LaidEql
import Derived.Deep.RegionWith
namespace Go.Proofs.Ybulkdeqe
open Go.RowKit

theorem eq35 (w : World) (a : Addr) : (binOp .eql 35 (.iface 22 (.pointer (some a))) (.iface 22 (.pointer (some a)))).run Yba.prog w = .ok (.bool true) w :=
  run_eql_iface_ptr_same w a Yba.underlying35 Yba.underlying22 (i := Yba.t22) (j := Yba.t27) (by kernel_rfl) (by kernel_rfl) (by kernel_rfl)
theorem eq25 (w : World) (a : Addr) : (binOp .eql 25 (.iface 39 (.pointer (some a))) (.iface 39 (.pointer (some a)))).run Yba.prog w = .ok (.bool true) w :=
  run_eql_iface_ptr_same w a Yba.underlying25 Yba.underlying39 (i := Yba.t39) (j := Yba.t41) (by kernel_rfl) (by kernel_rfl) (by kernel_rfl)
theorem eq23 (w : World) : (binOp .eql 23 (.slice none 0 0) (.slice none 0 0)).run Yba.prog w = .ok (.bool true) w :=
  Lib.run_eql_slice_nil w 23 5 none 0 0 0 0 Yba.underlying23

theorem eq_here (w1 : World) (g cap : Nat) (x : Int) (hgs : g < w1.heap.size) (hrow : ∀ j, j < 24 → w1.cell? ⟨g, j, none⟩ = some (.int .u8 ((headBytes (x % 4294967296)).getD j 0))) :
    Calls Yba.prog 6 #[.slice (some ⟨g, 0, none⟩) 24 cap, .slice (some ⟨w1.heap.size, 0, none⟩) 24 24] (w1.alloc (.cells ((headBytes (x % 4294967296)).map (Value.int .u8)).toArray 5)).drew fun e w' =>
      e = .returned (.bool true) ∧ ∃ q, w' = (w1.alloc (.cells ((headBytes (x % 4294967296)).map (Value.int .u8)).toArray 5)).drew.drewN q := by
  refine eq_any g w1.heap.size 24 cap 24 (headBytes (x % 4294967296)) _ (by omega) ?_ ?_
  · intro j hj
    rw [World.cell?_drew, World.cell?_alloc_lt _ _ _ hgs]
    exact hrow j hj
  · intro j hj
    rw [World.cell?_drew, World.cell?_alloc_new]
    have hl := headBytes_length (x % 4294967296)
    have hj2 : j < (headBytes (x % 4294967296)).length := by omega
    simp [List.getElem?_map, List.getElem?_eq_getElem hj2, List.getD]

theorem fin_below {w w1 : World} {o : Obj} (hb : Below w.heap.size (w.alloc o) w1) (hwz : w.heap.size < w1.heap.size) (o2 : Obj) (n : Nat) : Below w.heap.size w ((w1.alloc o2).drewN n) :=
  below_drewN ((((Below.refl _ w).alloc (Nat.le_refl _) o).trans hb).alloc (Nat.le_of_lt hwz) o2) n

set_option maxHeartbeats 1000000 in
theorem law_ok (x : Int) (w : World) :
    Calls Yba.prog 3 #[.int .i64 x, .bool false] w fun e w' => e = .returned (.bool true) ∧ Below w.heap.size w w' := by
  go_enter Yba.func3, Yba.ntmps3
  go_wp2_with fail
  refine (new_ok w.heap.size x _ (by simp) (by simp) (by simp) (by simp) (by simp) (by simp)).mono ?_
  rintro e w1 ⟨p, rfl, hb, hlog, p0, p1, p2⟩
  obtain ⟨⟨g, cap, hBg, hgs, q0, hrow⟩, q1, q2⟩ := hlog
  rw [headBytes_length] at q0 hrow
  have HR : Hid (∀ j, j < 24 → w1.cell? ⟨g, j, none⟩ = some (.int .u8 ((headBytes (x % 4294967296)).getD j 0))) := hrow
  clear hrow
  have e1 := eq35
  have e2 := eq23
  have hpz : p < w1.heap.size := by
    rcases Nat.lt_or_ge p w1.heap.size with h | h
    · exact h
    · simp [World.cell?, Array.getElem?_eq_none h] at p0
  have hwz : w.heap.size < w1.heap.size := by omega
  go_wp2_with fail
  go_region_with (first
    | (go_at_call 7; refine (model_any x _).mono ?_; rintro e w2 ⟨rfl, rfl⟩)
    | (go_at_call 6; refine (eq_here w1 g cap x hgs HR.out).mono ?_; rintro e w3 ⟨rfl, q, rfl⟩))
  all_goals go_wp2
  all_goals go_ret
  all_goals exact ⟨rfl, fin_below hb hwz _ _⟩

theorem new_err (t : ByteArray) (w : World) :
    Calls Yba.prog 4 #[.string t] w fun e w' => e = .returned (.iface 39 (.pointer (some ⟨w.heap.size, 0, none⟩))) ∧ w' = w.alloc (.cells #[.string t] 41) := by
  go_enter Yba.func4, Yba.ntmps4
  go_wp2
  go_ret
  exact ⟨rfl, rfl⟩

theorem fin_below2 {w w1 : World} {o o' : Obj} (hb : Below w.heap.size ((w.alloc o).alloc o') w1) (hwz : w.heap.size < w1.heap.size) (o2 : Obj) (n : Nat) : Below w.heap.size w ((w1.alloc o2).drewN n) :=
  below_drewN (((((Below.refl _ w).alloc (Nat.le_refl _) o).alloc (by simp) o').trans hb).alloc (Nat.le_of_lt hwz) o2) n

set_option maxHeartbeats 1000000 in
theorem law_bad (x : Int) (w : World) :
    Calls Yba.prog 3 #[.int .i64 x, .bool true] w fun e w' => e = .returned (.bool true) ∧ Below w.heap.size w w' := by
  have e1 := eq25
  go_enter Yba.func3, Yba.ntmps3
  go_wp2_with (go_at_call 4; refine (new_err _ _).mono ?_; rintro e w' ⟨rfl, rfl⟩)
  refine (new_bad w.heap.size ⟨w.heap.size + 1, 0, none⟩ x _ (by simp; omega) (by simp) (by simp) (by simp) (by simp) (by simp)).mono ?_
  rintro e w1 ⟨rfl, hb, hlog⟩
  obtain ⟨⟨g, cap, hBg, hgs, q0, hrow⟩, q1, q2⟩ := hlog
  rw [headBytes_length] at q0 hrow
  have HR : Hid (∀ j, j < 24 → w1.cell? ⟨g, j, none⟩ = some (.int .u8 ((headBytes (x % 4294967296)).getD j 0))) := hrow
  clear hrow
  have hwz : w.heap.size < w1.heap.size := by omega
  go_wp2_with fail
  go_region_with (first
    | (go_at_call 7; refine (model_any x _).mono ?_; rintro e w2 ⟨rfl, rfl⟩)
    | (go_at_call 6; refine (eq_here w1 g cap x hgs HR.out).mono ?_; rintro e w3 ⟨rfl, q, rfl⟩))
  all_goals go_wp2
  all_goals go_ret
  all_goals exact ⟨rfl, fin_below2 hb hwz _ _⟩
end Go.Proofs.Ybulkdeqe
