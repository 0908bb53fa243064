import Derived.Test.YbulkdeqsRows
import Derived.WalkKit
import Derived.WalkSpells
import Derived.OwnWalk
import Derived.Below
import Derived.WalkSmall
import Derived.BigQuiet
import Derived.Deep.QuietTactic
namespace Go.Proofs.Ybulkdeqs
open Go.RowKit

theorem pl_neg (B : Nat) (o : Int) (w : World) (h : o < 0) (c1 : w.cell? ⟨B, 1, none⟩ = some (.int .i64 o)) :
    Calls Yba.prog 4 #[.pointer (some ⟨B, 0, none⟩)] w fun e w' => e = .returned (.int .i64 (-1)) ∧ w' = w := by
  go_enter Yba.func4, Yba.ntmps4
  go_wp2
  go_ret
  exact ⟨rfl, rfl⟩

set_option maxHeartbeats 400000 in
theorem pl_pos (B : Nat) (a0 : Option Addr) (len cap : Nat) (o : Int) (w : World) (h : 0 ≤ o) (hl : o ≤ len) (hlen : len ≤ 1048576) (c0 : w.cell? ⟨B, 0, none⟩ = some (.slice a0 len cap)) (c1 : w.cell? ⟨B, 1, none⟩ = some (.int .i64 o)) :
    Calls Yba.prog 4 #[.pointer (some ⟨B, 0, none⟩)] w fun e w' => e = .returned (.int .i64 (len - o - 8)) ∧ ∃ q, w' = w.drewN q := by
  go_enter Yba.func4, Yba.ntmps4
  go_wp2_with fail
  go_quiet (fail)
  go_wp2
  go_ret
  exact ⟨rfl, _, rfl⟩

theorem law_big (a0 : Option Addr) (len cap : Nat) (x : Int) (w : World) (h : (1048576 : Int) < (len : Int)) :
    Calls Yba.prog 3 #[.slice a0 len cap, .int .i64 x] w fun e w' => e = .returned (.bool true) ∧ Below w.heap.size w w' := by
  go_enter Yba.func3, Yba.ntmps3
  go_wp2
  go_ret
  exact ⟨rfl, Below.refl _ _⟩

set_option maxHeartbeats 400000 in
theorem law_neg (a0 : Option Addr) (len cap : Nat) (x : Int) (w : World) (hlen : (len : Int) ≤ 1048576) (hx : x < 0) :
    Calls Yba.prog 3 #[.slice a0 len cap, .int .i64 x] w fun e w' => e = .returned (.bool true) ∧ Below w.heap.size w w' := by
  go_enter Yba.func3, Yba.ntmps3
  go_wp2_with (go_at_call 4; refine (pl_neg w.heap.size x _ hx (by simp)).mono ?_; rintro e w' ⟨rfl, rfl⟩)
  go_ret
  exact ⟨rfl, (Below.refl _ _).alloc (Nat.le_refl _) _⟩

theorem fin {w : World} (o : Obj) (n : Nat) : Below w.heap.size w ((w.alloc o).drewN n) := below_drewN ((Below.refl _ _).alloc (Nat.le_refl _) _) n

set_option maxHeartbeats 800000 in
theorem law_short (a0 : Option Addr) (len cap : Nat) (x o : Int) (w : World) (hlen : (len : Int) ≤ 1048576) (hx : 0 ≤ x) (hxb : x ≤ 9223372036854775807) (ho : x % ((len : Int) + 1) = o) (ho1 : 0 ≤ o) (ho2 : o ≤ len) (hs : (len : Int) < o + 8) :
    Calls Yba.prog 3 #[.slice a0 len cap, .int .i64 x] w fun e w' => e = .returned (.bool true) ∧ Below w.heap.size w w' := by
  go_enter Yba.func3, Yba.ntmps3
  go_wp2_with (go_at_call 4; refine (pl_pos w.heap.size a0 len cap o _ ho1 ho2 (by omega) (by simp) (by simp)).mono ?_; rintro e w' ⟨rfl, q, rfl⟩)
  go_ret
  exact ⟨rfl, fin _ _⟩

set_option maxHeartbeats 800000 in
theorem law_long (a0 : Option Addr) (len cap : Nat) (x o : Int) (w : World) (hlen : (len : Int) ≤ 1048576) (hx : 0 ≤ x) (hxb : x ≤ 9223372036854775807) (ho : x % ((len : Int) + 1) = o) (ho1 : 0 ≤ o) (ho2 : o ≤ len) (hs : o + 8 ≤ (len : Int)) :
    Calls Yba.prog 3 #[.slice a0 len cap, .int .i64 x] w fun e w' => e = .returned (.bool true) ∧ Below w.heap.size w w' := by
  go_enter Yba.func3, Yba.ntmps3
  go_wp2_with (go_at_call 4; refine (pl_pos w.heap.size a0 len cap o _ ho1 ho2 (by omega) (by simp) (by simp)).mono ?_; rintro e w' ⟨rfl, q, rfl⟩)
  go_loop [9, 10] (fun n i => ∃ k : Nat, (k : Int) ≤ len - o - 8 ∧ i = .int .i64 (o + 8 + k) ∧ n = .int .i64 k) (fun n _ => (len - (intOf n).toNat))
  case atStart => exact ⟨0, by omega, by go_num, rfl⟩
  case round =>
    obtain ⟨k, hk, rfl, rfl⟩ := hrel
    by_cases hlt : o + 8 + (k : Int) < (len : Int)
    · go_wp2
      go_round
      case rel => exact ⟨k + 1, by omega, by go_num, by go_num⟩
      case measure => simp [intOf]; omega
    · have hkk : (k : Int) = len - o - 8 := by omega
      have HK : Hid ((k : Int) = len - o - 8) := hkk
      have hd : ((len : Int) - o - 8 == (k : Int)) = true := by simp; omega
      clear hkk
      go_wp2
      go_ret
      exact ⟨rfl, fin _ _⟩
end Go.Proofs.Ybulkdeqs
