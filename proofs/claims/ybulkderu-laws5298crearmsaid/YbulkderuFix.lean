import Derived.Test.YbulkderuSwap
namespace Go.Proofs.Ybulkderu
open Go.RowKit
set_option linter.unusedVariables false
variable {B G T0 n IB MB : Nat} {mobj : Obj} {mv : Value} {due sq : Nat → Int} {hp : Nat → Nat} {w w' : World}

theorem method_len (a : Addr) (w : World) : (method 392 114 (.pointer (some a)) "Len").run Yba.prog w = .ok (70, .pointer (some a)) w := by kernel_rfl
theorem method_less (a : Addr) (w : World) : (method 392 114 (.pointer (some a)) "Less").run Yba.prog w = .ok (71, .pointer (some a)) w := by kernel_rfl
theorem method_swap (a : Addr) (w : World) : (method 392 114 (.pointer (some a)) "Swap").run Yba.prog w = .ok (72, .pointer (some a)) w := by kernel_rfl

set_option maxHeartbeats 2000000 in
theorem up_at (h : Hs B G T0 n IB MB mobj mv due sq hp w) (j : Nat) (hj : j < n) (hU : Up due sq n j hp) :
    Calls Yba.prog 39 #[.iface 114 (.pointer (some ⟨B, 12, none⟩)), .int .i64 j] w fun e w' => e = .returned (.tuple #[]) ∧ (∃ hp', Hs B G T0 n IB MB mobj mv due sq hp' w' ∧ Heap due sq n hp') ∧ Below G w w' := by
  have hn := h.n1
  have HH : Hid (Hs B G T0 n IB MB mobj mv due sq hp w) := h
  clear h
  have mLess := method_less
  have mSwap := method_swap
  go_enter Yba.func39, Yba.ntmps39
  go_wp2
  go_loopw [1] (fun v wq => ∃ j hp', v = .int .i64 (j : Nat) ∧ j < n ∧ Hs B G T0 n IB MB mobj mv due sq hp' wq ∧ Up due sq n j hp' ∧ Below G w wq) (fun v _ => (intOf v).toNat)
  case atStart => exact ⟨j, hp, rfl, hj, HH.out, hU, Below.refl _ _⟩
  case round =>
    obtain ⟨j, hp', rfl, hj, h', hU', hB⟩ := hrel
    have hGs : G < wr.heap.size := by have := h'.size; have := h'.o1; have := h'.o2; have := h'.o3; omega
    by_cases hj0 : j = 0
    · subst hj0
      go_wp2
      go_end0
      exact ⟨rfl, ⟨hp', h', hU'.heap (Or.inl rfl)⟩, hB⟩
    · obtain ⟨i, hi⟩ : ∃ i : Nat, Int.tdiv ((j : Int) - 1) 2 = (i : Int) := ⟨par j, by unfold par; rw [Int.tdiv_eq_ediv_of_nonneg (by omega)]; omega⟩
      have HI : Hid (i = par j) := by unfold par; rw [Int.tdiv_eq_ediv_of_nonneg (by omega)] at hi; show i = _; omega
      have hlt : i < j := by rw [Int.tdiv_eq_ediv_of_nonneg (by omega)] at hi; omega
      have hin : i < n := by omega
      have hij : ¬ i = j := by omega
      have hijI : ¬ (i : Int) = (j : Int) := by omega
      have hL := less_at h' j i hj hin
      have H' : Hid (Hs B G T0 n IB MB mobj mv due sq hp' wr) := h'
      clear h'
      cases hr : lt due sq (hp' j) (hp' i)
      · rw [hr] at hL
        have HR : Hid (lt due sq (hp' j) (hp' i) = false) := hr
        have HL : Hid (Calls Yba.prog 71 #[.pointer (some ⟨B, 12, none⟩), .int .i64 j, .int .i64 i] wr fun e w' => e = .returned (.bool false) ∧ Below wr.heap.size wr w') := hL
        clear hL hr
        go_wp2_with (go_at_call 71; refine Calls.mono HL.out ?_; rintro e w2 ⟨rfl, hB2⟩)
        go_end0
        exact ⟨rfl, ⟨hp', H'.out.keep hB2, hU'.heap (Or.inr (by rw [← HI.out]; exact HR.out))⟩, hB.trans (hB2.mono (Nat.le_of_lt hGs))⟩
      · rw [hr] at hL
        have HR : Hid (lt due sq (hp' j) (hp' i) = true) := hr
        have HL : Hid (Calls Yba.prog 71 #[.pointer (some ⟨B, 12, none⟩), .int .i64 j, .int .i64 i] wr fun e w' => e = .returned (.bool true) ∧ Below wr.heap.size wr w') := hL
        clear hL hr
        go_wp2_with (first
          | (go_at_call 71; refine Calls.mono HL.out ?_; rintro e w2 ⟨rfl, hB2⟩)
          | (go_at_call 72; refine Calls.mono (swap_at (H'.out.keep hB2) i j hin hj hij) ?_; rintro e w3 ⟨rfl, h3, hB3⟩))
        go_roundw
        case rel => exact ⟨i, swapF hp' i j, rfl, hin, h3, by rw [HI.out]; exact hU'.step (by omega) hj (by rw [← HI.out]; exact HR.out), (hB.trans (hB2.mono (Nat.le_of_lt hGs))).trans hB3⟩
        case measure => simp [intOf]; omega
end Go.Proofs.Ybulkderu
