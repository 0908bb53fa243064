import Derived.Test.YbulkderuFix
namespace Go.Proofs.Ybulkderu
open Go.RowKit
set_option linter.unusedVariables false
variable {B G T0 n IB MB : Nat} {mobj : Obj} {mv : Value} {due sq : Nat → Int} {hp : Nat → Nat} {w w' : World}

def DownPost (B G T0 n IB MB : Nat) (mobj : Obj) (mv : Value) (due sq : Nat → Int) (i0 : Nat) (w : World) (e : Ending) (w' : World) : Prop :=
  ∃ r hp', e = .returned (.bool r) ∧ Hs B G T0 n IB MB mobj mv due sq hp' w' ∧ (r = true → Heap due sq n hp') ∧ (r = false → Up due sq n i0 hp') ∧ Below G w w'

theorem downPost_mk {i0 i : Nat} (hi : i0 ≤ i) (h : Hs B G T0 n IB MB mobj mv due sq hp w') (hD : Dn due sq n i0 i hp) (hmin : ∀ c, 0 < c → c < n → par c = i → le due sq (hp i) (hp c)) (hB : Below G w w') :
    DownPost B G T0 n IB MB mobj mv due sq i0 w (.returned (.bool (decide (i0 < i)))) w' := by
  refine ⟨_, hp, rfl, h, ?_, ?_, hB⟩
  · intro hr
    have : i0 < i := by simpa using hr
    exact hD.heap (by omega) hmin
  · intro hr
    have : ¬ i0 < i := by simpa using hr
    have e : i = i0 := by omega
    subst e
    exact hD.stop hmin

theorem par_j1 {i j : Nat} (h : 2 * (i : Int) + 1 = (j : Int)) : par j = i ∧ 0 < j ∧ i < j := by unfold par; omega
theorem par_j2 {i j k : Nat} (h : 2 * (i : Int) + 1 = (j : Int)) (h2 : (j : Int) + 1 = (k : Int)) : par k = i ∧ 0 < k ∧ i < k := by unfold par; omega

theorem min1 {i j1 j2 : Nat} (h1 : 2 * (i : Int) + 1 = (j1 : Int)) (h2 : (j1 : Int) + 1 = (j2 : Int)) (h3 : n ≤ j2 ∨ lt due sq (hp j2) (hp j1) = false) : ∀ c, 0 < c → c < n → par c = i → le due sq (hp j1) (hp c) := by
  intro c c0 cn hc
  rcases child_cases c0 hc with e | e
  · have : c = j1 := by omega
    subst this; unfold le; omega
  · have : c = j2 := by omega
    subst this
    rcases h3 with h3 | h3
    · omega
    · exact lt_false h3
theorem min2 {i j1 j2 : Nat} (h1 : 2 * (i : Int) + 1 = (j1 : Int)) (h2 : (j1 : Int) + 1 = (j2 : Int)) (h3 : lt due sq (hp j2) (hp j1) = true) : ∀ c, 0 < c → c < n → par c = i → le due sq (hp j2) (hp c) := by
  intro c c0 cn hc
  rcases child_cases c0 hc with e | e
  · have : c = j1 := by omega
    subst this; exact lt_true h3
  · have : c = j2 := by omega
    subst this; unfold le; omega

set_option maxHeartbeats 4000000 in
theorem down_at (h : Hs B G T0 n IB MB mobj mv due sq hp w) (i0 : Nat) (hi0 : i0 < n) (hD : Dn due sq n i0 i0 hp) :
    Calls Yba.prog 38 #[.iface 114 (.pointer (some ⟨B, 12, none⟩)), .int .i64 i0, .int .i64 n] w fun e w' => DownPost B G T0 n IB MB mobj mv due sq i0 w e w' := by
  have hn := h.n1
  have HH : Hid (Hs B G T0 n IB MB mobj mv due sq hp w) := h
  clear h
  have mLess := method_less
  have mSwap := method_swap
  go_enter Yba.func38, Yba.ntmps38
  go_wp2
  go_loopw [7] (fun v wq => ∃ i hp', v = .int .i64 (i : Nat) ∧ i < n ∧ i0 ≤ i ∧ Hs B G T0 n IB MB mobj mv due sq hp' wq ∧ Dn due sq n i0 i hp' ∧ Below G w wq) (fun v _ => n - (intOf v).toNat)
  case atStart => exact ⟨i0, hp, rfl, hi0, Nat.le_refl _, HH.out, hD, Below.refl _ _⟩
  case round =>
    obtain ⟨i, hp', rfl, hi, hle, h', hD', hB⟩ := hrel
    have hGs : G < wr.heap.size := by have := h'.size; have := h'.o1; have := h'.o2; have := h'.o3; omega
    have H' : Hid (Hs B G T0 n IB MB mobj mv due sq hp' wr) := h'
    obtain ⟨j1, hj1⟩ : ∃ j : Nat, 2 * (i : Int) + 1 = (j : Int) := ⟨2 * i + 1, by omega⟩
    obtain ⟨j2, hj2⟩ : ∃ j : Nat, (j1 : Int) + 1 = (j : Int) := ⟨j1 + 1, by omega⟩
    have hj1b : j1 < 3000 := by omega
    have hj2b : j2 < 3000 := by omega
    by_cases hend : n ≤ j1
    · clear h'
      have hendI : (n : Int) ≤ (j1 : Int) := by omega
      go_wp2
      go_ret
      exact downPost_mk hle H'.out hD' (fun c c0 cn hc => by have := child_cases c0 hc; omega) hB
    · have hj1n : j1 < n := by omega
      have hj1nI : (j1 : Int) < (n : Int) := by omega
      have hij1 : i < j1 := by omega
      by_cases hj2n : n ≤ j2
      · have hj2nI : ¬ (j2 : Int) < (n : Int) := by omega
        cases hr : lt due sq (hp' j1) (hp' i)
        · have HR : Hid (lt due sq (hp' j1) (hp' i) = false) := hr
          have HL : Hid (∀ w2, Below wr.heap.size wr w2 → Calls Yba.prog 71 #[.pointer (some ⟨B, 12, none⟩), .int .i64 j1, .int .i64 i] w2 fun e w' => e = .returned (.bool false) ∧ Below wr.heap.size w2 w') := by
            intro w2 hw
            have hl := less_at (H'.out.keep hw) j1 i hj1n hi
            rw [hr] at hl
            exact hl.mono fun e w' ⟨he, hb⟩ => ⟨he, hb.mono hw.size⟩
          clear hr h'
          go_wp2_with fail
          refine Calls.mono (HL.out _ (Below.refl wr.heap.size wr)) ?_
          rintro e w3 ⟨rfl, hB3⟩
          go_wp2_with fail
          go_ret
          have hW := (Below.refl wr.heap.size wr).trans hB3
          exact downPost_mk hle (H'.out.keep hW) hD' (fun c c0 cn hc => le_trans' (lt_false HR.out) (min1 hj1 hj2 (Or.inl hj2n) c c0 cn hc)) (hB.trans (hW.mono (Nat.le_of_lt hGs)))
        · have HR : Hid (lt due sq (hp' j1) (hp' i) = true) := hr
          have HL : Hid (∀ w2, Below wr.heap.size wr w2 → Calls Yba.prog 71 #[.pointer (some ⟨B, 12, none⟩), .int .i64 j1, .int .i64 i] w2 fun e w' => e = .returned (.bool true) ∧ Below wr.heap.size w2 w') := by
            intro w2 hw
            have hl := less_at (H'.out.keep hw) j1 i hj1n hi
            rw [hr] at hl
            exact hl.mono fun e w' ⟨he, hb⟩ => ⟨he, hb.mono hw.size⟩
          clear hr h'
          go_wp2_with fail
          refine Calls.mono (HL.out _ (Below.refl wr.heap.size wr)) ?_
          rintro e w3 ⟨rfl, hB3⟩
          go_wp2_with fail
          refine Calls.mono (swap_at (H'.out.keep ((Below.refl wr.heap.size wr).trans hB3)) i j1 hi hj1n (by omega)) ?_
          rintro e w4 ⟨rfl, h4, hB4⟩
          go_wp2_with fail
          go_roundw
          case rel => exact ⟨j1, swapF hp' i j1, rfl, hj1n, by omega, h4, hD'.step (par_j1 hj1).1 (par_j1 hj1).2.1 hj1n hle (min1 hj1 hj2 (Or.inl hj2n)) HR.out, (hB.trans (((Below.refl wr.heap.size wr).trans hB3).mono (Nat.le_of_lt hGs))).trans hB4⟩
          case measure => simp [intOf]; omega
      · have hj2n' : j2 < n := by omega
        have hj2nI : (j2 : Int) < (n : Int) := by omega
        have hij2 : i < j2 := by omega
        cases hs : lt due sq (hp' j2) (hp' j1)
        · have HS : Hid (lt due sq (hp' j2) (hp' j1) = false) := hs
          have HK : Hid (Calls Yba.prog 71 #[.pointer (some ⟨B, 12, none⟩), .int .i64 j2, .int .i64 j1] wr fun e w' => e = .returned (.bool false) ∧ Below wr.heap.size wr w') := by
            have hl := less_at H'.out j2 j1 hj2n' hj1n
            rw [hs] at hl
            exact hl
          clear hs
          cases hr : lt due sq (hp' j1) (hp' i)
          · have HR : Hid (lt due sq (hp' j1) (hp' i) = false) := hr
            have HL : Hid (∀ w2, Below wr.heap.size wr w2 → Calls Yba.prog 71 #[.pointer (some ⟨B, 12, none⟩), .int .i64 j1, .int .i64 i] w2 fun e w' => e = .returned (.bool false) ∧ Below wr.heap.size w2 w') := by
              intro w2 hw
              have hl := less_at (H'.out.keep hw) j1 i hj1n hi
              rw [hr] at hl
              exact hl.mono fun e w' ⟨he, hb⟩ => ⟨he, hb.mono hw.size⟩
            clear hr h'
            go_wp2_with fail
            refine Calls.mono HK.out ?_
            rintro e w2 ⟨rfl, hB2⟩
            go_wp2_with fail
            refine Calls.mono (HL.out _ hB2) ?_
            rintro e w3 ⟨rfl, hB3⟩
            go_wp2_with fail
            go_ret
            have hW := hB2.trans hB3
            exact downPost_mk hle (H'.out.keep hW) hD' (fun c c0 cn hc => le_trans' (lt_false HR.out) (min1 hj1 hj2 (Or.inr HS.out) c c0 cn hc)) (hB.trans (hW.mono (Nat.le_of_lt hGs)))
          · have HR : Hid (lt due sq (hp' j1) (hp' i) = true) := hr
            have HL : Hid (∀ w2, Below wr.heap.size wr w2 → Calls Yba.prog 71 #[.pointer (some ⟨B, 12, none⟩), .int .i64 j1, .int .i64 i] w2 fun e w' => e = .returned (.bool true) ∧ Below wr.heap.size w2 w') := by
              intro w2 hw
              have hl := less_at (H'.out.keep hw) j1 i hj1n hi
              rw [hr] at hl
              exact hl.mono fun e w' ⟨he, hb⟩ => ⟨he, hb.mono hw.size⟩
            clear hr h'
            go_wp2_with fail
            refine Calls.mono HK.out ?_
            rintro e w2 ⟨rfl, hB2⟩
            go_wp2_with fail
            refine Calls.mono (HL.out _ hB2) ?_
            rintro e w3 ⟨rfl, hB3⟩
            go_wp2_with fail
            refine Calls.mono (swap_at (H'.out.keep (hB2.trans hB3)) i j1 hi hj1n (by omega)) ?_
            rintro e w4 ⟨rfl, h4, hB4⟩
            go_wp2_with fail
            go_roundw
            case rel => exact ⟨j1, swapF hp' i j1, rfl, hj1n, by omega, h4, hD'.step (par_j1 hj1).1 (par_j1 hj1).2.1 hj1n hle (min1 hj1 hj2 (Or.inr HS.out)) HR.out, (hB.trans ((hB2.trans hB3).mono (Nat.le_of_lt hGs))).trans hB4⟩
            case measure => simp [intOf]; omega
        · have HS : Hid (lt due sq (hp' j2) (hp' j1) = true) := hs
          have HK : Hid (Calls Yba.prog 71 #[.pointer (some ⟨B, 12, none⟩), .int .i64 j2, .int .i64 j1] wr fun e w' => e = .returned (.bool true) ∧ Below wr.heap.size wr w') := by
            have hl := less_at H'.out j2 j1 hj2n' hj1n
            rw [hs] at hl
            exact hl
          clear hs
          cases hr : lt due sq (hp' j2) (hp' i)
          · have HR : Hid (lt due sq (hp' j2) (hp' i) = false) := hr
            have HL : Hid (∀ w2, Below wr.heap.size wr w2 → Calls Yba.prog 71 #[.pointer (some ⟨B, 12, none⟩), .int .i64 j2, .int .i64 i] w2 fun e w' => e = .returned (.bool false) ∧ Below wr.heap.size w2 w') := by
              intro w2 hw
              have hl := less_at (H'.out.keep hw) j2 i hj2n' hi
              rw [hr] at hl
              exact hl.mono fun e w' ⟨he, hb⟩ => ⟨he, hb.mono hw.size⟩
            clear hr h'
            go_wp2_with fail
            refine Calls.mono HK.out ?_
            rintro e w2 ⟨rfl, hB2⟩
            go_wp2_with fail
            refine Calls.mono (HL.out _ hB2) ?_
            rintro e w3 ⟨rfl, hB3⟩
            go_wp2_with fail
            go_ret
            have hW := hB2.trans hB3
            exact downPost_mk hle (H'.out.keep hW) hD' (fun c c0 cn hc => le_trans' (lt_false HR.out) (min2 hj1 hj2 HS.out c c0 cn hc)) (hB.trans (hW.mono (Nat.le_of_lt hGs)))
          · have HR : Hid (lt due sq (hp' j2) (hp' i) = true) := hr
            have HL : Hid (∀ w2, Below wr.heap.size wr w2 → Calls Yba.prog 71 #[.pointer (some ⟨B, 12, none⟩), .int .i64 j2, .int .i64 i] w2 fun e w' => e = .returned (.bool true) ∧ Below wr.heap.size w2 w') := by
              intro w2 hw
              have hl := less_at (H'.out.keep hw) j2 i hj2n' hi
              rw [hr] at hl
              exact hl.mono fun e w' ⟨he, hb⟩ => ⟨he, hb.mono hw.size⟩
            clear hr h'
            go_wp2_with fail
            refine Calls.mono HK.out ?_
            rintro e w2 ⟨rfl, hB2⟩
            go_wp2_with fail
            refine Calls.mono (HL.out _ hB2) ?_
            rintro e w3 ⟨rfl, hB3⟩
            go_wp2_with fail
            refine Calls.mono (swap_at (H'.out.keep (hB2.trans hB3)) i j2 hi hj2n' (by omega)) ?_
            rintro e w4 ⟨rfl, h4, hB4⟩
            go_wp2_with fail
            go_roundw
            case rel => exact ⟨j2, swapF hp' i j2, rfl, hj2n', by omega, h4, hD'.step (par_j2 hj1 hj2).1 (par_j2 hj1 hj2).2.1 hj2n' hle (min2 hj1 hj2 HS.out) HR.out, (hB.trans ((hB2.trans hB3).mono (Nat.le_of_lt hGs))).trans hB4⟩
            case measure => simp [intOf]; omega
end Go.Proofs.Ybulkderu
