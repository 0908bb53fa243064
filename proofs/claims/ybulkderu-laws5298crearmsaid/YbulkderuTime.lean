import Derived.Test.YbulkderuRows
import Derived.WalkKit
import Derived.WalkSpells
import Derived.OwnWalk
import Derived.Below
import Derived.WalkSmall
import Derived.BigQuiet
import Derived.Deep.QuietTactic
import Derived.Laws.BitsAll
namespace Go.Proofs.Ybulkderu
open Go.RowKit
set_option linter.unusedVariables false

/-! ### bits -/
theorem and_nsec (x : Int) (h0 : 0 ≤ x) (h1 : x < 1073741824) : bits .and .u64 x 1073741823 = x := by go_bits2
theorem andNot_zero : bits .andNot .u64 0 1073741823 = 0 := by decide
theorem or_zero (x : Int) (h0 : 0 ≤ x) (h1 : x < 18446744073709551616) : bits .or .u64 0 x = x := by
  go_bits2
  simp; omega
theorem and_mono (x : Int) (h0 : 0 ≤ x) (h1 : x < 1073741824) : bits .and .u64 x 9223372036854775808 = 0 := by go_bits2
theorem and_both (x y : Int) (h0 : 0 ≤ x) (h1 : x < 1073741824) (k0 : 0 ≤ y) (k1 : y < 1073741824) : bits .and .u64 (bits .and .u64 x y) 9223372036854775808 = 0 := by
  have e : bits .and .u64 x y = ((x.toNat &&& y.toNat : Nat) : Int) := by go_bits2
  have l : x.toNat &&& y.toNat ≤ x.toNat := Nat.and_le_left
  rw [e]
  exact and_mono _ (by omega) (by omega)

/-! ### the time that lies d nanoseconds behind the zero time -/
def tw (d : Int) : Int := d % 1000000000
def te (d : Int) : Int := d / 1000000000
theorem tw_lo (d : Int) : 0 ≤ tw d := by unfold tw; omega
theorem tw_hi (d : Int) : tw d < 1000000000 := by unfold tw; omega
def timeV (d : Int) : Value := .agg #[.int .u64 (tw d), .int .i64 (te d), .pointer none]

theorem nsec_at (a : Addr) (ha : a.spot = none) (x : Int) (w : World) (h0 : 0 ≤ x) (h1 : x < 1000000000) (hc : w.cell? a = some (.int .u64 x)) :
    Calls Yba.prog 13 #[.pointer (some a)] w fun e w' => e = .returned (.int .i32 x) ∧ w' = w := by
  obtain ⟨b, o, s⟩ := a
  simp at ha
  subst ha
  have e := and_nsec x h0 (by omega)
  go_enter Yba.func13, Yba.ntmps13
  go_wp2
  go_ret
  exact ⟨rfl, rfl⟩

theorem sec_at (b o : Nat) (x y : Int) (w : World) (h0 : 0 ≤ x) (h1 : x < 1000000000) (hc : w.cell? ⟨b, o, none⟩ = some (.int .u64 x)) (hd : w.cell? ⟨b, o + 1, none⟩ = some (.int .i64 y)) :
    Calls Yba.prog 21 #[.pointer (some ⟨b, o, none⟩)] w fun e w' => e = .returned (.int .i64 y) ∧ w' = w := by
  have e := and_mono x h0 (by omega)
  go_enter Yba.func21, Yba.ntmps21
  go_wp2
  go_ret
  exact ⟨rfl, rfl⟩

theorem addSec_at (b : Nat) (x s : Int) (w : World) (h0 : 0 ≤ x) (h1 : x < 1000000000) (hs0 : -10000000000 ≤ s) (hs1 : s ≤ 10000000000) (hc : w.cell? ⟨b, 0, none⟩ = some (.int .u64 x)) (hd : w.cell? ⟨b, 1, none⟩ = some (.int .i64 0)) (hf : w.frozen? ⟨b, 1, none⟩ = false) :
    Calls Yba.prog 14 #[.pointer (some ⟨b, 0, none⟩), .int .i64 s] w fun e w' => e = .returned (.tuple #[]) ∧ w' = w.setCell ⟨b, 1, none⟩ (.int .i64 s) := by
  have e := and_mono x h0 (by omega)
  go_enter Yba.func14, Yba.ntmps14
  go_wp2
  go_end0
  exact ⟨rfl, rfl⟩

set_option maxHeartbeats 1000000 in
theorem add_nonneg (d : Int) (w : World) (h0 : 0 ≤ d) (h1 : d ≤ 9223372036854775807) :
    Calls Yba.prog 4 #[.agg #[.int .u64 0, .int .i64 0, .pointer none], .int .i64 d] w fun e w' => e = .returned (timeV d) ∧ Below w.heap.size w w' := by
  have e0 := andNot_zero
  have e1 := or_zero (d % 1000000000) (by omega) (by omega)
  have e2 := and_mono (d % 1000000000) (by omega) (by omega)
  go_enter Yba.func4, Yba.ntmps4
  go_wp2_with (first
    | (go_at_call 13; refine (nsec_at ⟨w.heap.size, 0, none⟩ rfl 0 _ (by omega) (by omega) (by simp)).mono ?_; rintro e w' ⟨rfl, rfl⟩)
    | (go_at_call 14; refine (addSec_at w.heap.size (d % 1000000000) (d / 1000000000) _ (by omega) (by omega) (by omega) (by omega) (by simp) (by simp) (by simp)).mono ?_; rintro e w' ⟨rfl, rfl⟩))
  exact bodyPost_ret (v := timeV d) (by simp [results, Yba.results4, go_sem, timeV, tw, te]) rfl ⟨rfl, ((Below.refl _ w).alloc (Nat.le_refl _) _).alloc (by simp) _⟩

set_option maxHeartbeats 1000000 in
theorem add_neg (d q r : Int) (w : World) (h0 : d < 0) (h1 : -9223372036854775808 ≤ d) (hq : d.tdiv 1000000000 = q) (hr : d.tmod 1000000000 = r) (hq1 : -10000000000 < q) (hq2 : q ≤ 0) (hr1 : r < 0) (hr2 : -1000000000 < r) :
    Calls Yba.prog 4 #[.agg #[.int .u64 0, .int .i64 0, .pointer none], .int .i64 d] w fun e w' => e = .returned (.agg #[.int .u64 (r + 1000000000), .int .i64 (q - 1), .pointer none]) ∧ Below w.heap.size w w' := by
  have e0 := andNot_zero
  have e1 := or_zero (r + 1000000000) (by omega) (by omega)
  have e2 := and_mono (r + 1000000000) (by omega) (by omega)
  go_enter Yba.func4, Yba.ntmps4
  go_wp2_with (first
    | (go_at_call 13; refine (nsec_at ⟨w.heap.size, 0, none⟩ rfl 0 _ (by omega) (by omega) (by simp)).mono ?_; rintro e w' ⟨rfl, rfl⟩)
    | (go_at_call 14; refine (addSec_at w.heap.size (r + 1000000000) (q - 1) _ (by omega) (by omega) (by omega) (by omega) (by simp) (by simp) (by simp)).mono ?_; rintro e w' ⟨rfl, rfl⟩))
  exact bodyPost_ret (v := .agg #[.int .u64 (r + 1000000000), .int .i64 (q - 1), .pointer none]) (by simp [results, Yba.results4, go_sem]) rfl ⟨rfl, ((Below.refl _ w).alloc (Nat.le_refl _) _).alloc (by simp) _⟩

set_option maxHeartbeats 1000000 in
theorem add_neg0 (d q : Int) (w : World) (h0 : d < 0) (h1 : -9223372036854775808 ≤ d) (hq : d.tdiv 1000000000 = q) (hr : d.tmod 1000000000 = 0) (hq1 : -10000000000 < q) (hq2 : q ≤ 0) :
    Calls Yba.prog 4 #[.agg #[.int .u64 0, .int .i64 0, .pointer none], .int .i64 d] w fun e w' => e = .returned (.agg #[.int .u64 0, .int .i64 q, .pointer none]) ∧ Below w.heap.size w w' := by
  have e0 := andNot_zero
  have e1 := or_zero 0 (by omega) (by omega)
  have e2 := and_mono 0 (by omega) (by omega)
  go_enter Yba.func4, Yba.ntmps4
  go_wp2_with (first
    | (go_at_call 13; refine (nsec_at ⟨w.heap.size, 0, none⟩ rfl 0 _ (by omega) (by omega) (by simp)).mono ?_; rintro e w' ⟨rfl, rfl⟩)
    | (go_at_call 14; refine (addSec_at w.heap.size 0 q _ (by omega) (by omega) (by omega) (by omega) (by simp) (by simp) (by simp)).mono ?_; rintro e w' ⟨rfl, rfl⟩))
  exact bodyPost_ret (v := .agg #[.int .u64 0, .int .i64 q, .pointer none]) (by simp [results, Yba.results4, go_sem]) rfl ⟨rfl, ((Below.refl _ w).alloc (Nat.le_refl _) _).alloc (by simp) _⟩

/-- the zero time, d nanoseconds on. -/
theorem add_zero (d : Int) (w : World) (h0 : -9223372036854775808 ≤ d) (h1 : d ≤ 9223372036854775807) :
    Calls Yba.prog 4 #[.agg #[.int .u64 0, .int .i64 0, .pointer none], .int .i64 d] w fun e w' => e = .returned (timeV d) ∧ Below w.heap.size w w' := by
  by_cases hd : 0 ≤ d
  · exact add_nonneg d w hd h1
  · obtain ⟨m, rfl⟩ : ∃ m, d = -m := ⟨-d, by omega⟩
    have hq : (-m).tdiv 1000000000 = -(m / 1000000000) := by rw [Int.neg_tdiv, Int.tdiv_eq_ediv_of_nonneg (by omega)]
    have hr : (-m).tmod 1000000000 = -(m % 1000000000) := by rw [Int.neg_tmod, Int.tmod_eq_emod_of_nonneg (by omega)]
    by_cases hz : m % 1000000000 = 0
    · have := add_neg0 (-m) _ w (by omega) h0 hq (by rw [hr, hz]; rfl) (by omega) (by omega)
      have e : timeV (-m) = .agg #[.int .u64 0, .int .i64 (-(m / 1000000000)), .pointer none] := by
        rw [timeV, tw, te, show -m % 1000000000 = 0 by omega, show -m / 1000000000 = -(m / 1000000000) by omega]
      rw [e]
      exact this
    · have := add_neg (-m) _ _ w (by omega) h0 hq hr (by omega) (by omega) (by omega) (by omega)
      have e : timeV (-m) = .agg #[.int .u64 (-(m % 1000000000) + 1000000000), .int .i64 (-(m / 1000000000) - 1), .pointer none] := by
        rw [timeV, tw, te, show -m % 1000000000 = -(m % 1000000000) + 1000000000 by omega, show -m / 1000000000 = -(m / 1000000000) - 1 by omega]
      rw [e]
      exact this

theorem tw_te (a b : Int) (h1 : te a = te b) (h2 : tw a = tw b) : a = b := by unfold te tw at *; omega

set_option maxHeartbeats 1000000 in
theorem equal_same (a : Int) (w : World) :
    Calls Yba.prog 11 #[timeV a, timeV a] w fun e w' => e = .returned (.bool true) ∧ Below w.heap.size w w' := by
  have l0 := tw_lo a
  have l1 := tw_hi a
  have e1 := and_both (tw a) (tw a) l0 (by omega) l0 (by omega)
  unfold timeV
  generalize tw a = x at *
  generalize te a = y at *
  go_enter Yba.func11, Yba.ntmps11
  go_wp2_with fail
  refine (sec_at w.heap.size 0 x y _ l0 l1 (by simp) (by simp)).mono ?_
  rintro e w' ⟨rfl, rfl⟩
  go_wp2_with fail
  refine (sec_at (w.heap.size + 1) 0 x y _ l0 l1 (by simp) (by simp)).mono ?_
  rintro e w' ⟨rfl, rfl⟩
  go_wp2_with fail
  refine (nsec_at ⟨w.heap.size, 0, none⟩ rfl x _ l0 l1 (by simp)).mono ?_
  rintro e w' ⟨rfl, rfl⟩
  go_wp2_with fail
  refine (nsec_at ⟨w.heap.size + 1, 0, none⟩ rfl x _ l0 l1 (by simp)).mono ?_
  rintro e w' ⟨rfl, rfl⟩
  go_wp2
  go_ret
  exact ⟨rfl, ((Below.refl _ w).alloc (Nat.le_refl _) _).alloc (by simp) _⟩

/-- Compare, where the seconds part the two. -/
theorem compare_sec (x1 y1 x2 y2 r : Int) (w : World) (l0 : 0 ≤ x1) (l1 : x1 < 1000000000) (k0 : 0 ≤ x2) (k1 : x2 < 1000000000) (hne : ¬ y1 = y2) (hr : (y1 < y2 ∧ r = -1) ∨ (y2 < y1 ∧ r = 1)) :
    Calls Yba.prog 75 #[.agg #[.int .u64 x1, .int .i64 y1, .pointer none], .agg #[.int .u64 x2, .int .i64 y2, .pointer none]] w fun e w' => e = .returned (.int .i64 r) ∧ w' = (w.alloc (.cells #[.int .u64 x1, .int .i64 y1, .pointer none] 27)).alloc (.cells #[.int .u64 x2, .int .i64 y2, .pointer none] 27) := by
  have e1 := and_both x1 x2 l0 (by omega) k0 (by omega)
  have hneB : (y1 == y2) = false := by simpa using hne
  have HR : Hid ((y1 < y2 ∧ r = -1) ∨ (y2 < y1 ∧ r = 1)) := hr
  clear hr
  go_enter Yba.func75, Yba.ntmps75
  go_wp2_with fail
  refine (sec_at w.heap.size 0 x1 y1 _ l0 l1 (by simp) (by simp)).mono ?_
  rintro e w' ⟨rfl, rfl⟩
  go_wp2_with fail
  refine (sec_at (w.heap.size + 1) 0 x2 y2 _ k0 k1 (by simp) (by simp)).mono ?_
  rintro e w' ⟨rfl, rfl⟩
  rcases HR.out with ⟨hl, rfl⟩ | ⟨hl, rfl⟩
  · go_wp2
    go_ret
    exact ⟨rfl, rfl⟩
  · have hl' : ¬ y1 < y2 := by omega
    go_wp2
    go_ret
    exact ⟨rfl, rfl⟩

theorem compare_nsec (x1 x2 y r : Int) (w : World) (l0 : 0 ≤ x1) (l1 : x1 < 1000000000) (k0 : 0 ≤ x2) (k1 : x2 < 1000000000) (hr : (x1 < x2 ∧ r = -1) ∨ (x2 < x1 ∧ r = 1) ∨ (x1 = x2 ∧ r = 0)) :
    Calls Yba.prog 75 #[.agg #[.int .u64 x1, .int .i64 y, .pointer none], .agg #[.int .u64 x2, .int .i64 y, .pointer none]] w fun e w' => e = .returned (.int .i64 r) ∧ w' = (w.alloc (.cells #[.int .u64 x1, .int .i64 y, .pointer none] 27)).alloc (.cells #[.int .u64 x2, .int .i64 y, .pointer none] 27) := by
  have e1 := and_both x1 x2 l0 (by omega) k0 (by omega)
  have HR : Hid ((x1 < x2 ∧ r = -1) ∨ (x2 < x1 ∧ r = 1) ∨ (x1 = x2 ∧ r = 0)) := hr
  clear hr
  go_enter Yba.func75, Yba.ntmps75
  go_wp2_with fail
  refine (sec_at w.heap.size 0 x1 y _ l0 l1 (by simp) (by simp)).mono ?_
  rintro e w' ⟨rfl, rfl⟩
  go_wp2_with fail
  refine (sec_at (w.heap.size + 1) 0 x2 y _ k0 k1 (by simp) (by simp)).mono ?_
  rintro e w' ⟨rfl, rfl⟩
  go_wp2_with fail
  refine (nsec_at ⟨w.heap.size, 0, none⟩ rfl x1 _ l0 l1 (by simp)).mono ?_
  rintro e w' ⟨rfl, rfl⟩
  go_wp2_with fail
  refine (nsec_at ⟨w.heap.size + 1, 0, none⟩ rfl x2 _ k0 k1 (by simp)).mono ?_
  rintro e w' ⟨rfl, rfl⟩
  rcases HR.out with ⟨hl, rfl⟩ | ⟨hl, rfl⟩ | ⟨rfl, rfl⟩
  · go_wp2
    go_ret
    exact ⟨rfl, rfl⟩
  · have hl' : ¬ x1 < x2 := by omega
    go_wp2
    go_ret
    exact ⟨rfl, rfl⟩
  · go_wp2
    go_ret
    exact ⟨rfl, rfl⟩

/-- -1, 0, 1. -/
def cmpI (a b : Int) : Int := if a < b then -1 else if b < a then 1 else 0

def timeO (d : Int) : Obj := .cells #[.int .u64 (tw d), .int .i64 (te d), .pointer none] 27
theorem compare_any (a b : Int) (w : World) : Calls Yba.prog 75 #[timeV a, timeV b] w fun e w' => e = .returned (.int .i64 (cmpI a b)) ∧ w' = (w.alloc (timeO a)).alloc (timeO b) := by
  by_cases he : te a = te b
  · have h := compare_nsec (tw a) (tw b) (te b) (cmpI a b) w (tw_lo a) (tw_hi a) (tw_lo b) (tw_hi b) (by unfold cmpI; unfold te at he; unfold tw; omega)
    unfold timeV timeO
    rw [he]
    exact h
  · exact compare_sec (tw a) (te a) (tw b) (te b) (cmpI a b) w (tw_lo a) (tw_hi a) (tw_lo b) (tw_hi b) he (by unfold cmpI; unfold te at *; omega)

/-! ### cmp.Compare, cmp.Or -/
theorem cmp64 (a b : Int) (w : World) : Calls Yba.prog 7 #[.int .i64 a, .int .i64 b] w fun e w' => e = .returned (.int .i64 (cmpI a b)) ∧ w' = w := by
  unfold cmpI
  by_cases h1 : a < b
  · rw [if_pos h1]
    go_enter Yba.func7, Yba.ntmps7
    go_wp2
    go_ret
    exact ⟨rfl, rfl⟩
  · rw [if_neg h1]
    by_cases h2 : b < a
    · rw [if_pos h2]
      go_enter Yba.func7, Yba.ntmps7
      go_wp2
      go_ret
      exact ⟨rfl, rfl⟩
    · rw [if_neg h2]
      go_enter Yba.func7, Yba.ntmps7
      go_wp2
      go_ret
      exact ⟨rfl, rfl⟩
theorem cmpInt (a b : Int) (w : World) : Calls Yba.prog 8 #[.int .i64 a, .int .i64 b] w fun e w' => e = .returned (.int .i64 (cmpI a b)) ∧ w' = w := by
  unfold cmpI
  by_cases h1 : a < b
  · rw [if_pos h1]
    go_enter Yba.func8, Yba.ntmps8
    go_wp2
    go_ret
    exact ⟨rfl, rfl⟩
  · rw [if_neg h1]
    by_cases h2 : b < a
    · rw [if_pos h2]
      go_enter Yba.func8, Yba.ntmps8
      go_wp2
      go_ret
      exact ⟨rfl, rfl⟩
    · rw [if_neg h2]
      go_enter Yba.func8, Yba.ntmps8
      go_wp2
      go_ret
      exact ⟨rfl, rfl⟩
end Go.Proofs.Ybulkderu
