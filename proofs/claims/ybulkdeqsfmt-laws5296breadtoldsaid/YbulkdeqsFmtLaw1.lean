import Derived.Test.YbulkdeqsFmtLaw0
namespace Go.Proofs.YbulkdeqsFmt
open Go.RowKit Go.Extern.Stop Go.Stop Go.Extern
set_option linter.unusedVariables false

theorem bCell {w w5 : World} {da : Option Addr} {dlen dcap ch : Nat} {fv : Value} {xs : List Int} {L g : Nat} (h : St (w1Of w) (w.heap.size + 1) (w.heap.size + 1 + 1) da dlen dcap ch fv xs L g w5) (hx : xs.length = dlen) (j : Nat) (hgL : g ≤ L) (hgd : g ≤ dlen) (hj : j < g) :
    w5.cell? ⟨w.heap.size + 1 + 1, j, none⟩ = some (.int .u8 (xs.getD j 0)) := by
  rw [h.cellB j hgL (by omega) (by omega), if_pos hj]
theorem mCell {w w5 : World} {da : Option Addr} {dlen dcap ch : Nat} {fv : Value} {xs : List Int} {L g : Nat} (h : St (w1Of w) (w.heap.size + 1) (w.heap.size + 1 + 1) da dlen dcap ch fv xs L g w5) (hx : xs.length = dlen) (j : Nat) (hgL : g ≤ L) (hgd : g ≤ dlen) (hj : j < L) (hgj : g ≤ j) :
    w5.cell? ⟨w.heap.size + 1 + 1, j, none⟩ = some (.int .u8 165) := by
  rw [h.cellB j hgL (by omega) hj, if_neg (by omega)]
theorem dCell {w w5 : World} {db doff dlen dcap ch : Nat} {da : Option Addr} {fv : Value} {xs : List Int} {L g : Nat} (h : St (w1Of w) (w.heap.size + 1) (w.heap.size + 1 + 1) da dlen dcap ch fv xs L g w5)
    (hc : ∀ j, j < dlen → w.cell? ⟨db, doff + j, none⟩ = some (.int .u8 (xs.getD j 0))) (hdb : db < w.heap.size) (j : Nat) (hj : j < dlen) : w5.cell? ⟨db, doff + j, none⟩ = some (.int .u8 (xs.getD j 0)) :=
  (h.below.cell (p := ⟨db, doff + j, none⟩) (by show db < _; omega)).trans (w1Of_cell w (hc j hj) hdb)
theorem finB {w w5 : World} {da : Option Addr} {dlen dcap ch : Nat} {fv : Value} {xs : List Int} {L g : Nat} (h : St (w1Of w) (w.heap.size + 1) (w.heap.size + 1 + 1) da dlen dcap ch fv xs L g w5) (n : Nat) : Below w.heap.size w (w5.drewN n) :=
  below_drewN (((Below.refl _ w).alloc (Nat.le_refl _) _).trans (h.below.mono (by omega))) n

set_option maxHeartbeats 2000000 in
theorem law_eof (db doff dlen dcap ch : Nat) (c : Int) (ae au : Addr) (xs : List Int) (L : Nat) (w : World)
    (hlen : (dlen : Int) ≤ 1024) (hx : xs.length = dlen) (hdb : db < w.heap.size) (hcell : ∀ j, j < dlen → w.cell? ⟨db, doff + j, none⟩ = some (.int .u8 (xs.getD j 0))) (hD : DataIn w (some ⟨db, doff, none⟩) dlen dcap xs)
    (hL : L ≤ 255) (hc0 : 0 ≤ c) (hc255 : c ≤ 255) (hch : 1 + c % 8 = (ch : Int)) (hT : Two w ae au) :
    Calls Ybaf.prog 3 #[.slice (some ⟨db, doff, none⟩) dlen dcap, .int .u8 L, .int .u8 c, .bool false] w fun e w' => e = .returned (.bool true) ∧ Below w.heap.size w w' := by
  obtain ⟨i0, hi, hz0, hz1, hz2⟩ := info_parts info5
  have HX : Hid (xs.length = dlen) := hx
  have HC : Hid (∀ j, j < dlen → w.cell? ⟨db, doff + j, none⟩ = some (.int .u8 (xs.getD j 0))) := hcell
  have g0 := hT.g0
  have h3 := hT.three
  have h3' : 0 < w.heap.size := by omega
  clear hcell hx
  go_enter Ybaf.func3, Ybaf.ntmps3
  go_wp2_with (first
    | (go_at_call 4; refine (new_err _ _).mono ?_; rintro e w' ⟨rfl, rfl⟩)
    | (at_make; refine wpList_make_full _ rfl _ _ 22 rfl (w.heap.size + 1 + 1) 5 i0 (.int .u8 0) 1 Ybaf.underlying22 hi hz0 hz1 .i64 .i64 _ _ L rfl rfl rfl rfl (by rw [hz2]; omega) (by unfold maxLen; omega) (by simp) ?_; intro w2 hown hg))
  simp only [World.size_alloc] at hown
  have hF0 : Fill (w1Of w) (w.heap.size + 1) (w.heap.size + 1 + 1) (some ⟨db, doff, none⟩) dlen dcap ch (.iface 33 (.pointer (some ae))) L 0 w2 := Fill.start hown hg
  clear hown hg hi hz0 hz1 hz2 g0
  go_loopw [39] (fun i wr => ∃ k : Nat, k ≤ L ∧ i = .int .i64 k ∧ Fill (w1Of w) (w.heap.size + 1) (w.heap.size + 1 + 1) (some ⟨db, doff, none⟩) dlen dcap ch (.iface 33 (.pointer (some ae))) L k wr) (fun i _ => L - (intOf i).toNat)
  case atStart => exact ⟨0, Nat.zero_le _, rfl, hF0⟩
  case round =>
    obtain ⟨k, hk, rfl, hF⟩ := hrel
    clear hF0
    by_cases hlt : k < L
    · have hltI : (k : Int) < (L : Int) := by omega
      have q1 := hF.own.frozenAt k
      have q2 : ∃ v, wr.cell? ⟨w.heap.size + 1 + 1, k, none⟩ = some v := by
        have hkl : k < ((fillList L k).map (Value.int .u8)).length := by simp [fillList]; omega
        exact ⟨_, (hF.own.cellAt k (by omega)).trans (List.getElem?_eq_getElem hkl)⟩
      obtain ⟨v, q2⟩ := q2
      go_wp2
      go_roundw
      case rel => exact ⟨k + 1, by omega, by go_num, hF.step (by omega) hlt⟩
      case measure => simp [intOf]; omega
    · obtain rfl : k = L := by omega
      go_wp2_with fail
      refine Calls.mono (call_eof w (some ⟨db, doff, none⟩) dlen dcap ch ae au xs k wr hT hD hL (by omega) (by omega) (hF.done xs)) ?_
      clear hF
      rintro e w5 (⟨h1, rfl, hS⟩ | ⟨h1, rfl, hS⟩)
      · have p1 := hS.pos
        go_wp2
        go_loopw [17] (fun i wq => ∃ j : Nat, j ≤ k ∧ i = .int .i64 j ∧ ∃ q, wq = w5.drewN q) (fun i _ => k - (intOf i).toNat)
        case atStart => exact ⟨0, Nat.zero_le _, rfl, 0, rfl⟩
        case round =>
          obtain ⟨j, hj, rfl, q, rfl⟩ := hrel
          by_cases hjl : j < k
          · have b1 := bCell hS HX.out j (by omega) (by omega) hjl
            have b2 := dCell hS HC.out hdb j (by omega)
            have hjI : (j : Int) < (k : Int) := by omega
            go_wp2_with fail
            go_quiet (fail)
            go_wp2
            go_roundw
            case rel => exact ⟨j + 1, by omega, by go_num, _, rfl⟩
            case measure => simp [intOf]; omega
          · go_wp2
            refine wp_loop_rounds 1 ?_
            rw [rounds_succ]
            go_wp2
            go_ret
            exact ⟨rfl, finB hS _⟩
      · have p1 := hS.pos
        go_wp2
        go_loopw [17] (fun i wq => ∃ j : Nat, j ≤ dlen ∧ i = .int .i64 j ∧ ∃ q, wq = w5.drewN q) (fun i _ => dlen - (intOf i).toNat)
        case atStart => exact ⟨0, Nat.zero_le _, rfl, 0, rfl⟩
        case round =>
          obtain ⟨j, hj, rfl, q, rfl⟩ := hrel
          by_cases hjl : j < dlen
          · have b1 := bCell hS HX.out j (by omega) (by omega) hjl
            have b2 := dCell hS HC.out hdb j (by omega)
            have hjI : (j : Int) < (dlen : Int) := by omega
            go_wp2_with fail
            go_quiet (fail)
            go_wp2
            go_roundw
            case rel => exact ⟨j + 1, by omega, by go_num, _, rfl⟩
            case measure => simp [intOf]; omega
          · go_wp2
            go_loopw [18] (fun i wq => ∃ m : Nat, dlen ≤ m ∧ m ≤ k ∧ i = .int .i64 m ∧ ∃ q, wq = w5.drewN q) (fun i _ => k - (intOf i).toNat)
            case atStart => exact ⟨dlen, Nat.le_refl _, by omega, rfl, _, rfl⟩
            case round =>
              obtain ⟨m, hm1, hm2, rfl, q2, rfl⟩ := hrel
              by_cases hml : m < k
              · have b1 := mCell hS HX.out m (by omega) (by omega) hml hm1
                have hmI : (m : Int) < (k : Int) := by omega
                go_wp2
                go_roundw
                case rel => exact ⟨m + 1, by omega, by omega, by go_num, _, rfl⟩
                case measure => simp [intOf]; omega
              · go_wp2
                go_ret
                exact ⟨rfl, finB hS _⟩
end Go.Proofs.YbulkdeqsFmt
