import Derived.Test.YbulkdeqsFmtLaw1
namespace Go.Proofs.YbulkdeqsFmt
open Go.RowKit Go.Extern.Stop Go.Stop Go.Extern
set_option linter.unusedVariables false

set_option maxHeartbeats 2000000 in
theorem law_mine (F : Interp) (db doff dlen dcap ch : Nat) (c : Int) (ae au : Addr) (xs : List Int) (L : Nat) (w : World)
    (hlen : (dlen : Int) ≤ 1024) (hx : xs.length = dlen) (hdb : db < w.heap.size) (hcell : ∀ j, j < dlen → w.cell? ⟨db, doff + j, none⟩ = some (.int .u8 (xs.getD j 0))) (hD : DataIn w (some ⟨db, doff, none⟩) dlen dcap xs)
    (hL : L ≤ 255) (hc0 : 0 ≤ c) (hc255 : c ≤ 255) (hch : 1 + c % 8 = (ch : Int)) (hT : Two w ae au) (hF : F.answers w.tape) :
    Calls Ybaf.prog 3 #[.slice (some ⟨db, doff, none⟩) dlen dcap, .int .u8 L, .int .u8 c, .bool true] w fun e w' => e = .returned (.bool true) ∧ Below w.heap.size w w' := by
  obtain ⟨i0, hi, hz0, hz1, hz2⟩ := info_parts info5
  have HX : Hid (xs.length = dlen) := hx
  have HC : Hid (∀ j, j < dlen → w.cell? ⟨db, doff + j, none⟩ = some (.int .u8 (xs.getD j 0))) := hcell
  have g0 := hT.g0
  have h3 := hT.three
  have h3' : 0 < w.heap.size := by omega
  clear hcell hx
  have HFF : Hid (F.answers w.tape) := hF
  clear hF
  go_enter Ybaf.func3, Ybaf.ntmps3
  go_wp2_with (first
    | (go_at_call 4; refine (new_err _ _).mono ?_; rintro e w' ⟨rfl, rfl⟩)
    | (at_make; refine wpList_make_full _ rfl _ _ 22 rfl (w.heap.size + 1 + 1) 5 i0 (.int .u8 0) 1 Ybaf.underlying22 hi hz0 hz1 .i64 .i64 _ _ L rfl rfl rfl rfl (by rw [hz2]; omega) (by unfold maxLen; omega) (by simp) ?_; intro w2 hown hg))
  simp only [World.size_alloc] at hown
  have hF0 : Fill (w1Of w) (w.heap.size + 1) (w.heap.size + 1 + 1) (some ⟨db, doff, none⟩) dlen dcap ch (.iface 33 (.pointer (some ⟨w.heap.size, 0, none⟩))) L 0 w2 := Fill.start hown hg
  clear hown hg hi hz0 hz1 hz2 g0
  go_loopw [39] (fun i wr => ∃ k : Nat, k ≤ L ∧ i = .int .i64 k ∧ Fill (w1Of w) (w.heap.size + 1) (w.heap.size + 1 + 1) (some ⟨db, doff, none⟩) dlen dcap ch (.iface 33 (.pointer (some ⟨w.heap.size, 0, none⟩))) L k wr) (fun i _ => L - (intOf i).toNat)
  case atStart => exact ⟨0, Nat.zero_le _, rfl, hF0⟩
  case round =>
    obtain ⟨k, hk, rfl, hF⟩ := hrel
    clear hF0
    by_cases hlt : k < L
    · have hltI : (k : Int) < (L : Int) := by omega
      have q1 := hF.own.frozenAt k
      have q2 : ∃ v, wr.cell? ⟨w.heap.size + 1 + 1, k, none⟩ = some v := by
        have hkl : k < ((fillList L k).map (Value.int .u8)).length := by simp [fillList]; omega
        exact ⟨_, (hF.own.cellAt k (by omega)).trans (List.getElem?_eq_getElem hkl)⟩
      obtain ⟨v, q2⟩ := q2
      go_wp2
      go_roundw
      case rel => exact ⟨k + 1, by omega, by go_num, hF.step (by omega) hlt⟩
      case measure => simp [intOf]; omega
    · obtain rfl : k = L := by omega
      go_wp2_with fail
      refine Calls.mono (call_mine F w (some ⟨db, doff, none⟩) dlen dcap ch ae au xs k wr HFF.out hT hD hL (by omega) (by omega) (hF.done xs)) ?_
      clear hF
      rintro e w5 (⟨h1, rfl, hS⟩ | ⟨h1, p, rfl, hp, hS⟩)
      · have p1 := hS.pos
        go_wp2
        go_loopw [17] (fun i wq => ∃ j : Nat, j ≤ k ∧ i = .int .i64 j ∧ ∃ q, wq = w5.drewN q) (fun i _ => k - (intOf i).toNat)
        case atStart => exact ⟨0, Nat.zero_le _, rfl, 0, rfl⟩
        case round =>
          obtain ⟨j, hj, rfl, q, rfl⟩ := hrel
          by_cases hjl : j < k
          · have b1 := bCell hS HX.out j (by omega) (by omega) hjl
            have b2 := dCell hS HC.out hdb j (by omega)
            have hjI : (j : Int) < (k : Int) := by omega
            go_wp2_with fail
            go_quiet (fail)
            go_wp2
            go_roundw
            case rel => exact ⟨j + 1, by omega, by go_num, _, rfl⟩
            case measure => simp [intOf]; omega
          · go_wp2
            refine wp_loop_rounds 1 ?_
            rw [rounds_succ]
            go_wp2
            go_ret
            exact ⟨rfl, finB hS _⟩
      · have p1 := hS.pos
        go_wp2
        go_loopw [17] (fun i wq => ∃ j : Nat, j ≤ dlen ∧ i = .int .i64 j ∧ ∃ q, wq = w5.drewN q) (fun i _ => dlen - (intOf i).toNat)
        case atStart => exact ⟨0, Nat.zero_le _, rfl, 0, rfl⟩
        case round =>
          obtain ⟨j, hj, rfl, q, rfl⟩ := hrel
          by_cases hjl : j < dlen
          · have b1 := bCell hS HX.out j (by omega) (by omega) hjl
            have b2 := dCell hS HC.out hdb j (by omega)
            have hjI : (j : Int) < (dlen : Int) := by omega
            go_wp2_with fail
            go_quiet (fail)
            go_wp2
            go_roundw
            case rel => exact ⟨j + 1, by omega, by go_num, _, rfl⟩
            case measure => simp [intOf]; omega
          · go_wp2
            go_loopw [18] (fun i wq => ∃ m : Nat, dlen ≤ m ∧ m ≤ k ∧ i = .int .i64 m ∧ ∃ q, wq = w5.drewN q) (fun i _ => k - (intOf i).toNat)
            case atStart => exact ⟨dlen, Nat.le_refl _, by omega, rfl, _, rfl⟩
            case round =>
              obtain ⟨m, hm1, hm2, rfl, q2, rfl⟩ := hrel
              by_cases hml : m < k
              · have b1 := mCell hS HX.out m (by omega) (by omega) hml hm1
                have hmI : (m : Int) < (k : Int) := by omega
                go_wp2
                go_roundw
                case rel => exact ⟨m + 1, by omega, by omega, by go_num, _, rfl⟩
                case measure => simp [intOf]; omega
              · go_wp2_with (go_at_call 6; refine (is_wrap_same p 0 ⟨w.heap.size, 0, none⟩ _ (by exact hp)).mono ?_; rintro e w6 ⟨rfl, rfl⟩)
                go_ret
                exact ⟨rfl, finB hS _⟩

set_option maxHeartbeats 2000000 in
theorem zero_eof (da : Option Addr) (dcap ch : Nat) (c : Int) (ae au : Addr) (xs : List Int) (L : Nat) (w : World)
    (hx : xs.length = 0) (hD : DataIn w da 0 dcap xs)
    (hL : L ≤ 255) (hc0 : 0 ≤ c) (hc255 : c ≤ 255) (hch : 1 + c % 8 = (ch : Int)) (hT : Two w ae au) :
    Calls Ybaf.prog 3 #[.slice da 0 dcap, .int .u8 L, .int .u8 c, .bool false] w fun e w' => e = .returned (.bool true) ∧ Below w.heap.size w w' := by
  obtain ⟨i0, hi, hz0, hz1, hz2⟩ := info_parts info5
  have HX : Hid (xs.length = 0) := hx
  have g0 := hT.g0
  have h3 := hT.three
  have h3' : 0 < w.heap.size := by omega
  clear hx
  go_enter Ybaf.func3, Ybaf.ntmps3
  go_wp2_with (first
    | (go_at_call 4; refine (new_err _ _).mono ?_; rintro e w' ⟨rfl, rfl⟩)
    | (at_make; refine wpList_make_full _ rfl _ _ 22 rfl (w.heap.size + 1 + 1) 5 i0 (.int .u8 0) 1 Ybaf.underlying22 hi hz0 hz1 .i64 .i64 _ _ L rfl rfl rfl rfl (by rw [hz2]; omega) (by unfold maxLen; omega) (by simp) ?_; intro w2 hown hg))
  simp only [World.size_alloc] at hown
  have hF0 : Fill (w1Of w) (w.heap.size + 1) (w.heap.size + 1 + 1) da 0 dcap ch (.iface 33 (.pointer (some ae))) L 0 w2 := Fill.start hown hg
  clear hown hg hi hz0 hz1 hz2 g0
  go_loopw [39] (fun i wr => ∃ k : Nat, k ≤ L ∧ i = .int .i64 k ∧ Fill (w1Of w) (w.heap.size + 1) (w.heap.size + 1 + 1) da 0 dcap ch (.iface 33 (.pointer (some ae))) L k wr) (fun i _ => L - (intOf i).toNat)
  case atStart => exact ⟨0, Nat.zero_le _, rfl, hF0⟩
  case round =>
    obtain ⟨k, hk, rfl, hF⟩ := hrel
    clear hF0
    by_cases hlt : k < L
    · have hltI : (k : Int) < (L : Int) := by omega
      have q1 := hF.own.frozenAt k
      have q2 : ∃ v, wr.cell? ⟨w.heap.size + 1 + 1, k, none⟩ = some v := by
        have hkl : k < ((fillList L k).map (Value.int .u8)).length := by simp [fillList]; omega
        exact ⟨_, (hF.own.cellAt k (by omega)).trans (List.getElem?_eq_getElem hkl)⟩
      obtain ⟨v, q2⟩ := q2
      go_wp2
      go_roundw
      case rel => exact ⟨k + 1, by omega, by go_num, hF.step (by omega) hlt⟩
      case measure => simp [intOf]; omega
    · obtain rfl : k = L := by omega
      go_wp2_with fail
      refine Calls.mono (call_eof w da 0 dcap ch ae au xs k wr hT hD hL (by omega) (by omega) (hF.done xs)) ?_
      clear hF
      rintro e w5 (⟨h1, rfl, hS⟩ | ⟨h1, rfl, hS⟩)
      · obtain rfl : k = 0 := by omega
        have p1 := hS.pos
        go_wp2
        refine wp_loop_rounds 1 ?_
        rw [rounds_succ]
        go_wp2
        refine wp_loop_rounds 1 ?_
        rw [rounds_succ]
        go_wp2
        go_ret
        exact ⟨rfl, finB hS 0⟩
      · have p1 := hS.pos
        go_wp2
        refine wp_loop_rounds 1 ?_
        rw [rounds_succ]
        go_wp2
        go_loopw [18] (fun i wq => ∃ m : Nat, 0 ≤ m ∧ m ≤ k ∧ i = .int .i64 m ∧ ∃ q, wq = w5.drewN q) (fun i _ => k - (intOf i).toNat)
        case atStart => exact ⟨0, Nat.le_refl _, by omega, rfl, 0, rfl⟩
        case round =>
          obtain ⟨m, hm1, hm2, rfl, q2, rfl⟩ := hrel
          by_cases hml : m < k
          · have b1 := mCell hS HX.out m (by omega) (by omega) hml hm1
            have hmI : (m : Int) < (k : Int) := by omega
            go_wp2
            go_roundw
            case rel => exact ⟨m + 1, by omega, by omega, by go_num, _, rfl⟩
            case measure => simp [intOf]; omega
          · go_wp2
            go_ret
            exact ⟨rfl, finB hS _⟩

set_option maxHeartbeats 2000000 in
theorem zero_mine (F : Interp) (da : Option Addr) (dcap ch : Nat) (c : Int) (ae au : Addr) (xs : List Int) (L : Nat) (w : World)
    (hx : xs.length = 0) (hD : DataIn w da 0 dcap xs)
    (hL : L ≤ 255) (hc0 : 0 ≤ c) (hc255 : c ≤ 255) (hch : 1 + c % 8 = (ch : Int)) (hT : Two w ae au) (hF : F.answers w.tape) :
    Calls Ybaf.prog 3 #[.slice da 0 dcap, .int .u8 L, .int .u8 c, .bool true] w fun e w' => e = .returned (.bool true) ∧ Below w.heap.size w w' := by
  obtain ⟨i0, hi, hz0, hz1, hz2⟩ := info_parts info5
  have HX : Hid (xs.length = 0) := hx
  have g0 := hT.g0
  have h3 := hT.three
  have h3' : 0 < w.heap.size := by omega
  clear hx
  have HFF : Hid (F.answers w.tape) := hF
  clear hF
  go_enter Ybaf.func3, Ybaf.ntmps3
  go_wp2_with (first
    | (go_at_call 4; refine (new_err _ _).mono ?_; rintro e w' ⟨rfl, rfl⟩)
    | (at_make; refine wpList_make_full _ rfl _ _ 22 rfl (w.heap.size + 1 + 1) 5 i0 (.int .u8 0) 1 Ybaf.underlying22 hi hz0 hz1 .i64 .i64 _ _ L rfl rfl rfl rfl (by rw [hz2]; omega) (by unfold maxLen; omega) (by simp) ?_; intro w2 hown hg))
  simp only [World.size_alloc] at hown
  have hF0 : Fill (w1Of w) (w.heap.size + 1) (w.heap.size + 1 + 1) da 0 dcap ch (.iface 33 (.pointer (some ⟨w.heap.size, 0, none⟩))) L 0 w2 := Fill.start hown hg
  clear hown hg hi hz0 hz1 hz2 g0
  go_loopw [39] (fun i wr => ∃ k : Nat, k ≤ L ∧ i = .int .i64 k ∧ Fill (w1Of w) (w.heap.size + 1) (w.heap.size + 1 + 1) da 0 dcap ch (.iface 33 (.pointer (some ⟨w.heap.size, 0, none⟩))) L k wr) (fun i _ => L - (intOf i).toNat)
  case atStart => exact ⟨0, Nat.zero_le _, rfl, hF0⟩
  case round =>
    obtain ⟨k, hk, rfl, hF⟩ := hrel
    clear hF0
    by_cases hlt : k < L
    · have hltI : (k : Int) < (L : Int) := by omega
      have q1 := hF.own.frozenAt k
      have q2 : ∃ v, wr.cell? ⟨w.heap.size + 1 + 1, k, none⟩ = some v := by
        have hkl : k < ((fillList L k).map (Value.int .u8)).length := by simp [fillList]; omega
        exact ⟨_, (hF.own.cellAt k (by omega)).trans (List.getElem?_eq_getElem hkl)⟩
      obtain ⟨v, q2⟩ := q2
      go_wp2
      go_roundw
      case rel => exact ⟨k + 1, by omega, by go_num, hF.step (by omega) hlt⟩
      case measure => simp [intOf]; omega
    · obtain rfl : k = L := by omega
      go_wp2_with fail
      refine Calls.mono (call_mine F w da 0 dcap ch ae au xs k wr HFF.out hT hD hL (by omega) (by omega) (hF.done xs)) ?_
      clear hF
      rintro e w5 (⟨h1, rfl, hS⟩ | ⟨h1, p, rfl, hp, hS⟩)
      · obtain rfl : k = 0 := by omega
        have p1 := hS.pos
        go_wp2
        refine wp_loop_rounds 1 ?_
        rw [rounds_succ]
        go_wp2
        refine wp_loop_rounds 1 ?_
        rw [rounds_succ]
        go_wp2
        go_ret
        exact ⟨rfl, finB hS 0⟩
      · have p1 := hS.pos
        go_wp2
        refine wp_loop_rounds 1 ?_
        rw [rounds_succ]
        go_wp2
        go_loopw [18] (fun i wq => ∃ m : Nat, 0 ≤ m ∧ m ≤ k ∧ i = .int .i64 m ∧ ∃ q, wq = w5.drewN q) (fun i _ => k - (intOf i).toNat)
        case atStart => exact ⟨0, Nat.le_refl _, by omega, rfl, 0, rfl⟩
        case round =>
          obtain ⟨m, hm1, hm2, rfl, q2, rfl⟩ := hrel
          by_cases hml : m < k
          · have b1 := mCell hS HX.out m (by omega) (by omega) hml hm1
            have hmI : (m : Int) < (k : Int) := by omega
            go_wp2
            go_roundw
            case rel => exact ⟨m + 1, by omega, by omega, by go_num, _, rfl⟩
            case measure => simp [intOf]; omega
          · go_wp2_with (go_at_call 6; refine (is_wrap_same p 0 ⟨w.heap.size, 0, none⟩ _ (by exact hp)).mono ?_; rintro e w6 ⟨rfl, rfl⟩)
            go_ret
            exact ⟨rfl, finB hS _⟩

theorem law_big (da : Option Addr) (dlen dcap : Nat) (nb c : Int) (f : Bool) (w : World) (h : (1024 : Int) < (dlen : Int)) :
    Calls Ybaf.prog 3 #[.slice da dlen dcap, .int .u8 nb, .int .u8 c, .bool f] w fun e w' => e = .returned (.bool true) ∧ Below w.heap.size w w' := by
  go_enter Ybaf.func3, Ybaf.ntmps3
  go_wp2
  go_ret
  exact ⟨rfl, Below.refl _ _⟩

end Go.Proofs.YbulkdeqsFmt
