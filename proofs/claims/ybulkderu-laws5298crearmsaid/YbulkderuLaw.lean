import Derived.Test.YbulkderuEnd
import Derived.Deep.Cut
import Derived.Lib.Builder
namespace Go.Proofs.Ybulkderu
open Go.RowKit
set_option linter.unusedVariables false

theorem src_kept {w w' : World} {a0 : Option Addr} {xs : List Int} (hB : Below w.heap.size w w') (hc : ∀ ad, a0 = some ad → ∀ j u, (xs.map (Value.int .i64))[j]? = some u → w.cell? (ad.add j) = some u) :
    ∀ ad, a0 = some ad → ∀ j u, (xs.map (Value.int .i64))[j]? = some u → w'.cell? (ad.add j) = some u := by
  intro ad h j u hj
  have := hc ad h j u hj
  rw [hB.cell (World.block_lt_of_cell? w _ this)]
  exact this

theorem Wp.sixteen {GW n j i : Nat} {ds : Nat → Int} {occ : Int} {w : World} (h : Wp GW n j ds occ w) (hi : i < n) :
    ∃ u : Nat → Value, w.cell? ⟨GW, i * 16, none⟩ = some (u 0) ∧ ∀ m, m < 16 → w.cell? ⟨GW, i * 16 + m, none⟩ = some (u m) := by
  refine ⟨fun m => (w.cell? ⟨GW, i * 16 + m, none⟩).getD (.bool false), ?_, ?_⟩
  · have := h.there (i * 16) (by omega)
    obtain ⟨v, hv⟩ := Option.isSome_iff_exists.1 this
    simp [hv]
  · intro m hm
    have := h.there (i * 16 + m) (by omega)
    obtain ⟨v, hv⟩ := Option.isSome_iff_exists.1 this
    simp [hv]

theorem wrap_id (x : Int) (h0 : -9223372036854775808 ≤ x) (h1 : x < 9223372036854775808) : IntKind.i64.wrap x = x := by
  simp [IntKind.wrap, IntKind.bits, IntKind.signed]
  omega

theorem wlist_one (j : Nat) (d o : Int) : ∀ v ∈ wlist j d o, v.oneCell' = true := by
  intro v hv
  simp only [wlist, List.mem_cons, List.not_mem_nil, or_false] at hv
  rcases hv with rfl | rfl | rfl | rfl | rfl | rfl | rfl | rfl | rfl | rfl | rfl | rfl | rfl | rfl | rfl | rfl <;> rfl

theorem add_zero' (d : Int) (w : World) (h0 : -9223372036854775808 ≤ d) (h1 : d ≤ 9223372036854775807) :
    Calls Yba.prog 4 #[.agg #[.int .u64 0, .int .i64 0, .pointer none], .int .i64 d] w fun e w' => e = .returned (.agg #[.int .u64 (tw d), .int .i64 (te d), .pointer none]) ∧ Below w.heap.size w w' := add_zero d w h0 h1

theorem sort_at' (ds : Nat → Int) (n D DB OB : Nat) (w : World) (hn0 : 0 < n) (hn : n ≤ 1025) (hD : D < OB) (hDB : DB < OB)
    (hrow : ∀ j, j < n → w.cell? ⟨OB, j, none⟩ = some (.int .i64 j) ∧ w.frozen? ⟨OB, j, none⟩ = false)
    (hb : w.cell? ⟨DB, 0, none⟩ = some (.slice (some ⟨D, 0, none⟩) n n)) (hd : ∀ j, j < n → w.cell? ⟨D, j, none⟩ = some (.int .i64 (ds j))) :
    Calls Yba.prog 5 #[.slice (some ⟨OB, 0, none⟩) n n, .func (.func 6) #[] #[.pointer (some ⟨DB, 0, none⟩)]] w fun e w' =>
      e = .returned (.tuple #[]) ∧ ∃ ord, Sorted n ds ord ∧ (∀ p, p < n → w'.cell? ⟨OB, p, none⟩ = some (.int .i64 (ord p : Nat))) ∧ Below OB w w' := by
  obtain ⟨m, rfl⟩ : ∃ m, n = m + 1 := ⟨n - 1, by omega⟩
  exact sort_at ds m D DB OB w hn hD hDB hrow hb hd

theorem makeMap_at (n : Int) (w : World) : (Instr.makeMap 48 (some (.int .i64 n))).run Yba.prog w = .ok (.map (some w.heap.size)) (w.alloc (.map #[] 0)) := by
  simp [Instr.makeMap, run_underlying Yba.underlying48, asInt, asIntOf, Result.andThen]

theorem equal_same' (a : Int) (w : World) :
    Calls Yba.prog 11 #[.agg #[.int .u64 (tw a), .int .i64 (te a), .pointer none], .agg #[.int .u64 (tw a), .int .i64 (te a), .pointer none]] w fun e w' => e = .returned (.bool true) ∧ Below w.heap.size w w' := equal_same a w

/-- what the two regions that compare times read: a time at b, the zero time at z, the model's cell. -/
theorem s4_keep {w w' : World} {b ob z g j K : Nat} {d : Int} (hB : Below K w w') (h1 : b < K) (h2 : z < K) (h3 : g < K)
    (h : w.cell? ⟨b, ob, none⟩ = some (.int .u64 (tw d)) ∧ w.cell? ⟨b, ob + 1, none⟩ = some (.int .i64 (te d)) ∧ w.cell? ⟨b, ob + 2, none⟩ = some (.pointer none) ∧ w.cell? ⟨z, 0, none⟩ = some (.int .u64 0) ∧ w.cell? ⟨z, 1, none⟩ = some (.int .i64 0) ∧ w.cell? ⟨z, 2, none⟩ = some (.pointer none) ∧ w.cell? ⟨g, j, none⟩ = some (.int .i64 d)) :
    w'.cell? ⟨b, ob, none⟩ = some (.int .u64 (tw d)) ∧ w'.cell? ⟨b, ob + 1, none⟩ = some (.int .i64 (te d)) ∧ w'.cell? ⟨b, ob + 2, none⟩ = some (.pointer none) ∧ w'.cell? ⟨z, 0, none⟩ = some (.int .u64 0) ∧ w'.cell? ⟨z, 1, none⟩ = some (.int .i64 0) ∧ w'.cell? ⟨z, 2, none⟩ = some (.pointer none) ∧ w'.cell? ⟨g, j, none⟩ = some (.int .i64 d) := by
  have c : ∀ p i, p < K → w'.cell? ⟨p, i, none⟩ = w.cell? ⟨p, i, none⟩ := fun p i hp => hB.cell (p := ⟨p, i, none⟩) hp
  rw [c _ _ h1, c _ _ h1, c _ _ h1, c _ _ h2, c _ _ h2, c _ _ h2, c _ _ h3]
  exact h

theorem updBound {xs : List Int} {kk : Nat} {nd : Int} (h0 : -9223372036854775808 ≤ nd) (h1 : nd ≤ 9223372036854775807) (hF : ∀ j, -9223372036854775808 ≤ dsF xs j ∧ dsF xs j ≤ 9223372036854775807) (j : Nat) : -9223372036854775808 ≤ upd (dsF xs) kk nd j ∧ upd (dsF xs) kk nd j ≤ 9223372036854775807 := by
  unfold upd
  split
  · exact ⟨h0, h1⟩
  · exact hF j

theorem sz42 : (Yba.prog.info? 42).map (·.size) = some 10 := by kernel_rfl
theorem sz53 : (Yba.prog.info? 53).map (·.size) = some 6 := by kernel_rfl
theorem neq35 (a : Addr) (w : World) : (binOp .neq 35 (.pointer (some a)) (.pointer (some a))).run Yba.prog w = .ok (.bool false) w := by
  obtain ⟨j, hj, _⟩ := Option.map_eq_some_iff.1 sz42
  exact Go.Lib.run_neq_ptr_same w a Yba.underlying35 hj
theorem neq49 (a : Addr) (w : World) : (binOp .neq 49 (.pointer (some a)) (.pointer (some a))).run Yba.prog w = .ok (.bool false) w := by
  obtain ⟨j, hj, _⟩ := Option.map_eq_some_iff.1 sz53
  exact Go.Lib.run_neq_ptr_same w a Yba.underlying49 hj

theorem stage1 {w w3 w4 : World} {DB n L : Nat} {xs : List Int} {v : Value} {occ : Int} (hB3 : Below w.heap.size w w3) (hl : w.heap.size < DB) (hc : w3.cell? ⟨DB, 0, none⟩ = some v) (hxs : xs.length = L) (hLn : 1 + L = n) (hn1 : n ≤ 1025)
    (hown : w3.ownsRow w.heap.size 2 1 (.slice (some ⟨w.heap.size, 0, none⟩) n n) n ([.int .i64 0] ++ xs.map (Value.int .i64)))
    (hown4 : w4.ownsRow w.heap.size 34 16 (.slice (some ⟨((w3.setCell ⟨DB, 0, none⟩ (.slice (some ⟨w.heap.size, 0, none⟩) n n)).alloc (.cells #[.int .u64 0, .int .i64 0, .pointer none] 27)).heap.size, 0, none⟩) n n) n (madeCells zeroWait.cells (n * 16)).toList)
    (hg : ((w3.setCell ⟨DB, 0, none⟩ (.slice (some ⟨w.heap.size, 0, none⟩) n n)).alloc (.cells #[.int .u64 0, .int .i64 0, .pointer none] 27)).grownBy w4 none) :
    Base w.heap.size DB w3.heap.size n (dsF xs) w4 ∧ Wp (w3.heap.size + 1) n 0 (dsF xs) occ w4 ∧ Below w.heap.size w w4 ∧ w3.heap.size + 1 < w4.heap.size := by
  have hsz : ((w3.setCell ⟨DB, 0, none⟩ (.slice (some ⟨w.heap.size, 0, none⟩) n n)).alloc (.cells #[.int .u64 0, .int .i64 0, .pointer none] 27)).heap.size = w3.heap.size + 1 := by simp [World.setCell]
  rw [hsz] at hown4
  have hb := base_of (o := .cells #[.int .u64 0, .int .i64 0, .pointer none] 27) rfl (by omega) hn1 hl hown hc
  have h3 := hB3.size
  have hBx : Below (w3.heap.size + 1) ((w3.setCell ⟨DB, 0, none⟩ (.slice (some ⟨w.heap.size, 0, none⟩) n n)).alloc (.cells #[.int .u64 0, .int .i64 0, .pointer none] 27)) w4 := (Below.refl _ _).grown hg (by rw [hsz]; exact Nat.le_refl _) (by simp)
  refine ⟨hb.keep hBx (by omega), Wp.start hown4, ?_, lt_of_owns hown4⟩
  exact ((hB3.setCell (p := ⟨DB, 0, none⟩) (Nat.le_of_lt hl) _).alloc (by simp [World.setCell]; omega) _).trans (hBx.mono (by omega))

set_option maxRecDepth 40000 in
set_option maxHeartbeats 4000000 in
theorem law_at (a0 : Option Addr) (L cap n : Nat) (k : Int) (nd occ : Int) (xs : List Int) (w : World) (hxs : xs.length = L) (hLn : 1 + L = n) (hnone : a0 = none → L = 0 ∧ cap = 0) (hc : ∀ ad, a0 = some ad → ∀ j u, (xs.map (Value.int .i64))[j]? = some u → w.cell? (ad.add j) = some u)
    (hL : (L : Int) ≤ 1024) (hk0 : 0 ≤ k) (hk1 : k ≤ 65535) (hnd0 : -9223372036854775808 ≤ nd) (hnd1 : nd ≤ 9223372036854775807) (hwf : ∀ j, -9223372036854775808 ≤ dsF xs j ∧ dsF xs j ≤ 9223372036854775807) :
    Calls Yba.prog 3 #[.slice a0 L cap, .int .u16 k, .int .i64 nd, .int .i64 occ] w fun e w' => e = .returned (.bool true) ∧ Below w.heap.size w w' := by
  obtain ⟨i2, hi2, hz2, hs2, hb2⟩ := info_parts info2
  obtain ⟨i34, hi34, hz34, hs34, hb34⟩ := info_parts info34
  obtain ⟨i3, hi3, hz3, hs3, hb3⟩ := info_parts info3
  obtain ⟨i49, hi49, hz49, hs49, hb49⟩ := info_parts info49
  obtain ⟨i4, hi4, hz4, hs4, hb4⟩ := info_parts info4
  have mkMap := makeMap_at
  have HX : Hid (xs.length = L) := hxs
  have HN : Hid (a0 = none → L = 0 ∧ cap = 0) := hnone
  have HC : Hid (∀ ad, a0 = some ad → ∀ j u, (xs.map (Value.int .i64))[j]? = some u → w.cell? (ad.add j) = some u) := hc
  have HF : Hid (∀ j, -9223372036854775808 ≤ dsF xs j ∧ dsF xs j ≤ 9223372036854775807) := hwf
  have hd : decide ((1024 : Int) < (L : Int)) = false := by simpa using hL
  have HLn : Hid (1 + L = n) := hLn
  have hLI : (L : Int) + 1 = (n : Int) := by omega
  have hn1 : n ≤ 1025 := by omega
  have hn0 : 0 < n := by omega
  clear hxs hc hnone hwf hLn
  go_enter Yba.func3, Yba.ntmps3
  go_wp2_with (first
    | (at_make; refine wpList_make_own _ rfl (.const (.int .i64 0)) (.tmp 39) 22 rfl w.heap.size 2 i2 (.int .i64 0) 1 Yba.underlying22 hi2 hz2 hs2 .i64 .i64 _ n rfl rfl rfl (by rw [hb2]; omega) (by unfold maxLen; omega) (Nat.le_refl _) ?_; intro w1 hown hg; have HO1 : Hid (w1.ownsRow w.heap.size 2 1 (.slice (some ⟨w.heap.size, 0, none⟩) 0 n) 0 []) := hown; have hB1 : Below w.heap.size w w1 := (Below.refl _ w).grown hg (Nat.le_refl _) (by simp); clear hown hg)
    | (at_builtin; refine wpList_append_fits _ rfl (.tmp 41) (.tmp 42) 22 rfl w.heap.size 2 i2 1 Yba.underlying22 hi2 hs2 w.heap.size 0 n [] rfl ((HO1.out.alloc _).alloc _) ⟨w1.heap.size + 1, 0, none⟩ 1 1 [.int .i64 0] rfl rfl (by exact (by simpa using one_new (w1.alloc _) (.int .i64 0) 2)) (by simp [Value.oneCell']) (by omega) ?_; intro w2 hown hg; obtain ⟨d2, f2, l2⟩ := box_kept (lt_of_owns HO1.out) hg; have HO2 : Hid (w2.ownsRow w.heap.size 2 1 (.slice (some ⟨w.heap.size, 0, none⟩) 1 n) 1 [.int .i64 0]) := hown; have hB2 : Below w.heap.size w w2 := ((hB1.alloc hB1.size _).alloc (by simp; have := hB1.size; omega) _).grown hg (by simp; have := hB1.size; omega) (by simp); have hl1 : w.heap.size < w1.heap.size := lt_of_owns HO1.out; rw [Nat.zero_add]; clear hown hg HO1 hB1)
    | (at_builtin; refine wpList_append_fits_any _ rfl (.tmp 44) (.tmp 45) 22 rfl w.heap.size 2 i2 1 Yba.underlying22 hi2 hs2 w.heap.size 1 n [.int .i64 0] rfl (ownsRow_setCell_other HO2.out (by simp [Value.ownBlock]; omega) _) a0 L cap (xs.map (Value.int .i64)) rfl (by simpa using HX.out) HN.out (src_kept (hB2.setCell (p := ⟨w1.heap.size, 0, none⟩) (Nat.le_of_lt hl1) _) HC.out) (ints_oneCell _ _) (by omega) ?_; intro w3 hown hg; rw [HLn.out] at hown ⊢; obtain ⟨d3, f3, l3⟩ := box_again (by omega) d2 f2 _ hg; have HO3 : Hid (w3.ownsRow w.heap.size 2 1 (.slice (some ⟨w.heap.size, 0, none⟩) n n) n ([.int .i64 0] ++ xs.map (Value.int .i64))) := hown; have hB3 : Below w.heap.size w w3 := (hB2.setCell (p := ⟨w1.heap.size, 0, none⟩) (Nat.le_of_lt hl1) _).grown hg (by simp [World.setCell]; omega) (by simp); clear hown hg HO2 hB2 d2 f2 l2)
    | (at_make; refine wpList_make_full _ rfl (.tmp 50) (.tmp 50) 28 rfl w.heap.size 34 i34 zeroWait 16 Yba.underlying28 hi34 hz34 hs34 .i64 .i64 _ _ n rfl rfl rfl rfl (by rw [hb34]; omega) (by unfold maxLen; omega) (by simp [World.setCell]; omega) ?_; intro w4 hown hg; have HB : Hid (Base w.heap.size w1.heap.size w3.heap.size n (dsF xs) w4 ∧ Wp (w3.heap.size + 1) n 0 (dsF xs) occ w4 ∧ Below w.heap.size w w4 ∧ w3.heap.size + 1 < w4.heap.size) := stage1 hB3 hl1 d3 HX.out HLn.out hn1 HO3.out hown hg; clear hown hg HO3 hB3 d3 f3 l3))
  obtain ⟨hBa, hWp, hBw, hgs⟩ := HB.out
  have g0 : w.heap.size < w1.heap.size := hBa.l1
  have g1 : w1.heap.size < w3.heap.size := hBa.l2
  have HS : Hid (Base w.heap.size w1.heap.size w3.heap.size n (dsF xs) w4 ∧ Wp (w3.heap.size + 1) n 0 (dsF xs) occ w4) := ⟨hBa, hWp⟩
  clear HB hBa hWp
  go_loopw [13] (fun v wq => ∃ j : Nat, v = .int .i64 j ∧ j ≤ n ∧ Hid (Base w.heap.size w1.heap.size w3.heap.size n (dsF xs) wq) ∧ Hid (Wp (w3.heap.size + 1) n j (dsF xs) occ wq) ∧ Below w.heap.size w wq ∧ w3.heap.size + 1 < wq.heap.size) (fun v _ => n - (intOf v).toNat)
  case atStart => exact ⟨0, rfl, Nat.zero_le _, HS.out.1, HS.out.2, hBw, hgs⟩
  case round =>
    clear hBw hgs HS
    obtain ⟨j, rfl, hj, HBa, HWp, hBw, hgs⟩ := hrel
    by_cases hjn : j < n
    · have hjI : (j : Int) < (n : Int) := by omega
      have z0 := HBa.out.z0
      have z1 := HBa.out.z1
      have z2 := HBa.out.z2
      have zb := HBa.out.hb
      have zd := HBa.out.hd j hjn
      have ne1 : ¬ w3.heap.size + 1 = w3.heap.size := by omega
      have ne2 : ¬ w3.heap.size + 1 = w1.heap.size := by omega
      have ne3 : ¬ w3.heap.size + 1 = w.heap.size := by omega
      obtain ⟨u, hu0, hu⟩ := HWp.out.sixteen hjn
      have HU0 : Hid (wr.cell? ⟨w3.heap.size + 1, j * 16, none⟩ = some (u 0)) := hu0
      have HU : Hid (∀ m, m < 16 → wr.cell? ⟨w3.heap.size + 1, j * 16 + m, none⟩ = some (u m)) := hu
      clear hu0 hu
      have hF := HF.out j
      have hF0 := hF.1
      have hF1 := hF.2
      clear hF
      have hwr : IntKind.i64.wrap ((j : Int) + 1) = (j : Int) + 1 := wrap_id _ (by omega) (by omega)
      go_wp2_with fail
      go_region_held3 (fun w' => w'.cell? ⟨w3.heap.size, 0, none⟩ = some (.int .u64 0) ∧ w'.cell? ⟨w3.heap.size, 1, none⟩ = some (.int .i64 0) ∧ w'.cell? ⟨w3.heap.size, 2, none⟩ = some (.pointer none) ∧ w'.cell? ⟨w1.heap.size, 0, none⟩ = some (.slice (some ⟨w.heap.size, 0, none⟩) n n) ∧ w'.cell? ⟨w.heap.size, j, none⟩ = some (.int .i64 (dsF xs j)))
        (simp [*, World.cell?_setCell_far])
        (first
          | (go_at_call 4; refine (add_zero' (dsF xs j) _ hF0 hF1).mono ?_; rintro e w5 ⟨rfl, hB5⟩; have q0 := (hB5.cell (p := ⟨w3.heap.size, 0, none⟩) (by show w3.heap.size < wr.heap.size; omega)).trans z0; have q1 := (hB5.cell (p := ⟨w3.heap.size, 1, none⟩) (by show w3.heap.size < wr.heap.size; omega)).trans z1; have q2 := (hB5.cell (p := ⟨w3.heap.size, 2, none⟩) (by show w3.heap.size < wr.heap.size; omega)).trans z2; have q3 := (hB5.cell (p := ⟨w1.heap.size, 0, none⟩) (by show w1.heap.size < wr.heap.size; omega)).trans zb; have q4 := (hB5.cell (p := ⟨w.heap.size, j, none⟩) (by show w.heap.size < wr.heap.size; omega)).trans zd; have q5 := (hB5.cell (p := ⟨w3.heap.size + 1, j * 16, none⟩) (show w3.heap.size + 1 < wr.heap.size by omega)).trans HU0.out; have q6 : ∀ m, m < 16 → w5.cell? ⟨w3.heap.size + 1, j * 16 + m, none⟩ = some (u m) := fun m hm => (hB5.cell (p := ⟨w3.heap.size + 1, j * 16 + m, none⟩) (show w3.heap.size + 1 < wr.heap.size by omega)).trans (HU.out m hm); have q7 : ∀ m, w5.frozen? ⟨w3.heap.size + 1, m, none⟩ = false := fun m => (hB5.frozen (p := ⟨w3.heap.size + 1, m, none⟩) (show w3.heap.size + 1 < wr.heap.size by omega)).trans (HWp.out.fz m)))
      go_wp2
      go_roundw
      case rel =>
        have hBs : Below (w3.heap.size + 1) wr (w5.setCells (w3.heap.size + 1) (j * 16) (wlist j (dsF xs j) occ)) := ((drew_below _ wr).trans (hB5.mono (Nat.le_of_lt hgs))).trans (setCells_below _ _ _ _)
        have hsz : wr.heap.size ≤ w5.heap.size := hB5.size
        have hW5 : Wp (w3.heap.size + 1) n j (dsF xs) occ w5 := (HWp.out.keep (drew_below (w3.heap.size + 2) wr) (by omega)).keep hB5 hgs
        have hs6 : w3.heap.size + 1 < (w5.setCells (w3.heap.size + 1) (j * 16) (wlist j (dsF xs j) occ)).heap.size := by rw [setCells_size]; omega
        exact ⟨j + 1, by go_num, by omega, HBa.out.keep hBs (by omega), hW5.step hjn, hBw.trans (hBs.mono (by omega)), hs6⟩
      case measure => simp [intOf]; omega
    · have hjE : n = j := by omega
      subst hjE
      obtain ⟨wA, hwA⟩ : ∃ x, x = wr := ⟨wr, rfl⟩
      subst hwA
      have hzA : w3.heap.size < wA.heap.size := by omega
      go_wp2_with (at_make; refine wpList_make_full _ rfl (.tmp 73) (.tmp 73) 43 rfl w.heap.size 3 i3 (.int .i64 0) 1 Yba.underlying43 hi3 hz3 hs3 .i64 .i64 _ _ n rfl rfl rfl rfl (by rw [hb3]; omega) (by unfold maxLen; omega) (by simp; have := hBw.size; omega) ?_; intro w7 hown hg; have HS : Hid _ := stage2 HBa.out HWp.out hBw hgs hzA rfl hown hg; clear hown hg)
      obtain ⟨hBa2, hWs2, hR2, hBw2, hg2⟩ := HS.out
      have hwA := hBw.size
      have H2 : Hid (Base w.heap.size w1.heap.size w3.heap.size n (dsF xs) w7 ∧ Ws (w3.heap.size + 1) wA.heap.size n (dsF xs) (fun _ => occ) w7 ∧ Row1 (wA.heap.size + 1) n 0 (fun i => .int .i64 i) w7) := ⟨hBa2, hWs2, hR2⟩
      clear HS hBa2 hWs2 hR2 HBa HWp hBw
      go_loopw [16] (fun v wq => ∃ j : Nat, v = .int .i64 j ∧ j ≤ n ∧ Hid (Base w.heap.size w1.heap.size w3.heap.size n (dsF xs) wq) ∧ Hid (Ws (w3.heap.size + 1) wA.heap.size n (dsF xs) (fun _ => occ) wq) ∧ Hid (Row1 (wA.heap.size + 1) n j (fun i => .int .i64 i) wq) ∧ Below w.heap.size w wq ∧ wA.heap.size + 1 < wq.heap.size) (fun v _ => n - (intOf v).toNat)
      case atStart => exact ⟨0, rfl, Nat.zero_le _, H2.out.1, H2.out.2.1, H2.out.2.2, hBw2, hg2⟩
      case round =>
        clear hBw2 hg2 H2
        obtain ⟨j, rfl, hj, HBa, HWs, HR, hBw, hgs2⟩ := hrel
        by_cases hjn : j < n
        · have hjI : (j : Int) < (n : Int) := by omega
          obtain ⟨u, hu⟩ := Option.isSome_iff_exists.1 (HR.out.there j hjn)
          have hf := HR.out.fz j
          go_wp2
          go_roundw
          case rel =>
            have hBs : Below (wA.heap.size + 1) wr (wr.setCell ⟨wA.heap.size + 1, j, none⟩ (.int .i64 j)) := (Below.refl _ wr).setCell (p := ⟨wA.heap.size + 1, j, none⟩) (Nat.le_refl _) _
            exact ⟨j + 1, by go_num, by omega, HBa.out.keep hBs (by omega), HWs.out.keep hBs (by omega), HR.out.set hjn, hBw.trans (hBs.mono (by omega)), by simp [World.setCell]; omega⟩
          case measure => simp [intOf]; omega
        · have hjE : n = j := by omega
          subst hjE
          obtain ⟨wB, hwB⟩ : ∃ x, x = wr := ⟨wr, rfl⟩
          subst hwB
          go_wp2_with fail
          refine Calls.mono (sort_at' (dsF xs) n w.heap.size w1.heap.size (wA.heap.size + 1) _ hn0 hn1 (by omega) (by omega) (fun j hj => ⟨HR.out.cells j hj, HR.out.fz j⟩) HBa.out.hb HBa.out.hd) ?_
          rintro e w8 ⟨rfl, ord, hSo, hoc, hB8⟩
          have HSo : Hid (Sorted n (dsF xs) ord) := hSo
          have HOc : Hid (∀ p, p < n → w8.cell? ⟨wA.heap.size + 1, p, none⟩ = some (.int .i64 (ord p : Nat))) := hoc
          clear hSo hoc
          have h8s := hB8.size
          go_wp2_with (at_make; refine wpList_make_full _ rfl (.tmp 87) (.tmp 87) 47 rfl w.heap.size 49 i49 (.pointer none) 1 Yba.underlying47 hi49 hz49 hs49 .i64 .i64 _ _ n rfl rfl rfl rfl (by rw [hb49]; omega) (by unfold maxLen; omega) (by omega) ?_; intro w9 hown hg; have HS : Hid _ := stage3 HBa.out HWs.out hBw (Nat.lt_succ_self _) (Nat.lt_succ_self _) (by omega) (by omega) hB8 HOc.out hown hg; clear hown hg)
          have H3 : Hid (Bd w.heap.size w1.heap.size w3.heap.size (w3.heap.size + 1) wA.heap.size (wA.heap.size + 1) w8.heap.size w9.heap.size (w9.heap.size + 1) n 0 (dsF xs) occ ord (w9.alloc (.map #[] 0)) ∧ Below w.heap.size w (w9.alloc (.map #[] 0))) := HS.out
          clear HS HBa HWs HR hBw HOc hB8
          go_loopw [93] (fun v wq => ∃ p : Nat, v = .int .i64 p ∧ p ≤ n ∧ Hid (Bd w.heap.size w1.heap.size w3.heap.size (w3.heap.size + 1) wA.heap.size (wA.heap.size + 1) w8.heap.size w9.heap.size (w9.heap.size + 1) n p (dsF xs) occ ord wq) ∧ Below w.heap.size w wq) (fun v _ => n - (intOf v).toNat)
          case atStart => exact ⟨0, rfl, Nat.zero_le _, H3.out.1, H3.out.2⟩
          case round =>
            clear H3
            obtain ⟨p, rfl, hp, HBd, hBw⟩ := hrel
            by_cases hpn : p < n
            · have hpI : (p : Int) < (n : Int) := by omega
              have hs := HBd.out.sz
              have co := HBd.out.ordc p hpn
              have hon := HSo.out.lt p hpn
              have honI : ((ord p : Nat) : Int) < (n : Int) := by omega
              have c8 : wr.cell? ⟨w3.heap.size + 1, ord p * 16 + 8, none⟩ = some (.int .u64 (tw (dsF xs (ord p)))) := HBd.out.ws.cells (ord p) 8 hon (by omega)
              have c9 : wr.cell? ⟨w3.heap.size + 1, ord p * 16 + 9, none⟩ = some (.int .i64 (te (dsF xs (ord p)))) := HBd.out.ws.cells (ord p) 9 hon (by omega)
              have c10 : wr.cell? ⟨w3.heap.size + 1, ord p * 16 + 10, none⟩ = some (.pointer none) := HBd.out.ws.cells (ord p) 10 hon (by omega)
              obtain ⟨u, hu⟩ := Option.isSome_iff_exists.1 (HBd.out.hrow.there p hpn)
              have hf := HBd.out.hrow.fz p
              have lM := HBd.out.lM
              have lT := HBd.out.lT
              obtain ⟨o, ho, hE⟩ := HBd.out.mp
              have hq := cell_lt hu
              have hput : ∃ o', Ents (w9.heap.size + 1) (fun q => (ord q : Int) + 1) (p + 1) o' ∧ (Instr.mapUpdate 48 (.map (some w9.heap.size)) (.int .i64 ((ord p : Int) + 1)) (.pointer (some ⟨w9.heap.size + 1 + p, 0, none⟩))).run Yba.prog ((wr.alloc (.cells #[.pointer (some ⟨wA.heap.size, 0, none⟩), .int .i64 ((ord p : Int) + 1), .int .u64 (tw (dsF xs (ord p))), .int .i64 (te (dsF xs (ord p))), .pointer none, .int .i64 p] 53)).setCell ⟨w8.heap.size, p, none⟩ (.pointer (some ⟨w9.heap.size + 1 + p, 0, none⟩))) = .ok () (setO ((wr.alloc (.cells #[.pointer (some ⟨wA.heap.size, 0, none⟩), .int .i64 ((ord p : Int) + 1), .int .u64 (tw (dsF xs (ord p))), .int .i64 (te (dsF xs (ord p))), .pointer none, .int .i64 p] 53)).setCell ⟨w8.heap.size, p, none⟩ (.pointer (some ⟨w9.heap.size + 1 + p, 0, none⟩))) w9.heap.size o') := by
                refine put_at (sq := fun q => (ord q : Int) + 1) ?_ hE (fun a ha e => ?_)
                · rw [set_block (by omega), Below.heap_alloc _ _ _ (by omega)]; exact ho
                · have e' : ord a = ord p := by omega
                  have := HSo.out.inj a p (by omega) hpn e'
                  omega
              obtain ⟨o', hE', hput⟩ := hput
              have HE' : Hid (Ents (w9.heap.size + 1) (fun q => (ord q : Int) + 1) (p + 1) o') := hE'
              have hu' : (wr.alloc (.cells #[.pointer (some ⟨wA.heap.size, 0, none⟩), .int .i64 ((ord p : Int) + 1), .int .u64 (tw (dsF xs (ord p))), .int .i64 (te (dsF xs (ord p))), .pointer none, .int .i64 p] 53)).cell? ⟨w8.heap.size, p, none⟩ = some u := by rw [World.cell?_alloc_lt _ _ _ hq]; exact hu
              have hf' : (wr.alloc (.cells #[.pointer (some ⟨wA.heap.size, 0, none⟩), .int .i64 ((ord p : Int) + 1), .int .u64 (tw (dsF xs (ord p))), .int .i64 (te (dsF xs (ord p))), .pointer none, .int .i64 p] 53)).frozen? ⟨w8.heap.size, p, none⟩ = false := by rw [World.frozen?_alloc_past _ _ _ hq]; exact hf
              have hBs : ∀ o', Below w8.heap.size wr (setO ((wr.alloc (.cells #[.pointer (some ⟨wA.heap.size, 0, none⟩), .int .i64 ((ord p : Int) + 1), .int .u64 (tw (dsF xs (ord p))), .int .i64 (te (dsF xs (ord p))), .pointer none, .int .i64 p] 53)).setCell ⟨w8.heap.size, p, none⟩ (.pointer (some ⟨w9.heap.size + 1 + p, 0, none⟩))) w9.heap.size o') := fun o' => (((Below.refl _ wr).alloc (Nat.le_of_lt hq) _).setCell (p := ⟨w8.heap.size, p, none⟩) (Nat.le_refl _) _).trans (setO_below.mono (Nat.le_of_lt lM))
              have HBs : Hid (Below w8.heap.size wr (setO ((wr.alloc (.cells #[.pointer (some ⟨wA.heap.size, 0, none⟩), .int .i64 ((ord p : Int) + 1), .int .u64 (tw (dsF xs (ord p))), .int .i64 (te (dsF xs (ord p))), .pointer none, .int .i64 p] 53)).setCell ⟨w8.heap.size, p, none⟩ (.pointer (some ⟨w9.heap.size + 1 + p, 0, none⟩))) w9.heap.size o')) := hBs o'
              clear ho hE hE' lM lT hBs hu hf
              go_wp2
              go_roundw
              case rel => exact ⟨p + 1, by go_num, by omega, HBd.out.step hpn HE'.out, hBw.trans (HBs.out.mono (by omega))⟩
              case measure => simp [intOf]; omega
            · have hpE : n = p := by omega
              subst hpE
              obtain ⟨wC, hwC⟩ : ∃ x, x = wr := ⟨wr, rfl⟩
              subst hwC
              have hsC := HBd.out.sz
              have hBaC := HBd.out.base
              have lT := HBd.out.lT
              have lM := HBd.out.lM
              have lH := HBd.out.lH
              have lO := HBd.out.lO
              have z0 : ∀ o : Obj, (wC.alloc o).cell? ⟨w3.heap.size, 0, none⟩ = some (.int .u64 0) := fun o => by rw [World.cell?_alloc_lt _ _ _ (cell_lt hBaC.z0)]; exact hBaC.z0
              have z1 : ∀ o : Obj, (wC.alloc o).cell? ⟨w3.heap.size, 1, none⟩ = some (.int .i64 0) := fun o => by rw [World.cell?_alloc_lt _ _ _ (cell_lt hBaC.z1)]; exact hBaC.z1
              have z2 : ∀ o : Obj, (wC.alloc o).cell? ⟨w3.heap.size, 2, none⟩ = some (.pointer none) := fun o => by rw [World.cell?_alloc_lt _ _ _ (cell_lt hBaC.z2)]; exact hBaC.z2
              obtain ⟨kk, hkk⟩ : ∃ kk : Nat, k % (n : Int) = (kk : Int) := ⟨(k % (n : Int)).toNat, by have := Int.emod_nonneg k (show (n : Int) ≠ 0 by omega); omega⟩
              have hkn : kk < n := by have := Int.emod_lt_of_pos k (show 0 < (n : Int) by omega); omega
              have hknI : (kk : Int) < (n : Int) := by omega
              obtain ⟨pk, hpk, hok⟩ := HSo.out.sur kk hkn
              have HOK : Hid (ord pk = kk) := hok
              clear hok hBaC
              go_wp2_with fail
              refine Calls.mono (add_zero' nd _ hnd0 hnd1) ?_
              rintro e w11 ⟨rfl, hB11⟩
              obtain ⟨o, hEn, hHs, hWs, hBs, hB11', h11s⟩ := stage5 HBd.out hn0 hB11 rfl rfl
              have HEn : Hid (Ents (w9.heap.size + 1) (fun q => (ord q : Int) + 1) n o) := hEn
              have HHs : Hid (∀ O, Hs (w9.heap.size + 1 + n) w8.heap.size (w9.heap.size + 1) n wA.heap.size w9.heap.size o (.map (some w9.heap.size)) (fun q => dsF xs (ord q)) (fun q => (ord q : Int) + 1) (fun q => q) (w11.alloc O)) := hHs
              have HWs : Hid (∀ O, Ws (w3.heap.size + 1) wA.heap.size n (dsF xs) (fun _ => occ) (w11.alloc O)) := hWs
              have HBs : Hid (∀ O, Base w.heap.size w1.heap.size w3.heap.size n (dsF xs) (w11.alloc O)) := hBs
              have hBw11 : Below w.heap.size w w11 := hBw.trans (hB11'.mono hBw.size)
              clear hEn hHs hWs hBs hB11 hB11' HBd hBw z0 z1 z2 hsC
              simp only [hkk]
              go_wp2_with fail
              refine Calls.mono (rearm_at (HHs.out _) (HWs.out _) (by omega) HEn.out (fun a b ha hb e => HSo.out.inj a b ha hb (by have e' : ((ord a : Nat) : Int) + 1 = ((ord b : Nat) : Int) + 1 := e; omega)) kk pk hkn hpk (by show ((ord pk : Nat) : Int) + 1 = _; rw [HOK.out]) nd (dn_of HSo.out nd)) ?_
              rintro e w13 ⟨rfl, ⟨hp', hH', hHe'⟩, hW', hB13⟩
              have HF1 : Hid (Fin1 w.heap.size w1.heap.size w3.heap.size (w3.heap.size + 1) wA.heap.size w8.heap.size w9.heap.size (w9.heap.size + 1) n o (dsF xs) (upd (dsF xs) kk nd) (upd (fun _ => occ) kk (wrap64 (occ + 1))) (upd (fun q => dsF xs (ord q)) pk nd) ord hp' w13) := ⟨(HBs.out _).keep hB13 (Nat.lt_succ_self _), hW', hH', hHe', HEn.out, Nat.lt_succ_self _, by omega⟩
              have hBw13 : Below w.heap.size w w13 := (hBw11.alloc hBw11.size _).trans (hB13.mono (by omega))
              have h13s : w9.heap.size + 1 + n < w13.heap.size := by have := hB13.size; simp at this; omega
              have zb := HF1.out.base.hb
              clear HHs HWs HBs HEn hH' hHe' hW' hB13 hBw11 h11s
              go_wp2_with fail
              refine Calls.mono (clone_at w.heap.size n (dsF xs) _ hn0 hn1 HF1.out.base.hd) ?_
              rintro e w14 ⟨g, cg, rfl, hg1, hg2, hg3, hg4, hcm, hfm, hB14⟩
              have cmk := hcm kk hkn
              have fmk := hfm kk
              have hB15 : Below w13.heap.size w13 (w14.setCell ⟨g, kk, none⟩ (.int .i64 nd)) := hB14.setCell (p := ⟨g, kk, none⟩) hg1 _
              have HM : Hid (∀ j, j < n → (w14.setCell ⟨g, kk, none⟩ (.int .i64 nd)).cell? ⟨g, j, none⟩ = some (.int .i64 (upd (dsF xs) kk nd j))) := model_set hkn hcm nd
              have HF2 : Hid (Fin1 w.heap.size w1.heap.size w3.heap.size (w3.heap.size + 1) wA.heap.size w8.heap.size w9.heap.size (w9.heap.size + 1) n o (dsF xs) (upd (dsF xs) kk nd) (upd (fun _ => occ) kk (wrap64 (occ + 1))) (upd (fun q => dsF xs (ord q)) pk nd) ord hp' (w14.setCell ⟨g, kk, none⟩ (.int .i64 nd))) := HF1.out.keep h13s hB15 (Nat.le_refl _)
              have hBw15 : Below w.heap.size w (w14.setCell ⟨g, kk, none⟩ (.int .i64 nd)) := hBw13.trans (hB15.mono hBw13.size)
              have h15s : g < (w14.setCell ⟨g, kk, none⟩ (.int .i64 nd)).heap.size := by simpa [World.setCell] using hg4
              have ci := HF2.out.ws.inst
              have hgs : w9.heap.size + 1 + n < g := by omega
              clear hcm hfm hB14 HF1 hBw13 h13s zb hB15 hg4 hg1
              go_wp2_with fail
              go_loopw [26] (fun v wq => ∃ j : Nat, v = .int .i64 j ∧ j ≤ n ∧ Hid (Fin1 w.heap.size w1.heap.size w3.heap.size (w3.heap.size + 1) wA.heap.size w8.heap.size w9.heap.size (w9.heap.size + 1) n o (dsF xs) (upd (dsF xs) kk nd) (upd (fun _ => occ) kk (wrap64 (occ + 1))) (upd (fun q => dsF xs (ord q)) pk nd) ord hp' wq) ∧ Hid (∀ j, j < n → wq.cell? ⟨g, j, none⟩ = some (.int .i64 (upd (dsF xs) kk nd j))) ∧ Below w.heap.size w wq ∧ g < wq.heap.size) (fun v _ => n - (intOf v).toNat)
              case atStart => exact ⟨0, rfl, Nat.zero_le _, HF2.out, HM.out, hBw15, h15s⟩
              case round =>
                clear HF2 HM hBw15 h15s ci cmk fmk
                obtain ⟨j, rfl, hj, HF2, HM, hBw, hgs4⟩ := hrel
                by_cases hjn : j < n
                · skip
                  have hjI : (j : Int) < (n : Int) := by omega
                  have e0 : wr.cell? ⟨w3.heap.size + 1, j * 16, none⟩ = some (.pointer none) := HF2.out.ws.cells j 0 hjn (by omega)
                  have e1 : wr.cell? ⟨w3.heap.size + 1, j * 16 + 1, none⟩ = some (.string ByteArray.empty) := HF2.out.ws.cells j 1 hjn (by omega)
                  have e2 : wr.cell? ⟨w3.heap.size + 1, j * 16 + 2, none⟩ = some (.int .i64 ((j : Int) + 1)) := HF2.out.ws.cells j 2 hjn (by omega)
                  have e3 : wr.cell? ⟨w3.heap.size + 1, j * 16 + 3, none⟩ = some (.int .i64 0) := HF2.out.ws.cells j 3 hjn (by omega)
                  have e4 : wr.cell? ⟨w3.heap.size + 1, j * 16 + 4, none⟩ = some (.int .i64 0) := HF2.out.ws.cells j 4 hjn (by omega)
                  have e5 : wr.cell? ⟨w3.heap.size + 1, j * 16 + 5, none⟩ = some (.string ByteArray.empty) := HF2.out.ws.cells j 5 hjn (by omega)
                  have e6 : wr.cell? ⟨w3.heap.size + 1, j * 16 + 6, none⟩ = some (.string ByteArray.empty) := HF2.out.ws.cells j 6 hjn (by omega)
                  have e7 : wr.cell? ⟨w3.heap.size + 1, j * 16 + 7, none⟩ = some (.slice none 0 0) := HF2.out.ws.cells j 7 hjn (by omega)
                  have e8 : wr.cell? ⟨w3.heap.size + 1, j * 16 + 8, none⟩ = some (.int .u64 (tw (upd (dsF xs) kk nd j))) := HF2.out.ws.cells j 8 hjn (by omega)
                  have e9 : wr.cell? ⟨w3.heap.size + 1, j * 16 + 9, none⟩ = some (.int .i64 (te (upd (dsF xs) kk nd j))) := HF2.out.ws.cells j 9 hjn (by omega)
                  have e10 : wr.cell? ⟨w3.heap.size + 1, j * 16 + 10, none⟩ = some (.pointer none) := HF2.out.ws.cells j 10 hjn (by omega)
                  have e11 : wr.cell? ⟨w3.heap.size + 1, j * 16 + 11, none⟩ = some (.int .i64 (upd (fun _ => occ) kk (wrap64 (occ + 1)) j)) := HF2.out.ws.cells j 11 hjn (by omega)
                  have e12 : wr.cell? ⟨w3.heap.size + 1, j * 16 + 12, none⟩ = some (.int .u64 0) := HF2.out.ws.cells j 12 hjn (by omega)
                  have e13 : wr.cell? ⟨w3.heap.size + 1, j * 16 + 13, none⟩ = some (.int .i64 0) := HF2.out.ws.cells j 13 hjn (by omega)
                  have e14 : wr.cell? ⟨w3.heap.size + 1, j * 16 + 14, none⟩ = some (.pointer none) := HF2.out.ws.cells j 14 hjn (by omega)
                  have e15 : wr.cell? ⟨w3.heap.size + 1, j * 16 + 15, none⟩ = some (.string ByteArray.empty) := HF2.out.ws.cells j 15 hjn (by omega)
                  have ci := HF2.out.ws.inst
                  have hFb := updBound (kk := kk) hnd0 hnd1 HF.out j
                  have hF0 := hFb.1
                  have hF1 := hFb.2
                  have zm := HM.out j hjn
                  have z0 := HF2.out.base.z0
                  have z1 := HF2.out.base.z1
                  have z2 := HF2.out.base.z2
                  have hsz : w3.heap.size < wr.heap.size := cell_lt z0
                  clear hFb
                  have HOC : Hid ((j = kk ∧ upd (fun _ => occ) kk (wrap64 (occ + 1)) j = wrap64 (occ + 1)) ∨ (¬ j = kk ∧ upd (fun _ => occ) kk (wrap64 (occ + 1)) j = occ)) := by
                    by_cases hjk : j = kk
                    · exact Or.inl ⟨hjk, by rw [hjk, upd_same]⟩
                    · exact Or.inr ⟨hjk, by rw [upd_other _ _ _ _ hjk]⟩
                  generalize upd (fun _ => occ) kk (wrap64 (occ + 1)) j = oj at e11 HOC
                  generalize hdj : upd (dsF xs) kk nd j = dj at e8 e9 zm hF0 hF1
                  clear hdj
                  go_wp2_with fail
                  have hS0 : (wr.alloc (.cells #[.pointer none, .string ByteArray.empty, .int .i64 ((j : Int) + 1), .int .i64 0, .int .i64 0, .string ByteArray.empty, .string ByteArray.empty, .slice none 0 0, .int .u64 (tw dj), .int .i64 (te dj), .pointer none, .int .i64 oj, .int .u64 0, .int .i64 0, .pointer none, .string ByteArray.empty] 34)).cell? ⟨wr.heap.size, 8, none⟩ = some (.int .u64 (tw dj)) ∧ (wr.alloc (.cells #[.pointer none, .string ByteArray.empty, .int .i64 ((j : Int) + 1), .int .i64 0, .int .i64 0, .string ByteArray.empty, .string ByteArray.empty, .slice none 0 0, .int .u64 (tw dj), .int .i64 (te dj), .pointer none, .int .i64 oj, .int .u64 0, .int .i64 0, .pointer none, .string ByteArray.empty] 34)).cell? ⟨wr.heap.size, 9, none⟩ = some (.int .i64 (te dj)) ∧ (wr.alloc (.cells #[.pointer none, .string ByteArray.empty, .int .i64 ((j : Int) + 1), .int .i64 0, .int .i64 0, .string ByteArray.empty, .string ByteArray.empty, .slice none 0 0, .int .u64 (tw dj), .int .i64 (te dj), .pointer none, .int .i64 oj, .int .u64 0, .int .i64 0, .pointer none, .string ByteArray.empty] 34)).cell? ⟨wr.heap.size, 10, none⟩ = some (.pointer none) ∧ (wr.alloc (.cells #[.pointer none, .string ByteArray.empty, .int .i64 ((j : Int) + 1), .int .i64 0, .int .i64 0, .string ByteArray.empty, .string ByteArray.empty, .slice none 0 0, .int .u64 (tw dj), .int .i64 (te dj), .pointer none, .int .i64 oj, .int .u64 0, .int .i64 0, .pointer none, .string ByteArray.empty] 34)).cell? ⟨w3.heap.size, 0, none⟩ = some (.int .u64 0) ∧ (wr.alloc (.cells #[.pointer none, .string ByteArray.empty, .int .i64 ((j : Int) + 1), .int .i64 0, .int .i64 0, .string ByteArray.empty, .string ByteArray.empty, .slice none 0 0, .int .u64 (tw dj), .int .i64 (te dj), .pointer none, .int .i64 oj, .int .u64 0, .int .i64 0, .pointer none, .string ByteArray.empty] 34)).cell? ⟨w3.heap.size, 1, none⟩ = some (.int .i64 0) ∧ (wr.alloc (.cells #[.pointer none, .string ByteArray.empty, .int .i64 ((j : Int) + 1), .int .i64 0, .int .i64 0, .string ByteArray.empty, .string ByteArray.empty, .slice none 0 0, .int .u64 (tw dj), .int .i64 (te dj), .pointer none, .int .i64 oj, .int .u64 0, .int .i64 0, .pointer none, .string ByteArray.empty] 34)).cell? ⟨w3.heap.size, 2, none⟩ = some (.pointer none) ∧ (wr.alloc (.cells #[.pointer none, .string ByteArray.empty, .int .i64 ((j : Int) + 1), .int .i64 0, .int .i64 0, .string ByteArray.empty, .string ByteArray.empty, .slice none 0 0, .int .u64 (tw dj), .int .i64 (te dj), .pointer none, .int .i64 oj, .int .u64 0, .int .i64 0, .pointer none, .string ByteArray.empty] 34)).cell? ⟨g, j, none⟩ = some (.int .i64 dj) := by
                    refine ⟨cell_alloc_at rfl, cell_alloc_at rfl, cell_alloc_at rfl, ?_, ?_, ?_, ?_⟩
                    · rw [World.cell?_alloc_lt _ _ _ hsz]; exact z0
                    · rw [World.cell?_alloc_lt _ _ _ hsz]; exact z1
                    · rw [World.cell?_alloc_lt _ _ _ hsz]; exact z2
                    · rw [World.cell?_alloc_lt _ _ _ hgs4]; exact zm
                  have hBO : Below wr.heap.size wr (wr.alloc (.cells #[.pointer none, .string ByteArray.empty, .int .i64 ((j : Int) + 1), .int .i64 0, .int .i64 0, .string ByteArray.empty, .string ByteArray.empty, .slice none 0 0, .int .u64 (tw dj), .int .i64 (te dj), .pointer none, .int .i64 oj, .int .u64 0, .int .i64 0, .pointer none, .string ByteArray.empty] 34)) := (Below.refl _ wr).alloc (Nat.le_refl _) _
                  have hzO : (wr.alloc (.cells #[.pointer none, .string ByteArray.empty, .int .i64 ((j : Int) + 1), .int .i64 0, .int .i64 0, .string ByteArray.empty, .string ByteArray.empty, .slice none 0 0, .int .u64 (tw dj), .int .i64 (te dj), .pointer none, .int .i64 oj, .int .u64 0, .int .i64 0, .pointer none, .string ByteArray.empty] 34)).heap.size = wr.heap.size + 1 := by simp
                  clear z0 z1 z2 zm e0 e1 e2 e3 e4 e5 e6 e7 e8 e9 e10 e11 e12 e13 e14 e15 ci
                  obtain ⟨W0, hW0⟩ : ∃ x, x = wr.alloc (.cells #[.pointer none, .string ByteArray.empty, .int .i64 ((j : Int) + 1), .int .i64 0, .int .i64 0, .string ByteArray.empty, .string ByteArray.empty, .slice none 0 0, .int .u64 (tw dj), .int .i64 (te dj), .pointer none, .int .i64 oj, .int .u64 0, .int .i64 0, .pointer none, .string ByteArray.empty] 34) := ⟨_, rfl⟩
                  have h11 : W0.cell? ⟨wr.heap.size, 11, none⟩ = some (.int .i64 oj) := by rw [hW0]; exact cell_alloc_at rfl
                  rw [← hW0] at hS0 hBO hzO
                  rw [← hW0]
                  clear hW0
                  go_region_held3 (fun w' => w'.cell? ⟨wr.heap.size, 8, none⟩ = some (.int .u64 (tw dj)) ∧ w'.cell? ⟨wr.heap.size, 9, none⟩ = some (.int .i64 (te dj)) ∧ w'.cell? ⟨wr.heap.size, 10, none⟩ = some (.pointer none) ∧ w'.cell? ⟨w3.heap.size, 0, none⟩ = some (.int .u64 0) ∧ w'.cell? ⟨w3.heap.size, 1, none⟩ = some (.int .i64 0) ∧ w'.cell? ⟨w3.heap.size, 2, none⟩ = some (.pointer none) ∧ w'.cell? ⟨g, j, none⟩ = some (.int .i64 dj))
                    (first | exact hS0 | exact q5 | exact q6)
                    (first
                      | (go_at_call 4; refine (add_zero' dj _ hF0 hF1).mono ?_; rintro e w5 ⟨rfl, hB5⟩; have q5 : w5.cell? ⟨wr.heap.size, 8, none⟩ = some (.int .u64 (tw dj)) ∧ w5.cell? ⟨wr.heap.size, 9, none⟩ = some (.int .i64 (te dj)) ∧ w5.cell? ⟨wr.heap.size, 10, none⟩ = some (.pointer none) ∧ w5.cell? ⟨w3.heap.size, 0, none⟩ = some (.int .u64 0) ∧ w5.cell? ⟨w3.heap.size, 1, none⟩ = some (.int .i64 0) ∧ w5.cell? ⟨w3.heap.size, 2, none⟩ = some (.pointer none) ∧ w5.cell? ⟨g, j, none⟩ = some (.int .i64 dj) := s4_keep (w := W0.drew) (ob := 8) hB5 (show wr.heap.size < W0.heap.size by omega) (show w3.heap.size < W0.heap.size by omega) (show g < W0.heap.size by omega) hS0; have q5s : W0.heap.size ≤ w5.heap.size := hB5.size)
                      | (go_at_call 11; refine (equal_same' dj _).mono ?_; rintro e w6 ⟨rfl, hB6⟩; have q6 : w6.cell? ⟨wr.heap.size, 8, none⟩ = some (.int .u64 (tw dj)) ∧ w6.cell? ⟨wr.heap.size, 9, none⟩ = some (.int .i64 (te dj)) ∧ w6.cell? ⟨wr.heap.size, 10, none⟩ = some (.pointer none) ∧ w6.cell? ⟨w3.heap.size, 0, none⟩ = some (.int .u64 0) ∧ w6.cell? ⟨w3.heap.size, 1, none⟩ = some (.int .i64 0) ∧ w6.cell? ⟨w3.heap.size, 2, none⟩ = some (.pointer none) ∧ w6.cell? ⟨g, j, none⟩ = some (.int .i64 dj) := s4_keep (ob := 8) hB6 (by omega) (by omega) (by omega) q5))
                  have hB6w : Below wr.heap.size wr w6 := ((hBO.trans (drew_below _ W0)).trans (hB5.mono (show wr.heap.size ≤ W0.heap.size by omega))).trans (hB6.mono (by omega))
                  have d11 : w6.cell? ⟨wr.heap.size, 11, none⟩ = some (.int .i64 oj) := (hB6.cell (p := ⟨wr.heap.size, 11, none⟩) (show wr.heap.size < w5.heap.size by omega)).trans ((hB5.cell (p := ⟨wr.heap.size, 11, none⟩) (show wr.heap.size < W0.heap.size by omega)).trans h11)
                  have hT : w9.heap.size + 1 + n < wr.heap.size := cell_lt HF2.out.hs.hd
                  have HFn : Hid (Fin1 w.heap.size w1.heap.size w3.heap.size (w3.heap.size + 1) wA.heap.size w8.heap.size w9.heap.size (w9.heap.size + 1) n o (dsF xs) (upd (dsF xs) kk nd) (upd (fun _ => occ) kk (wrap64 (occ + 1))) (upd (fun q => dsF xs (ord q)) pk nd) ord hp' w6) := HF2.out.keep hT hB6w (Nat.le_refl _)
                  have HMn : Hid (∀ j, j < n → w6.cell? ⟨g, j, none⟩ = some (.int .i64 (upd (dsF xs) kk nd j))) := fun i hi => (hB6w.cell (p := ⟨g, i, none⟩) hgs4).trans (HM.out i hi)
                  have hBwn : Below w.heap.size w w6 := hBw.trans (hB6w.mono hBw.size)
                  have hgn : g < w6.heap.size := by have := hB6w.size; omega
                  clear hB5 hB6 hBO hB6w q5 q6 hS0 h11
                  rcases HOC.out with ⟨hjk, rfl⟩ | ⟨hjk, rfl⟩
                  · have hjkI : (j : Int) = (kk : Int) := by omega
                    go_wp2
                    go_roundw
                    case rel => exact ⟨j + 1, by go_num, by omega, HFn.out, HMn.out, hBwn, hgn⟩
                    case measure => simp [intOf]; omega
                  · have hjkI : ¬ (j : Int) = (kk : Int) := by omega
                    go_wp2
                    go_roundw
                    case rel => exact ⟨j + 1, by go_num, by omega, HFn.out, HMn.out, hBwn, hgn⟩
                    case measure => simp [intOf]; omega
                · have hjE : n = j := by omega
                  subst hjE
                  obtain ⟨wD, hwD⟩ : ∃ x, x = wr := ⟨wr, rfl⟩
                  subst hwD
                  have ce := HF2.out.hs.hd
                  go_wp2_with (at_make; refine wpList_make_full _ rfl (.tmp 194) (.tmp 194) 91 rfl w.heap.size 4 i4 (.bool false) 1 Yba.underlying91 hi4 hz4 hs4 .i64 .i64 _ _ n rfl rfl rfl rfl (by rw [hb4]; omega) (by unfold maxLen; omega) (by have := hBw.size; omega) ?_; intro w16 hown hg; have HS : Hid _ := stage6 HF2.out HM.out hBw hgs4 hown hg; clear hown hg)
                  obtain ⟨hF16, hM16, hS16, hBw16, h16s⟩ := HS.out
                  have H6 : Hid (Fin1 w.heap.size w1.heap.size w3.heap.size (w3.heap.size + 1) wA.heap.size w8.heap.size w9.heap.size (w9.heap.size + 1) n o (dsF xs) (upd (dsF xs) kk nd) (upd (fun _ => occ) kk (wrap64 (occ + 1))) (upd (fun q => dsF xs (ord q)) pk nd) ord hp' w16 ∧ (∀ j, j < n → w16.cell? ⟨g, j, none⟩ = some (.int .i64 (upd (dsF xs) kk nd j))) ∧ Seen wD.heap.size n 0 (fun q => ord (hp' q)) w16) := ⟨hF16, hM16, hS16⟩
                  clear HS hF16 hM16 hS16 ce HF2 HM hBw
                  go_loopw [30] (fun v wq => ∃ p : Nat, v = .int .i64 p ∧ p ≤ n ∧ Hid (Fin1 w.heap.size w1.heap.size w3.heap.size (w3.heap.size + 1) wA.heap.size w8.heap.size w9.heap.size (w9.heap.size + 1) n o (dsF xs) (upd (dsF xs) kk nd) (upd (fun _ => occ) kk (wrap64 (occ + 1))) (upd (fun q => dsF xs (ord q)) pk nd) ord hp' wq) ∧ Hid (∀ j, j < n → wq.cell? ⟨g, j, none⟩ = some (.int .i64 (upd (dsF xs) kk nd j))) ∧ Hid (Seen wD.heap.size n p (fun q => ord (hp' q)) wq) ∧ Below w.heap.size w wq ∧ wD.heap.size < wq.heap.size) (fun v _ => n - (intOf v).toNat)
                  case atStart => exact ⟨0, rfl, Nat.zero_le _, H6.out.1, H6.out.2.1, H6.out.2.2, hBw16, h16s⟩
                  case round =>
                    clear H6 hBw16 h16s
                    obtain ⟨p, rfl, hp, HF2, HM, HSn, hBw, hSs⟩ := hrel
                    by_cases hpn : p < n
                    · have hpI : (p : Int) < (n : Int) := by omega
                      have hqn := HF2.out.hs.perm.lt p hpn
                      have hsn := HSo.out.lt _ hqn
                      have hsnI : ((ord (hp' p) : Nat) : Int) < (n : Int) := by omega
                      have hfr : wr.cell? ⟨wD.heap.size, ord (hp' p), none⟩ = some (.bool false) := HSn.out.fresh hsn (fun q hq e => by have e1 := HSo.out.inj _ _ (HF2.out.hs.perm.lt q (by omega)) hqn e; have e2 := HF2.out.hs.perm.inj q p (by omega) hpn e1; omega)
                      have hff := HSn.out.fz (ord (hp' p))
                      have ce := HF2.out.hs.hd
                      have cr := HF2.out.hs.row p hpn
                      have cq : wr.cell? ⟨w9.heap.size + 1 + hp' p, 1, none⟩ = some (.int .i64 ((ord (hp' p) : Int) + 1)) := HF2.out.hs.c1 (hp' p) hqn
                      have HSm : Hid (Seen wD.heap.size n (p + 1) (fun q => ord (hp' q)) (wr.setCell ⟨wD.heap.size, ord (hp' p), none⟩ (.bool true))) := HSn.out.mark hsn
                      go_upto_region 63 with fail
                      obtain ⟨W1, hW1⟩ : ∃ x, x = wr.setCell ⟨wD.heap.size, ord (hp' p), none⟩ (.bool true) := ⟨_, rfl⟩
                      have hB1 : Below wD.heap.size wr W1 := by rw [hW1]; exact (Below.refl _ wr).setCell (p := ⟨wD.heap.size, ord (hp' p), none⟩) (Nat.le_refl _) _
                      have HF3 : Hid (Fin1 w.heap.size w1.heap.size w3.heap.size (w3.heap.size + 1) wA.heap.size w8.heap.size w9.heap.size (w9.heap.size + 1) n o (dsF xs) (upd (dsF xs) kk nd) (upd (fun _ => occ) kk (wrap64 (occ + 1))) (upd (fun q => dsF xs (ord q)) pk nd) ord hp' W1) := HF2.out.keep (K := wD.heap.size) (by omega) hB1 (Nat.le_of_lt hSs)
                      have HM3 : Hid (∀ j, j < n → W1.cell? ⟨g, j, none⟩ = some (.int .i64 (upd (dsF xs) kk nd j))) := fun i hi => (hB1.cell (p := ⟨g, i, none⟩) hgs4).trans (HM.out i hi)
                      have HS3 : Hid (Seen wD.heap.size n (p + 1) (fun q => ord (hp' q)) W1) := by rw [hW1]; exact HSm.out
                      have hBw3 : Below w.heap.size w W1 := hBw.trans (hB1.mono (by omega))
                      have h1s : wD.heap.size < W1.heap.size := by rw [hW1]; simpa [World.setCell] using hSs
                      rw [← hW1]
                      clear hW1 HSm HF2 HM HSn hB1 hfr hff ce cr cq hBw hSs
                      have k0 := HF3.out.hs.c0 (hp' p) hqn
                      have k5 := HF3.out.hs.c5 p hpn
                      have kmp := HF3.out.hs.mp
                      have hl : (Instr.lookup 48 (.map (some w9.heap.size)) (.int .i64 ((ord (hp' p) : Int) + 1)) false).run Yba.prog W1 = .ok (.pointer (some ⟨w9.heap.size + 1 + hp' p, 0, none⟩)) W1 := look_at (sq := fun q => (ord q : Int) + 1) HF3.out.hs.mb HF3.out.ents hqn (fun a b ha hb e => HSo.out.inj a b ha hb (by have e' : ((ord a : Nat) : Int) + 1 = ((ord b : Nat) : Int) + 1 := e; omega))
                      have hn35 := neq35
                      have hn49 := neq49
                      go_wp2_with fail
                      clear hn35 hn49
                      have hFb := updBound (kk := kk) hnd0 hnd1 HF.out (ord (hp' p))
                      have zm := HM3.out _ hsn
                      have t2 := HF3.out.hs.c2 (hp' p) hqn
                      have t3 := HF3.out.hs.c3 (hp' p) hqn
                      have t4 := HF3.out.hs.c4 (hp' p) hqn
                      rw [due_model HSo.out hpk HOK.out _ hqn] at t2 t3
                      have hord : 0 < p → ¬ upd (dsF xs) kk nd (ord (hp' p)) < upd (dsF xs) kk nd (ord (hp' (par p))) := fun h0 => by
                        have := model_order HF3.out.heap p h0 hpn
                        rw [due_model HSo.out hpk HOK.out _ hqn, due_model HSo.out hpk HOK.out _ (HF3.out.hs.perm.lt _ (by unfold par; omega))] at this
                        exact this
                      have HORD : Hid (0 < p → ¬ upd (dsF xs) kk nd (ord (hp' p)) < upd (dsF xs) kk nd (ord (hp' (par p)))) := hord
                      clear hord k0 k5 kmp hl
                      generalize hdj : upd (dsF xs) kk nd (ord (hp' p)) = dj at *
                      have hF0 := hFb.1
                      have hF1 := hFb.2
                      have hTs : w9.heap.size + 1 + hp' p < W1.heap.size := cell_lt t4
                      have hzs : w3.heap.size < W1.heap.size := cell_lt HF3.out.base.z0
                      have hgs1 : g < W1.heap.size := by omega
                      have hS0 : W1.cell? ⟨w9.heap.size + 1 + hp' p, 2, none⟩ = some (.int .u64 (tw dj)) ∧ W1.cell? ⟨w9.heap.size + 1 + hp' p, 3, none⟩ = some (.int .i64 (te dj)) ∧ W1.cell? ⟨w9.heap.size + 1 + hp' p, 4, none⟩ = some (.pointer none) ∧ W1.cell? ⟨w3.heap.size, 0, none⟩ = some (.int .u64 0) ∧ W1.cell? ⟨w3.heap.size, 1, none⟩ = some (.int .i64 0) ∧ W1.cell? ⟨w3.heap.size, 2, none⟩ = some (.pointer none) ∧ W1.cell? ⟨g, ord (hp' p), none⟩ = some (.int .i64 dj) := ⟨t2, t3, t4, HF3.out.base.z0, HF3.out.base.z1, HF3.out.base.z2, zm⟩
                      have hwr1 : IntKind.i64.wrap ((ord (hp' p) : Nat) : Int) = ((ord (hp' p) : Nat) : Int) := wrap_id _ (by omega) (by omega)
                      have hwr2 : IntKind.i64.wrap (((ord (hp' p) : Nat) : Int) + 1 - 1) = ((ord (hp' p) : Nat) : Int) := by rw [show ((ord (hp' p) : Nat) : Int) + 1 - 1 = ((ord (hp' p) : Nat) : Int) by omega]; exact hwr1
                      clear hFb t2 t3 t4 zm
                      go_region_held3 (fun w' => w'.cell? ⟨w9.heap.size + 1 + hp' p, 2, none⟩ = some (.int .u64 (tw dj)) ∧ w'.cell? ⟨w9.heap.size + 1 + hp' p, 3, none⟩ = some (.int .i64 (te dj)) ∧ w'.cell? ⟨w9.heap.size + 1 + hp' p, 4, none⟩ = some (.pointer none) ∧ w'.cell? ⟨w3.heap.size, 0, none⟩ = some (.int .u64 0) ∧ w'.cell? ⟨w3.heap.size, 1, none⟩ = some (.int .i64 0) ∧ w'.cell? ⟨w3.heap.size, 2, none⟩ = some (.pointer none) ∧ w'.cell? ⟨g, ord (hp' p), none⟩ = some (.int .i64 dj))
                        (first | exact hS0 | exact q5 | exact q6)
                        (first
                          | (go_at_call 4; refine (add_zero' dj _ hF0 hF1).mono ?_; rintro e w5 ⟨rfl, hB5⟩; have q5 : w5.cell? ⟨w9.heap.size + 1 + hp' p, 2, none⟩ = some (.int .u64 (tw dj)) ∧ w5.cell? ⟨w9.heap.size + 1 + hp' p, 3, none⟩ = some (.int .i64 (te dj)) ∧ w5.cell? ⟨w9.heap.size + 1 + hp' p, 4, none⟩ = some (.pointer none) ∧ w5.cell? ⟨w3.heap.size, 0, none⟩ = some (.int .u64 0) ∧ w5.cell? ⟨w3.heap.size, 1, none⟩ = some (.int .i64 0) ∧ w5.cell? ⟨w3.heap.size, 2, none⟩ = some (.pointer none) ∧ w5.cell? ⟨g, ord (hp' p), none⟩ = some (.int .i64 dj) := s4_keep (w := W1.drew) (ob := 2) hB5 hTs hzs hgs1 hS0; have q5s : W1.heap.size ≤ w5.heap.size := hB5.size)
                          | (go_at_call 11; refine (equal_same' dj _).mono ?_; rintro e w6 ⟨rfl, hB6⟩; have q6 : w6.cell? ⟨w9.heap.size + 1 + hp' p, 2, none⟩ = some (.int .u64 (tw dj)) ∧ w6.cell? ⟨w9.heap.size + 1 + hp' p, 3, none⟩ = some (.int .i64 (te dj)) ∧ w6.cell? ⟨w9.heap.size + 1 + hp' p, 4, none⟩ = some (.pointer none) ∧ w6.cell? ⟨w3.heap.size, 0, none⟩ = some (.int .u64 0) ∧ w6.cell? ⟨w3.heap.size, 1, none⟩ = some (.int .i64 0) ∧ w6.cell? ⟨w3.heap.size, 2, none⟩ = some (.pointer none) ∧ w6.cell? ⟨g, ord (hp' p), none⟩ = some (.int .i64 dj) := s4_keep (ob := 2) hB6 (by omega) (by omega) (by omega) q5))
                      have hB6w : Below W1.heap.size W1 w6 := ((drew_below _ W1).trans hB5).trans (hB6.mono q5s)
                      have hT1 : w9.heap.size + 1 + n < W1.heap.size := by omega
                      have HF6 : Hid (Fin1 w.heap.size w1.heap.size w3.heap.size (w3.heap.size + 1) wA.heap.size w8.heap.size w9.heap.size (w9.heap.size + 1) n o (dsF xs) (upd (dsF xs) kk nd) (upd (fun _ => occ) kk (wrap64 (occ + 1))) (upd (fun q => dsF xs (ord q)) pk nd) ord hp' w6) := HF3.out.keep hT1 hB6w (Nat.le_refl _)
                      have HM6 : Hid (∀ j, j < n → w6.cell? ⟨g, j, none⟩ = some (.int .i64 (upd (dsF xs) kk nd j))) := fun i hi => (hB6w.cell (p := ⟨g, i, none⟩) hgs1).trans (HM3.out i hi)
                      have HS6 : Hid (Seen wD.heap.size n (p + 1) (fun q => ord (hp' q)) w6) := HS3.out.keep hB6w h1s
                      have hBw6 : Below w.heap.size w w6 := hBw3.trans (hB6w.mono hBw3.size)
                      have h6s : wD.heap.size < w6.heap.size := by have := hB6w.size; omega
                      have m1 := q6.2.2.2.2.2.2
                      clear hB5 hB6 hB6w q5 q6 hS0 HF3 HM3 HS3 hBw3
                      by_cases hp0 : p = 0
                      · have hp0I : ¬ (0 : Int) < (p : Int) := by omega
                        go_wp2
                        go_roundw
                        case rel => exact ⟨p + 1, by go_num, by omega, HF6.out, HM6.out, HS6.out, hBw6, h6s⟩
                        case measure => simp [intOf]; omega
                      · have hp0I : (0 : Int) < (p : Int) := by omega
                        obtain ⟨i, hi⟩ : ∃ i : Nat, Int.tdiv ((p : Int) - 1) 2 = (i : Int) := ⟨par p, by unfold par; rw [Int.tdiv_eq_ediv_of_nonneg (by omega)]; omega⟩
                        have HI : Hid (i = par p) := by unfold par; rw [Int.tdiv_eq_ediv_of_nonneg (by omega)] at hi; show i = _; omega
                        have hin : i < n := by rw [Int.tdiv_eq_ediv_of_nonneg (by omega)] at hi; omega
                        have hiI : (i : Int) < (n : Int) := by omega
                        have hq2 := HF6.out.hs.perm.lt i hin
                        have hs2n := HSo.out.lt _ hq2
                        have hs2I : ((ord (hp' i) : Nat) : Int) < (n : Int) := by omega
                        have ce6 := HF6.out.hs.hd
                        have cr2 := HF6.out.hs.row i hin
                        have cs2 : w6.cell? ⟨w9.heap.size + 1 + hp' i, 1, none⟩ = some (.int .i64 ((ord (hp' i) : Int) + 1)) := HF6.out.hs.c1 _ hq2
                        have m2 := HM6.out _ hs2n
                        have hlt := HORD.out (by omega)
                        rw [← HI.out] at hlt
                        clear HORD
                        generalize upd (dsF xs) kk nd (ord (hp' i)) = d2 at m2 hlt
                        go_wp2_with fail
                        go_quiet (fail)
                        go_wp2
                        go_roundw
                        case rel =>
                          have hBd : Below w6.heap.size w6 (w6.drewN nq) := below_drewN (Below.refl _ w6) nq
                          exact ⟨p + 1, by go_num, by omega, HF6.out.keep (K := w6.heap.size) (by omega) hBd (Nat.le_refl _), HM6.out, HS6.out.keep hBd h6s, below_drewN hBw6 nq, h6s⟩
                        case measure => simp [intOf]; omega
                    · go_wp2
                      go_ret
                      exact ⟨rfl, hBw⟩
end Go.Proofs.Ybulkderu
