import Derived.Test.YbulkdeqeWalks
namespace Go.Proofs.Ybulkdeqe
open Go.RowKit

theorem head_is (v : Int) : (((((([] ++ le32 2712847316) ++ le16 2) ++ le16 4) ++ le32 0) ++ le32 0) ++ le32 65535) ++ le32 v = headBytes v := by
  simp [le32, le16, headBytes]

theorem headBytes_length (v : Int) : (headBytes v).length = 24 := by simp [headBytes, le32]

theorem step_own {w1 : World} {B g : Nat} {w w' : World} (h : Below B w w1) (hg : B ≤ g) (h' : Below g w1 w') : Below B w w' := h.trans (h'.mono hg)

/-- the row of 24 that the header stands in, as the source of an append. -/
theorem row_src {w : World} {base g n cap : Nat} {cs : List Value} (hown : w.ownsRow base 5 1 (.slice (some ⟨g, 0, none⟩) n cap) n cs) (hn : cs.length = n) : ∀ j u, cs[j]? = some u → w.cell? ((⟨g, 0, none⟩ : Addr).add j) = some u := by
  intro j u hj
  have hjl : j < cs.length := (List.getElem?_eq_some_iff.1 hj).1
  have h := hown.cellAt j (by omega)
  rw [hj] at h
  by_cases h0 : j = 0
  · subst h0; simpa [Addr.add] using h
  · simpa [Addr.add, h0] using h

theorem method_write (a : Addr) (w : World) : (method 168 22 (.pointer (some a)) "Write").run Yba.prog w = .ok (25, .pointer (some a)) w := by kernel_rfl

theorem Logged.alloc {B : Nat} {fv : Value} {xs : List Int} {w : World} (h : Logged B fv xs w) (o : Obj) : Logged B fv xs (w.alloc o) := by
  obtain ⟨⟨g, cap, hg, hs, hc, hr⟩, h1, h2⟩ := h
  have hB : B < w.heap.size := by omega
  refine ⟨⟨g, cap, hg, by simp; omega, ?_, ?_⟩, ?_, ?_⟩
  · rw [World.cell?_alloc_lt _ _ _ hB]; exact hc
  · intro j hj; rw [World.cell?_alloc_lt _ _ _ hs]; exact hr j hj
  · rw [World.cell?_alloc_lt _ _ _ hB]; exact h1
  · rw [World.cell?_alloc_lt _ _ _ hB]; exact h2

set_option maxHeartbeats 1000000 in
theorem new_ok (B : Nat) (x : Int) (w : World) (hB : B < w.heap.size)
    (c0 : w.cell? ⟨B, 0, none⟩ = some (.slice none 0 0)) (c1 : w.cell? ⟨B, 1, none⟩ = some (.int .i64 0)) (c2 : w.cell? ⟨B, 2, none⟩ = some .nilIface)
    (f0 : w.frozen? ⟨B, 0, none⟩ = false) (f1 : w.frozen? ⟨B, 1, none⟩ = false) :
    Calls Yba.prog 5 #[.iface 22 (.pointer (some ⟨B, 0, none⟩)), .int .i64 x] w fun e w' => ∃ p, e = .returned (.tuple #[.pointer (some ⟨p, 0, none⟩), .nilIface]) ∧ Below B w w' ∧ Logged B .nilIface (headBytes (x % 4294967296)) w' ∧
      w'.cell? ⟨p, 0, none⟩ = some (.iface 22 (.pointer (some ⟨B, 0, none⟩))) ∧ w'.cell? ⟨p, 1, none⟩ = some (.int .i64 0) ∧ w'.cell? ⟨p, 2, none⟩ = some (.slice none 0 0) := by
  obtain ⟨i0, hi, hz0, hz1, hz2⟩ := info_parts info5
  have hmw := method_write
  go_enter Yba.func5, Yba.ntmps5
  go_wp2_with (at_make; refine wpList_make_own _ rfl _ _ 23 rfl w.heap.size 5 i0 (.int .u8 0) 1 Yba.underlying23 hi hz0 hz1 .i64 .i64 _ 24 rfl rfl (by omega) (by rw [hz2]; omega) (by unfold maxLen; omega) (Nat.le_refl _) ?_; intro w1 hown1 hg1; have hb1 := (Below.refl w.heap.size w).grown hg1 (Nat.le_refl _) (by simp); clear hg1)
  refine (app32 2712847316 w.heap.size 0 24 [] w1 (by omega) (by omega) (by omega) hown1).mono ?_
  rintro e w2 ⟨rfl, hown2, hb2⟩
  replace hb2 := hb1.trans hb2
  clear hown1 hb1
  go_wp2_with fail
  refine (app16 2 w.heap.size _ 24 _ w2 (by omega) (by omega) (by omega) hown2).mono ?_
  rintro e w3 ⟨rfl, hown3, hb3⟩
  replace hb3 := hb2.trans hb3
  clear hown2 hb2
  go_wp2_with fail
  refine (app16 4 w.heap.size _ 24 _ w3 (by omega) (by omega) (by omega) hown3).mono ?_
  rintro e w4 ⟨rfl, hown4, hb4⟩
  replace hb4 := hb3.trans hb4
  clear hown3 hb3
  go_wp2_with fail
  refine (app32 0 w.heap.size _ 24 _ w4 (by omega) (by omega) (by omega) hown4).mono ?_
  rintro e w5 ⟨rfl, hown5, hb5⟩
  replace hb5 := hb4.trans hb5
  clear hown4 hb4
  go_wp2_with fail
  refine (app32 0 w.heap.size _ 24 _ w5 (by omega) (by omega) (by omega) hown5).mono ?_
  rintro e w6 ⟨rfl, hown6, hb6⟩
  replace hb6 := hb5.trans hb6
  clear hown5 hb5
  go_wp2_with fail
  refine (app32 65535 w.heap.size _ 24 _ w6 (by omega) (by omega) (by omega) hown6).mono ?_
  rintro e w7 ⟨rfl, hown7, hb7⟩
  replace hb7 := hb6.trans hb7
  clear hown6 hb6
  go_wp2_with fail
  refine (app32 (x % 4294967296) w.heap.size _ 24 _ w7 (by omega) (by omega) (by omega) hown7).mono ?_
  rintro e w8 ⟨rfl, hown8, hb8⟩
  replace hb8 := hb7.trans hb8
  clear hown7 hb7
  rw [head_is] at hown8
  go_wp2_with fail
  refine (write_ok B w.heap.size (headBytes (x % 4294967296)) w8 (Nat.lt_of_lt_of_le hB hb8.size) (by omega) (headBytes_length _) ((hb8.cell (p := ⟨B, 0, none⟩) hB).trans c0) ((hb8.cell (p := ⟨B, 1, none⟩) hB).trans c1) ((hb8.cell (p := ⟨B, 2, none⟩) hB).trans c2)
    ((hb8.frozen (p := ⟨B, 0, none⟩) hB).trans f0) ((hb8.frozen (p := ⟨B, 1, none⟩) hB).trans f1) (row_src hown8 (by simp [headBytes_length]))).mono ?_
  rintro e w9 ⟨rfl, hb9, hlog⟩
  replace hb9 := (hb8.mono (Nat.le_of_lt hB)).trans hb9
  clear hown8 hb8 c0 c1 c2 f0 f1
  go_wp2
  go_ret2
  exact ⟨w9.heap.size, rfl, hb9.alloc (Nat.le_trans (Nat.le_of_lt hB) hb9.size) _, hlog.alloc _, by simp, by simp, by simp⟩
set_option maxHeartbeats 1000000 in
theorem new_bad (B : Nat) (ea : Addr) (x : Int) (w : World) (hB : B < w.heap.size)
    (c0 : w.cell? ⟨B, 0, none⟩ = some (.slice none 0 0)) (c1 : w.cell? ⟨B, 1, none⟩ = some (.int .i64 0)) (c2 : w.cell? ⟨B, 2, none⟩ = some (.iface 39 (.pointer (some ea))))
    (f0 : w.frozen? ⟨B, 0, none⟩ = false) (f1 : w.frozen? ⟨B, 1, none⟩ = false) :
    Calls Yba.prog 5 #[.iface 22 (.pointer (some ⟨B, 0, none⟩)), .int .i64 x] w fun e w' => e = .returned (.tuple #[.pointer none, .iface 39 (.pointer (some ea))]) ∧ Below B w w' ∧ Logged B (.iface 39 (.pointer (some ea))) (headBytes (x % 4294967296)) w' := by
  obtain ⟨i0, hi, hz0, hz1, hz2⟩ := info_parts info5
  have hmw := method_write
  go_enter Yba.func5, Yba.ntmps5
  go_wp2_with (at_make; refine wpList_make_own _ rfl _ _ 23 rfl w.heap.size 5 i0 (.int .u8 0) 1 Yba.underlying23 hi hz0 hz1 .i64 .i64 _ 24 rfl rfl (by omega) (by rw [hz2]; omega) (by unfold maxLen; omega) (Nat.le_refl _) ?_; intro w1 hown1 hg1; have hb1 := (Below.refl w.heap.size w).grown hg1 (Nat.le_refl _) (by simp); clear hg1)
  refine (app32 2712847316 w.heap.size 0 24 [] w1 (by omega) (by omega) (by omega) hown1).mono ?_
  rintro e w2 ⟨rfl, hown2, hb2⟩
  replace hb2 := hb1.trans hb2
  clear hown1 hb1
  go_wp2_with fail
  refine (app16 2 w.heap.size _ 24 _ w2 (by omega) (by omega) (by omega) hown2).mono ?_
  rintro e w3 ⟨rfl, hown3, hb3⟩
  replace hb3 := hb2.trans hb3
  clear hown2 hb2
  go_wp2_with fail
  refine (app16 4 w.heap.size _ 24 _ w3 (by omega) (by omega) (by omega) hown3).mono ?_
  rintro e w4 ⟨rfl, hown4, hb4⟩
  replace hb4 := hb3.trans hb4
  clear hown3 hb3
  go_wp2_with fail
  refine (app32 0 w.heap.size _ 24 _ w4 (by omega) (by omega) (by omega) hown4).mono ?_
  rintro e w5 ⟨rfl, hown5, hb5⟩
  replace hb5 := hb4.trans hb5
  clear hown4 hb4
  go_wp2_with fail
  refine (app32 0 w.heap.size _ 24 _ w5 (by omega) (by omega) (by omega) hown5).mono ?_
  rintro e w6 ⟨rfl, hown6, hb6⟩
  replace hb6 := hb5.trans hb6
  clear hown5 hb5
  go_wp2_with fail
  refine (app32 65535 w.heap.size _ 24 _ w6 (by omega) (by omega) (by omega) hown6).mono ?_
  rintro e w7 ⟨rfl, hown7, hb7⟩
  replace hb7 := hb6.trans hb7
  clear hown6 hb6
  go_wp2_with fail
  refine (app32 (x % 4294967296) w.heap.size _ 24 _ w7 (by omega) (by omega) (by omega) hown7).mono ?_
  rintro e w8 ⟨rfl, hown8, hb8⟩
  replace hb8 := hb7.trans hb8
  clear hown7 hb7
  rw [head_is] at hown8
  go_wp2_with fail
  refine (write_bad B w.heap.size ea (headBytes (x % 4294967296)) w8 (Nat.lt_of_lt_of_le hB hb8.size) (by omega) (headBytes_length _) ((hb8.cell (p := ⟨B, 0, none⟩) hB).trans c0) ((hb8.cell (p := ⟨B, 1, none⟩) hB).trans c1) ((hb8.cell (p := ⟨B, 2, none⟩) hB).trans c2)
    ((hb8.frozen (p := ⟨B, 0, none⟩) hB).trans f0) ((hb8.frozen (p := ⟨B, 1, none⟩) hB).trans f1) (row_src hown8 (by simp [headBytes_length]))).mono ?_
  rintro e w9 ⟨rfl, hb9, hlog⟩
  replace hb9 := (hb8.mono (Nat.le_of_lt hB)).trans hb9
  clear hown8 hb8 c0 c1 c2 f0 f1
  go_wp2
  go_ret2
  exact ⟨rfl, hb9, hlog⟩
end Go.Proofs.Ybulkdeqe
