import Derived.Test.YbulkderuBuild
import Derived.Lib.SliceRun
namespace Go.Proofs.Ybulkderu
open Go.RowKit
set_option linter.unusedVariables false

def dsCells (ds : Nat → Int) (n : Nat) : List Value := (List.range n).map fun j => Value.int .i64 (ds j)
theorem dsCells_at (ds : Nat → Int) (n j : Nat) (hj : j < n) : (dsCells ds n)[j]? = some (.int .i64 (ds j)) := by
  simp [dsCells, List.getElem?_map, List.getElem?_range hj]
theorem dsCells_src {D n : Nat} {ds : Nat → Int} {w w' : World} (hB : Below w.heap.size w w') (hd : ∀ j, j < n → w.cell? ⟨D, j, none⟩ = some (.int .i64 (ds j))) :
    ∀ j u, (dsCells ds n)[j]? = some u → w'.cell? ((⟨D, 0, none⟩ : Addr).add j) = some u := by
  intro j u h
  have hj : j < n := by
    have := (List.getElem?_eq_some_iff.1 h).1
    simpa [dsCells] using this
  rw [dsCells_at ds n j hj] at h
  injection h with h
  subst h
  have e : (⟨D, 0, none⟩ : Addr).add j = ⟨D, j, none⟩ := by rw [Addr.add_mid, Nat.zero_add]
  rw [e, hB.cell (p := ⟨D, j, none⟩) (cell_lt (hd j hj))]
  exact hd j hj
theorem dsCells_one (ds : Nat → Int) (n : Nat) : ∀ u ∈ dsCells ds n, u.oneCell' = true := by
  intro u hu
  obtain ⟨j, _, rfl⟩ := List.mem_map.1 hu
  rfl
theorem owns_empty (w : World) (t : TypeId) : (w.alloc (.cells #[] t)).ownsRow w.heap.size t 1 (.slice (some ⟨w.heap.size, 0, none⟩) 0 0) 0 [] := by
  refine ⟨rfl, Or.inr ⟨w.heap.size, 0, #[], rfl, Nat.le_refl _, ?_, Nat.le_refl _, by unfold maxLen; omega, rfl, rfl⟩⟩
  show (w.heap.push _)[w.heap.size]? = _
  simp

def ClonePost (n : Nat) (ds : Nat → Int) (w : World) (e : Ending) (w' : World) : Prop :=
  ∃ g cap, e = .returned (.slice (some ⟨g, 0, none⟩) n cap) ∧ w.heap.size ≤ g ∧ n ≤ cap ∧ cap ≤ maxLen ∧ g < w'.heap.size ∧ (∀ j, j < n → w'.cell? ⟨g, j, none⟩ = some (.int .i64 (ds j))) ∧ (∀ k, w'.frozen? ⟨g, k, none⟩ = false) ∧ Below w.heap.size w w'

theorem clonePost_mk {n : Nat} {ds : Nat → Int} {w w' : World} {v : Value} {row : Option Nat} (hn0 : 0 < n) (hown : w'.ownsRow w.heap.size 2 1 v n (dsCells ds n)) (hB : Below w.heap.size w w') : ClonePost n ds w (.returned v) w' := by
  have h := hown
  rcases hown.2 with ⟨_, h0⟩ | ⟨g, cap, cur, rfl, hg, hh, h1, h2, _⟩
  · omega
  · exact ⟨g, cap, rfl, hg, h1, h2, lt_of_owns h, fun j hj => by rw [h.cellAt j (by omega)]; exact dsCells_at ds n j hj, fz_of_owns h, hB⟩

set_option maxRecDepth 4000 in
set_option maxHeartbeats 1000000 in
theorem clone_at (D n : Nat) (ds : Nat → Int) (w : World) (hn0 : 0 < n) (hn : n ≤ 1025) (hd : ∀ j, j < n → w.cell? ⟨D, j, none⟩ = some (.int .i64 (ds j))) :
    Calls Yba.prog 10 #[.slice (some ⟨D, 0, none⟩) n n] w fun e w' => ClonePost n ds w e w' := by
  obtain ⟨i2, hi2, hz2, hs2, hb2⟩ := info_parts info2
  have HD : Hid (∀ j, j < n → w.cell? ⟨D, j, none⟩ = some (.int .i64 (ds j))) := hd
  clear hd
  have hnil : ∀ w, (binOp .eql 22 (.slice (some ⟨D, 0, none⟩) n n) (.slice none 0 0)).run Yba.prog w = .ok (.bool false) w := fun w => Go.Lib.run_eql_slice_nil w 22 2 _ n n 0 0 Yba.underlying22
  go_enter Yba.func10, Yba.ntmps10
  go_wp2_with (at_builtin; refine wpList_append_own _ rfl (.tmp 5) (.tmp 6) 22 rfl w.heap.size 2 i2 (.int .i64 0) 1 8 Yba.underlying22 hi2 hz2 hs2 hb2 rfl (by decide) (.slice (some ⟨w.heap.size, 0, none⟩) 0 0) 0 [] rfl (owns_empty w 2) ⟨D, 0, none⟩ n n (dsCells ds n) rfl (by simp [dsCells]) (dsCells_src ((Below.refl _ w).alloc (Nat.le_refl _) _) HD.out) (dsCells_one ds n) (by unfold maxLen; omega) (by omega) (by simp) ?_; intro v' w2 hown hg _; rw [Nat.zero_add, List.nil_append] at hown; have HP : Hid (ClonePost n ds w (.returned v') w2) := clonePost_mk (row := none) hn0 hown (((Below.refl _ w).alloc (Nat.le_refl _) _).grown hg (by simp) (by simp [Value.ownBlock])); clear hown hg)
  go_ret
  exact HP.out
end Go.Proofs.Ybulkderu
