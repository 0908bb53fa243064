import Derived.Test.YbulkderuBase
namespace Go.Proofs.Ybulkderu
open Go.RowKit
set_option linter.unusedVariables false

def zeroWait : Value := .agg #[.pointer none, .string ByteArray.empty, .int .i64 0, .int .i64 0, .int .i64 0, .string ByteArray.empty, .string ByteArray.empty, .slice none 0 0, .int .u64 0, .int .i64 0, .pointer none, .int .i64 0, .int .u64 0, .int .i64 0, .pointer none, .string ByteArray.empty]
theorem info34 : (Yba.prog.info? 34).map (fun i => (i.zero, i.size, i.bytes)) = some (some zeroWait, 16, 176) := by kernel_rfl

/-- the first j waits stand. -/
structure Wp (GW n j : Nat) (ds : Nat → Int) (occ : Int) (w : World) : Prop where
  cells : ∀ i k, i < j → k < 16 → w.cell? ⟨GW, i * 16 + k, none⟩ = (wlist i (ds i) occ)[k]?
  there : ∀ m, m < n * 16 → (w.cell? ⟨GW, m, none⟩).isSome = true
  fz : ∀ k, w.frozen? ⟨GW, k, none⟩ = false

theorem Wp.keep {GW n j K : Nat} {ds : Nat → Int} {occ : Int} {w w' : World} (h : Wp GW n j ds occ w) (hB : Below K w w') (hK : GW < K) : Wp GW n j ds occ w' := by
  refine ⟨?_, ?_, ?_⟩
  · intro i k hi hk; rw [hB.cell (p := ⟨GW, _, none⟩) hK]; exact h.cells i k hi hk
  · intro m hm; rw [hB.cell (p := ⟨GW, _, none⟩) hK]; exact h.there m hm
  · intro k; rw [hB.frozen (p := ⟨GW, _, none⟩) hK]; exact h.fz k

theorem Wp.start {GW n base : Nat} {ds : Nat → Int} {occ : Int} {w : World} (hown : w.ownsRow base 34 16 (.slice (some ⟨GW, 0, none⟩) n n) n (madeCells zeroWait.cells (n * 16)).toList) : Wp GW n 0 ds occ w := by
  refine ⟨by omega, ?_, ?_⟩
  · intro m hm
    rw [hown.cellAt m hm]
    have : m < (madeCells zeroWait.cells (n * 16)).toList.length := by simpa [size_madeCells] using hm
    rw [List.getElem?_eq_getElem this]
    rfl
  · intro k
    rcases hown.2 with ⟨h', _⟩ | ⟨g', cap', cur, h', _, hg, _⟩
    · simp at h'
    · simp only [Value.slice.injEq, Option.some.injEq, Addr.mk.injEq, and_true, true_and] at h'
      obtain ⟨rfl, rfl⟩ := h'
      simp [World.frozen?, hg]

theorem wlist_len (j : Nat) (d o : Int) : (wlist j d o).length = 16 := rfl

theorem Wp.step {GW n j : Nat} {ds : Nat → Int} {occ : Int} {w : World} (h : Wp GW n j ds occ w) (hj : j < n) : Wp GW n (j + 1) ds occ (w.setCells GW (j * 16) (wlist j (ds j) occ)) := by
  have hs : ∀ i, i < (wlist j (ds j) occ).length → (w.cell? ⟨GW, j * 16 + i, none⟩).isSome = true := fun i hi => h.there _ (by rw [wlist_len] at hi; omega)
  refine ⟨?_, ?_, ?_⟩
  · intro i k hi hk
    by_cases e : i = j
    · subst e
      rw [World.cell?_setCells_in GW _ _ w hs k (by rw [wlist_len]; exact hk), List.getElem?_eq_getElem (by rw [wlist_len]; exact hk)]
    · rw [World.cell?_setCells_out GW _ _ w _ (fun _ _ => by rw [wlist_len]; left; show i * 16 + k < j * 16; omega)]
      exact h.cells i k (by omega) hk
  · intro m hm
    exact World.isSome_setCells _ _ _ _ _ (h.there m hm)
  · intro k
    rw [World.frozen?_setCells]
    exact h.fz k

theorem setCells_below (b : Nat) : ∀ (vs : List Value) (o : Nat) (w : World), Below b w (w.setCells b o vs)
  | [], _, w => Below.refl _ _
  | v :: r, o, w => by
    rw [World.setCells]
    exact ((Below.refl b w).setCell (p := ⟨b, o, none⟩) (Nat.le_refl _) v).trans (setCells_below b r (o + 1) _)

theorem setCells_size (b : Nat) : ∀ (vs : List Value) (o : Nat) (w : World), (w.setCells b o vs).heap.size = w.heap.size
  | [], _, w => rfl
  | v :: r, o, w => by
    rw [World.setCells, setCells_size b r]
    simp [World.setCell]

theorem setCells_far (b : Nat) (vs : List Value) (o : Nat) (w : World) (b' o' : Nat) (h : ¬ b = b') : (w.setCells b o vs).cell? ⟨b', o', none⟩ = w.cell? ⟨b', o', none⟩ :=
  World.cell?_setCells_out b vs o w _ (fun e => absurd e.symm h)

theorem there_below {w w' : World} {b o m K : Nat} (h : w.there b o m) (hB : Below K w w') (hK : b < K) : w'.there b o m := fun j hj => by
  rw [hB.cell (p := ⟨b, o + j, none⟩) hK, hB.frozen (p := ⟨b, o + j, none⟩) hK]; exact h j hj

theorem Wp.thereAt {GW n j i : Nat} {ds : Nat → Int} {occ : Int} {w : World} (h : Wp GW n j ds occ w) (hi : i < n) : w.there GW (i * 16) 16 := fun m hm => ⟨h.there _ (by omega), h.fz _⟩
end Go.Proofs.Ybulkderu
