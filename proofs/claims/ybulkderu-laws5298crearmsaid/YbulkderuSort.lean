import Derived.Test.YbulkderuTime
import Derived.Deep.RegionHeld3
import Derived.Test.YbulkderuShelf
namespace Go.Proofs.Ybulkderu
open Go.RowKit
set_option linter.unusedVariables false

/-- what the closure answers. -/
def cf (ds : Nat → Int) (x y : Nat) : Int := if ds x = ds y then cmpI x y else cmpI (ds x) (ds y)

set_option maxHeartbeats 1000000 in
theorem closure_at (ds : Nat → Int) (D DB n x y : Nat) (w : World) (hx : x < n) (hy : y < n) (hn : n ≤ 1025) (hb : w.cell? ⟨DB, 0, none⟩ = some (.slice (some ⟨D, 0, none⟩) n n))
    (cx : w.cell? ⟨D, x, none⟩ = some (.int .i64 (ds x))) (cy : w.cell? ⟨D, y, none⟩ = some (.int .i64 (ds y))) :
    Calls Yba.prog 6 #[.int .i64 x, .int .i64 y, .pointer (some ⟨DB, 0, none⟩)] w fun e w' => e = .returned (.int .i64 (cf ds x y)) ∧ ∃ q, w' = w.drewN q := by
  have hxI : (x : Int) < (n : Int) := by omega
  have hyI : (y : Int) < (n : Int) := by omega
  unfold cf
  by_cases he : ds x = ds y
  · rw [if_pos he]
    rw [he] at cx
    generalize ds y = v at *
    clear he
    go_enter Yba.func6, Yba.ntmps6
    go_wp2_with fail
    go_quiet (fail)
    go_wp2_with fail
    refine (cmpInt x y _).mono ?_
    rintro e w' ⟨rfl, rfl⟩
    go_wp2
    go_ret
    exact ⟨rfl, _, rfl⟩
  · rw [if_neg he]
    generalize ds x = u at *
    generalize ds y = v at *
    have heB : (u == v) = false := by simpa using he
    go_enter Yba.func6, Yba.ntmps6
    go_wp2_with fail
    go_quiet (fail)
    go_wp2_with fail
    go_region_held3 (fun w' => w'.cell? ⟨DB, 0, none⟩ = some (.slice (some ⟨D, 0, none⟩) n n) ∧ w'.cell? ⟨D, x, none⟩ = some (.int .i64 u) ∧ w'.cell? ⟨D, y, none⟩ = some (.int .i64 v)) (simp [*])
      (first | (go_at_call 7; refine (cmp64 u v _).mono ?_; rintro e w' ⟨rfl, rfl⟩))
    go_wp2
    go_ret
    exact ⟨rfl, nq + 1, rfl⟩

open Go.Sort Go.Shelf Go.Lib

/-- a world that the sort passes through is as it was below the row. -/
theorem sortWorld_below {α : Type} [Inhabited α] (enc : α → Value) (w : World) (blk off m : Nat) (dk : Array α) (os : Array Obj) (hblk : blk < w.heap.size) : Go.RowKit.Below blk w (sortWorld enc w blk off m dk os) := by
  refine ⟨rfl, rfl, rfl, ?_, ?_⟩
  · show w.heap.size ≤ ((w.heap.modify blk _) ++ os).size
    simp
  · intro k hk
    show ((w.heap.modify blk _) ++ os)[k]? = _
    rw [Array.getElem?_append_left (by simp; omega), Array.getElem?_modify, if_neg (by omega)]

def encF {n : Nat} (i : Fin n) : Value := .int .i64 ((i.val : Nat) : Int)
def cfF {n : Nat} (ds : Nat → Int) (x y : Fin n) : Int := cf ds x.val y.val

theorem cf_lt (ds : Nat → Int) (x y : Nat) : cf ds x y < 0 ↔ ds x < ds y ∨ (ds x = ds y ∧ x < y) := by
  unfold cf cmpI
  repeat' split
  all_goals omega
theorem ltF {n : Nat} (ds : Nat → Int) (x y : Fin n) : ltOf (cfF (n := n) ds) x y = decide (ds x.val < ds y.val ∨ (ds x.val = ds y.val ∧ x.val < y.val)) := by
  unfold ltOf cfF
  exact decide_eq_decide.2 (cf_lt ds x.val y.val)
theorem swoF {n : Nat} (ds : Nat → Int) : SWO (ltOf (cfF (n := n) ds)) := by
  refine ⟨?_, ?_, ?_⟩
  · intro x
    rw [ltF]
    simp
  · intro x y z h1 h2
    rw [ltF, decide_eq_true_eq] at *
    omega
  · intro x y z h1 h2
    rw [ltF, decide_eq_false_iff_not] at *
    omega

/-- the order that the sort leaves: place to number. -/
structure Sorted (n : Nat) (ds : Nat → Int) (ord : Nat → Nat) : Prop where
  lt : ∀ p, p < n → ord p < n
  inj : ∀ p q, p < n → q < n → ord p = ord q → p = q
  sur : ∀ k, k < n → ∃ p, p < n ∧ ord p = k
  asc : ∀ p q, p < q → q < n → ds (ord p) < ds (ord q) ∨ (ds (ord p) = ds (ord q) ∧ ord p < ord q)

theorem extract_all {α : Type} (a : Array α) (k : Nat) (h : a.size = k) : (a.extract 0 k).toList = a.toList := by
  subst h
  simp

theorem sorted_of {m : Nat} {ds : Nat → Int} {d' : Array (Fin (m + 1))} (hp : PermIn 0 (m + 1) (Array.ofFn (fun i : Fin (m + 1) => i)) d') (hs : SortedIn (ltOf (cfF ds)) 0 (m + 1) d') :
    Sorted (m + 1) ds (fun p => (d'[p]!).val) := by
  obtain ⟨h1, _, h3⟩ := hp
  have hsz : d'.size = m + 1 := by simpa using h1
  have e1 : (d'.extract 0 (m + 1)).toList = d'.toList := extract_all d' _ hsz
  have e2 : ((Array.ofFn (fun i : Fin (m + 1) => i)).extract 0 (m + 1)).toList = List.ofFn (fun i : Fin (m + 1) => i) := (extract_all _ _ Array.size_ofFn).trans Array.toList_ofFn
  rw [e1, e2] at h3
  have hnd : d'.toList.Nodup := h3.nodup_iff.2 (by
    rw [List.Nodup, List.pairwise_iff_getElem]
    intro i j hi hj hij e
    rw [List.getElem_ofFn, List.getElem_ofFn] at e
    have := congrArg Fin.val e
    simp only at this
    omega)
  have g : ∀ p, p < m + 1 → d'.toList[p]? = some d'[p]! := by
    intro p hp
    simp [Array.getElem?_eq_getElem (show p < d'.size by omega), getElem!_pos d' p (by omega)]
  have hinj : ∀ p q, p < m + 1 → q < m + 1 → (d'[p]!).val = (d'[q]!).val → p = q := by
    intro p q h1 h2 he
    have he' : d'[p]! = d'[q]! := Fin.ext he
    have a := g p h1
    have b := g q h2
    rw [he', ← b] at a
    exact (List.getElem?_inj (by simpa using (show p < d'.size by omega)) hnd).1 a
  refine ⟨fun p hp => (d'[p]!).isLt, hinj, ?_, ?_⟩
  · intro k hk
    have hm : (⟨k, hk⟩ : Fin (m + 1)) ∈ d'.toList := h3.mem_iff.2 (List.mem_ofFn.2 ⟨⟨k, hk⟩, rfl⟩)
    obtain ⟨p, hp, he⟩ := List.getElem_of_mem hm
    have hp' : p < m + 1 := by simpa [hsz] using hp
    refine ⟨p, hp', ?_⟩
    have a := g p hp'
    rw [List.getElem?_eq_getElem hp] at a
    injection a with a
    show (d'[p]!).val = k
    rw [← a, he]
  · intro p q hpq hq
    have h := hs p q (Nat.zero_le _) hpq hq
    rw [ltF, decide_eq_false_iff_not] at h
    have hne : (d'[p]!).val ≠ (d'[q]!).val := fun e => by have := hinj p q (by omega) hq e; omega
    show ds (d'[p]!).val < ds (d'[q]!).val ∨ (ds (d'[p]!).val = ds (d'[q]!).val ∧ (d'[p]!).val < (d'[q]!).val)
    omega

/-- slices.SortFunc over the row of places. -/
theorem sort_at (ds : Nat → Int) (m D DB OB : Nat) (w : World) (hn : m + 1 ≤ 1025) (hD : D < OB) (hDB : DB < OB)
    (hrow : ∀ j, j < m + 1 → w.cell? ⟨OB, j, none⟩ = some (.int .i64 j) ∧ w.frozen? ⟨OB, j, none⟩ = false)
    (hb : w.cell? ⟨DB, 0, none⟩ = some (.slice (some ⟨D, 0, none⟩) (m + 1) (m + 1))) (hd : ∀ j, j < m + 1 → w.cell? ⟨D, j, none⟩ = some (.int .i64 (ds j))) :
    Calls Yba.prog 5 #[.slice (some ⟨OB, 0, none⟩) (m + 1) (m + 1), .func (.func 6) #[] #[.pointer (some ⟨DB, 0, none⟩)]] w fun e w' =>
      e = .returned (.tuple #[]) ∧ ∃ ord, Sorted (m + 1) ds ord ∧ (∀ p, p < m + 1 → w'.cell? ⟨OB, p, none⟩ = some (.int .i64 (ord p : Nat))) ∧ Go.RowKit.Below OB w w' := by
  have hOB : OB < w.heap.size := World.block_lt_of_cell? w ⟨OB, 0, none⟩ (hrow 0 (by omega)).1
  have hg : ∀ j, j < m + 1 → (Array.ofFn (fun i : Fin (m + 1) => i))[j]! = Fin.ofNat (m + 1) j := by
    intro j hj
    rw [getElem!_pos _ j (by simpa using hj)]
    simp
    exact Fin.ext (by simp [Nat.mod_eq_of_lt hj])
  have hH : Holds (encF (n := m + 1)) w OB 0 (Array.ofFn (fun i : Fin (m + 1) => i)) := by
    intro j hj
    have hj' : j < m + 1 := by simpa using hj
    rw [hg j hj']
    obtain ⟨h1, h2⟩ := hrow j hj'
    rw [Nat.zero_add]
    refine ⟨?_, h2⟩
    rw [h1]
    simp [encF, Nat.mod_eq_of_lt hj']
  have eg : ∀ args w, (callFunc 6 args).run Yba.prog w = .ok (.enter 6 args) w := enters_of Yba.func6 (by kernel_rfl) rfl
  have hcmp : CmpReads Yba.prog 6 #[.pointer (some ⟨DB, 0, none⟩)] (encF (n := m + 1)) (cfF ds) OB 0 (m + 1) w := by
    intro k os dk hs x y
    have hB := sortWorld_below (encF (n := m + 1)) w OB 0 k dk os hOB
    refine closure_at ds D DB (m + 1) x.val y.val _ x.isLt y.isLt hn ?_ ?_ ?_
    · rw [hB.cell (p := ⟨DB, 0, none⟩) hDB]; exact hb
    · rw [hB.cell (p := ⟨D, _, none⟩) hD]; exact hd _ x.isLt
    · rw [hB.cell (p := ⟨D, _, none⟩) hD]; exact hd _ y.isLt
  have hsz : (Array.ofFn (fun i : Fin (m + 1) => i)).size = m + 1 := by simp
  have h := Any.slices_SortFunc Yba.sortL (encF (n := m + 1)) (fun _ => rfl) (cfF ds) (swoF ds) 6 #[.pointer (some ⟨DB, 0, none⟩)] OB 0 (m + 1) (Array.ofFn (fun i : Fin (m + 1) => i)) w eg (by rw [hsz]; exact hcmp.lays) hH hOB (by rw [hsz]; omega)
  change Calls Yba.prog 5 _ _ _ at h
  rw [hsz] at h
  refine h.mono ?_
  rintro e w' ⟨rfl, d', k, os, hp, hs, rfl⟩
  have hd' : d'.size = m + 1 := by simpa using hp.1
  refine ⟨rfl, fun p => (d'[p]!).val, sorted_of hp hs, ?_, sortWorld_below _ w OB 0 k d' os hOB⟩
  intro p hp'
  have := (holds_sortWorld (encF (n := m + 1)) w OB 0 k _ d' os hOB hH (by rw [hd', hsz]) p (by omega)).1
  rw [Nat.zero_add] at this
  exact this
end Go.Proofs.Ybulkderu
