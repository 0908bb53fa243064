import Derived.Test.YbulkdeqsFmtWhole
namespace Go.Proofs.YbulkdeqsFmt
open Go.RowKit Go.Extern.Stop Go.Stop Go.Extern
set_option linter.unusedVariables false

theorem new_err (t : ByteArray) (w : World) :
    Calls Ybaf.prog 4 #[.string t] w fun e w' => e = .returned (.iface 33 (.pointer (some ⟨w.heap.size, 0, none⟩))) ∧ w' = w.alloc (.cells #[.string t] 35) := by
  go_enter Ybaf.func4, Ybaf.ntmps4
  go_wp2
  go_ret
  exact ⟨rfl, rfl⟩

/-- the buffer while it is marked: k marks, then zeros. -/
def fillList (L k : Nat) : List Int := List.replicate k 165 ++ List.replicate (L - k) 0
theorem fill_set (L k : Nat) (hk : k < L) : (fillList L k).set k 165 = fillList L (k + 1) := by
  unfold fillList
  rw [List.set_append, if_neg (by simp)]
  simp only [List.length_replicate, Nat.sub_self]
  obtain ⟨m, hm⟩ : ∃ m, L - k = m + 1 := ⟨L - k - 1, by omega⟩
  rw [hm, List.replicate_succ, List.set_cons_zero, show L - (k + 1) = m by omega, List.replicate_succ', List.append_assoc]
  rfl

structure Fill (w1 : World) (R bb : Nat) (da : Option Addr) (dlen dcap ch : Nat) (fv : Value) (L k : Nat) (w : World) : Prop where
  d : w.cell? ⟨R, 0, none⟩ = some (.slice da dlen dcap)
  pos : w.cell? ⟨R, 1, none⟩ = some (.int .i64 0)
  chunk : w.cell? ⟨R, 2, none⟩ = some (.int .i64 ch)
  fail : w.cell? ⟨R, 3, none⟩ = some fv
  fz : w.frozen? ⟨R, 1, none⟩ = false
  own : w.ownsRow bb 5 1 (.slice (some ⟨bb, 0, none⟩) L L) L ((fillList L k).map (Value.int .u8))
  below : Below R w1 w

theorem Fill.step {w1 : World} {R bb : Nat} {da : Option Addr} {dlen dcap ch : Nat} {fv : Value} {L k : Nat} {w : World} (h : Fill w1 R bb da dlen dcap ch fv L k w) (hRb : R < bb) (hk : k < L) :
    Fill w1 R bb da dlen dcap ch fv L (k + 1) (w.setCell ⟨bb, k, none⟩ (.int .u8 165)) := by
  have ho : ∀ i, (w.setCell ⟨bb, k, none⟩ (.int .u8 165)).cell? ⟨R, i, none⟩ = w.cell? ⟨R, i, none⟩ := fun i =>
    World.cell?_setCell_other (h := by intro e; have : bb = R := congrArg Addr.block e; omega) ..
  obtain ⟨s1, s2⟩ := h.own.stored k (.int .u8 165)
  refine ⟨(ho 0).trans h.d, (ho 1).trans h.pos, (ho 2).trans h.chunk, (ho 3).trans h.fail, by rw [World.frozen?_setCell]; exact h.fz, ?_, h.below.setCell (p := ⟨bb, k, none⟩) (Nat.le_of_lt hRb) _⟩
  rw [← fill_set L k hk, List.map_set]
  exact s1

theorem Fill.done {w1 : World} {R bb : Nat} {da : Option Addr} {dlen dcap ch : Nat} {fv : Value} {L : Nat} {w : World} (xs : List Int) (h : Fill w1 R bb da dlen dcap ch fv L L w) : St w1 R bb da dlen dcap ch fv xs L 0 w := by
  refine ⟨h.d, h.pos, h.chunk, h.fail, h.fz, ?_, h.below⟩
  rcases h.own.2 with ⟨h', _⟩ | ⟨g, cap, cur, h', _, hg, _, _, hcs, htake⟩
  · simp at h'
  · simp only [Value.slice.injEq, Option.some.injEq, Addr.mk.injEq, and_true, true_and] at h'
    obtain ⟨rfl, rfl⟩ := h'
    have hl : cur.toList.length = L := by simpa using hcs
    rw [List.take_of_length_le (by omega)] at htake
    rw [hg]
    have e : mix xs L 0 = fillList L L := by simp [mix, fillList]
    rw [e, ← htake]

/-- the world ahead of the marking. -/
theorem Fill.start {w : World} {da : Option Addr} {dlen dcap ch : Nat} {fv : Value} {L : Nat} {w2 : World} {t : ByteArray}
    (hown : w2.ownsRow (w.heap.size + 1 + 1) 5 1 (.slice (some ⟨w.heap.size + 1 + 1, 0, none⟩) L L) L (madeCells (Value.int .u8 0).cells (L * 1)).toList)
    (hg : ((w.alloc (.cells #[.string t] 35)).alloc (.cells #[.slice da dlen dcap, .int .i64 0, .int .i64 ch, fv] 28)).grownBy w2 none) :
    Fill (w.alloc (.cells #[.string t] 35)) (w.heap.size + 1) (w.heap.size + 1 + 1) da dlen dcap ch fv L 0 w2 := by
  have b2 : Below (w.heap.size + 1 + 1) ((w.alloc (.cells #[.string t] 35)).alloc (.cells #[.slice da dlen dcap, .int .i64 0, .int .i64 ch, fv] 28)) w2 := (Below.refl _ _).grown hg (by simp) (by simp)
  have hc : ∀ i v, #[Value.slice da dlen dcap, .int .i64 0, .int .i64 ch, fv][i]? = some v → w2.cell? ⟨w.heap.size + 1, i, none⟩ = some v := by
    intro i v hv
    rw [b2.cell (p := ⟨w.heap.size + 1, i, none⟩) (by show w.heap.size + 1 < w.heap.size + 1 + 1; omega), World.cell?_alloc_at _ _ _ _ (by simp)]
    exact hv
  refine ⟨hc 0 _ rfl, hc 1 _ rfl, hc 2 _ rfl, hc 3 _ rfl, ?_, ?_, ?_⟩
  · rw [b2.frozen (p := ⟨w.heap.size + 1, 1, none⟩) (by show w.heap.size + 1 < w.heap.size + 1 + 1; omega), frozen?_alloc_cells, frozen?_alloc_cells]
    simp [World.frozen?]
  · have e : (madeCells (Value.int .u8 0).cells (L * 1)).toList = (fillList L 0).map (Value.int .u8) := by
      show (madeCells #[Value.int .u8 0] (L * 1)).toList = _
      rw [toList_madeCells_one]
      simp [fillList]
    rw [← e]
    exact hown
  · exact ((Below.refl _ _).alloc (by simp) _).trans (b2.mono (by omega))

/-- a cell of the buffer. -/
theorem St.cellB {w1 : World} {R bb : Nat} {da : Option Addr} {dlen dcap ch : Nat} {fv : Value} {xs : List Int} {L k : Nat} {w : World} (h : St w1 R bb da dlen dcap ch fv xs L k w) (j : Nat) (hk : k ≤ L) (hx : k ≤ xs.length) (hj : j < L) :
    w.cell? ⟨bb, j, none⟩ = some (.int .u8 (if j < k then xs.getD j 0 else 165)) := by
  have hl := mix_length xs L k hk hx
  have hjm : j < (mix xs L k).length := by omega
  rw [cell_of_row w bb j _ 5 (0, 0) h.row]
  simp only [List.getElem?_toArray, List.getElem?_map, List.getElem?_eq_getElem hjm, Option.map_some]
  congr 2
  by_cases hjk : j < k
  · rw [if_pos hjk]
    simp [mix, show j < min k xs.length by omega, List.getD, show j < xs.length by omega]
  · rw [if_neg hjk]
    simp [mix, List.getElem_append, show ¬ j < min k xs.length by omega]

def broken : ByteArray := ⟨#[122, 122, 115, 53, 50, 57, 54, 98, 32, 98, 114, 111, 107, 101, 110]⟩

/-- the world behind 'mine'. -/
def w1Of (w : World) : World := w.alloc (.cells #[.string broken] 35)

theorem w1Of_cell (w : World) {a : Addr} {v : Value} (h : w.cell? a = some v) (ha : a.block < w.heap.size) : (w1Of w).cell? a = some v := by
  unfold w1Of; rw [World.cell?_alloc_lt _ _ _ ha]; exact h
theorem w1Of_heap (w : World) {k : Nat} {o : Obj} (h : w.heap[k]? = some o) : (w1Of w).heap[k]? = some o := by
  have hk : k < w.heap.size := by
    rcases Nat.lt_or_ge k w.heap.size with h' | h'
    · exact h'
    · simp [Array.getElem?_eq_none h'] at h
  unfold w1Of; rw [Below.heap_alloc _ _ _ hk]; exact h

/-- the data, as the world ahead of the call has it. -/
def DataIn (w : World) (da : Option Addr) (dlen dcap : Nat) (xs : List Int) : Prop :=
  xs.length = dlen ∧ dlen ≤ dcap ∧ dlen ≤ 1024 ∧ (0 < dlen → ∃ db doff, da = some ⟨db, doff, none⟩ ∧ db < w.heap.size ∧ ∀ j, j < dlen → w.cell? ⟨db, doff + j, none⟩ = some (.int .u8 (xs.getD j 0)))

theorem DataIn.up {w : World} {da : Option Addr} {dlen dcap : Nat} {xs : List Int} (h : DataIn w da dlen dcap xs) : Data (w1Of w) (w.heap.size + 1) da dlen dcap xs := by
  obtain ⟨h1, h2, h3, h4⟩ := h
  refine ⟨h1, h2, h3, fun hp => ?_⟩
  obtain ⟨db, doff, e, hdb, hc⟩ := h4 hp
  exact ⟨db, doff, e, by omega, fun j hj => w1Of_cell w (hc j hj) hdb⟩

/-- what the walk is told of io.EOF and io.ErrUnexpectedEOF. -/
structure Two (w : World) (ae au : Addr) : Prop where
  g0 : w.cell? ⟨0, 0, none⟩ = some (.iface 33 (.pointer (some ae)))
  g1 : w.cell? ⟨1, 0, none⟩ = some (.iface 33 (.pointer (some au)))
  ne : au ≠ ae
  he : ∃ c t, w.heap[ae.block]? = some (.cells c t (0, 0))
  hu : ∃ c t, w.heap[au.block]? = some (.cells c t (0, 0))
  three : 3 ≤ w.heap.size

theorem lt_of_heap {w : World} {k : Nat} {o : Obj} (h : w.heap[k]? = some o) : k < w.heap.size := by
  rcases Nat.lt_or_ge k w.heap.size with h' | h'
  · exact h'
  · simp [Array.getElem?_eq_none h'] at h

theorem call_eof (w : World) (da : Option Addr) (dlen dcap ch : Nat) (ae au : Addr) (xs : List Int) (L : Nat) (w2 : World) (hT : Two w ae au) (hD : DataIn w da dlen dcap xs) (hL : L ≤ 255) (hc1 : ch ≤ 8) (hch0 : 0 < ch)
    (h : St (w1Of w) (w.heap.size + 1) (w.heap.size + 1 + 1) da dlen dcap ch (.iface 33 (.pointer (some ae))) xs L 0 w2) :
    Calls Ybaf.prog 5 #[.iface 26 (.pointer (some ⟨w.heap.size + 1, 0, none⟩)), .string nameF, .slice (some ⟨w.heap.size + 1 + 1, 0, none⟩) L L] w2 (WholeE (w1Of w) (w.heap.size + 1) (w.heap.size + 1 + 1) da dlen dcap ch (.iface 33 (.pointer (some ae))) xs L) := by
  obtain ⟨ce, te, he⟩ := hT.he
  obtain ⟨cu, tu, hu⟩ := hT.hu
  have h3 := hT.three
  have le := lt_of_heap he
  have lu := lt_of_heap hu
  exact whole_eof (w1Of w) _ _ da dlen dcap ch ae au cu ce tu te xs L w2 (by omega) (by omega) hD.up hL hc1 hch0 (w1Of_cell w hT.g0 (by show 0 < w.heap.size; omega)) (w1Of_cell w hT.g1 (by show 1 < w.heap.size; omega))
    hT.ne (by omega) (by omega) (w1Of_heap w hu) (w1Of_heap w he) h

theorem call_mine (F : Interp) (w : World) (da : Option Addr) (dlen dcap ch : Nat) (ae au : Addr) (xs : List Int) (L : Nat) (w2 : World) (hF : F.answers w.tape) (hT : Two w ae au) (hD : DataIn w da dlen dcap xs) (hL : L ≤ 255) (hc1 : ch ≤ 8) (hch0 : 0 < ch)
    (h : St (w1Of w) (w.heap.size + 1) (w.heap.size + 1 + 1) da dlen dcap ch (.iface 33 (.pointer (some ⟨w.heap.size, 0, none⟩))) xs L 0 w2) :
    Calls Ybaf.prog 5 #[.iface 26 (.pointer (some ⟨w.heap.size + 1, 0, none⟩)), .string nameF, .slice (some ⟨w.heap.size + 1 + 1, 0, none⟩) L L] w2 (WholeM (w1Of w) (w.heap.size + 1) (w.heap.size + 1 + 1) da dlen dcap ch (.iface 33 (.pointer (some ⟨w.heap.size, 0, none⟩))) xs L) := by
  obtain ⟨ce, te, he⟩ := hT.he
  obtain ⟨cu, tu, hu⟩ := hT.hu
  have h3 := hT.three
  have le := lt_of_heap he
  have lu := lt_of_heap hu
  exact whole_mine F (w1Of w) _ _ da dlen dcap ch ⟨w.heap.size, 0, none⟩ ae au _ ce cu _ te tu broken xs L w2 (by omega) (by omega) hF hD.up hL hc1 hch0 (w1Of_cell w hT.g0 (by show 0 < w.heap.size; omega)) (w1Of_cell w hT.g1 (by show 1 < w.heap.size; omega))
    (by intro e; rw [← e] at le; exact Nat.lt_irrefl _ le) (by intro e; rw [← e] at lu; exact Nat.lt_irrefl _ lu) (by show w.heap.size < _; omega) (by omega) (by omega)
    (MapKept.heap_alloc w _).1 (w1Of_heap w he) (w1Of_heap w hu) (by unfold w1Of; rw [World.cell?_alloc_new]; rfl) h

end Go.Proofs.YbulkdeqsFmt
