import Derived.Test.YbulkdesiRows
import Derived.WalkKit
import Derived.WalkSpells
import Derived.OwnWalk
import Derived.Below
import Derived.WalkSmall
import Derived.BigQuiet
import Derived.Deep.QuietTactic
import Derived.Laws.CopyOwn
import Derived.Laws.CopyRow
namespace Go.Proofs.Ybulkdesi
open Go.RowKit
set_option linter.unusedVariables false

theorem info5 : (Yba.prog.info? 5).map (fun i => (i.zero, i.size, i.bytes)) = some (some (.int .u8 0), 1, 1) := by kernel_rfl
theorem size5 : (Yba.prog.info? 5).map (·.size) = some 1 := by kernel_rfl

/-- a string's bytes as cells. -/
def byteCells (l : List UInt8) : List Value := l.map fun b => Value.int .u8 (b.toNat : Int)
theorem byteCells_one (l : List UInt8) : ∀ v ∈ byteCells l, v.oneCell' = true := by
  intro v hv
  simp only [byteCells, List.mem_map] at hv
  obtain ⟨b, _, rfl⟩ := hv
  rfl

/-- 'copy(dst, s)', s a string, dst lying in row g from place o on: as many bytes as fit go over. -/
theorem run_copy_str {P : Program} (w : World) (dT sT ty elem : TypeId) (g o dLen dCap c : Nat) (s : ByteArray) (cur : Array Value) (t : TypeId)
    (hu : P.underlying dT = some (.slice elem)) (hs : (P.info? elem).map (·.size) = some 1) (hg : w.heap[g]? = some (.cells cur t (0, 0))) (hc : c = Nat.min s.size dLen) (hfit : o + c ≤ cur.size) :
    (Builtin.copy_ #[dT, sT] ty #[.slice (some ⟨g, o, none⟩) dLen dCap, .string s]).run P w =
      .ok (goInt c) (w.setRow g (cur.toList.take o ++ byteCells (s.data.toList.take c) ++ cur.toList.drop (o + c)).toArray) := by
  have hlen : (byteCells (s.data.toList.take c)).length = c := by
    have : c ≤ s.size := by rw [hc]; exact Nat.min_le_left _ _
    have h2 : s.data.toList.length = s.size := by simp
    simp [byteCells]
    omega
  have hst := run_storeCells_at P g o t (byteCells (s.data.toList.take c)) 0 cur w hg (by rw [hlen]; simpa using hfit) (byteCells_one _)
  have htk : List.take c (List.map (fun b : UInt8 => Value.int IntKind.u8 (b.toNat : Int)) s.data.toList) = byteCells (s.data.toList.take c) := by
    rw [byteCells, List.map_take]
  rw [hlen] at hst
  simp only [Nat.add_zero] at hst
  cases hq : P.info? elem with
  | none => simp [hq] at hs
  | some i =>
    simp [Builtin.copy_, run_underlying hu, Builtin.lenOf, Builtin.firstCells, sizeOf, typeInfo, hq, ← hc]
    rw [htk, hst]
    simp [Result.andThen]

/-- the same at the walk: the row behind it is a splice. -/
theorem wpList_copy_str {P : Program} {w : World} {ops : Array Oper} {rest : List Oper} {o : Oper} {a : Act} {Q : Exit → Act → World → Prop} (hgd : o.guard = none) (d s : Operand) (dT sT : TypeId)
    (ho : o.op = .call { callee := .builtin .copy, args := #[d, s], argTypes := #[dT, sT] }) (elem : TypeId) (hu : P.underlying dT = some (.slice elem)) (hsz : (P.info? elem).map (·.size) = some 1)
    (dp : Option Addr) (dLen dCap : Nat) (str : ByteArray) (hd : a.eval d = .slice dp dLen dCap) (hs : a.eval s = .string str)
    (g off c : Nat) (cur : List Value) (t : TypeId) (hg : w.heap[g]? = some (.cells cur.toArray t (0, 0))) (hc : c = Nat.min str.size dLen) (hfit : off + c ≤ cur.length)
    (hdp : dp = some ⟨g, off, none⟩)
    (h : ∀ w', Hid (w'.heap[g]? = some (.cells (splice cur off (byteCells (str.data.toList.take c))).toArray t (0, 0))) → w.grownBy w' (some g) → wpList P ops Q rest (a.put o.dst (goInt c)) w') :
    wpList P ops Q (o :: rest) a w := by
  refine wpList_plain hgd fun K hK => ?_
  subst hdp
  have hrun := run_copy_str (P := P) w dT sT o.type elem g off dLen dCap c str cur.toArray t hu hsz hg hc (by simpa using hfit)
  unfold Oper.wp
  simp [execOp, ho, resolve, invoke, builtin, hd, hs, hrun, Result.andThen]
  have hlen : (byteCells (str.data.toList.take c)).length = c := by
    have : c ≤ str.size := by rw [hc]; exact Nat.min_le_left _ _
    have h2 : str.data.toList.length = str.size := by simp
    simp [byteCells]
    omega
  refine hK _ _ (h _ ?_ ⟨rfl, rfl, rfl, by simp [World.setRow], fun k _ hk => setRow_other w g k _ (fun e => hk (by rw [e]))⟩)
  show _ = _
  simpa [splice, hlen] using setRow_heap w g _ _ t _ hg

/-- the lineWalk's box at B, the buffer's row at g. -/
structure Lw (B g : Nat) (rest : ByteArray) (row : List Value) (w : World) : Prop where
  rd : w.cell? ⟨B, 0, none⟩ = some (.pointer none)
  str : w.cell? ⟨B, 1, none⟩ = some (.string rest)
  fz : w.frozen? ⟨B, 1, none⟩ = false
  row : w.heap[g]? = some (.cells row.toArray 5 (0, 0))

theorem Lw.size {B g : Nat} {rest : ByteArray} {row : List Value} {w : World} (h : Lw B g rest row w) : B < w.heap.size := by
  rcases Nat.lt_or_ge B w.heap.size with h' | h'
  · exact h'
  · have := h.str; simp [World.cell?, Array.getElem?_eq_none h'] at this

theorem Lw.kept {B g : Nat} {rest : ByteArray} {row : List Value} {w w2 : World} (h : Lw B g rest row w) (hgB : g < B) (hg : w.grownBy w2 (some g)) :
    w2.cell? ⟨B, 0, none⟩ = some (.pointer none) ∧ w2.cell? ⟨B, 1, none⟩ = some (.string rest) ∧ w2.frozen? ⟨B, 1, none⟩ = false := by
  have hb : w2.heap[B]? = w.heap[B]? := hg.block B h.size (by simp; omega)
  exact ⟨(World.cell?_of_block (w := w) hb).trans h.rd, (World.cell?_of_block (w := w) hb).trans h.str, (World.frozen?_of_block (w := w) hb).trans h.fz⟩

theorem Lw.after {B g : Nat} {rest : ByteArray} {row row2 : List Value} {w w2 : World} {s : ByteArray} (h : Lw B g rest row w) (hgB : g < B) (hr : w2.heap[g]? = some (.cells row2.toArray 5 (0, 0))) (hg : w.grownBy w2 (some g)) :
    Lw B g s row2 (w2.setCell ⟨B, 1, none⟩ (.string s)) ∧ Below g w (w2.setCell ⟨B, 1, none⟩ (.string s)) := by
  obtain ⟨d0, d1, df⟩ := h.kept hgB hg
  refine ⟨⟨?_, World.cell?_setCell_same (h := d1) .., by rw [World.frozen?_setCell]; exact df, ?_⟩, ?_⟩
  · rw [World.cell?_setCell_other (h := by simp) ..]; exact d0
  · rw [Below.heap_setCell _ _ _ _ (by show g ≠ B; omega)]; exact hr
  · have b1 : Below g w w2 := (Below.refl g w).grown hg (by have := h.size; omega) (by simp)
    exact b1.setCell (p := ⟨B, 1, none⟩) (Nat.le_of_lt hgB) _

set_option maxHeartbeats 400000 in
theorem emit_in (B g L n r c : Nat) (s : ByteArray) (old : ByteArray) (row : List Value) (w : World) (h : Lw B g old row w) (hgB : g < B) (hl : row.length = L) (hL : L ≤ 4096) (hn : n + r = L) (hr : 0 < r) (hs : s.size ≤ 4096)
    (hc : c = Nat.min s.size r) :
    Calls Yba.prog 4 #[.pointer (some ⟨B, 0, none⟩), .slice (some ⟨g, 0, none⟩) L L, .int .i64 n, .string s] w fun e w' =>
      e = .returned (.int .i64 ((n : Int) + (c : Int))) ∧ Lw B g (s.extract c s.size) (splice row n (byteCells (s.data.toList.take c))) w' ∧ Below g w w' := by
  have c0 := h.rd
  have c1 := h.str
  have cf := h.fz
  have hcr : c ≤ r := by rw [hc]; exact Nat.min_le_right _ _
  have hcs : c ≤ s.size := by rw [hc]; exact Nat.min_le_left _ _
  have hnL : ¬ L = n := by omega
  have hnI : (n : Int) ≤ (L : Int) := by omega
  have HN : Hid (n + r = L) := hn
  have HC : Hid (c = Nat.min s.size r) := hc
  have HL : Hid (row.length = L) := hl
  clear hn hc hl
  have HR : Hid (w.heap[g]? = some (.cells row.toArray 5 (0, 0))) := h.row
  have hBs := h.size
  go_enter Yba.func4, Yba.ntmps4
  go_wp2_with (refine wpList_copy_str rfl (.tmp 12) (.tmp 13) 22 9 rfl 5 Yba.underlying22 size5 (some ⟨g, n, none⟩) (L - n) (L - n) s rfl rfl g n c row 5 HR.out (by rw [HC.out, show L - n = r by have := HN.out; omega]) (by rw [HL.out]; have := HN.out; omega) rfl ?_; intro w2 hg2 hgr; obtain ⟨d0, d1, df⟩ := h.kept hgB hgr)
  go_ret
  exact ⟨rfl, h.after hgB hg2.out hgr⟩

set_option maxHeartbeats 400000 in
theorem emit_end (B g L : Nat) (s : ByteArray) (old : ByteArray) (row : List Value) (w : World) (h : Lw B g old row w) (hgB : g < B) (hl : row.length = L) (hL : L ≤ 4096) (hs : s.size ≤ 4096) :
    Calls Yba.prog 4 #[.pointer (some ⟨B, 0, none⟩), .slice (some ⟨g, 0, none⟩) L L, .int .i64 L, .string s] w fun e w' =>
      e = .returned (.int .i64 L) ∧ Lw B g s row w' ∧ Below g w w' := by
  have c0 := h.rd
  have c1 := h.str
  have cf := h.fz
  have HL : Hid (row.length = L) := hl
  clear hl
  have HR : Hid (w.heap[g]? = some (.cells row.toArray 5 (0, 0))) := h.row
  have hBs := h.size
  go_enter Yba.func4, Yba.ntmps4
  go_wp2_with (refine wpList_copy_str rfl (.tmp 12) (.tmp 13) 22 9 rfl 5 Yba.underlying22 size5 (some ⟨g, 0, none⟩) 0 0 s rfl rfl g 0 0 row 5 HR.out (by simp) (by simp) rfl ?_; intro w2 hg2 hgr; obtain ⟨d0, d1, df⟩ := h.kept hgB hgr)
  have hA := h.after (s := s) hgB hg2.out hgr
  rw [show splice row 0 (byteCells (List.take 0 s.data.toList)) = row by simp [splice, byteCells]] at hA
  go_ret
  exact ⟨rfl, hA⟩

/-- a cell of the row behind emit. -/
theorem cell_splice (xs : List Int) (L n c j : Nat) (s : ByteArray) (hx : xs.length = L) (hn : n + c ≤ L) (hc : c ≤ s.size) (hj : j < L) :
    (splice (xs.map (Value.int .u8)) n (byteCells (s.data.toList.take c)))[j]? = some (.int .u8 (if n ≤ j ∧ j < n + c then ((s.data.toList.getD (j - n) 0).toNat : Int) else xs.getD j 0)) := by
  have h2 : s.data.toList.length = s.size := by simp
  have hl : (byteCells (s.data.toList.take c)).length = c := by simp [byteCells]; omega
  unfold splice
  by_cases h1 : j < n
  · rw [List.getElem?_append_left (by simp; omega), if_neg (by omega)]
    simp [h1, List.getElem?_map, List.getElem?_eq_getElem (show j < xs.length by omega), List.getD]
  · rw [List.getElem?_append_right (by simp; omega)]
    have hln : (List.take n (List.map (Value.int IntKind.u8) xs)).length = n := by simp; omega
    rw [hln]
    by_cases h3 : j < n + c
    · rw [List.getElem?_append_left (by omega), if_pos (by omega)]
      have h4 : j - n < s.data.toList.length := by omega
      simp only [byteCells, List.getElem?_map, List.getElem?_take, if_pos (show j - n < c by omega), List.getElem?_eq_getElem h4, Option.map_some, List.getD, Option.getD_some]
    · rw [List.getElem?_append_right (by omega), if_neg (by omega), hl]
      rw [List.getElem?_drop, show n + c + (j - n - c) = j by omega]
      simp [List.getElem?_map, List.getElem?_eq_getElem (show j < xs.length by omega), List.getD]
end Go.Proofs.Ybulkdesi
