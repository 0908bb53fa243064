import Derived.Test.YbulkderuDown
import Derived.MapKept
namespace Go.Proofs.Ybulkderu
open Go.RowKit Go.MapKept
set_option linter.unusedVariables false
variable {B G T0 n IB MB : Nat} {mobj : Obj} {mv : Value} {due sq : Nat → Int} {hp : Nat → Nat} {w w' : World}

set_option maxHeartbeats 1000000 in
theorem fix_at (h : Hs B G T0 n IB MB mobj mv due sq hp w) (i : Nat) (hi : i < n) (hD : Dn due sq n i i hp) :
    Calls Yba.prog 32 #[.iface 114 (.pointer (some ⟨B, 12, none⟩)), .int .i64 i] w fun e w' => e = .returned (.tuple #[]) ∧ (∃ hp', Hs B G T0 n IB MB mobj mv due sq hp' w' ∧ Heap due sq n hp') ∧ Below G w w' := by
  have HH : Hid (Hs B G T0 n IB MB mobj mv due sq hp w) := h
  have HD : Hid (Dn due sq n i i hp) := hD
  have hn := h.n1
  clear h hD
  have mLen := method_len
  go_enter Yba.func32, Yba.ntmps32
  go_wp2_with fail
  refine Calls.mono (len_at HH.out) ?_
  rintro e w' ⟨rfl, rfl⟩
  go_wp2_with fail
  refine Calls.mono (down_at HH.out i hi HD.out) ?_
  rintro e w2 ⟨r, hp2, rfl, h2, hT, hF, hB2⟩
  have H2 : Hid (Hs B G T0 n IB MB mobj mv due sq hp2 w2) := h2
  clear h2
  cases r with
  | true =>
    have HT : Hid (Heap due sq n hp2) := hT rfl
    clear hT hF
    go_wp2_with fail
    go_end0
    exact ⟨rfl, ⟨hp2, H2.out, HT.out⟩, hB2⟩
  | false =>
    have HF : Hid (Up due sq n i hp2) := hF rfl
    clear hT hF
    go_wp2_with fail
    refine Calls.mono (up_at H2.out i hi HF.out) ?_
    rintro e w3 ⟨rfl, hE, hB3⟩
    have HE : Hid (∃ hp', Hs B G T0 n IB MB mobj mv due sq hp' w3 ∧ Heap due sq n hp') := hE
    clear hE
    go_wp2_with fail
    go_end0
    exact ⟨rfl, HE.out, hB2.trans hB3⟩

/-! ### the map -/
def ent (T0 : Nat) (sq : Nat → Int) (q : Nat) : MapEntry := { key := .int .i64 (sq q), val := .pointer (some ⟨T0 + q, 0, none⟩), born := q }
/-- the map's block holds the first p timers. -/
def Ents (T0 : Nat) (sq : Nat → Int) (p : Nat) (o : Obj) : Prop := ∃ es : Array MapEntry, o = .map es p ∧ es.toList = (List.range p).map (ent T0 sq)

theorem ents_keys {p : Nat} : ∀ x ∈ (List.range p).map (ent T0 sq), IsKey (.int .i64) x.key := by
  intro x hx
  obtain ⟨q, _, rfl⟩ := List.mem_map.1 hx
  rfl

theorem ents_find {p q : Nat} (hq : q < p) (hinj : ∀ a b, a < p → b < p → sq a = sq b → a = b) :
    ∃ i, Instr.findNow (.int .i64) (.int .i64 (sq q)) ((List.range p).map (ent T0 sq)) 0 = some (some (i, .pointer (some ⟨T0 + q, 0, none⟩))) := by
  rcases findNow_spec (d := .int .i64) (k := .int .i64 (sq q)) rfl ((List.range p).map (ent T0 sq)) 0 ents_keys with ⟨h1, h2⟩ | ⟨j, e, h1, h2, h3⟩
  · exact absurd rfl (h2 (ent T0 sq q) (List.mem_map.2 ⟨q, by simpa using hq, rfl⟩))
  · rw [List.getElem?_map] at h2
    have hj : j < p := by
      rcases Nat.lt_or_ge j p with h | h
      · exact h
      · rw [List.getElem?_eq_none (by simpa using h)] at h2; cases h2
    rw [List.getElem?_range hj] at h2
    simp at h2
    subst h2
    have : sq j = sq q := by simpa [ent] using h3
    have := hinj j q hj hq this
    subst this
    exact ⟨_, h1⟩

theorem ents_fresh {p : Nat} (hinj : ∀ a, a < p → sq a ≠ sq p) :
    Instr.findNow (.int .i64) (.int .i64 (sq p)) ((List.range p).map (ent T0 sq)) 0 = some none := by
  rcases findNow_spec (d := .int .i64) (k := .int .i64 (sq p)) rfl ((List.range p).map (ent T0 sq)) 0 ents_keys with ⟨h1, h2⟩ | ⟨j, e, h1, h2, h3⟩
  · exact h1
  · rw [List.getElem?_map] at h2
    have hj : j < p := by
      rcases Nat.lt_or_ge j p with h | h
      · exact h
      · rw [List.getElem?_eq_none (by simpa using h)] at h2; cases h2
    rw [List.getElem?_range hj] at h2
    simp at h2
    subst h2
    have : sq j = sq p := by simpa [ent] using h3
    exact absurd this (hinj j hj)

theorem look_at {p q : Nat} (hb : w.heap[MB]? = some mobj) (hE : Ents T0 sq p mobj) (hq : q < p) (hinj : ∀ a b, a < p → b < p → sq a = sq b → a = b) :
    (Instr.lookup 48 (.map (some MB)) (.int .i64 (sq q)) false).run Yba.prog w = .ok (.pointer (some ⟨T0 + q, 0, none⟩)) w := by
  obtain ⟨es, rfl, he⟩ := hE
  obtain ⟨i, hi⟩ := ents_find (T0 := T0) hq hinj
  rw [← he] at hi
  simp [Instr.lookup, run_underlying Yba.underlying48, MapKept.run_getObj_map hb, MapKept.run_checkKey Yba.underlying3 (show IsKey (.int .i64) (.int .i64 (sq q)) from rfl), MapKept.run_findKey Yba.underlying3 hi, Result.andThen]

/-- the world with block b's object turned. -/
def setO (w : World) (b : Nat) (o : Obj) : World := { w with heap := w.heap.setIfInBounds b o }

theorem put_at {p : Nat} (hb : w.heap[MB]? = some mobj) (hE : Ents T0 sq p mobj) (hinj : ∀ a, a < p → sq a ≠ sq p) :
    ∃ o, Ents T0 sq (p + 1) o ∧ (Instr.mapUpdate 48 (.map (some MB)) (.int .i64 (sq p)) (.pointer (some ⟨T0 + p, 0, none⟩))).run Yba.prog w = .ok () (setO w MB o) := by
  obtain ⟨es, rfl, he⟩ := hE
  have hi := ents_fresh (T0 := T0) hinj
  rw [← he] at hi
  refine ⟨.map (es.push (ent T0 sq p)) (p + 1), ⟨_, rfl, by simp [he, List.range_succ]⟩, ?_⟩
  simp [Instr.mapUpdate, run_underlying Yba.underlying48, MapKept.run_getObj_map hb, MapKept.run_checkKey Yba.underlying3 (show IsKey (.int .i64) (.int .i64 (sq p)) from rfl), MapKept.run_findKey Yba.underlying3 hi, MapKept.run_setObj_map _ hb, Result.andThen]
  rfl
end Go.Proofs.Ybulkderu
