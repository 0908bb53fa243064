import Derived.Test.YbulkdeqsFmtFull
namespace Go.Proofs.YbulkdeqsFmt
open Go.RowKit Go.Extern.Stop Go.Stop Go.Extern
set_option linter.unusedVariables false
attribute [local go_sem] call12 guardF fmt0 fmt0r op9_115w ptr33 elem33 isError33 ptr48 elem48 isError48

/-- io.ReadFull ends as io.ReadAtLeast does. -/
theorem full_of (w1 : World) (R bb : Nat) (da : Option Addr) (dlen dcap ch : Nat) (fv : Value) (xs : List Int) (L : Nat) (er : Value) (w : World)
    (h : Calls Ybaf.prog 11 #[.iface 26 (.pointer (some ⟨R, 0, none⟩)), .slice (some ⟨bb, 0, none⟩) L L, .int .i64 L] w (RalPost w1 R bb da dlen dcap ch fv xs L er)) :
    Calls Ybaf.prog 7 #[.iface 26 (.pointer (some ⟨R, 0, none⟩)), .slice (some ⟨bb, 0, none⟩) L L] w (RalPost w1 R bb da dlen dcap ch fv xs L er) := by
  have H : Hid (Calls Ybaf.prog 11 #[.iface 26 (.pointer (some ⟨R, 0, none⟩)), .slice (some ⟨bb, 0, none⟩) L L, .int .i64 L] w (RalPost w1 R bb da dlen dcap ch fv xs L er)) := h
  clear h
  go_enter Ybaf.func7, Ybaf.ntmps7
  go_wp2_with fail
  refine Calls.mono H.out ?_
  rintro e w' (⟨h1, rfl, hS⟩ | ⟨h1, rfl, hS⟩)
  · go_wp2
    go_ret2
    exact Or.inl ⟨h1, rfl, hS⟩
  · go_wp2
    go_ret2
    exact Or.inr ⟨h1, rfl, hS⟩

def nameF : ByteArray := ⟨#[102]⟩

/-- how readWhole ends: whole, no error; or not whole, no error. -/
def WholeE (w1 : World) (R bb : Nat) (da : Option Addr) (dlen dcap ch : Nat) (fv : Value) (xs : List Int) (L : Nat) (e : Ending) (w' : World) : Prop :=
  (L ≤ dlen ∧ e = .returned (.tuple #[.bool true, .nilIface]) ∧ St w1 R bb da dlen dcap ch fv xs L L w') ∨
  (dlen < L ∧ e = .returned (.tuple #[.bool false, .nilIface]) ∧ St w1 R bb da dlen dcap ch fv xs L dlen w')

/-- how readWhole ends where the reader fails: whole, no error; or not whole and an error that wraps the reader's. -/
def WholeM (w1 : World) (R bb : Nat) (da : Option Addr) (dlen dcap ch : Nat) (fv : Value) (xs : List Int) (L : Nat) (e : Ending) (w' : World) : Prop :=
  (L ≤ dlen ∧ e = .returned (.tuple #[.bool true, .nilIface]) ∧ St w1 R bb da dlen dcap ch fv xs L L w') ∨
  (dlen < L ∧ ∃ p, e = .returned (.tuple #[.bool false, .iface 48 (.pointer (some ⟨p, 0, none⟩))]) ∧ w'.cell? ⟨p, 1, none⟩ = some fv ∧ St w1 R bb da dlen dcap ch fv xs L dlen w')

theorem St.later {w1 : World} {R bb : Nat} {da : Option Addr} {dlen dcap ch : Nat} {fv : Value} {xs : List Int} {L k : Nat} {w w2 : World} (h : St w1 R bb da dlen dcap ch fv xs L k w) (hRb : R < bb) (hb : Below w.heap.size w w2) : St w1 R bb da dlen dcap ch fv xs L k w2 := by
  have hbb : bb < w.heap.size := by
    rcases Nat.lt_or_ge bb w.heap.size with h' | h'
    · exact h'
    · have := h.row; simp [Array.getElem?_eq_none h'] at this
  have hR : R < w.heap.size := by omega
  exact ⟨(hb.cell (p := ⟨R, 0, none⟩) hR).trans h.d, (hb.cell (p := ⟨R, 1, none⟩) hR).trans h.pos, (hb.cell (p := ⟨R, 2, none⟩) hR).trans h.chunk, (hb.cell (p := ⟨R, 3, none⟩) hR).trans h.fail,
    (hb.frozen (p := ⟨R, 1, none⟩) hR).trans h.fz, (hb.block bb hbb).trans h.row, h.below.trans (hb.mono (Nat.le_of_lt hR))⟩

set_option maxHeartbeats 1000000 in
/-- the reader answers io.EOF at its end: whole or not, never an error. -/
theorem whole_eof (w1 : World) (R bb : Nat) (da : Option Addr) (dlen dcap ch : Nat) (fa au : Addr) (ca cb : Array Value) (ta tb : TypeId) (xs : List Int) (L : Nat) (w : World) (hRb : R < bb) (hR : 3 ≤ R)
    (hD : Data w1 R da dlen dcap xs) (hL : L ≤ 255) (hc1 : ch ≤ 8) (hch0 : 0 < ch)
    (g0 : w1.cell? ⟨0, 0, none⟩ = some (.iface 33 (.pointer (some fa)))) (g1 : w1.cell? ⟨1, 0, none⟩ = some (.iface 33 (.pointer (some au))))
    (hne : au ≠ fa) (hau : au.block < R) (hfa : fa.block < R) (hha : w1.heap[au.block]? = some (.cells ca ta (0, 0))) (hhb : w1.heap[fa.block]? = some (.cells cb tb (0, 0)))
    (h : St w1 R bb da dlen dcap ch (.iface 33 (.pointer (some fa))) xs L 0 w) :
    Calls Ybaf.prog 5 #[.iface 26 (.pointer (some ⟨R, 0, none⟩)), .string nameF, .slice (some ⟨bb, 0, none⟩) L L] w (WholeE w1 R bb da dlen dcap ch (.iface 33 (.pointer (some fa))) xs L) := by
  have HG : Hid (w1.cell? ⟨0, 0, none⟩ = some (.iface 33 (.pointer (some fa)))) := g0
  have HU : Hid (w1.cell? ⟨1, 0, none⟩ = some (.iface 33 (.pointer (some au)))) := g1
  have HA : Hid (w1.heap[au.block]? = some (.cells ca ta (0, 0))) := hha
  have HB : Hid (w1.heap[fa.block]? = some (.cells cb tb (0, 0))) := hhb
  clear g0 g1 hha hhb
  go_enter Ybaf.func5, Ybaf.ntmps5
  go_wp2_with fail
  refine Calls.mono (full_of w1 R bb da dlen dcap ch _ xs L _ w (ral_eof w1 R bb da dlen dcap ch fa au xs L w hRb hR hD hL hc1 hch0 HG.out HU.out h)) ?_
  rintro e w' (⟨h1, rfl, hS⟩ | ⟨h1, rfl, hS⟩)
  · go_wp2
    go_ret2
    exact Or.inl ⟨h1, rfl, hS⟩
  · have g0 := (hS.below.cell (p := ⟨0, 0, none⟩) (by show 0 < R; omega)).trans HG.out
    have g1 := (hS.below.cell (p := ⟨1, 0, none⟩) (by show 1 < R; omega)).trans HU.out
    by_cases hd : 0 < dlen
    · rw [pickErr, if_pos hd]
      have e0 := eq_other w' hne ((hS.below.block _ hau).trans HA.out) ((hS.below.block _ hfa).trans HB.out)
      have e1 := eq_same w' au
      go_wp2
      go_ret2
      exact Or.inr ⟨h1, rfl, hS⟩
    · rw [pickErr, if_neg hd]
      have e0 := eq_same w' fa
      go_wp2
      go_ret2
      exact Or.inr ⟨h1, rfl, hS⟩

set_option maxHeartbeats 1000000 in
/-- the reader answers an error of its own. -/
theorem whole_mine (F : Interp) (w1 : World) (R bb : Nat) (da : Option Addr) (dlen dcap ch : Nat) (fa ae au : Addr) (ca cb cu : Array Value) (ta tb tu : TypeId) (st : ByteArray) (xs : List Int) (L : Nat) (w : World) (hRb : R < bb) (hR : 3 ≤ R)
    (hF : F.answers w1.tape) (hD : Data w1 R da dlen dcap xs) (hL : L ≤ 255) (hc1 : ch ≤ 8) (hch0 : 0 < ch)
    (g0 : w1.cell? ⟨0, 0, none⟩ = some (.iface 33 (.pointer (some ae)))) (g1 : w1.cell? ⟨1, 0, none⟩ = some (.iface 33 (.pointer (some au))))
    (hne : fa ≠ ae) (hnu : fa ≠ au) (hfa : fa.block < R) (hae : ae.block < R) (hau : au.block < R)
    (hha : w1.heap[fa.block]? = some (.cells ca ta (0, 0))) (hhb : w1.heap[ae.block]? = some (.cells cb tb (0, 0))) (hhu : w1.heap[au.block]? = some (.cells cu tu (0, 0)))
    (hst : w1.cell? fa = some (.string st))
    (h : St w1 R bb da dlen dcap ch (.iface 33 (.pointer (some fa))) xs L 0 w) :
    Calls Ybaf.prog 5 #[.iface 26 (.pointer (some ⟨R, 0, none⟩)), .string nameF, .slice (some ⟨bb, 0, none⟩) L L] w (WholeM w1 R bb da dlen dcap ch (.iface 33 (.pointer (some fa))) xs L) := by
  have HG : Hid (w1.cell? ⟨0, 0, none⟩ = some (.iface 33 (.pointer (some ae)))) := g0
  have HU : Hid (w1.cell? ⟨1, 0, none⟩ = some (.iface 33 (.pointer (some au)))) := g1
  have HA : Hid (w1.heap[fa.block]? = some (.cells ca ta (0, 0))) := hha
  have HB : Hid (w1.heap[ae.block]? = some (.cells cb tb (0, 0))) := hhb
  have HV : Hid (w1.heap[au.block]? = some (.cells cu tu (0, 0))) := hhu
  have HT : Hid (w1.cell? fa = some (.string st)) := hst
  have HF : Hid (F.answers w1.tape) := hF
  clear g0 g1 hha hhb hhu hst hF
  go_enter Ybaf.func5, Ybaf.ntmps5
  go_wp2_with fail
  refine Calls.mono (full_of w1 R bb da dlen dcap ch _ xs L _ w (ral_mine w1 R bb da dlen dcap ch fa ae ca cb ta tb xs L w hRb hR hD hL hc1 hch0 HG.out hne hfa hae HA.out HB.out h)) ?_
  rintro e w' (⟨h1, rfl, hS⟩ | ⟨h1, rfl, hS⟩)
  · go_wp2
    go_ret2
    exact Or.inl ⟨h1, rfl, hS⟩
  · have g0 := (hS.below.cell (p := ⟨0, 0, none⟩) (by show 0 < R; omega)).trans HG.out
    have g1 := (hS.below.cell (p := ⟨1, 0, none⟩) (by show 1 < R; omega)).trans HU.out
    have e0 := eq_other w' hne ((hS.below.block _ hfa).trans HA.out) ((hS.below.block _ hae).trans HB.out)
    have e1 := eq_other w' hnu ((hS.below.block _ hfa).trans HA.out) ((hS.below.block _ hau).trans HV.out)
    have hc := (hS.below.cell (p := fa) hfa).trans HT.out
    have hfs : fa.block < w'.heap.size := Nat.lt_of_lt_of_le hfa (Nat.le_of_lt hS.size)
    have hop := fun (o : Obj) => opPlain33_119w "fmt.errorf" fa st (w'.alloc o) (by rw [World.cell?_alloc_lt _ _ _ hfs]; exact hc)
    have hF' := answers_open (show F.answers w'.tape by rw [hS.below.tape]; exact HF.out)
    go_wp2
    go_ret2
    refine Or.inr ⟨h1, w'.heap.size + 1, rfl, ?_, hS.later hRb (((Below.refl _ w').alloc (Nat.le_refl _) _).alloc (by simp) _).drew⟩
    rw [World.cell?_drew, World.cell?_alloc_at _ _ _ _ (by simp)]
    rfl

end Go.Proofs.YbulkdeqsFmt
