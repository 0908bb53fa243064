import Derived.Test.YbulkdeqsFmtLaw2
import Derived.Test.YbulkdeqsFmtTie
import Derived.ProofKit
import Derived.LaidMore
import Derived.OpenShut
import Derived.Stop.Joined
import Derived.Stop.LaidTwo
import Derived.Stop.JoinedTold
namespace Go.Proofs.YbulkdeqsFmt
open Go.ChangeShapes Go.WideShapes Go.ChangeAt Go.RowKit
open Go.Extern.Stop Go.Stop Go.Extern
set_option linter.unusedVariables false

theorem own : ownKnob Ybaf.prog.godebug = none := by kernel_rfl
theorem gE : Ybaf.prog.globalNamed "io.EOF" = some 0 := by kernel_rfl
theorem gU : Ybaf.prog.globalNamed "io.ErrUnexpectedEOF" = some 1 := by kernel_rfl
theorem gEt : (Ybaf.prog.globals[0]?).map (·.type) = some 24 := by kernel_rfl
theorem gUt : (Ybaf.prog.globals[1]?).map (·.type) = some 24 := by kernel_rfl
theorem gS : Ybaf.prog.globalNamed "io.ErrShortBuffer" = some 2 := by kernel_rfl
theorem gSt : (Ybaf.prog.globals[2]?).map (·.type) = some 24 := by kernel_rfl
theorem cells35 : Ybaf.prog.cellsOf 35 = 1 := by kernel_rfl
theorem cells9 : Ybaf.prog.cellsOf 9 = 1 := by kernel_rfl

theorem door_met (os : Os) (args : Array Value) : laidMetH Ybaf.prog Rows.lawS5296BReadRow.laid ((World.doorLaid Ybaf.prog 66 os).forCall (fun _ _ => 0) ⟨#[], args, []⟩).memory :=
  laidMetH_of_parts3 (fuel := 8) (laidMet_of_run' 8 (by kernel_rfl) (by kernel_rfl)) (by kernel_rfl) (by kernel_rfl)

theorem row33 (u : TypeId) (h : Ybaf.prog.typeName? 3 u = some (nameIn Rows.laid_io_EOF)) : u = 33 := by
  refine typeName_ptr_named (P := Ybaf.prog) (nm := "errors.errorString") ?_ ?_ ?_ u ?_
  · kernel_rfl
  · kernel_rfl
  · decide
  · rw [h]; kernel_rfl

/-- what the condition gives the walks. -/
theorem two_of_laid {W : World} (h : laidMetH Ybaf.prog Rows.lawS5296BReadRow.laid W) : ∃ ae au, Two W ae au := by
  rw [MakeChecks.laidMetH_plain _ _ _ (by kernel_rfl)] at h
  have h' : laidMet Ybaf.prog (("io.ErrShortBuffer", Rows.laid_io_ErrShortBuffer) :: [("io.EOF", Rows.laid_io_EOF), ("io.ErrUnexpectedEOF", Rows.laid_io_ErrUnexpectedEOF)]) W := h
  obtain ⟨a0, a1, s0, s1, c0, c1, t0, t1, hv0, hv1, hc0, hs0, hz0, hc1, hs1, hz1, hne, hb0, hb1⟩ :=
    laid_sentinels2 h'.tail gE gEt gU gUt Ybaf.underlying24 row33 Ybaf.underlying33 Ybaf.underlying35 rfl rfl Ybaf.underlying9 cells35 cells9
  have g0 : W.cell? ⟨0, 0, none⟩ = some (.iface 33 (.pointer (some a0))) := by simpa using World.var?_cell gE hv0 0
  have g1 : W.cell? ⟨1, 0, none⟩ = some (.iface 33 (.pointer (some a1))) := by simpa using World.var?_cell gU hv1 0
  obtain ⟨a2, s2, hv2, _⟩ := laid_sentinel h' gS gSt Ybaf.underlying24 row33 Ybaf.underlying33 Ybaf.underlying35 rfl rfl Ybaf.underlying9 cells35 cells9
  have g2 : W.cell? ⟨2, 0, none⟩ = some (.iface 33 (.pointer (some a2))) := by simpa using World.var?_cell gS hv2 0
  have h3 : 2 < W.heap.size := by
    rcases Nat.lt_or_ge 2 W.heap.size with h | h
    · exact h
    · simp [World.cell?, Array.getElem?_eq_none h] at g2
  exact ⟨a0, a1, g0, g1, fun e => hne e.symm, ⟨c0, t0, hb0⟩, ⟨c1, t1, hb1⟩, by omega⟩

/-- What the walk is told of a slice of integers that came in. -/
def IsRow (k : IntKind) (w : World) (a : Option Addr) (len cap : Nat) (zs : List Int) : Prop :=
  (a = none ∧ len = 0 ∧ cap = 0 ∧ zs = []) ∨
  ∃ x, a = some x ∧ len ≤ cap ∧ cap ≤ maxLen ∧ zs.length = cap ∧ (∀ i, i < zs.length → w.cell? (x.add i) = some (.int k (zs.getD i 0))) ∧ ∀ n ∈ zs, (Lit.int k n).wf = true

theorem law_row (F : Interp) (da : Option Addr) (dlen dcap : Nat) (zs : List Int) (nb c : Int) (f : Bool) (w : World) (hF : F.answers w.tape) (hr : IsRow .u8 w da dlen dcap zs) (hn0 : 0 ≤ nb) (hn1 : nb ≤ 255) (hc0 : 0 ≤ c) (hc1 : c ≤ 255) (hL : ∃ ae au, Two w ae au) :
    Calls Ybaf.prog 3 #[.slice da dlen dcap, .int .u8 nb, .int .u8 c, .bool f] w fun e w' => e = .returned (.bool true) ∧ Below w.heap.size w w' := by
  obtain ⟨ae, au, hT⟩ := hL
  by_cases hbig : (1024 : Int) < (dlen : Int)
  · exact law_big da dlen dcap nb c f w hbig
  · obtain ⟨L, rfl⟩ : ∃ L : Nat, nb = (L : Int) := ⟨nb.toNat, by omega⟩
    obtain ⟨ch, hch⟩ : ∃ ch : Nat, 1 + c % 8 = (ch : Int) := ⟨(1 + c % 8).toNat, by omega⟩
    rcases Nat.eq_zero_or_pos dlen with rfl | hpos
    · have hD : DataIn w da 0 dcap [] := ⟨rfl, Nat.zero_le _, by omega, fun h => by omega⟩
      cases f
      · exact zero_eof da dcap ch c ae au [] L w rfl hD (by omega) hc0 hc1 hch hT
      · exact zero_mine F da dcap ch c ae au [] L w rfl hD (by omega) hc0 hc1 hch hT hF
    · rcases hr with ⟨_, hl, _, _⟩ | ⟨x, rfl, hlc, hm, hz, hcell, hwf⟩
      · omega
      · obtain ⟨blk, off, rfl, hc⟩ := ints_at hcell (by omega)
        have hblk : blk < w.heap.size := by
          have := hc 0 (by omega)
          rcases Nat.lt_or_ge blk w.heap.size with h | h
          · exact h
          · simp [World.cell?, Array.getElem?_eq_none h] at this
        have hxs : (zs.take dlen).length = dlen := by rw [List.length_take]; omega
        have hc' : ∀ j, j < dlen → w.cell? ⟨blk, off + j, none⟩ = some (.int .u8 ((zs.take dlen).getD j 0)) := by
          intro j hj
          rw [hc j (by omega)]
          simp [List.getD, hj]
        have hD : DataIn w (some ⟨blk, off, none⟩) dlen dcap (zs.take dlen) := ⟨hxs, hlc, by omega, fun _ => ⟨blk, off, rfl, hblk, hc'⟩⟩
        cases f
        · exact law_eof blk off dlen dcap ch c ae au _ L w (by omega) hxs hblk hc' hD (by omega) hc0 hc1 hch hT
        · exact law_mine F blk off dlen dcap ch c ae au _ L w (by omega) hxs hblk hc' hD (by omega) hc0 hc1 hch hT hF
end Go.Proofs.YbulkdeqsFmt
