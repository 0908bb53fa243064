import Derived.Test.YbulkdeqsFmtReads
import Derived.Test.YbulkdeqsFmtFacts
import Derived.LaidEql
import Derived.Deep.RegionWith
import Derived.Deep.LoopGhost
namespace Go.Proofs.YbulkdeqsFmt
open Go.RowKit
set_option linter.unusedVariables false

/-- what Read needs of the data: where there is any it lies at a place below the reader's box. -/
def Data (w1 : World) (R : Nat) (da : Option Addr) (dlen dcap : Nat) (xs : List Int) : Prop :=
  xs.length = dlen ∧ dlen ≤ dcap ∧ dlen ≤ 1024 ∧ (0 < dlen → ∃ db doff, da = some ⟨db, doff, none⟩ ∧ db < R ∧ ∀ j, j < dlen → w1.cell? ⟨db, doff + j, none⟩ = some (.int .u8 (xs.getD j 0)))

theorem read_more (w1 : World) (R bb : Nat) (da : Option Addr) (dlen dcap ch : Nat) (fv : Value) (xs : List Int) (L k r : Nat) (w : World) (h : St w1 R bb da dlen dcap ch fv xs L k w) (hRb : R < bb) (hRs : R < w.heap.size)
    (hD : Data w1 R da dlen dcap xs) (hL : L ≤ 255) (hc1 : ch ≤ 8) (hch0 : 0 < ch) (hk : k < dlen) (hr : k + r = L) (hr0 : 0 < r) :
    Calls Ybaf.prog 28 #[.pointer (some ⟨R, 0, none⟩), .slice (some ⟨bb, k, none⟩) r r] w fun e w' => ∃ m : Nat, 1 ≤ m ∧ k + m ≤ L ∧ k + m ≤ dlen ∧ e = .returned (.tuple #[.int .i64 m, .nilIface]) ∧ St w1 R bb da dlen dcap ch fv xs L (k + m) w' := by
  obtain ⟨hx, hdc, hd1, hp⟩ := hD
  obtain ⟨db, doff, rfl, hdb, hc⟩ := hp (by omega)
  exact read_some w1 R bb db doff dlen dcap ch fv xs L k r w h hRb hRs hdb hx hdc hd1 hL hc1 hch0 hc hk hr hr0

theorem St.size {w1 : World} {R bb : Nat} {da : Option Addr} {dlen dcap ch : Nat} {fv : Value} {xs : List Int} {L k : Nat} {w : World} (h : St w1 R bb da dlen dcap ch fv xs L k w) : R < w.heap.size := by
  rcases Nat.lt_or_ge R w.heap.size with h' | h'
  · exact h'
  · have := h.pos; simp [World.cell?, Array.getElem?_eq_none h'] at this

theorem nil_ahead (a : Addr) (w : World) : (nilAhead 200 26 (.pointer (some a)) "Read").run Ybaf.prog w = .ok (some false) w := by kernel_rfl
theorem method_read (a : Addr) (w : World) : (method 200 26 (.pointer (some a)) "Read").run Ybaf.prog w = .ok (28, .pointer (some a)) w := by kernel_rfl
theorem eq_same (w : World) (a : Addr) : (binOp .eql 24 (.iface 33 (.pointer (some a))) (.iface 33 (.pointer (some a)))).run Ybaf.prog w = .ok (.bool true) w := by
  obtain ⟨i, hi, hcmp⟩ := Option.map_eq_some_iff.1 comp33
  obtain ⟨j, hj, hjs⟩ := Option.map_eq_some_iff.1 sz35
  exact run_eql_iface_ptr_same w a Ybaf.underlying24 Ybaf.underlying33 hi hcmp hj
theorem eq_other (w : World) {a b : Addr} {ca cb : Array Value} {ta tb : TypeId} (hne : a ≠ b) (ha : w.heap[a.block]? = some (.cells ca ta (0, 0))) (hb : w.heap[b.block]? = some (.cells cb tb (0, 0))) :
    (binOp .eql 24 (.iface 33 (.pointer (some a))) (.iface 33 (.pointer (some b)))).run Ybaf.prog w = .ok (.bool false) w := by
  obtain ⟨i, hi, hcmp⟩ := Option.map_eq_some_iff.1 comp33
  obtain ⟨j, hj, hjs⟩ := Option.map_eq_some_iff.1 sz35
  exact run_eql_iface_ptr_other w Ybaf.underlying24 Ybaf.underlying33 hi hcmp hj (by rw [hjs]; decide) hne ha hb

def errM : Value → Nat
  | .nilIface => 1
  | _ => 0

/-- the error at the data's end where the reader answers io.EOF: io.ErrUnexpectedEOF behind some data. -/
def pickErr (dlen : Nat) (au fa : Addr) : Addr := if 0 < dlen then au else fa

/-- how ReadAtLeast ends: the buffer full and no error; or the data at its end and the error 'er'. -/
def RalPost (w1 : World) (R bb : Nat) (da : Option Addr) (dlen dcap ch : Nat) (fv : Value) (xs : List Int) (L : Nat) (er : Value) (e : Ending) (w' : World) : Prop :=
  (L ≤ dlen ∧ e = .returned (.tuple #[.int .i64 L, .nilIface]) ∧ St w1 R bb da dlen dcap ch fv xs L L w') ∨
  (dlen < L ∧ e = .returned (.tuple #[.int .i64 dlen, er]) ∧ St w1 R bb da dlen dcap ch fv xs L dlen w')

set_option maxHeartbeats 1000000 in
theorem ral_mine (w1 : World) (R bb : Nat) (da : Option Addr) (dlen dcap ch : Nat) (fa ae : Addr) (ca cb : Array Value) (ta tb : TypeId) (xs : List Int) (L : Nat) (w : World) (hRb : R < bb) (hR : 3 ≤ R)
    (hD : Data w1 R da dlen dcap xs) (hL : L ≤ 255) (hc1 : ch ≤ 8) (hch0 : 0 < ch)
    (g0 : w1.cell? ⟨0, 0, none⟩ = some (.iface 33 (.pointer (some ae)))) (hne : fa ≠ ae) (hfa : fa.block < R) (hae : ae.block < R)
    (hha : w1.heap[fa.block]? = some (.cells ca ta (0, 0))) (hhb : w1.heap[ae.block]? = some (.cells cb tb (0, 0)))
    (h : St w1 R bb da dlen dcap ch (.iface 33 (.pointer (some fa))) xs L 0 w) :
    Calls Ybaf.prog 11 #[.iface 26 (.pointer (some ⟨R, 0, none⟩)), .slice (some ⟨bb, 0, none⟩) L L, .int .i64 L] w fun e w' =>
      RalPost w1 R bb da dlen dcap ch (.iface 33 (.pointer (some fa))) xs L (.iface 33 (.pointer (some fa))) e w' := by
  have hna := nil_ahead
  have hmr := method_read
  have HG : Hid (w1.cell? ⟨0, 0, none⟩ = some (.iface 33 (.pointer (some ae)))) := g0
  have HA : Hid (w1.heap[fa.block]? = some (.cells ca ta (0, 0))) := hha
  have HB : Hid (w1.heap[ae.block]? = some (.cells cb tb (0, 0))) := hhb
  clear g0 hha hhb
  go_enter Ybaf.func11, Ybaf.ntmps11
  go_wp2
  go_loopw [6, 7] (fun n er wr => ∃ k : Nat, k ≤ L ∧ k ≤ dlen ∧ n = .int .i64 k ∧ (er = .nilIface ∨ (er = .iface 33 (.pointer (some fa)) ∧ k = dlen ∧ k < L)) ∧ St w1 R bb da dlen dcap ch (.iface 33 (.pointer (some fa))) xs L k wr)
    (fun n er _ => 2 * (L - (intOf n).toNat) + errM er)
  case atStart => exact ⟨0, Nat.zero_le _, Nat.zero_le _, rfl, Or.inl rfl, h⟩
  case round =>
    obtain ⟨k, hkL, hkd, rfl, her, hS⟩ := hrel
    rcases her with rfl | ⟨rfl, hkd2, hkl2⟩
    · by_cases hlt : k < L
      · by_cases hd : k < dlen
        · have hnk : ¬ L = k := by omega
          have hkLI : (k : Int) ≤ (L : Int) := by omega
          have hS' : St w1 R bb da dlen dcap ch (.iface 33 (.pointer (some fa))) xs L k wr.drew := hS.drewN 1
          go_wp2_with fail
          go_region_with (go_at_call 28; refine (read_more w1 R bb da dlen dcap ch (.iface 33 (.pointer (some fa))) xs L k (L - k) _ hS' hRb hS'.size hD hL hc1 hch0 hd (by omega) (by omega)).mono ?_; rintro e w' ⟨m, hm1, hmL, hmd, rfl, hS2⟩)
          go_wp2
          go_roundw
          case rel => exact ⟨k + m, hmL, hmd, by go_num, Or.inl rfl, hS2⟩
          case measure => simp [intOf, errM]; omega
        · have hnk : ¬ L = k := by omega
          have hkLI : (k : Int) ≤ (L : Int) := by omega
          have hS' : St w1 R bb da dlen dcap ch (.iface 33 (.pointer (some fa))) xs L k wr.drew := hS.drewN 1
          go_wp2_with fail
          go_region_with (go_at_call 28; refine (read_end w1 R bb da dlen dcap ch (.iface 33 (.pointer (some fa))) xs L k _ _ hS' (by omega)).mono ?_; rintro e w' ⟨rfl, hS2⟩)
          go_wp2
          go_roundw
          case rel => exact ⟨k, hkL, hkd, by go_num, Or.inr ⟨rfl, by omega, hlt⟩, hS2⟩
          case measure => simp [intOf, errM]
      · obtain rfl : k = L := by omega
        go_wp2
        go_ret2
        exact Or.inl ⟨hkd, rfl, hS⟩
    · subst hkd2
      have g0 := (hS.below.cell (p := ⟨0, 0, none⟩) (by show 0 < R; omega)).trans HG.out
      have heq := eq_other wr hne ((hS.below.block _ hfa).trans HA.out) ((hS.below.block _ hae).trans HB.out)
      have hkLI : ¬ (L : Int) ≤ (k : Int) := by omega
      by_cases hk0 : 0 < k
      · have hk0I : (0 : Int) < (k : Int) := by omega
        go_wp2
        go_ret2
        exact Or.inr ⟨hkl2, rfl, hS⟩
      · have hk0I : ¬ (0 : Int) < (k : Int) := by omega
        go_wp2
        go_ret2
        exact Or.inr ⟨hkl2, rfl, hS⟩
set_option maxHeartbeats 1000000 in
theorem ral_eof (w1 : World) (R bb : Nat) (da : Option Addr) (dlen dcap ch : Nat) (fa au : Addr) (xs : List Int) (L : Nat) (w : World) (hRb : R < bb) (hR : 3 ≤ R)
    (hD : Data w1 R da dlen dcap xs) (hL : L ≤ 255) (hc1 : ch ≤ 8) (hch0 : 0 < ch)
    (g0 : w1.cell? ⟨0, 0, none⟩ = some (.iface 33 (.pointer (some fa)))) (g1 : w1.cell? ⟨1, 0, none⟩ = some (.iface 33 (.pointer (some au))))
    (h : St w1 R bb da dlen dcap ch (.iface 33 (.pointer (some fa))) xs L 0 w) :
    Calls Ybaf.prog 11 #[.iface 26 (.pointer (some ⟨R, 0, none⟩)), .slice (some ⟨bb, 0, none⟩) L L, .int .i64 L] w fun e w' =>
      RalPost w1 R bb da dlen dcap ch (.iface 33 (.pointer (some fa))) xs L (.iface 33 (.pointer (some (pickErr dlen au fa)))) e w' := by
  have hna := nil_ahead
  have hmr := method_read
  have HG : Hid (w1.cell? ⟨0, 0, none⟩ = some (.iface 33 (.pointer (some fa)))) := g0
  have HU : Hid (w1.cell? ⟨1, 0, none⟩ = some (.iface 33 (.pointer (some au)))) := g1
  clear g0 g1
  go_enter Ybaf.func11, Ybaf.ntmps11
  go_wp2
  go_loopw [6, 7] (fun n er wr => ∃ k : Nat, k ≤ L ∧ k ≤ dlen ∧ n = .int .i64 k ∧ (er = .nilIface ∨ (er = .iface 33 (.pointer (some fa)) ∧ k = dlen ∧ k < L)) ∧ St w1 R bb da dlen dcap ch (.iface 33 (.pointer (some fa))) xs L k wr)
    (fun n er _ => 2 * (L - (intOf n).toNat) + errM er)
  case atStart => exact ⟨0, Nat.zero_le _, Nat.zero_le _, rfl, Or.inl rfl, h⟩
  case round =>
    obtain ⟨k, hkL, hkd, rfl, her, hS⟩ := hrel
    rcases her with rfl | ⟨rfl, hkd2, hkl2⟩
    · by_cases hlt : k < L
      · by_cases hd : k < dlen
        · have hnk : ¬ L = k := by omega
          have hkLI : (k : Int) ≤ (L : Int) := by omega
          have hS' : St w1 R bb da dlen dcap ch (.iface 33 (.pointer (some fa))) xs L k wr.drew := hS.drewN 1
          go_wp2_with fail
          go_region_with (go_at_call 28; refine (read_more w1 R bb da dlen dcap ch (.iface 33 (.pointer (some fa))) xs L k (L - k) _ hS' hRb hS'.size hD hL hc1 hch0 hd (by omega) (by omega)).mono ?_; rintro e w' ⟨m, hm1, hmL, hmd, rfl, hS2⟩)
          go_wp2
          go_roundw
          case rel => exact ⟨k + m, hmL, hmd, by go_num, Or.inl rfl, hS2⟩
          case measure => simp [intOf, errM]; omega
        · have hnk : ¬ L = k := by omega
          have hkLI : (k : Int) ≤ (L : Int) := by omega
          have hS' : St w1 R bb da dlen dcap ch (.iface 33 (.pointer (some fa))) xs L k wr.drew := hS.drewN 1
          go_wp2_with fail
          go_region_with (go_at_call 28; refine (read_end w1 R bb da dlen dcap ch (.iface 33 (.pointer (some fa))) xs L k _ _ hS' (by omega)).mono ?_; rintro e w' ⟨rfl, hS2⟩)
          go_wp2
          go_roundw
          case rel => exact ⟨k, hkL, hkd, by go_num, Or.inr ⟨rfl, by omega, hlt⟩, hS2⟩
          case measure => simp [intOf, errM]
      · obtain rfl : k = L := by omega
        go_wp2
        go_ret2
        exact Or.inl ⟨hkd, rfl, hS⟩
    · subst hkd2
      have g0 := (hS.below.cell (p := ⟨0, 0, none⟩) (by show 0 < R; omega)).trans HG.out
      have g1 := (hS.below.cell (p := ⟨1, 0, none⟩) (by show 1 < R; omega)).trans HU.out
      have heq := eq_same wr fa
      have hkLI : ¬ (L : Int) ≤ (k : Int) := by omega
      by_cases hk0 : 0 < k
      · have hk0I : (0 : Int) < (k : Int) := by omega
        go_wp2
        go_ret2
        exact Or.inr ⟨hkl2, by rw [pickErr, if_pos hk0]; rfl, hS⟩
      · have hk0I : ¬ (0 : Int) < (k : Int) := by omega
        go_wp2
        go_ret2
        exact Or.inr ⟨hkl2, by rw [pickErr, if_neg hk0]; rfl, hS⟩
end Go.Proofs.YbulkdeqsFmt
