import Derived.Test.YbulkdeqeRows
import Derived.WalkKit
import Derived.WalkSpells
import Derived.OwnWalk
import Derived.Below
import Derived.WalkSmall
import Derived.BigQuiet
import Derived.Deep.QuietTactic
namespace Go.Proofs.Ybulkdeqe
open Go.RowKit

theorem info5 : (Yba.prog.info? 5).map (fun i => (i.zero, i.size, i.bytes)) = some (some (.int .u8 0), 1, 1) := by kernel_rfl

/-- the cells of a block that was just laid. -/
theorem cells_new (w : World) (cs : List Value) (t : TypeId) : ∀ j u, cs[j]? = some u → (w.alloc (.cells cs.toArray t)).cell? ((⟨w.heap.size, 0, none⟩ : Addr).add j) = some u := by
  intro j u hj
  have h := World.cell?_alloc_at (w := w) cs.toArray t w.heap.size j rfl
  have h2 : cs.toArray[j]? = some u := by simpa using hj
  rw [h2] at h
  by_cases h0 : j = 0
  · subst h0; simpa [Addr.add] using h
  · simpa [Addr.add, h0] using h

theorem cells_new1 (w : World) (o : Obj) (cs : List Value) (t : TypeId) : ∀ j u, cs[j]? = some u → ((w.alloc o).alloc (.cells cs.toArray t)).cell? ((⟨w.heap.size + 1, 0, none⟩ : Addr).add j) = some u := by
  have h := cells_new (w.alloc o) cs t
  rwa [show (w.alloc o).heap.size = w.heap.size + 1 by simp] at h

theorem setO {w : World} {a b : Addr} {v : Value} (h : a ≠ b) : (w.setCell a v).cell? b = w.cell? b := World.cell?_setCell_other (h := h) ..
theorem setS {w : World} {a : Addr} {v u : Value} (h : w.cell? a = some u) : (w.setCell a v).cell? a = some v := World.cell?_setCell_same (h := h) ..

def le32 (v : Int) : List Int := [v % 256, v / 256 % 256, v / 65536 % 256, v / 16777216]
def le16 (v : Int) : List Int := [v % 256, v / 256]

theorem below_app {w w' : World} {o1 o2 : Obj} {g : Nat} (hg : g ≤ w.heap.size) (h : ((w.alloc o1).alloc o2).grownBy w' (some g)) : Below g w w' := by
  have b1 := (Below.refl g w).alloc hg o1
  have b2 := b1.alloc (Nat.le_trans hg b1.size) o2
  exact b2.grown h (Nat.le_trans hg b2.size) (by simp)

theorem size_of_owns {w : World} {base g n cap : Nat} {xs : List Value} (hown : w.ownsRow base 5 1 (.slice (some ⟨g, 0, none⟩) n cap) n xs) : g < w.heap.size := by
  rcases hown.2 with ⟨h, _⟩ | ⟨g', c, cur, h, _, hg, _⟩
  · simp at h
  · simp only [Value.slice.injEq, Option.some.injEq, Addr.mk.injEq, and_true] at h
    obtain ⟨rfl, _⟩ := h
    rcases Nat.lt_or_ge g w.heap.size with h | h
    · exact h
    · simp [Array.getElem?_eq_none h] at hg

set_option maxHeartbeats 400000 in
theorem app32 (v : Int) (g k cap : Nat) (xs : List Int) (w : World) (h0 : 0 ≤ v) (h1 : v < 4294967296) (hk : k + 4 ≤ cap)
    (hown : w.ownsRow g 5 1 (.slice (some ⟨g, 0, none⟩) k cap) k (xs.map (Value.int .u8))) :
    Calls Yba.prog 8 #[.agg #[], .slice (some ⟨g, 0, none⟩) k cap, .int .u32 v] w fun e w' =>
      e = .returned (.slice (some ⟨g, 0, none⟩) (k + 4) cap) ∧ w'.ownsRow g 5 1 (.slice (some ⟨g, 0, none⟩) (k + 4) cap) (k + 4) ((xs ++ le32 v).map (Value.int .u8)) ∧ Below g w w' := by
  obtain ⟨i0, hi, hz0, hz1, hz2⟩ := info_parts info5
  have hsz := size_of_owns hown
  go_enter Yba.func8, Yba.ntmps8
  go_wp2_with (first
    | (at_builtin; refine wpList_append_fits _ rfl (.tmp 7) (.tmp 19) 23 rfl g 5 i0 1 Yba.underlying23 hi hz1 g k cap (xs.map (Value.int .u8)) rfl ((hown.alloc _).alloc _) ⟨w.heap.size + 1, 0, none⟩ 4 4 ((le32 v).map (Value.int .u8)) rfl rfl ?c1 (ints_oneCell _ _) hk ?_; rotate_right; intro w2 hown2 hg2)
    | fail)
  case c1 => exact cells_new1 w (.cells #[] 43) ((le32 v).map (Value.int .u8)) 5
  go_ret
  refine ⟨rfl, ?_, below_app (by omega) hg2⟩
  rw [List.map_append]
  exact hown2

set_option maxHeartbeats 400000 in
theorem app16 (v : Int) (g k cap : Nat) (xs : List Int) (w : World) (h0 : 0 ≤ v) (h1 : v < 65536) (hk : k + 2 ≤ cap)
    (hown : w.ownsRow g 5 1 (.slice (some ⟨g, 0, none⟩) k cap) k (xs.map (Value.int .u8))) :
    Calls Yba.prog 9 #[.agg #[], .slice (some ⟨g, 0, none⟩) k cap, .int .u16 v] w fun e w' =>
      e = .returned (.slice (some ⟨g, 0, none⟩) (k + 2) cap) ∧ w'.ownsRow g 5 1 (.slice (some ⟨g, 0, none⟩) (k + 2) cap) (k + 2) ((xs ++ le16 v).map (Value.int .u8)) ∧ Below g w w' := by
  obtain ⟨i0, hi, hz0, hz1, hz2⟩ := info_parts info5
  have hsz := size_of_owns hown
  go_enter Yba.func9, Yba.ntmps9
  go_wp2_with (first
    | (at_builtin; refine wpList_append_fits _ rfl (.tmp 7) (.tmp 13) 23 rfl g 5 i0 1 Yba.underlying23 hi hz1 g k cap (xs.map (Value.int .u8)) rfl ((hown.alloc _).alloc _) ⟨w.heap.size + 1, 0, none⟩ 2 2 ((le16 v).map (Value.int .u8)) rfl rfl ?c1 (ints_oneCell _ _) hk ?_; rotate_right; intro w2 hown2 hg2)
    | fail)
  case c1 => exact cells_new1 w (.cells #[] 43) ((le16 v).map (Value.int .u8)) 5
  go_ret
  refine ⟨rfl, ?_, below_app (by omega) hg2⟩
  rw [List.map_append]
  exact hown2

/-- the header, byte for byte: its first twenty, then the link type's four. -/
def headBytes (v : Int) : List Int := [212, 195, 178, 161, 2, 0, 4, 0, 0, 0, 0, 0, 0, 0, 0, 0, 255, 255, 0, 0] ++ le32 v

set_option maxHeartbeats 400000 in
theorem model_any (x : Int) (w : World) :
    Calls Yba.prog 7 #[.int .i64 x] w fun e w' => e = .returned (.slice (some ⟨w.heap.size, 0, none⟩) 24 24) ∧ w' = w.alloc (.cells ((headBytes (x % 4294967296)).map (Value.int .u8)).toArray 5) := by
  go_enter Yba.func7, Yba.ntmps7
  go_wp2
  go_ret
  exact ⟨rfl, by rw [headBytes, le32, show x % 4294967296 % 256 = x % 256 by omega]; rfl⟩

set_option maxHeartbeats 400000 in
theorem eq_any (a b n ca cb : Nat) (xs : List Int) (w : World) (hn : n ≤ 1000) (ha : ∀ j, j < n → w.cell? ⟨a, j, none⟩ = some (.int .u8 (xs.getD j 0))) (hb : ∀ j, j < n → w.cell? ⟨b, j, none⟩ = some (.int .u8 (xs.getD j 0))) :
    Calls Yba.prog 6 #[.slice (some ⟨a, 0, none⟩) n ca, .slice (some ⟨b, 0, none⟩) n cb] w fun e w' => e = .returned (.bool true) ∧ ∃ q, w' = w.drewN q := by
  have HA : Hid (∀ j, j < n → w.cell? ⟨a, j, none⟩ = some (.int .u8 (xs.getD j 0))) := ha
  have HB : Hid (∀ j, j < n → w.cell? ⟨b, j, none⟩ = some (.int .u8 (xs.getD j 0))) := hb
  clear ha hb
  go_enter Yba.func6, Yba.ntmps6
  go_wp2
  go_loopw [5] (fun i wr => ∃ k : Nat, k ≤ n ∧ i = .int .i64 k ∧ ∃ q, wr = w.drewN q) (fun i _ => n - (intOf i).toNat)
  case atStart => exact ⟨0, Nat.zero_le _, rfl, 0, rfl⟩
  case round =>
    obtain ⟨k, hk, rfl, q, rfl⟩ := hrel
    by_cases hlt : k < n
    · have g1 := HA.out k hlt
      have g2 := HB.out k hlt
      have hltI : (k : Int) < (n : Int) := by omega
      go_wp2_with fail
      go_quiet (fail)
      go_wp2
      go_roundw
      case rel => exact ⟨k + 1, by omega, by go_num, _, rfl⟩
      case measure => simp [intOf]; omega
    · go_wp2
      go_ret
      exact ⟨rfl, q, rfl⟩

/-- the writer that logs, behind one call of its Write: it holds a row of the bytes, has counted one call, its error stands. -/
structure Logged (B : Nat) (fv : Value) (xs : List Int) (w : World) : Prop where
  got : ∃ g cap, B < g ∧ g < w.heap.size ∧ w.cell? ⟨B, 0, none⟩ = some (.slice (some ⟨g, 0, none⟩) xs.length cap) ∧ ∀ j, j < xs.length → w.cell? ⟨g, j, none⟩ = some (.int .u8 (xs.getD j 0))
  calls : w.cell? ⟨B, 1, none⟩ = some (.int .i64 1)
  fail : w.cell? ⟨B, 2, none⟩ = some fv

theorem Logged.drewN {B : Nat} {fv : Value} {xs : List Int} {w : World} (h : Logged B fv xs w) (n : Nat) : Logged B fv xs (w.drewN n) := ⟨h.got, h.calls, h.fail⟩

theorem shape_of_owns {w : World} {base n : Nat} {v : Value} {xs : List Value} (hn : 0 < n) (h : w.ownsRow base 5 1 v n xs) : ∃ g cap, v = .slice (some ⟨g, 0, none⟩) n cap ∧ base ≤ g := by
  rcases h.2 with ⟨_, h⟩ | ⟨g, c, cur, h, hb, _⟩
  · omega
  · exact ⟨g, c, h, hb⟩

theorem src_set {w : World} {B g i : Nat} {v : Value} {cs : List Value} (hne : B ≠ g) (hx : ∀ j u, cs[j]? = some u → w.cell? ((⟨g, 0, none⟩ : Addr).add j) = some u) :
    ∀ j u, cs[j]? = some u → (w.setCell ⟨B, i, none⟩ v).cell? ((⟨g, 0, none⟩ : Addr).add j) = some u := by
  intro j u hj
  rw [World.cell?_setCell_other]
  · exact hx j u hj
  · intro h
    apply hne
    have : (⟨B, i, none⟩ : Addr).block = ((⟨g, 0, none⟩ : Addr).add j).block := by rw [h]
    rw [Addr.add] at this
    split at this <;> simpa using this

/-- the writer's cells behind the append. -/
theorem behind_app {B : Nat} {fv : Value} {w w1 : World} (hB : B < w.heap.size) (c0 : w.cell? ⟨B, 0, none⟩ = some (.slice none 0 0)) (c1 : w.cell? ⟨B, 1, none⟩ = some (.int .i64 0)) (c2 : w.cell? ⟨B, 2, none⟩ = some fv)
    (f0 : w.frozen? ⟨B, 0, none⟩ = false) (hg : (w.setCell ⟨B, 1, none⟩ (.int .i64 1)).grownBy w1 none) :
    w1.cell? ⟨B, 0, none⟩ = some (.slice none 0 0) ∧ w1.cell? ⟨B, 1, none⟩ = some (.int .i64 1) ∧ w1.cell? ⟨B, 2, none⟩ = some fv ∧ w1.frozen? ⟨B, 0, none⟩ = false := by
  have b1 : Below (B + 1) (w.setCell ⟨B, 1, none⟩ (.int .i64 1)) w1 := (Below.refl _ _).grown hg (by simp; omega) (by simp)
  refine ⟨?_, ?_, ?_, ?_⟩
  · rw [b1.cell (p := ⟨B, 0, none⟩) (Nat.lt_succ_self _), setO (by simp)]; exact c0
  · rw [b1.cell (p := ⟨B, 1, none⟩) (Nat.lt_succ_self _)]; exact setS c1
  · rw [b1.cell (p := ⟨B, 2, none⟩) (Nat.lt_succ_self _), setO (by simp)]; exact c2
  · rw [b1.frozen (p := ⟨B, 0, none⟩) (Nat.lt_succ_self _), World.frozen?_setCell]; exact f0

/-- what append and the two stores leave of the logging writer. -/
theorem logged_of {B g' cap : Nat} {fv : Value} {xs : List Int} {w w1 : World} (hB : B < w.heap.size) (hg' : w.heap.size ≤ g')
    (c0 : w.cell? ⟨B, 0, none⟩ = some (.slice none 0 0)) (c1 : w.cell? ⟨B, 1, none⟩ = some (.int .i64 0)) (c2 : w.cell? ⟨B, 2, none⟩ = some fv)
    (hl : xs.length = 24) (hown : w1.ownsRow w.heap.size 5 1 (.slice (some ⟨g', 0, none⟩) 24 cap) 24 (xs.map (Value.int .u8))) (hg : (w.setCell ⟨B, 1, none⟩ (.int .i64 1)).grownBy w1 none) :
    Below B w (w1.setCell ⟨B, 0, none⟩ (.slice (some ⟨g', 0, none⟩) 24 cap)) ∧ Logged B fv xs (w1.setCell ⟨B, 0, none⟩ (.slice (some ⟨g', 0, none⟩) 24 cap)) := by
  have b1 : Below B w w1 := ((Below.refl B w).setCell (p := ⟨B, 1, none⟩) (Nat.le_refl _) _).grown hg (by simp; omega) (by simp)
  have hsz := size_of_owns hown
  have d0 : w1.cell? ⟨B, 0, none⟩ = some (.slice none 0 0) := hg.cell (by rw [setO (by simp)]; exact c0) (by simp)
  have d1 : w1.cell? ⟨B, 1, none⟩ = some (.int .i64 1) := hg.cell (setS c1) (by simp)
  have d2 : w1.cell? ⟨B, 2, none⟩ = some fv := hg.cell (by rw [setO (by simp)]; exact c2) (by simp)
  refine ⟨b1.setCell (p := ⟨B, 0, none⟩) (Nat.le_refl _) _, ⟨g', cap, by omega, by simpa using hsz, ?_, ?_⟩, ?_, ?_⟩
  · rw [setS d0, hl]
  · intro j hj
    rw [setO (by intro h; have : B = g' := congrArg Addr.block h; omega), hown.cellAt j (by omega)]
    simp [List.getElem?_map, List.getElem?_eq_getElem hj, List.getD]
  · rw [setO (by simp)]; exact d1
  · rw [setO (by simp)]; exact d2

set_option maxHeartbeats 400000 in
theorem write_ok (B g : Nat) (xs : List Int) (w : World) (hB : B < w.heap.size) (hBg : B ≠ g) (hl : xs.length = 24)
    (c0 : w.cell? ⟨B, 0, none⟩ = some (.slice none 0 0)) (c1 : w.cell? ⟨B, 1, none⟩ = some (.int .i64 0)) (c2 : w.cell? ⟨B, 2, none⟩ = some .nilIface)
    (f0 : w.frozen? ⟨B, 0, none⟩ = false) (f1 : w.frozen? ⟨B, 1, none⟩ = false)
    (hx : ∀ j u, (xs.map (Value.int .u8))[j]? = some u → w.cell? ((⟨g, 0, none⟩ : Addr).add j) = some u) :
    Calls Yba.prog 25 #[.pointer (some ⟨B, 0, none⟩), .slice (some ⟨g, 0, none⟩) 24 24] w fun e w' => e = .returned (.tuple #[.int .i64 24, .nilIface]) ∧ Below B w w' ∧ Logged B .nilIface xs w' := by
  obtain ⟨i0, hi, hz0, hz1, hz2⟩ := info_parts info5
  have HL : Hid (xs.length = 24) := hl
  have HX : Hid (∀ j u, (xs.map (Value.int .u8))[j]? = some u → w.cell? ((⟨g, 0, none⟩ : Addr).add j) = some u) := hx
  clear hx hl
  go_enter Yba.func25, Yba.ntmps25
  go_wp2_with (first
    | (at_builtin; refine wpList_append_own _ rfl (.tmp 17) (.tmp 18) 23 rfl w.heap.size 5 i0 (.int .u8 0) 1 1 Yba.underlying23 hi hz0 hz1 hz2 rfl (by decide) (.slice none 0 0) 0 [] rfl (World.ownsRow_nil _ _ _ _) ⟨g, 0, none⟩ 24 24 (xs.map (Value.int .u8)) rfl (by simpa using HL.out) (src_set hBg HX.out) (ints_oneCell _ _) (by unfold maxLen; omega) (by omega) (by simp) ?_; intro v' w1 hown hg1 _; simp only [Nat.zero_add, List.nil_append] at hown; obtain ⟨g', cap, hv, hg'⟩ := shape_of_owns (by omega) hown; rw [hv] at hown ⊢; have hsz' := size_of_owns hown; have hlog := logged_of hB hg' c0 c1 c2 HL.out hown hg1; obtain ⟨d0, d1, d2, df⟩ := behind_app hB c0 c1 c2 f0 hg1)
    | fail)
  go_ret2
  exact ⟨rfl, hlog⟩
set_option maxHeartbeats 400000 in
theorem write_bad (B g : Nat) (ea : Addr) (xs : List Int) (w : World) (hB : B < w.heap.size) (hBg : B ≠ g) (hl : xs.length = 24)
    (c0 : w.cell? ⟨B, 0, none⟩ = some (.slice none 0 0)) (c1 : w.cell? ⟨B, 1, none⟩ = some (.int .i64 0)) (c2 : w.cell? ⟨B, 2, none⟩ = some (.iface 39 (.pointer (some ea))))
    (f0 : w.frozen? ⟨B, 0, none⟩ = false) (f1 : w.frozen? ⟨B, 1, none⟩ = false)
    (hx : ∀ j u, (xs.map (Value.int .u8))[j]? = some u → w.cell? ((⟨g, 0, none⟩ : Addr).add j) = some u) :
    Calls Yba.prog 25 #[.pointer (some ⟨B, 0, none⟩), .slice (some ⟨g, 0, none⟩) 24 24] w fun e w' => e = .returned (.tuple #[.int .i64 0, (.iface 39 (.pointer (some ea)))]) ∧ Below B w w' ∧ Logged B (.iface 39 (.pointer (some ea))) xs w' := by
  obtain ⟨i0, hi, hz0, hz1, hz2⟩ := info_parts info5
  have HL : Hid (xs.length = 24) := hl
  have HX : Hid (∀ j u, (xs.map (Value.int .u8))[j]? = some u → w.cell? ((⟨g, 0, none⟩ : Addr).add j) = some u) := hx
  clear hx hl
  go_enter Yba.func25, Yba.ntmps25
  go_wp2_with (first
    | (at_builtin; refine wpList_append_own _ rfl (.tmp 17) (.tmp 18) 23 rfl w.heap.size 5 i0 (.int .u8 0) 1 1 Yba.underlying23 hi hz0 hz1 hz2 rfl (by decide) (.slice none 0 0) 0 [] rfl (World.ownsRow_nil _ _ _ _) ⟨g, 0, none⟩ 24 24 (xs.map (Value.int .u8)) rfl (by simpa using HL.out) (src_set hBg HX.out) (ints_oneCell _ _) (by unfold maxLen; omega) (by omega) (by simp) ?_; intro v' w1 hown hg1 _; simp only [Nat.zero_add, List.nil_append] at hown; obtain ⟨g', cap, hv, hg'⟩ := shape_of_owns (by omega) hown; rw [hv] at hown ⊢; have hsz' := size_of_owns hown; have hlog := logged_of hB hg' c0 c1 c2 HL.out hown hg1; obtain ⟨d0, d1, d2, df⟩ := behind_app hB c0 c1 c2 f0 hg1)
    | fail)
  go_quiet (fail)
  go_wp2
  go_ret2
  exact ⟨rfl, below_drewN hlog.1 _, hlog.2.drewN _⟩
end Go.Proofs.Ybulkdeqe
