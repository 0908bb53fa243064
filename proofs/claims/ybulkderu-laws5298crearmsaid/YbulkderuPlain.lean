import Derived.Test.YbulkderuCmp
namespace Go.Proofs.Ybulkderu
set_option linter.unusedVariables false

/-! ### the heap, plain: 'hp p' is the number of the timer that lies at place p -/
def swapF (hp : Nat → Nat) (i j : Nat) : Nat → Nat := fun p => if p = i then hp j else if p = j then hp i else hp p
theorem swapF_left (hp : Nat → Nat) (i j : Nat) : swapF hp i j i = hp j := by simp [swapF]
theorem swapF_right (hp : Nat → Nat) (i j : Nat) : swapF hp i j j = hp i := by
  unfold swapF
  by_cases h : j = i
  · subst h; simp
  · simp [h]
theorem swapF_other (hp : Nat → Nat) (i j p : Nat) (h1 : p ≠ i) (h2 : p ≠ j) : swapF hp i j p = hp p := by simp [swapF, h1, h2]

def par (p : Nat) : Nat := (p - 1) / 2

/-- places to numbers, one to one, below n. -/
structure Perm (n : Nat) (hp : Nat → Nat) : Prop where
  lt : ∀ p, p < n → hp p < n
  inj : ∀ p q, p < n → q < n → hp p = hp q → p = q

theorem Perm.swap {n : Nat} {hp : Nat → Nat} (h : Perm n hp) {i j : Nat} (hi : i < n) (hj : j < n) : Perm n (swapF hp i j) := by
  constructor
  · intro p hp'
    unfold swapF
    split
    · exact h.lt _ hj
    · split
      · exact h.lt _ hi
      · exact h.lt _ hp'
  · intro p q h1 h2 he
    have e : ∀ p, swapF hp i j p = hp (if p = i then j else if p = j then i else p) := by
      intro p
      unfold swapF
      split
      · rfl
      · split <;> rfl
    rw [e, e] at he
    have l : ∀ p, p < n → (if p = i then j else if p = j then i else p) < n := by
      intro p hp'
      split
      · exact hj
      · split
        · exact hi
        · exact hp'
    have := h.inj _ _ (l p h1) (l q h2) he
    by_cases a : p = i <;> by_cases b : p = j <;> by_cases c : q = i <;> by_cases d : q = j <;> simp only [a, b, c, d, if_false, if_pos] at this <;> (repeat' split at this) <;> omega

/-- less or equal, of timer numbers: by the time due, then by the number that the program gave it. -/
def le (due sq : Nat → Int) (q r : Nat) : Prop := due q < due r ∨ (due q = due r ∧ sq q ≤ sq r)
theorem le_trans' {due sq : Nat → Int} {a b c : Nat} (h1 : le due sq a b) (h2 : le due sq b c) : le due sq a c := by unfold le at *; omega
/-- 'compareTimers(q, r) < 0'. -/
def lt (due sq : Nat → Int) (q r : Nat) : Bool := decide (orI (cmpI (due q) (due r)) (cmpI (sq q) (sq r)) < 0)
theorem lt_iff (due sq : Nat → Int) (q r : Nat) : lt due sq q r = true ↔ ¬ le due sq r q := by
  unfold lt le orI cmpI
  simp only [decide_eq_true_eq]
  repeat' split
  all_goals omega
theorem lt_true {due sq : Nat → Int} {q r : Nat} (h : lt due sq q r = true) : le due sq q r := by
  have := (lt_iff due sq q r).1 h
  unfold le at *
  omega
theorem lt_false {due sq : Nat → Int} {q r : Nat} (h : lt due sq q r = false) : le due sq r q := by
  by_cases h' : le due sq r q
  · exact h'
  · have := (lt_iff due sq q r).2 h'
    rw [h] at this
    cases this

section
variable (due sq : Nat → Int) (n : Nat)

def Heap (hp : Nat → Nat) : Prop := ∀ p, 0 < p → p < n → le due sq (hp (par p)) (hp p)

/-- down's invariant: started at i0, now at i. -/
structure Dn (i0 i : Nat) (hp : Nat → Nat) : Prop where
  edge : ∀ p, 0 < p → p < n → p ≠ i → par p ≠ i → le due sq (hp (par p)) (hp p)
  grand : 0 < i → ∀ c, 0 < c → c < n → par c = i → le due sq (hp (par i)) (hp c)
  moved : i ≠ i0 → 0 < i ∧ le due sq (hp (par i)) (hp i)

/-- up's invariant. -/
structure Up (j : Nat) (hp : Nat → Nat) : Prop where
  edge : ∀ p, 0 < p → p < n → p ≠ j → le due sq (hp (par p)) (hp p)
  grand : 0 < j → ∀ c, 0 < c → c < n → par c = j → le due sq (hp (par j)) (hp c)
end

variable {due sq : Nat → Int} {n : Nat} {hp : Nat → Nat}

theorem Dn.step {i0 i j : Nat} (h : Dn due sq n i0 i hp) (hj : par j = i) (hj0 : 0 < j) (hjn : j < n) (hi0 : i0 ≤ i) (hmin : ∀ c, 0 < c → c < n → par c = i → le due sq (hp j) (hp c)) (hlt : lt due sq (hp j) (hp i) = true) :
    Dn due sq n i0 j (swapF hp i j) := by
  have hij : i < j := by unfold par at hj; omega
  refine ⟨?_, ?_, ?_⟩
  · intro p h0 h1 h2 h3
    by_cases a : p = i
    · subst a
      have hpp : par p < p := by unfold par; omega
      rw [swapF_left, swapF_other _ _ _ _ (by omega) (by omega)]
      exact h.grand h0 j hj0 hjn hj
    · by_cases b : par p = i
      · rw [b, swapF_left, swapF_other _ _ _ _ a h2]
        exact hmin p h0 h1 b
      · rw [swapF_other _ _ _ _ b h3, swapF_other _ _ _ _ a h2]
        exact h.edge p h0 h1 a b
  · intro _ c h0 h1 h2
    have hjc : j < c := by unfold par at h2; omega
    rw [hj, swapF_left, swapF_other _ _ _ _ (by omega) (by omega)]
    have := h.edge c h0 h1 (by omega) (by omega)
    rwa [h2] at this
  · intro _
    refine ⟨hj0, ?_⟩
    rw [hj, swapF_left, swapF_right]
    exact lt_true hlt

theorem Dn.stop {i0 i : Nat} (h : Dn due sq n i0 i hp) (hmin : ∀ c, 0 < c → c < n → par c = i → le due sq (hp i) (hp c)) : Up due sq n i hp := by
  refine ⟨?_, h.grand⟩
  intro p h0 h1 h2
  by_cases b : par p = i
  · rw [b]; exact hmin p h0 h1 b
  · exact h.edge p h0 h1 h2 b

theorem Dn.heap {i0 i : Nat} (h : Dn due sq n i0 i hp) (hi : i ≠ i0) (hmin : ∀ c, 0 < c → c < n → par c = i → le due sq (hp i) (hp c)) : Heap due sq n hp := by
  intro p h0 h1
  by_cases a : p = i
  · subst a; exact (h.moved hi).2
  · exact (h.stop hmin).edge p h0 h1 a

theorem Up.step {j : Nat} (h : Up due sq n j hp) (hj0 : 0 < j) (hjn : j < n) (hlt : lt due sq (hp j) (hp (par j)) = true) : Up due sq n (par j) (swapF hp (par j) j) := by
  have hij : par j < j := by unfold par; omega
  generalize hi : par j = i at *
  refine ⟨?_, ?_⟩
  · intro p h0 h1 h2
    by_cases a : p = j
    · subst a
      rw [hi, swapF_left, swapF_right]
      exact lt_true hlt
    · rw [swapF_other _ _ _ p h2 a]
      by_cases b : par p = i
      · rw [b, swapF_left]
        have := h.edge p h0 h1 a
        rw [b] at this
        exact le_trans' (lt_true hlt) this
      · by_cases c : par p = j
        · rw [c, swapF_right]
          have := h.grand hj0 p h0 h1 c
          rwa [hi] at this
        · rw [swapF_other _ _ _ _ b c]
          exact h.edge p h0 h1 a
  · intro hi0 c h0 h1 h2
    have hpi : par i < i := by unfold par; omega
    have e1 := h.edge i hi0 (by omega) (by omega)
    rw [swapF_other _ _ _ (par i) (by omega) (by omega)]
    by_cases a : c = j
    · subst a; rw [swapF_right]; exact e1
    · have hci : i < c := by unfold par at h2; omega
      rw [swapF_other _ _ _ c (by omega) a]
      have e2 := h.edge c h0 h1 a
      rw [h2] at e2
      exact le_trans' e1 e2

theorem Up.heap {j : Nat} (h : Up due sq n j hp) (hj : j = 0 ∨ lt due sq (hp j) (hp (par j)) = false) : Heap due sq n hp := by
  intro p h0 h1
  by_cases a : p = j
  · subst a
    rcases hj with rfl | hj
    · omega
    · exact lt_false hj
  · exact h.edge p h0 h1 a

/-- sorted, but for place i. -/
theorem Dn.start {i : Nat} (h : ∀ p q, p < q → q < n → p ≠ i → q ≠ i → le due sq (hp p) (hp q)) : Dn due sq n i i hp := by
  refine ⟨?_, ?_, fun e => absurd rfl e⟩
  · intro p h0 h1 h2 h3
    exact h _ _ (by unfold par; omega) h1 h3 h2
  · intro h0 c c0 c1 c2
    have h1 : par i < i := by unfold par; omega
    have h2 : i < c := by unfold par at c2; omega
    exact h _ _ (by omega) c1 (by omega) (by omega)

/-- the children of i. -/
theorem child_cases {i c : Nat} (h0 : 0 < c) (h : par c = i) : c = 2 * i + 1 ∨ c = 2 * i + 2 := by unfold par at h; omega
end Go.Proofs.Ybulkderu
