/-
  DERIVED. The optimal-string-alignment table, row by row: what both Go functions compute. No Go here.
-/
namespace Go.Proofs.Ybulkdqms.Osa

/-- Row i of the table out of the two rows ahead of it ('p2': row i-2, 'p1': row i-1). -/
def nxt (a b : Nat → Nat) (p2 p1 : Nat → Int) (i : Nat) : Nat → Int
  | 0 => (i : Int)
  | j + 1 =>
    if 1 < i ∧ 0 < j ∧ a (i - 1) = b (j - 1) ∧ a (i - 2) = b j then
      min (min (min (p1 (j + 1) + 1) (nxt a b p2 p1 i j + 1)) (p1 j + (if a (i - 1) = b j then 0 else 1))) (p2 (j - 1) + 1)
    else
      min (min (p1 (j + 1) + 1) (nxt a b p2 p1 i j + 1)) (p1 j + (if a (i - 1) = b j then 0 else 1))

/-- Rows i-1 and i. -/
def rows (a b : Nat → Nat) : Nat → (Nat → Int) × (Nat → Int)
  | 0 => (fun _ => 0, fun j => (j : Int))
  | i + 1 => ((rows a b i).2, nxt a b (rows a b i).1 (rows a b i).2 (i + 1))

/-- The table. -/
def D (a b : Nat → Nat) (i j : Nat) : Int := (rows a b i).2 j

theorem D_zero (a b : Nat → Nat) (j : Nat) : D a b 0 j = j := rfl
theorem D_succ_zero (a b : Nat → Nat) (i : Nat) : D a b (i + 1) 0 = ((i + 1 : Nat) : Int) := rfl
theorem D_col (a b : Nat → Nat) (i : Nat) : D a b i 0 = (i : Int) := by cases i <;> rfl
theorem rows_fst (a b : Nat → Nat) (i j : Nat) : (rows a b (i + 1)).1 j = D a b i j := rfl

/-- The test of a swap at (i+1, j+1). -/
def sw (a b : Nat → Nat) (i j : Nat) : Prop := 0 < i ∧ 0 < j ∧ a i = b (j - 1) ∧ a (i - 1) = b j

theorem D_step_no (a b : Nat → Nat) (i j : Nat) (h : ¬ sw a b i j) :
    D a b (i + 1) (j + 1) = min (min (D a b i (j + 1) + 1) (D a b (i + 1) j + 1)) (D a b i j + (if a i = b j then 0 else 1)) := by
  show nxt a b (rows a b i).1 (rows a b i).2 (i + 1) (j + 1) = _
  rw [nxt]
  have hc : ¬ (1 < i + 1 ∧ 0 < j ∧ a (i + 1 - 1) = b (j - 1) ∧ a (i + 1 - 2) = b j) := by
    intro ⟨h1, h2, h3, h4⟩
    exact h ⟨by omega, h2, h3, by have e : i + 1 - 2 = i - 1 := by omega
                                  rw [e] at h4; exact h4⟩
  rw [if_neg hc]
  rfl

theorem D_step_yes (a b : Nat → Nat) (i j : Nat) (h : sw a b (i + 1) (j + 1)) :
    D a b (i + 1 + 1) (j + 1 + 1) = min (min (min (D a b (i + 1) (j + 1 + 1) + 1) (D a b (i + 1 + 1) (j + 1) + 1)) (D a b (i + 1) (j + 1) + (if a (i + 1) = b (j + 1) then 0 else 1))) (D a b i j + 1) := by
  show nxt a b (rows a b (i + 1)).1 (rows a b (i + 1)).2 (i + 1 + 1) (j + 1 + 1) = _
  rw [nxt]
  have hc : 1 < i + 1 + 1 ∧ 0 < j + 1 ∧ a (i + 1 + 1 - 1) = b (j + 1 - 1) ∧ a (i + 1 + 1 - 2) = b (j + 1) := by
    obtain ⟨_, h2, h3, h4⟩ := h
    exact ⟨by omega, h2, h3, h4⟩
  rw [if_pos hc]
  rfl

theorem D_bd (a b : Nat → Nat) : ∀ i j, 0 ≤ D a b i j ∧ D a b i j ≤ i + j := by
  intro i
  induction i using Nat.strongRecOn with
  | _ i ih =>
    cases i with
    | zero => intro j; rw [D_zero]; omega
    | succ i =>
      intro j
      induction j with
      | zero => rw [D_succ_zero]; omega
      | succ j ihj =>
        have h1 := ih i (by omega) (j + 1)
        have h2 := ih i (by omega) j
        by_cases hs : sw a b i j
        · obtain ⟨i', rfl⟩ : ∃ i', i = i' + 1 := ⟨i - 1, by have := hs.1; omega⟩
          obtain ⟨j', rfl⟩ : ∃ j', j = j' + 1 := ⟨j - 1, by have := hs.2.1; omega⟩
          have h3 := ih i' (by omega) j'
          rw [D_step_yes a b i' j' hs]
          split <;> omega
        · rw [D_step_no a b i j hs]
          split <;> omega

end Go.Proofs.Ybulkdqms.Osa
