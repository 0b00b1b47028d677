import Derived.Test.Qxb6604439aW7
namespace Go.Proofs.Qxb6604439a
open Go.RowKit
set_option linter.unusedVariables false
set_option linter.unusedSimpArgs false

abbrev Dec := Int × Int × Int

/-- The record after k decisions. -/
def runL (D : Nat → Dec) : Nat → List Dec
  | 0 => []
  | k + 1 => addL (D k).1 (D k).2.1 (D k).2.2 (runL D k)

/-- The decisions before place j, after the instant c, with a shortfall. -/
def held (D : Nat → Dec) (c : Int) : Nat → List Dec
  | 0 => []
  | j + 1 => held D c j ++ (if c < (D j).1 ∧ ¬ ((D j).2.1 = 0 ∧ (D j).2.2 = 0) then [D j] else [])

theorem held_length (D : Nat → Dec) (c : Int) (j : Nat) : (held D c j).length ≤ j := by
  induction j with
  | zero => simp [held]
  | succ j ih =>
    simp only [held, List.length_append]
    split <;> simp <;> omega

theorem mem_held {D : Nat → Dec} {c : Int} {j : Nat} {d : Dec} (h : d ∈ held D c j) : ∃ i, i < j ∧ d = D i ∧ c < d.1 := by
  induction j with
  | zero => simp [held] at h
  | succ j ih =>
    simp only [held, List.mem_append] at h
    rcases h with h | h
    · obtain ⟨i, hi, e, hc⟩ := ih h
      exact ⟨i, by omega, e, hc⟩
    · split at h
      · rename_i hx
        simp only [List.mem_singleton] at h
        exact ⟨j, by omega, h, by rw [h]; exact hx.1⟩
      · simp at h

theorem keep_append (c : Int) (A X : List Dec) : keep c (A ++ X) = if keep c A = [] then keep c X else keep c A ++ X := by
  induction A with
  | nil => simp [keep]
  | cons d A ih =>
    simp only [List.cons_append, keep]
    split
    · exact ih
    · simp

theorem InOrder.le {n : Nat} {D : Nat → Dec} (h : InOrder n D) {i j : Nat} (hij : i ≤ j) (hj : j < n) : (D i).1 ≤ (D j).1 := by
  induction j with
  | zero => obtain rfl : i = 0 := by omega
            exact Int.le_refl _
  | succ j ih =>
    rcases Nat.lt_or_ge i (j + 1) with h' | h'
    · exact Int.le_trans (ih (by omega) (by omega)) (h.2 j hj)
    · obtain rfl : i = j + 1 := by omega
      exact Int.le_refl _

theorem keep_held {n : Nat} {D : Nat → Dec} (h : InOrder n D) {c c' : Int} (hc : c' ≤ c) : ∀ k, k ≤ n → keep c (held D c' k) = held D c k := by
  intro k
  induction k with
  | zero => intro _; rfl
  | succ k ih =>
    intro hk
    simp only [held]
    rw [keep_append, ih (by omega)]
    split
    · rename_i he
      rw [he, List.nil_append]
      by_cases h1 : c < (D k).1 ∧ ¬ ((D k).2.1 = 0 ∧ (D k).2.2 = 0)
      · rw [if_pos h1, if_pos ⟨by omega, h1.2⟩]
        simp only [keep]
        rw [if_neg (by omega)]
      · rw [if_neg h1]
        split
        · rename_i h2
          simp only [keep]
          rw [if_pos]
          by_cases h3 : c < (D k).1
          · exact absurd ⟨h3, h2.2⟩ h1
          · omega
        · rfl
    · rename_i he
      obtain ⟨d, hd⟩ := List.exists_mem_of_ne_nil _ he
      obtain ⟨i, hi, e, hci⟩ := mem_held hd
      have hle := h.le (i := i) (j := k) (by omega) (by omega)
      rw [e] at hci
      have hcd : c < (D k).1 := by omega
      have hcd' : c' < (D k).1 := by omega
      simp [hcd, hcd']

theorem run_held {n : Nat} {D : Nat → Dec} (h : InOrder n D) : ∀ k, k < n → runL D (k + 1) = held D ((D k).1 - 86400) (k + 1) := by
  intro k
  induction k with
  | zero =>
    intro _
    simp only [runL, addL, keep, held, List.nil_append]
    have : (D 0).1 - 86400 < (D 0).1 := by omega
    by_cases hz : (D 0).2.1 = 0 ∧ (D 0).2.2 = 0
    · rw [if_pos hz, if_neg (fun x => x.2 hz)]
    · rw [if_neg hz, if_pos ⟨this, hz⟩]
  | succ k ih =>
    intro hk
    have hle := h.2 k hk
    have h1 : runL D (k + 1 + 1) = addL (D (k + 1)).1 (D (k + 1)).2.1 (D (k + 1)).2.2 (runL D (k + 1)) := rfl
    have h2 : held D ((D (k + 1)).1 - 86400) (k + 1 + 1) = held D ((D (k + 1)).1 - 86400) (k + 1) ++ (if (D (k + 1)).1 - 86400 < (D (k + 1)).1 ∧ ¬ ((D (k + 1)).2.1 = 0 ∧ (D (k + 1)).2.2 = 0) then [D (k + 1)] else []) := rfl
    rw [h1, h2, ih (by omega), addL, keep_held h (by omega) (k + 1) (by omega)]
    have : (D (k + 1)).1 - 86400 < (D (k + 1)).1 := by omega
    by_cases hz : (D (k + 1)).2.1 = 0 ∧ (D (k + 1)).2.2 = 0
    · rw [if_pos hz, if_neg (fun x => x.2 hz)]
    · rw [if_neg hz, if_pos ⟨this, hz⟩]

/-- One decision more. -/
theorem held_out {D : Nat → Dec} {c : Int} {j : Nat} (h : ¬ c < (D j).1) : held D c (j + 1) = held D c j := by
  simp only [held]
  rw [if_neg (fun x => h x.1), List.append_nil]

theorem held_zero {D : Nat → Dec} {c : Int} {j : Nat} (h : (D j).2.1 = 0 ∧ (D j).2.2 = 0) : held D c (j + 1) = held D c j := by
  simp only [held]
  rw [if_neg (fun x => x.2 h), List.append_nil]

theorem held_in {D : Nat → Dec} {c : Int} {j : Nat} (h : c < (D j).1) (hz : ¬ ((D j).2.1 = 0 ∧ (D j).2.2 = 0)) : held D c (j + 1) = held D c j ++ [D j] := by
  simp only [held]
  rw [if_pos ⟨h, hz⟩]

theorem held_sum {D : Nat → Dec} {c : Int} {j : Nat} (h : c < (D j).1) : wrap64 (sumO (held D c (j + 1))) = wrap64 (wrap64 (sumO (held D c j)) + (D j).2.1) ∧ wrap64 (sumS (held D c (j + 1))) = wrap64 (wrap64 (sumS (held D c j)) + (D j).2.2) := by
  rw [wrap_add, wrap_add]
  by_cases hz : (D j).2.1 = 0 ∧ (D j).2.2 = 0
  · rw [held_zero hz, hz.1, hz.2, Int.add_zero, Int.add_zero]
    exact ⟨rfl, rfl⟩
  · rw [held_in h hz, sumO_snoc, sumS_snoc]
    exact ⟨rfl, rfl⟩

theorem held_prefix (D : Nat → Dec) (c : Int) {i n : Nat} (h : i ≤ n) : held D c i <+: held D c n := by
  induction n with
  | zero => obtain rfl : i = 0 := by omega
            exact List.prefix_refl _
  | succ n ih =>
    rcases Nat.lt_or_ge i (n + 1) with h' | h'
    · exact (ih (by omega)).trans (List.prefix_append _ _)
    · obtain rfl : i = n + 1 := by omega
      exact List.prefix_refl _

theorem held_at {D : Nat → Dec} {c : Int} {i n : Nat} (hi : i < n) (h : c < (D i).1) (hz : ¬ ((D i).2.1 = 0 ∧ (D i).2.2 = 0)) : (held D c n)[(held D c i).length]? = some (D i) ∧ (held D c i).length < (held D c n).length := by
  obtain ⟨Y, hY⟩ := held_prefix D c (show i + 1 ≤ n from hi)
  rw [held_in h hz] at hY
  rw [← hY]
  constructor
  · simp
  · simp only [List.length_append, List.length_cons, List.length_nil]
    omega
end Go.Proofs.Qxb6604439a
