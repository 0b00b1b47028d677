import Derived.Test.Qxb6603821aW3
namespace Go.Proofs.Qxb6603821a
set_option linter.unusedVariables false

/-- b is reached from a: b lies in whatever set holds a and is closed under E. -/
def Reach (E : Nat → Nat → Prop) (a b : Nat) : Prop := ∀ P : Nat → Prop, P a → (∀ x y, P x → E x y → P y) → P b

theorem Reach.refl (E : Nat → Nat → Prop) (a : Nat) : Reach E a a := fun _ h _ => h
theorem Reach.trans {E : Nat → Nat → Prop} {a b c : Nat} (h : Reach E a b) (h' : Reach E b c) : Reach E a c := fun P ha hs => h' P (h P ha hs) hs
theorem Reach.step {E : Nat → Nat → Prop} {a b c : Nat} (h : Reach E a b) (h' : E b c) : Reach E a c := fun P ha hs => hs _ _ (h P ha hs) h'

def mark (seen : Nat → Bool) (i : Nat) : Nat → Bool := fun j => if j = i then true else seen j

/-- The keys of the tables that are not seen yet. -/
def bud (K : Nat → Nat) (seen : Nat → Bool) : Nat → Nat
  | 0 => 0
  | m + 1 => bud K seen m + (if seen m = true then 0 else K m)

theorem bud_none (K : Nat → Nat) (n : Nat) : bud K (fun _ => false) n = sumTo K n := by
  induction n with
  | zero => rfl
  | succ n ih => simp [bud, sumTo, ih]

theorem bud_mark_far (K : Nat → Nat) (seen : Nat → Bool) (i n : Nat) (h : n ≤ i) : bud K (mark seen i) n = bud K seen n := by
  induction n with
  | zero => rfl
  | succ n ih =>
    have e : mark seen i n = seen n := by simp only [mark]; rw [if_neg (by omega)]
    simp only [bud, e, ih (by omega)]

theorem bud_mark (K : Nat → Nat) (seen : Nat → Bool) (i n : Nat) (h : i < n) (hs : seen i = false) : bud K (mark seen i) n + K i = bud K seen n := by
  induction n with
  | zero => omega
  | succ n ih =>
    by_cases e : i = n
    · subst e
      have e1 : mark seen i i = true := by simp [mark]
      simp only [bud, e1, hs, bud_mark_far K seen i i (Nat.le_refl _)]
      simp
    · have e1 : mark seen i n = seen n := by simp only [mark]; rw [if_neg (by omega)]
      have := ih (by omega)
      simp only [bud, e1]
      omega

section
variable (n : Nat) (K : Nat → Nat) (ed : Nat → Nat → Option Nat)

def E (x y : Nat) : Prop := x < n ∧ ∃ k, k < K x ∧ ed x k = some y

structure Inv (a : Nat) (to : Int) (seen : Nat → Bool) (l : List Nat) : Prop where
  s1 : ∀ x : Nat, seen x = true → (x : Int) ≠ to
  s2 : ∀ x, x ∈ l → x < n ∧ Reach (E n K ed) a x
  s3 : seen a = true ∨ a ∈ l
  s4 : ∀ x y, seen x = true → E n K ed x y → seen y = true ∨ y ∈ l

structure InvK (a : Nat) (to : Int) (seen : Nat → Bool) (l : List Nat) (i k : Nat) : Prop where
  s1 : ∀ x : Nat, seen x = true → (x : Int) ≠ to
  s2 : ∀ x, x ∈ l → x < n ∧ Reach (E n K ed) a x
  s3 : seen a = true ∨ a ∈ l
  s4 : ∀ x y, seen x = true → x ≠ i → E n K ed x y → seen y = true ∨ y ∈ l
  s5 : ∀ k' y, k' < k → ed i k' = some y → seen y = true ∨ y ∈ l
  s6 : i < n ∧ Reach (E n K ed) a i
end

section
variable {n : Nat} {K : Nat → Nat} {ed : Nat → Nat → Option Nat} {a : Nat} {to : Int} {seen : Nat → Bool} {l : List Nat} {i k : Nat}

theorem inv_start (ha : a < n) : Inv n K ed a to (fun _ => false) [a] :=
  ⟨(fun x h => by cases h), fun x hx => by
    have : x = a := by simpa using hx
    subst this
    exact ⟨ha, Reach.refl _ _⟩, Or.inr (by simp), (fun x y h => by cases h)⟩

theorem inv_skip (h : Inv n K ed a to seen (l ++ [i])) (hs : seen i = true) : Inv n K ed a to seen l := by
  refine ⟨h.s1, fun x hx => h.s2 x (by simp [hx]), ?_, fun x y hx hy => ?_⟩
  · rcases h.s3 with h3 | h3
    · exact Or.inl h3
    · rcases List.mem_append.1 h3 with h4 | h4
      · exact Or.inr h4
      · have : a = i := by simpa using h4
        subst this
        exact Or.inl hs
  · rcases h.s4 x y hx hy with h3 | h3
    · exact Or.inl h3
    · rcases List.mem_append.1 h3 with h4 | h4
      · exact Or.inr h4
      · have : y = i := by simpa using h4
        subst this
        exact Or.inl hs

theorem mark_self : mark seen i i = true := by simp [mark]
theorem mark_of {x : Nat} (h : seen x = true) : mark seen i x = true := by simp only [mark]; split <;> simp [h]

theorem inv_enter (h : Inv n K ed a to seen (l ++ [i])) (ht : (i : Int) ≠ to) : InvK n K ed a to (mark seen i) l i 0 := by
  refine ⟨fun x hx => ?_, fun x hx => h.s2 x (by simp [hx]), ?_, fun x y hx hxi hy => ?_, fun k' y hk => by omega, h.s2 i (by simp)⟩
  · by_cases e : x = i
    · subst e; exact ht
    · simp only [mark, if_neg e] at hx
      exact h.s1 x hx
  · rcases h.s3 with h3 | h3
    · exact Or.inl (mark_of h3)
    · rcases List.mem_append.1 h3 with h4 | h4
      · exact Or.inr h4
      · have : a = i := by simpa using h4
        subst this
        exact Or.inl mark_self
  · simp only [mark, if_neg hxi] at hx
    rcases h.s4 x y hx hy with h3 | h3
    · exact Or.inl (mark_of h3)
    · rcases List.mem_append.1 h3 with h4 | h4
      · exact Or.inr h4
      · have : y = i := by simpa using h4
        subst this
        exact Or.inl mark_self

theorem invk_none (h : InvK n K ed a to seen l i k) (he : ed i k = none) : InvK n K ed a to seen l i (k + 1) :=
  ⟨h.s1, h.s2, h.s3, h.s4, fun k' y hk hy => by
    by_cases e : k' = k
    · subst e; rw [he] at hy; cases hy
    · exact h.s5 k' y (by omega) hy, h.s6⟩

theorem invk_some {j : Nat} (h : InvK n K ed a to seen l i k) (hk : k < K i) (he : ed i k = some j) (hj : j < n) : InvK n K ed a to seen (l ++ [j]) i (k + 1) := by
  have up : ∀ y, (seen y = true ∨ y ∈ l) → seen y = true ∨ y ∈ l ++ [j] := fun y hy => hy.elim Or.inl (fun h => Or.inr (by simp [h]))
  refine ⟨h.s1, fun x hx => ?_, up _ h.s3, fun x y hx hxi hy => up _ (h.s4 x y hx hxi hy), fun k' y hk' hy => ?_, h.s6⟩
  · rcases List.mem_append.1 hx with h4 | h4
    · exact h.s2 x h4
    · have : x = j := by simpa using h4
      subst this
      exact ⟨hj, h.s6.2.step ⟨h.s6.1, k, hk, he⟩⟩
  · by_cases e : k' = k
    · subst e
      rw [he] at hy
      cases hy
      exact Or.inr (by simp)
    · exact up _ (h.s5 k' y (by omega) hy)

theorem invk_done (h : InvK n K ed a to seen l i (K i)) : Inv n K ed a to seen l :=
  ⟨h.s1, h.s2, h.s3, fun x y hx hy => by
    by_cases e : x = i
    · subst e
      obtain ⟨_, k, hk, hy⟩ := hy
      exact h.s5 k y hk hy
    · exact h.s4 x y hx e hy⟩

theorem inv_end (h : Inv n K ed a to seen []) : ¬ ∃ t : Nat, (t : Int) = to ∧ Reach (E n K ed) a t := by
  rintro ⟨t, ht, hr⟩
  have : seen t = true := hr (fun x => seen x = true) (by simpa using h.s3) (fun x y hx hy => by simpa using h.s4 x y hx hy)
  exact h.s1 t this ht
end
end Go.Proofs.Qxb6603821a
