import Derived.Test.Qxb6603821aReach
namespace Go.Proofs.Qxb6603821a
set_option linter.unusedVariables false

/-- How many of the n places are not reached yet. -/
def cnt (reach : Nat → Bool) (n : Nat) : Nat := bud (fun _ => 1) reach n

theorem cnt_mark {reach : Nat → Bool} {j n : Nat} (h : j < n) (hr : reach j = false) : cnt (mark reach j) n + 1 = cnt reach n := bud_mark (fun _ => 1) reach j n h hr

section
variable (n : Nat) (K : Nat → Nat) (ed : Nat → Nat → Option Nat) (a : Nat)

def Sound (reach : Nat → Bool) : Prop := (∀ x, reach x = true → x < n ∧ Reach (E n K ed) a x) ∧ reach a = true
def Shut (reach : Nat → Bool) (m : Nat) : Prop := ∀ x y, x < m → reach x = true → E n K ed x y → reach y = true

structure L2 (c0 i : Nat) (grew : Bool) (reach : Nat → Bool) : Prop where
  snd : Sound n K ed a reach
  le : cnt reach n ≤ c0
  lt : grew = true → cnt reach n < c0
  cl : grew = false → Shut n K ed reach i

structure L3 (c0 i k : Nat) (grew : Bool) (reach : Nat → Bool) : Prop where
  snd : Sound n K ed a reach
  le : cnt reach n ≤ c0
  lt : grew = true → cnt reach n < c0
  cl : grew = false → Shut n K ed reach i
  cur : grew = false → ∀ k' y, k' < k → ed i k' = some y → reach y = true
  own : reach i = true
end

section
variable {n : Nat} {K : Nat → Nat} {ed : Nat → Nat → Option Nat} {a c0 i k j : Nat} {grew : Bool} {reach : Nat → Bool}

theorem sound_start (ha : a < n) : Sound n K ed a (mark (fun _ => false) a) :=
  ⟨fun x hx => by
    by_cases e : x = a
    · subst e; exact ⟨ha, Reach.refl _ _⟩
    · simp [mark, e] at hx, by simp [mark]⟩

theorem l2_start (h : Sound n K ed a reach) : L2 n K ed a (cnt reach n) 0 false reach :=
  ⟨h, Nat.le_refl _, (fun e => by cases e), fun _ x y hx => by omega⟩

theorem l2_skip (h : L2 n K ed a c0 i grew reach) (hr : reach i = false) : L2 n K ed a c0 (i + 1) grew reach :=
  ⟨h.snd, h.le, h.lt, fun hg x y hx hrx hy => by
    by_cases e : x = i
    · subst e; rw [hr] at hrx; cases hrx
    · exact h.cl hg x y (by omega) hrx hy⟩

theorem l3_start (h : L2 n K ed a c0 i grew reach) (hr : reach i = true) : L3 n K ed a c0 i 0 grew reach :=
  ⟨h.snd, h.le, h.lt, h.cl, fun _ k' y hk => by omega, hr⟩

theorem l3_none (h : L3 n K ed a c0 i k grew reach) (he : ed i k = none) : L3 n K ed a c0 i (k + 1) grew reach :=
  ⟨h.snd, h.le, h.lt, h.cl, fun hg k' y hk hy => by
    by_cases e : k' = k
    · subst e; rw [he] at hy; cases hy
    · exact h.cur hg k' y (by omega) hy, h.own⟩

theorem l3_old (h : L3 n K ed a c0 i k grew reach) (he : ed i k = some j) (hj : reach j = true) : L3 n K ed a c0 i (k + 1) grew reach :=
  ⟨h.snd, h.le, h.lt, h.cl, fun hg k' y hk hy => by
    by_cases e : k' = k
    · subst e; rw [he] at hy; cases hy; exact hj
    · exact h.cur hg k' y (by omega) hy, h.own⟩

theorem l3_new (h : L3 n K ed a c0 i k grew reach) (hk : k < K i) (he : ed i k = some j) (hj : reach j = false) (hjn : j < n) : L3 n K ed a c0 i (k + 1) true (mark reach j) := by
  have hc := cnt_mark hjn hj
  have hle := h.le
  refine ⟨⟨fun x hx => ?_, ?_⟩, by omega, fun _ => by omega, (fun e => by cases e), (fun e => by cases e), mark_of h.own⟩
  · by_cases e : x = j
    · subst e
      have hi := h.snd.1 i h.own
      exact ⟨hjn, hi.2.step ⟨hi.1, k, hk, he⟩⟩
    · simp only [mark, if_neg e] at hx
      exact h.snd.1 x hx
  · exact mark_of h.snd.2

theorem l3_done (h : L3 n K ed a c0 i (K i) grew reach) : L2 n K ed a c0 (i + 1) grew reach :=
  ⟨h.snd, h.le, h.lt, fun hg x y hx hrx hy => by
    by_cases e : x = i
    · subst e
      obtain ⟨_, k, hk, hy⟩ := hy
      exact h.cur hg k y hk hy
    · exact h.cl hg x y (by omega) hrx hy⟩

theorem l2_final (h : Sound n K ed a reach) (hc : Shut n K ed reach n) (t : Nat) (ht : t < n) : reach t = true ↔ Reach (E n K ed) a t :=
  ⟨fun hr => (h.1 t hr).2, fun hr => hr (fun x => reach x = true) h.2 (fun x y hx hy => hc x y hy.1 hx hy)⟩
end
end Go.Proofs.Qxb6603821a
