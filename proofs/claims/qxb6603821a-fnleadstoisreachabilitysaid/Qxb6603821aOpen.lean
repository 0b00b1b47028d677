import Derived.Test.Qxb6603821aW4
import Derived.ProofKit
import Derived.OpenShut
import Derived.ShutString
import Derived.ChangeOld
import Derived.Below
import Derived.Deep.Slices
import Derived.Deep.Strs
namespace Go.Proofs.Qxb6603821a
open Go.ChangeShapes Go.WideShapes Go.ChangeAt Go.RowKit Go.Deep
set_option linter.unusedVariables false
set_option linter.unusedSimpArgs false

theorem Try.cells22 : Try.prog.cellsOf 22 = 1 := by kernel_rfl
theorem Try.cells25 : Try.prog.cellsOf 25 = 1 := by kernel_rfl
theorem Try.cells9 : Try.prog.cellsOf 9 = 1 := by kernel_rfl
theorem Try.cells4 : Try.prog.cellsOf 4 = 1 := by kernel_rfl

theorem sliceAt_of {W : World} {a : Addr} {len cap : Nat} {V : Nat → Value} (h : ∀ i, i < len → W.cell? (a.add i) = some (V i)) : SliceAt W 0 (.slice (some a) len cap) len V := by
  obtain ⟨b, o, sp⟩ := a
  rcases Nat.eq_zero_or_pos len with h0 | h0
  · subst h0
    exact ⟨_, 0, 0, cap, rfl, fun i hi => absurd hi (Nat.not_lt_zero _)⟩
  · have hs : sp = none := by simpa [Addr.add] using World.cell?_spot (h 0 h0)
    subst hs
    exact ⟨_, b, o, cap, rfl, fun i hi => ⟨rfl, Nat.zero_le _, by rw [← add_plain]; exact h i hi⟩⟩

section
variable {H : Type} {enc : TypeId × Value → H} {W : World} {fuel : Nat} {v : Value} {x : DataW H × List MemPlace}

theorem open_strings_at (h : DataW.trod enc Try.prog W 0 (fun _ => true) true fuel 22 [v] = some x) :
    ∃ (a : Option Addr) (n c : Nat) (S : Nat → ByteArray), v = .slice a n c ∧ (∀ i, i < n → (S i).size ≤ maxLen) ∧ SliceAt W 0 v n (fun i => .string (S i)) := by
  rcases open_strs Try.underlying22 Try.underlying9 Try.cells9 h with ⟨hcs, _⟩ | ⟨a, len, cap, m, Sx, hcs, _, hl, hm, hmm, _, hx⟩
  · obtain rfl : v = .slice none 0 0 := by simpa using hcs
    exact ⟨none, 0, 0, fun _ => ByteArray.empty, rfl, fun i hi => absurd hi (Nat.not_lt_zero _), SliceAt.nil _ _ _⟩
  · obtain rfl : v = .slice (some a) len cap := by simpa using hcs
    simp only [if_true] at hmm
    subst hmm
    exact ⟨some a, len, m, Sx, rfl, fun i hi => (hx i (by omega)).2, sliceAt_of fun i hi => (hx i (by omega)).1⟩

theorem open_bools_at (h : DataW.trod enc Try.prog W 0 (fun _ => true) true fuel 25 [v] = some x) :
    ∃ (a : Option Addr) (n c : Nat) (B : Nat → Bool), v = .slice a n c ∧ SliceAt W 0 v n (fun i => .bool (B i)) := by
  rcases open_slice1 Try.underlying25 Try.cells4 h with ⟨hcs, _⟩ | ⟨a, len, cap, m, n, V, D, Pl, hcs, _, hl, hm, hmm, _, hx⟩
  · obtain rfl : v = .slice none 0 0 := by simpa using hcs
    exact ⟨none, 0, 0, fun _ => false, rfl, SliceAt.nil _ _ _⟩
  · obtain rfl : v = .slice (some a) len cap := by simpa using hcs
    simp only [if_true] at hmm
    subst hmm
    obtain ⟨B, hB⟩ := choose_lt (α := Bool) (p := fun i b => V i = .bool b) (fun i hi => by
      obtain ⟨b, h1, h2⟩ := DataW.trod_bool Try.underlying4 (hx i hi).2
      exact ⟨b, by simpa using h1⟩)
    exact ⟨some a, len, m, B, rfl, sliceAt_of fun i hi => by rw [(hx i (by omega)).1, hB i (by omega)]⟩

theorem open_str_rows_at (h : DataW.trod enc Try.prog W 0 (fun _ => true) true fuel 23 [v] = some x) :
    ∃ (a : Option Addr) (n c : Nat) (K : Nat → Nat) (R : Nat → Nat → ByteArray), v = .slice a n c ∧ (∀ i, i < n → ∀ k, k < K i → (R i k).size ≤ maxLen) ∧ RowsAt W 0 v n K (fun i k => .string (R i k)) := by
  rcases open_slice1 Try.underlying23 Try.cells22 h with ⟨hcs, _⟩ | ⟨a, len, cap, m, n, V, D, Pl, hcs, _, hl, hm, hmm, _, hx⟩
  · obtain rfl : v = .slice none 0 0 := by simpa using hcs
    exact ⟨none, 0, 0, fun _ => 0, fun _ _ => ByteArray.empty, rfl, fun i hi => absurd hi (Nat.not_lt_zero _), fun _ => .slice none 0 0, SliceAt.nil _ _ _, fun i hi => absurd hi (Nat.not_lt_zero _)⟩
  · obtain rfl : v = .slice (some a) len cap := by simpa using hcs
    simp only [if_true] at hmm
    subst hmm
    obtain ⟨y, hy⟩ := choose_lt (α := Nat × (Nat → ByteArray)) (p := fun i y => (∀ k, k < y.1 → (y.2 k).size ≤ maxLen) ∧ SliceAt W 0 (V i) y.1 (fun k => .string (y.2 k))) (fun i hi => by
      obtain ⟨a', n', c', S, hv, hs, hsl⟩ := open_strings_at (hx i hi).2
      exact ⟨(n', S), hs, hsl⟩)
    exact ⟨some a, len, m, fun i => (y i).1, fun i => (y i).2, rfl, fun i hi => (hy i (by omega)).1, V, sliceAt_of fun i hi => (hx i (by omega)).1, fun i hi => (hy i (by omega)).2⟩

theorem open_bool_rows_at (h : DataW.trod enc Try.prog W 0 (fun _ => true) true fuel 24 [v] = some x) :
    ∃ (a : Option Addr) (n c : Nat) (K : Nat → Nat) (R : Nat → Nat → Bool), v = .slice a n c ∧ RowsAt W 0 v n K (fun i k => .bool (R i k)) := by
  rcases open_slice1 Try.underlying24 Try.cells25 h with ⟨hcs, _⟩ | ⟨a, len, cap, m, n, V, D, Pl, hcs, _, hl, hm, hmm, _, hx⟩
  · obtain rfl : v = .slice none 0 0 := by simpa using hcs
    exact ⟨none, 0, 0, fun _ => 0, fun _ _ => false, rfl, fun _ => .slice none 0 0, SliceAt.nil _ _ _, fun i hi => absurd hi (Nat.not_lt_zero _)⟩
  · obtain rfl : v = .slice (some a) len cap := by simpa using hcs
    simp only [if_true] at hmm
    subst hmm
    obtain ⟨y, hy⟩ := choose_lt (α := Nat × (Nat → Bool)) (p := fun i y => SliceAt W 0 (V i) y.1 (fun k => .bool (y.2 k))) (fun i hi => by
      obtain ⟨a', n', c', S, hv, hsl⟩ := open_bools_at (hx i hi).2
      exact ⟨(n', S), hsl⟩)
    exact ⟨some a, len, m, fun i => (y i).1, fun i => (y i).2, rfl, V, sliceAt_of fun i hi => (hx i (by omega)).1, fun i hi => hy i (by omega)⟩
end
end Go.Proofs.Qxb6603821a
