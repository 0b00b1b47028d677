import Derived.Test.Qxb6604376aSlices
import Derived.ProofKit
import Derived.OpenShut
import Derived.ShutString
import Derived.ChangeOld
import Derived.Below
import Derived.Deep.Slices
import Derived.Deep.Strs
namespace Go.Proofs.Qxb6604376a
open Go.ChangeShapes Go.WideShapes Go.ChangeAt Go.RowKit Go.Deep
set_option linter.unusedVariables false
set_option linter.unusedSimpArgs false

theorem Try.cells9 : Try.prog.cellsOf 9 = 1 := by kernel_rfl

theorem sliceAt_of {W : World} {a : Addr} {len cap : Nat} {V : Nat → Value} (hl : len ≤ cap) (h : ∀ i, i < len → W.cell? (a.add i) = some (V i)) : SliceAt W 0 (.slice (some a) len cap) len V := by
  obtain ⟨b, o, sp⟩ := a
  rcases Nat.eq_zero_or_pos len with h0 | h0
  · subst h0
    exact ⟨_, 0, 0, cap, rfl, hl, fun i hi => absurd hi (Nat.not_lt_zero _)⟩
  · have hs : sp = none := by simpa [Addr.add] using World.cell?_spot (h 0 h0)
    subst hs
    exact ⟨_, b, o, cap, rfl, hl, fun i hi => ⟨rfl, Nat.zero_le _, by rw [← add_plain]; exact h i hi⟩⟩

theorem open_strings_at {H : Type} {enc : TypeId × Value → H} {W : World} {fuel : Nat} {v : Value} {x : DataW H × List MemPlace} (h : DataW.trod enc Try.prog W 0 (fun _ => true) true fuel 22 [v] = some x) :
    ∃ (a : Option Addr) (n c : Nat) (S : Nat → ByteArray), v = .slice a n c ∧ SliceAt W 0 v n (fun i => .string (S i)) := by
  rcases open_strs Try.underlying22 Try.underlying9 Try.cells9 h with ⟨hcs, _⟩ | ⟨a, len, cap, m, Sx, hcs, _, hl, hm, hmm, _, hx⟩
  · obtain rfl : v = .slice none 0 0 := by simpa using hcs
    exact ⟨none, 0, 0, fun _ => ByteArray.empty, rfl, SliceAt.nil _ _ _⟩
  · obtain rfl : v = .slice (some a) len cap := by simpa using hcs
    simp only [if_true] at hmm
    subst hmm
    exact ⟨some a, len, m, Sx, rfl, sliceAt_of hl fun i hi => (hx i (by omega)).1⟩
end Go.Proofs.Qxb6604376a
