import Derived.Test.Qxb6604439aW7
import Derived.ProofKit
import Derived.OpenShut
import Derived.ChangeOld
import Derived.Below
import Derived.Deep.Slices
import Derived.Deep.Strs
namespace Go.Proofs.Qxb6604439a
open Go.ChangeShapes Go.WideShapes Go.ChangeAt Go.RowKit Go.Deep
set_option linter.unusedVariables false
set_option linter.unusedSimpArgs false

theorem Try.cells28 : Try.prog.cellsOf 28 = 3 := by kernel_rfl
theorem Try.cells2 : Try.prog.cellsOf 2 = 1 := by kernel_rfl

theorem arg_of {W : World} {a : Addr} {len : Nat} {D : Nat → Int × Int × Int} (h : ∀ i, i < len → W.cell? (a.add (i * 3)) = some (.int .i64 (D i).1) ∧ W.cell? (a.add (i * 3 + 1)) = some (.int .i64 (D i).2.1) ∧ W.cell? (a.add (i * 3 + 2)) = some (.int .i64 (D i).2.2)) :
    ∃ b o, Arg W (some a) len b o D := by
  obtain ⟨b, o, sp⟩ := a
  rcases Nat.eq_zero_or_pos len with h0 | h0
  · subst h0
    exact ⟨b, o, fun i hi => absurd hi (Nat.not_lt_zero _), fun i hi => absurd hi (Nat.not_lt_zero _), fun i hi => absurd hi (Nat.not_lt_zero _), fun i hi => absurd hi (Nat.not_lt_zero _)⟩
  · have hs : sp = none := by simpa [Addr.add] using World.cell?_spot (h 0 h0).1
    subst hs
    simp only [add_plain] at h
    exact ⟨b, o, fun _ _ => rfl, fun i hi => (h i hi).1, fun i hi => (h i hi).2.1, fun i hi => (h i hi).2.2⟩

theorem open_arg {H : Type} {enc : TypeId × Value → H} {W : World} {fuel : Nat} {v : Value} {x : DataW H × List MemPlace} (h : DataW.trod enc Try.prog W 0 (fun _ => true) true fuel 22 [v] = some x) :
    ∃ (a : Option Addr) (n c b o : Nat) (D : Nat → Int × Int × Int), v = .slice a n c ∧ n ≤ maxLen ∧ Arg W a n b o D := by
  rcases open_slice Try.underlying22 h with ⟨hcs, _⟩ | ⟨a, len, cap, m, n, Dx, Pl, hcs, _, hl, hm, hmm, _, hx⟩
  · obtain rfl : v = .slice none 0 0 := by simpa using hcs
    exact ⟨none, 0, 0, 0, 0, fun _ => (0, 0, 0), rfl, Nat.zero_le _, fun i hi => absurd hi (Nat.not_lt_zero _), fun i hi => absurd hi (Nat.not_lt_zero _), fun i hi => absurd hi (Nat.not_lt_zero _), fun i hi => absurd hi (Nat.not_lt_zero _)⟩
  · obtain rfl : v = .slice (some a) len cap := by simpa using hcs
    simp only [if_true] at hmm
    subst hmm
    rw [Try.cells28] at hx
    obtain ⟨D, hD⟩ := choose_lt (α := Int × Int × Int) (n := len) (p := fun i d => W.cell? (a.add (i * 3)) = some (.int .i64 d.1) ∧ W.cell? (a.add (i * 3 + 1)) = some (.int .i64 d.2.1) ∧ W.cell? (a.add (i * 3 + 2)) = some (.int .i64 d.2.2)) (fun i hi => by
      obtain ⟨cs', h1, h2⟩ := hx i (by omega)
      obtain ⟨_, hlen, hc⟩ := World.cells?_some h1
      obtain ⟨y0, y1, y2, k, _, _, g0, g1, g2⟩ := trod_struct3 Try.underlying28 h2
      simp only [Try.cells2] at g0 g1 g2
      match cs', hlen with
      | [u0, u1, u2], _ =>
        obtain ⟨n0, e0, _⟩ := DataW.trod_int Try.underlying2 g0
        obtain ⟨n1, e1, _⟩ := DataW.trod_int Try.underlying2 g1
        obtain ⟨n2, e2, _⟩ := DataW.trod_int Try.underlying2 g2
        simp at e0 e1 e2
        subst e0 e1 e2
        refine ⟨(n0, n1, n2), ?_, ?_, ?_⟩
        · simpa [add_add] using hc 0 (by omega)
        · simpa [add_add] using hc 1 (by omega)
        · simpa [add_add] using hc 2 (by omega))
    obtain ⟨b, o, hA⟩ := arg_of hD
    exact ⟨some a, len, _, b, o, D, rfl, by omega, hA⟩
end Go.Proofs.Qxb6604439a
