import Derived.Test.Qxb6603821aRows
import Derived.WalkKit
import Derived.WalkSpells
import Derived.WalkLawsBesides
import Derived.Deep.QuietTactic
import Derived.BigQuiet
import Derived.Deep.LoopGhost
import Derived.Deep.OwnRows
namespace Go.Proofs.Qxb6603821a
open Go.RowKit
set_option linter.unusedVariables false
set_option linter.unusedSimpArgs false

set_option maxHeartbeats 400000 in
theorem closes_any (tp ca : Option Addr) (L C cb co k : Nat) (B : Nat → Bool) (r : Bool) (w : World)
    (hca : ∀ c, c < L → ca = some ⟨cb, co, none⟩ ∧ w.cell? ⟨cb, co + c, none⟩ = some (.bool (B c))) (hr : (decide (k < L) && B k) = r) :
    Calls Try.prog 34 #[.agg #[.pointer tp, .slice ca L C], .int .i64 k] w fun e w' => e = .returned (.bool r) ∧ Below w.heap.size w w' := by
  have HR : Hid ((decide (k < L) && B k) = r) := hr
  clear hr
  by_cases h : k < L
  · obtain ⟨rfl, hc⟩ := hca k h
    have hlt : cb < w.heap.size := World.block_lt_of_cell? _ _ hc
    have hz : (k : Int) < (L : Int) := by omega
    have hc' : ∀ o, (w.alloc o).cell? ⟨cb, co + k, none⟩ = some (.bool (B k)) := fun o => by rw [World.cell?_alloc_old _ _ _ (by show cb ≠ w.heap.size; omega)]; exact hc
    clear hca
    go_enter Try.func34, Try.ntmps34
    go_wp2
    go_ret
    exact ⟨by rw [← HR.out]; simp [h], (Below.refl _ _).alloc (Nat.le_refl _) _⟩
  · have hz : ¬ ((k : Int) < (L : Int)) := by omega
    clear hca
    go_enter Try.func34, Try.ntmps34
    go_wp2
    go_ret
    exact ⟨by rw [← HR.out]; simp [h], (Below.refl _ _).alloc (Nat.le_refl _) _⟩
end Go.Proofs.Qxb6603821a
