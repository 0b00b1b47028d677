import Derived.Test.Qxb6604439aRows
import Derived.WalkKit
import Derived.WalkSpells
import Derived.WalkLawsBesides
import Derived.Deep.QuietTactic
import Derived.BigQuiet
import Derived.Deep.LoopGhost
import Derived.Deep.OwnRows
namespace Go.Proofs.Qxb6604439a
open Go.RowKit
set_option linter.unusedVariables false
set_option linter.unusedSimpArgs false

/-- The record's five cells: the queue's slice, first, end; the two sums. -/
def Rec (w : World) (rb : Nat) (v : Value) (f e : Nat) (o s : Int) : Prop :=
  w.heap[rb]? = some (.cells #[v, .int .i64 f, .int .i64 e, .int .i64 o, .int .i64 s] 61 (0, 0))

theorem Rec.cells {w : World} {rb : Nat} {v : Value} {f e : Nat} {o s : Int} (h : Rec w rb v f e o s) :
    w.cell? ⟨rb, 0, none⟩ = some v ∧ w.cell? ⟨rb, 1, none⟩ = some (.int .i64 f) ∧ w.cell? ⟨rb, 2, none⟩ = some (.int .i64 e) ∧ w.cell? ⟨rb, 3, none⟩ = some (.int .i64 o) ∧ w.cell? ⟨rb, 4, none⟩ = some (.int .i64 s) := by
  unfold Rec at h
  refine ⟨?_, ?_, ?_, ?_, ?_⟩ <;> simp [World.cell?, h]

theorem Rec.free {w : World} {rb : Nat} {v : Value} {f e : Nat} {o s : Int} (h : Rec w rb v f e o s) (i : Nat) : w.frozen? ⟨rb, i, none⟩ = false := by
  unfold Rec at h
  simp [World.frozen?, h]

set_option maxHeartbeats 400000 in
theorem len_any (rb f e : Nat) (w : World) (hfe : f ≤ e) (he : e ≤ 1048576) (c1 : w.cell? ⟨rb, 1, none⟩ = some (.int .i64 f)) (c2 : w.cell? ⟨rb, 2, none⟩ = some (.int .i64 e)) :
    Calls Try.prog 23 #[.pointer (some ⟨rb, 0, none⟩)] w fun en w' => en = .returned (.int .i64 ((e - f : Nat) : Int)) ∧ ∃ m, w' = w.drewN m := by
  go_enter Try.func23, Try.ntmps23
  go_wp2
  go_quiet (fail)
  go_wp2
  go_ret
  exact ⟨by rw [Int.ofNat_sub hfe]; rfl, _, rfl⟩

set_option maxHeartbeats 400000 in
theorem at_any (rb g N f i : Nat) (w : World) (hN : f + i < N) (hN9 : f + i ≤ 1048576) (c0 : w.cell? ⟨rb, 0, none⟩ = some (.slice (some ⟨g, 0, none⟩) N N)) (c1 : w.cell? ⟨rb, 1, none⟩ = some (.int .i64 f)) :
    Calls Try.prog 24 #[.pointer (some ⟨rb, 0, none⟩), .int .i64 i] w fun en w' => en = .returned (.pointer (some ⟨g, (f + i) * 3, none⟩)) ∧ ∃ m, w' = w.drewN m := by
  have hz : (f : Int) + (i : Int) < (N : Int) := by omega
  go_enter Try.func24, Try.ntmps24
  go_wp2
  go_quiet (fail)
  go_wp2
  go_ret
  exact ⟨rfl, _, rfl⟩

set_option maxHeartbeats 400000 in
theorem due_empty (rb f : Nat) (t : Int) (w : World) (he : f ≤ 1048576) (c1 : w.cell? ⟨rb, 1, none⟩ = some (.int .i64 f)) (c2 : w.cell? ⟨rb, 2, none⟩ = some (.int .i64 f)) :
    Calls Try.prog 30 #[.pointer (some ⟨rb, 0, none⟩), .int .i64 t] w fun en w' => en = .returned (.bool false) ∧ ∃ m, w' = w.drewN m := by
  have h1 := len_any rb f f w (Nat.le_refl _) he c1 c2
  rw [Nat.sub_self] at h1
  go_enter Try.func30, Try.ntmps30
  go_wp2_with fail
  refine h1.mono ?_
  rintro e w1 ⟨rfl, m, rfl⟩
  go_wp2
  go_ret
  exact ⟨rfl, _, rfl⟩

set_option maxHeartbeats 400000 in
theorem due_some (rb g N f e : Nat) (t tm : Int) (r : Bool) (w : World) (hfe : f < e) (heN : e ≤ N) (he : e ≤ 1048576) (ht0 : -4611686018427387904 ≤ t) (ht1 : t ≤ 4611686018427387904)
    (c0 : w.cell? ⟨rb, 0, none⟩ = some (.slice (some ⟨g, 0, none⟩) N N)) (c1 : w.cell? ⟨rb, 1, none⟩ = some (.int .i64 f)) (c2 : w.cell? ⟨rb, 2, none⟩ = some (.int .i64 e))
    (ct : w.cell? ⟨g, f * 3, none⟩ = some (.int .i64 tm)) (hr : decide (tm ≤ t - 86400) = r) :
    Calls Try.prog 30 #[.pointer (some ⟨rb, 0, none⟩), .int .i64 t] w fun en w' => en = .returned (.bool r) ∧ ∃ m, w' = w.drewN m := by
  have h1 := len_any rb f e w (by omega) he c1 c2
  have h2 := fun m => at_any rb g N f 0 (w.drewN m) (by omega) (by omega) c0 c1
  have hpos : (0 : Int) < ((e - f : Nat) : Int) := by omega
  have HR : Hid (decide (tm ≤ t - 86400) = r) := hr
  clear hr
  generalize e - f = d at h1 hpos
  go_enter Try.func30, Try.ntmps30
  go_wp2_with fail
  refine h1.mono ?_
  rintro e w1 ⟨rfl, m, rfl⟩
  clear h1
  go_wp2_with fail
  refine (h2 m).mono ?_
  rintro e w2 ⟨rfl, m2, rfl⟩
  clear h2
  rw [Nat.add_zero]
  go_wp2
  go_ret
  exact ⟨by rw [← HR.out]; rfl, m + m2, by simp⟩

set_option maxHeartbeats 400000 in
theorem drop_any (rb f : Nat) (w : World) (hf : f ≤ 1048576) (c1 : w.cell? ⟨rb, 1, none⟩ = some (.int .i64 f)) (f1 : w.frozen? ⟨rb, 1, none⟩ = false) :
    Calls Try.prog 31 #[.pointer (some ⟨rb, 0, none⟩), .int .i64 1] w fun en w' => en = .returned (.tuple #[]) ∧ w' = w.setCell ⟨rb, 1, none⟩ (.int .i64 ((f + 1 : Nat) : Int)) := by
  go_enter Try.func31, Try.ntmps31
  go_wp2
  go_end0
  exact ⟨rfl, by simp⟩
end Go.Proofs.Qxb6604439a
