import Derived.Test.Qxb6604376aShelf
import Derived.WalkKit
import Derived.WalkSpells
import Derived.WalkLawsBesides
import Derived.Deep.LoopGhost
import Derived.Deep.QuietTactic
import Derived.BigQuiet
import Derived.Deep.OwnRows
import Derived.Deep.Slices
namespace Go.Proofs.Qxb6604376a
open Go.RowKit
set_option linter.unusedVariables false
set_option linter.unusedSimpArgs false

theorem Try.info9 : (Try.prog.info? 9).map (fun i => (i.zero, i.size, i.bytes)) = some (some (.string ByteArray.empty), 1, 16) := by kernel_rfl

/-- The value v is a slice of n elements; element i is the cell value V i; all of them lie from block lo on. -/
def SliceAt (w : World) (lo : Nat) (v : Value) (n : Nat) (V : Nat → Value) : Prop :=
  ∃ (a : Option Addr) (b o c : Nat), v = .slice a n c ∧ n ≤ c ∧ ∀ i, i < n → a = some ⟨b, o, none⟩ ∧ lo ≤ b ∧ w.cell? ⟨b, o + i, none⟩ = some (V i)

theorem SliceAt.keep {w w' : World} {lo n : Nat} {v : Value} {V : Nat → Value} (h : SliceAt w lo v n V) (hb : Below w.heap.size w w') : SliceAt w' lo v n V := by
  obtain ⟨a, b, o, c, hv, hcap, hc⟩ := h
  exact ⟨a, b, o, c, hv, hcap, fun i hi => ⟨(hc i hi).1, (hc i hi).2.1, cell_later hb (hc i hi).2.2⟩⟩

theorem SliceAt.low {w : World} {lo lo' n : Nat} {v : Value} {V : Nat → Value} (h : SliceAt w lo v n V) (hl : lo' ≤ lo) : SliceAt w lo' v n V := by
  obtain ⟨a, b, o, c, hv, hcap, hc⟩ := h
  exact ⟨a, b, o, c, hv, hcap, fun i hi => ⟨(hc i hi).1, Nat.le_trans hl (hc i hi).2.1, (hc i hi).2.2⟩⟩

theorem SliceAt.setCell {w : World} {lo n : Nat} {v : Value} {V : Nat → Value} (h : SliceAt w lo v n V) {p : Addr} (hp : p.block < lo) (u : Value) : SliceAt (w.setCell p u) lo v n V := by
  obtain ⟨a, b, o, c, hv, hcap, hc⟩ := h
  refine ⟨a, b, o, c, hv, hcap, fun i hi => ⟨(hc i hi).1, (hc i hi).2.1, ?_⟩⟩
  rw [World.cell?_setCell_other _ _ _ _ (fun e => by have := congrArg Addr.block e; have := (hc i hi).2.1; simp at *; omega)]
  exact (hc i hi).2.2

theorem SliceAt.congr {w : World} {lo n : Nat} {v : Value} {V V' : Nat → Value} (h : SliceAt w lo v n V) (hV : ∀ i, i < n → V i = V' i) : SliceAt w lo v n V' := by
  obtain ⟨a, b, o, c, hv, hcap, hc⟩ := h
  exact ⟨a, b, o, c, hv, hcap, fun i hi => ⟨(hc i hi).1, (hc i hi).2.1, by rw [← hV i hi]; exact (hc i hi).2.2⟩⟩

theorem SliceAt.nil (w : World) (lo : Nat) (V : Nat → Value) : SliceAt w lo (.slice none 0 0) 0 V := ⟨none, 0, 0, 0, rfl, Nat.le_refl _, fun i hi => absurd hi (Nat.not_lt_zero _)⟩

theorem SliceAt.ofRow {w : World} {lo b t n : Nat} {V : Nat → Value} (h : w.rowIs b t n V) (hl : lo ≤ b) : SliceAt w lo (.slice (some ⟨b, 0, none⟩) n n) n V :=
  ⟨some ⟨b, 0, none⟩, b, 0, n, rfl, Nat.le_refl _, fun i hi => ⟨rfl, hl, by rw [Nat.zero_add]; exact h.cell hi⟩⟩

/-- What a copy of a slice is: the same elements, in new memory. -/
def CopySaid (w : World) (n : Nat) (V : Nat → Value) (e : Ending) (w' : World) : Prop :=
  ∃ v, e = .returned v ∧ SliceAt w' w.heap.size v n V ∧ Below w.heap.size w w'

theorem cp_step {wr : World} {g t n k : Nat} {z : Value} {V : Nat → Value} (h : wr.rowIs g t n (fun j => if j < k then V j else z)) :
    (wr.setCell ⟨g, k, none⟩ (V k)).rowIs g t n (fun j => if j < k + 1 then V j else z) := by
  refine (h.set k (V k)).congr fun j hj => ?_
  by_cases e : j = k
  · subst e; simp
  · simp only [if_neg e]
    by_cases hlt : j < k
    · rw [if_pos hlt, if_pos (by omega)]
    · rw [if_neg hlt, if_neg (by omega)]

set_option maxHeartbeats 800000 in
theorem copy_any (s : Option Addr) (n b o c : Nat) (S : Nat → ByteArray) (w : World) (hn : n ≤ 1048576)
    (hc : ∀ i, i < n → s = some ⟨b, o, none⟩ ∧ w.cell? ⟨b, o + i, none⟩ = some (.string (S i))) (hs : s = none → n = 0) :
    Calls Try.prog 11 #[.slice s n c] w (CopySaid w n (fun i => .string (S i))) := by
  have heq : ∀ (w : World), (binOp .eql 22 (.slice s n c) (.slice none 0 0)).run Try.prog w = .ok (.bool s.isNone) w := fun w => Lib.run_eql_slice_nil w 22 9 s n c 0 0 Try.underlying22
  cases s with
  | none =>
    obtain rfl := hs rfl
    go_enter Try.func11, Try.ntmps11
    go_wp2
    go_ret
    exact ⟨_, rfl, SliceAt.nil _ _ _, Below.refl _ _⟩
  | some a =>
    have hmk := run_make_row' (P := Try.prog) 22 9 (.string ByteArray.empty) 16 Try.underlying22 Try.info9 rfl .i64 .i64 n (by omega) (by omega)
    go_enter Try.func11, Try.ntmps11
    go_wp2
    clear hmk heq
    go_loopg [4] n (fun g i wr => ∃ k : Nat, k ≤ n ∧ g = n - k ∧ i = .int .i64 k ∧ Below w.heap.size w wr ∧ wr.rowIs w.heap.size 9 n (fun j => if j < k then .string (S j) else .string ByteArray.empty))
    case atStart => exact ⟨0, Nat.zero_le _, rfl, rfl, (Below.refl _ _).alloc (Nat.le_refl _) _, (World.rowIs_made w _ n 9).congr (fun j _ => by simp)⟩
    case round =>
      obtain ⟨k, hk, rfl, rfl, hB, hR⟩ := hrel
      by_cases hlt : k < n
      · obtain ⟨ha, hcell⟩ := hc k hlt
        obtain rfl : a = ⟨b, o, none⟩ := by simpa using ha
        have hz : (k : Int) < (n : Int) := by omega
        have h1 := cell_later hB hcell
        have h2 := hR.cell hlt
        simp only [Nat.lt_irrefl, if_false] at h2
        have h3 := hR.frozen k
        clear ha hc
        go_wp2
        go_roundg (n - (k + 1))
        case measure => omega
        case rel => exact ⟨k + 1, by omega, rfl, by go_num, hB.setCell (Nat.le_refl _) _, cp_step (V := fun j => .string (S j)) hR⟩
      · have hz : ¬ ((k : Int) < (n : Int)) := by omega
        obtain rfl : k = n := by omega
        clear hc
        go_wp2
        go_ret
        exact ⟨_, rfl, SliceAt.ofRow (hR.congr fun j hj => by simp [hj]) (Nat.le_refl _), hB⟩

theorem copy_sl {w : World} {lo n : Nat} {v : Value} {S : Nat → ByteArray} (hn : n ≤ 1048576) (h : SliceAt w lo v n (fun i => .string (S i))) :
    Calls Try.prog 11 #[v] w (CopySaid w n (fun i => .string (S i))) := by
  obtain ⟨a, b, o, c, rfl, hcap, hc⟩ := h
  refine copy_any a n b o c S w hn (fun i hi => ⟨(hc i hi).1, (hc i hi).2.2⟩) (fun h => ?_)
  rcases Nat.eq_zero_or_pos n with h0 | h0
  · exact h0
  · have := (hc 0 h0).1; rw [h] at this; cases this
end Go.Proofs.Qxb6604376a
