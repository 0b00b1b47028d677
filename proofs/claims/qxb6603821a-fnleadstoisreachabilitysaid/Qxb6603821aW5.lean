import Derived.Test.Qxb6603821aW4
import Derived.Test.Qxb6603821aW1
import Derived.Maps.OwnSet
import Derived.BigQuiet
namespace Go.Proofs.Qxb6603821a
open Go.RowKit Go.WideMaps Go.Maps
set_option linter.unusedVariables false
set_option linter.unusedSimpArgs false

theorem law : Keyed Try.prog 9 := string_keyed Try.underlying9
theorem zero3 (w : World) : (zeroValue 3).run Try.prog w = .ok (.int .i64 0) w := by kernel_rfl

/-- What the map is at one key: nothing, or the number j. -/
def LooksAs (D : DataW Unit) (s : ByteArray) : Option Nat → Prop
  | none => Maps.has D (.string s.data.toList) = false
  | some j => Maps.has D (.string s.data.toList) = true ∧ D.atKey (.string s.data.toList) (.lit (.int .i64 0)) = .lit (.int .i64 j)

/-- Block mb is a map of at most n entries that holds, at each string s, what f says. -/
def MapAt (w : World) (mb n : Nat) (f : ByteArray → Option Nat) : Prop :=
  ∃ D : DataW Unit, w.ownsMap Try.prog 9 (plainElem Try.prog 3) mb n D ∧ ∀ s : ByteArray, s.size ≤ maxLen → LooksAs D s (f s)

theorem MapAt.lt {w : World} {mb n : Nat} {f : ByteArray → Option Nat} (h : MapAt w mb n f) : mb < w.heap.size := by
  obtain ⟨D, h1, _⟩ := h
  exact h1.lt

theorem MapAt.of_block {w w' : World} {mb n : Nat} {f : ByteArray → Option Nat} (h : MapAt w mb n f) (e : w'.heap[mb]? = w.heap[mb]?) : MapAt w' mb n f := by
  obtain ⟨D, ⟨es, clock, hb, r⟩, h2⟩ := h
  exact ⟨D, ⟨es, clock, e.trans hb, r⟩, h2⟩

theorem mapAt_made (w : World) : MapAt (w.alloc (.map #[] 0)) w.heap.size 0 (fun _ => none) :=
  ⟨.map [], World.ownsMap_made w _ _ _, fun s _ => rfl⟩

theorem MapAt.look {w : World} {mb n : Nat} {f : ByteArray → Option Nat} (h : MapAt w mb n f) {s : ByteArray} (hs : s.size ≤ maxLen) :
    (Instr.lookup 28 (.map (some mb)) (.string s) true).run Try.prog w = .ok (.tuple #[.int .i64 (((f s).getD 0 : Nat) : Int), .bool (f s).isSome]) w := by
  obtain ⟨D, h1, h2⟩ := h
  obtain ⟨v, ps, hrun, hv⟩ := h1.look_ok law Try.underlying28 (zero3 w) (zd := .lit (.int .i64 0)) (zp := []) (plainElem_int Try.underlying3 (by decide)) (keyOf_string_mk Try.underlying9 hs)
  obtain ⟨c, rfl, hc, hwc⟩ := plainElem_int_inv Try.underlying3 hv
  simp only [Prod.mk.injEq] at hc
  rw [hrun]
  have := h2 s hs
  cases hf : f s with
  | none =>
    rw [hf] at this
    have h3 : Maps.has D (.string s.data.toList) = false := this
    have h4 := hc.1
    rw [Maps.atKey_of_not_has h3] at h4
    simp only [DataW.lit.injEq, Lit.int.injEq] at h4
    rw [h3, ← h4.2]
    rfl
  | some j =>
    rw [hf] at this
    obtain ⟨h3, h4⟩ := this
    have h5 := hc.1
    rw [h4] at h5
    simp only [DataW.lit.injEq, Lit.int.injEq] at h5
    rw [h3, ← h5.2]
    rfl

theorem MapAt.store {w : World} {mb n : Nat} {f : ByteArray → Option Nat} (h : MapAt w mb n f) (hn : n < maxLen) {s : ByteArray} (hs : s.size ≤ maxLen) (j : Nat) (hj : j ≤ 1048576) :
    ∃ w', (Instr.mapUpdate 28 (.map (some mb)) (.string s) (.int .i64 (j : Int))).run Try.prog w = .ok () w' ∧ MapAt w' mb (n + 1) (fun s' => if s' = s then some j else f s') ∧ w.grownBy w' (some mb) := by
  obtain ⟨D, h1, h2⟩ := h
  obtain ⟨w', hrun, h3, h4⟩ := h1.update law Try.underlying28 hn (key := .string s) (val := .int .i64 (j : Int)) (keyOf_string_mk Try.underlying9 hs) (plainElem_int Try.underlying3 (WalkArith.wf_i64 (by omega)))
  refine ⟨w', hrun, ⟨_, h3, fun s' hs' => ?_⟩, h4⟩
  by_cases e : s' = s
  · subst e
    simp only [if_true]
    exact ⟨Maps.has_put_same h1.isMap (by exact trivial) _, Maps.atKey_put_same h1.isMap (by exact trivial) _ _⟩
  · simp only [if_neg e]
    have hne : (Lit.string s'.data.toList) ≠ .string s.data.toList := fun h => e (by
      simp only [Lit.string.injEq] at h
      exact ByteArray.ext (Array.toList_inj.1 h))
    have := h2 s' hs'
    cases hf : f s' with
    | none => rw [hf] at this; exact (Maps.has_put_other hne _).trans this
    | some q => rw [hf] at this; exact ⟨(Maps.has_put_other hne _).trans this.1, (Maps.atKey_put_other hne _ _).trans this.2⟩

/-- The graph that zzWaiting builds, as it lies in memory. -/
structure GraphAt (w : World) (gb tb mb n : Nat) (dv : Value) (T F : Nat → Nat) (CV : Nat → Value) (f : ByteArray → Option Nat) (K : Nat → Nat) (R : Nat → Nat → ByteArray) (CL : Nat → Nat) (CB : Nat → Nat → Bool) (D : Nat → Bool) : Prop where
  g0 : w.cell? ⟨gb, 0, none⟩ = some (.slice (some ⟨tb, 0, none⟩) n n)
  g1 : w.cell? ⟨gb, 1, none⟩ = some dv
  g2 : w.cell? ⟨gb, 2, none⟩ = some (.map (some mb))
  map : MapAt w mb n f
  created : SliceAt w 0 dv n (fun j => .bool (D j))
  t0 : ∀ i, i < n → w.cell? ⟨tb, i * 2, none⟩ = some (.pointer (some ⟨T i, 0, none⟩))
  t1 : ∀ i, i < n → w.cell? ⟨tb, i * 2 + 1, none⟩ = some (CV i)
  closing : ∀ i, i < n → SliceAt w 0 (CV i) (CL i) (fun k => .bool (CB i k))
  tab : ∀ i, i < n → w.cell? ⟨T i, 2, none⟩ = some (.slice (some ⟨F i, 0, none⟩) (K i) (K i))
  keys : ∀ i, i < n → ∀ k, k < K i → w.cell? ⟨F i, k * 4 + 1, none⟩ = some (.string (R i k))

end Go.Proofs.Qxb6603821a
