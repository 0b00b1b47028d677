import Derived.Test.Qxb6604439aW1
import Derived.Deep.RegionHeld3
import Derived.Deep.AppendLies
import Derived.Deep.RegionLaw
namespace Go.Proofs.Qxb6604439a
open Go.RowKit
set_option linter.unusedVariables false
set_option linter.unusedSimpArgs false

theorem Try.info65 : (Try.prog.info? 65).map (fun i => (i.zero, i.size, i.bytes)) = some (some (.agg #[.int .i64 0, .int .i64 0, .int .i64 0]), 3, 24) := by kernel_rfl

/-- One decision with a shortfall: its instant, the two shortfalls. -/
def cell3 (d : Int × Int × Int) : List Value := [.int .i64 d.1, .int .i64 d.2.1, .int .i64 d.2.2]
def flat : List (Int × Int × Int) → List Value
  | [] => []
  | d :: L => cell3 d ++ flat L

theorem flat_length (L : List (Int × Int × Int)) : (flat L).length = L.length * 3 := by
  induction L with
  | nil => rfl
  | cons d L ih => simp only [flat, List.length_append, ih, List.length_cons, cell3, List.length_nil]; omega

theorem flat_append (L M : List (Int × Int × Int)) : flat (L ++ M) = flat L ++ flat M := by
  induction L with
  | nil => rfl
  | cons d L ih => simp [flat, ih]

theorem flat_one (L : List (Int × Int × Int)) : ∀ u ∈ flat L, u.oneCell' = true := by
  induction L with
  | nil => simp [flat]
  | cons d L ih =>
    intro u hu
    simp only [flat, cell3, List.cons_append, List.nil_append, List.mem_cons] at hu
    rcases hu with rfl | rfl | rfl | hu
    · rfl
    · rfl
    · rfl
    · exact ih u hu

/-- Of what was there, only block rb and block g may have turned. -/
structure Kept (w w' : World) (rb : Nat) (g : Option Nat) : Prop where
  os : w'.os = w.os
  tape : w'.tape = w.tape
  output : w'.output = w.output
  size : w.heap.size ≤ w'.heap.size
  block : ∀ k, k < w.heap.size → k ≠ rb → some k ≠ g → w'.heap[k]? = w.heap[k]?

theorem Rec.set1 {w : World} {rb : Nat} {v : Value} {f e : Nat} {o s : Int} (h : Rec w rb v f e o s) (f' : Nat) : Rec (w.setCell ⟨rb, 1, none⟩ (.int .i64 f')) rb v f' e o s := by
  unfold Rec at *
  simp [World.setCell, Array.getElem?_modify, h]

theorem Rec.set2 {w : World} {rb : Nat} {v : Value} {f e : Nat} {o s : Int} (h : Rec w rb v f e o s) (e' : Nat) : Rec (w.setCell ⟨rb, 2, none⟩ (.int .i64 e')) rb v f e' o s := by
  unfold Rec at *
  simp [World.setCell, Array.getElem?_modify, h]

theorem Rec.set0 {w : World} {rb : Nat} {v : Value} {f e : Nat} {o s : Int} (h : Rec w rb v f e o s) (v' : Value) : Rec (w.setCell ⟨rb, 0, none⟩ v') rb v' f e o s := by
  unfold Rec at *
  simp [World.setCell, Array.getElem?_modify, h]

theorem Rec.set3 {w : World} {rb : Nat} {v : Value} {f e : Nat} {o s : Int} (h : Rec w rb v f e o s) (o' : Int) : Rec (w.setCell ⟨rb, 3, none⟩ (.int .i64 o')) rb v f e o' s := by
  unfold Rec at *
  simp [World.setCell, Array.getElem?_modify, h]

theorem Rec.set4 {w : World} {rb : Nat} {v : Value} {f e : Nat} {o s : Int} (h : Rec w rb v f e o s) (s' : Int) : Rec (w.setCell ⟨rb, 4, none⟩ (.int .i64 s')) rb v f e o s' := by
  unfold Rec at *
  simp [World.setCell, Array.getElem?_modify, h]

theorem Rec.of_block {w w' : World} {rb : Nat} {v : Value} {f e : Nat} {o s : Int} (h : Rec w rb v f e o s) (hb : w'.heap[rb]? = w.heap[rb]?) : Rec w' rb v f e o s := hb.trans h

theorem Rec.lt {w : World} {rb : Nat} {v : Value} {f e : Nat} {o s : Int} (h : Rec w rb v f e o s) : rb < w.heap.size := (Array.getElem?_eq_some_iff.1 h).1

/-- The queue in memory: its values L lie in the row xs from place f on; post: what lies behind them. -/
structure Que (w : World) (rb : Nat) (ao : Option Addr) (N f e : Nat) (o s : Int) (L : List (Int × Int × Int)) (pre post : List Value) : Prop where
  box : Rec w rb (.slice ao N N) f e o s
  own : w.ownsRow (rb + 1) 65 3 (.slice ao N N) N (pre ++ (flat L ++ post))
  pl : pre.length = f * 3
  fe : f + L.length = e
  eN : e ≤ N

theorem Que.post_length {w : World} {rb : Nat} {ao : Option Addr} {N f e : Nat} {o s : Int} {L : List (Int × Int × Int)} {pre post : List Value} (h : Que w rb ao N f e o s L pre post) : post.length = (N - e) * 3 := by
  have h1 := h.own.1
  simp only [List.length_append, flat_length, h.pl] at h1
  have := h.fe
  have := h.eN
  omega

/-- What grow leaves: room for one value behind L, at the place that it returns. -/
def GrowSaid (w : World) (rb : Nat) (ao : Option Addr) (e : Nat) (o s : Int) (L : List (Int × Int × Int)) (en : Ending) (w' : World) : Prop :=
  ∃ (g N f : Nat) (pre post : List Value) (c0 c1 c2 : Value), en = .returned (.pointer (some ⟨g, (f + L.length) * 3, none⟩)) ∧ Rec w' rb (.slice (some ⟨g, 0, none⟩) N N) f (f + L.length + 1) o s ∧
    w'.ownsRow (rb + 1) 65 3 (.slice (some ⟨g, 0, none⟩) N N) N (pre ++ (flat L ++ (c0 :: c1 :: c2 :: post))) ∧ pre.length = f * 3 ∧ f + L.length + 1 ≤ N ∧ f + L.length ≤ e ∧
    Kept w w' rb ((Value.slice ao 0 0).ownBlock) ∧ g < w'.heap.size ∧ (ao = some ⟨g, 0, none⟩ ∨ w.heap.size ≤ g)

set_option maxHeartbeats 400000 in
theorem grow_room (rb g N f e : Nat) (w : World) (heN : e < N) (he : e ≤ 1048576)
    (c0 : w.cell? ⟨rb, 0, none⟩ = some (.slice (some ⟨g, 0, none⟩) N N)) (c2 : w.cell? ⟨rb, 2, none⟩ = some (.int .i64 e)) (f2 : w.frozen? ⟨rb, 2, none⟩ = false) :
    Calls Try.prog 34 #[.pointer (some ⟨rb, 0, none⟩)] w fun en w' => en = .returned (.pointer (some ⟨g, e * 3, none⟩)) ∧ w' = w.setCell ⟨rb, 2, none⟩ (.int .i64 ((e + 1 : Nat) : Int)) := by
  have hb : ((e : Int) == (N : Int)) = false := by simp; omega
  have hz : (e : Int) < (N : Int) := by omega
  go_enter Try.func34, Try.ntmps34
  go_wp2
  go_ret
  exact ⟨rfl, by simp⟩

theorem take_rest {α : Type} (A B : List α) : (A ++ B).drop A.length = B := by simp

/-- copy(q.all, q.all[f:]) -/
theorem run_move (w : World) (g N f : Nat) (cur : Array Value) (M : List Value) (hg : w.heap[g]? = some (.cells cur 65 (0, 0))) (hsz : cur.size = N * 3) (hf0 : 0 < f) (hfN : f ≤ N) (hM : cur.toList.drop (f * 3) = M) (h1 : ∀ u ∈ M, u.oneCell' = true) :
    ∃ w2, (Builtin.copy_ #[57, 57] 3 #[.slice (some ⟨g, 0, none⟩) N N, .slice (if N = f then some ⟨g, 0, none⟩ else some ⟨g, f * 3, none⟩) (N - f) (N - f)]).run Try.prog w.drew = .ok (.int .i64 ((N - f : Nat) : Int)) w2 ∧
      w2.heap[g]? = some (.cells (M ++ cur.toList.drop M.length).toArray 65 (0, 0)) ∧ w.grownBy w2 (some g) := by
  obtain ⟨i0, hi0, hz0, hz1, hz2⟩ := info_parts Try.info65
  have hlM : M.length = (N - f) * 3 := by rw [← hM]; simp [hsz]; omega
  have hmin : Nat.min (N - f) N = N - f := Nat.min_eq_left (by omega)
  have hst := run_storeCells_at Try.prog g 0 65 M 0 cur w.drew hg (by omega) h1
  have hfc : (Builtin.firstCells 3 (N - f) (.slice (if N = f then some ⟨g, 0, none⟩ else some ⟨g, f * 3, none⟩) (N - f) (N - f))).run Try.prog w.drew = .ok M.toArray w.drew := by
    by_cases e : N = f
    · have hM0 : M = [] := List.eq_nil_of_length_eq_zero (by omega)
      rw [if_pos e]
      refine run_firstCells_some w.drew 3 (N - f) ⟨g, 0, none⟩ _ _ M hlM fun j v hj => ?_
      rw [hM0] at hj; simp at hj
    · rw [if_neg e]
      refine run_firstCells_some w.drew 3 (N - f) ⟨g, f * 3, none⟩ _ _ M hlM fun j v hj => ?_
      rw [show (⟨g, f * 3, none⟩ : Addr).add j = ⟨g, f * 3 + j, none⟩ from by unfold Addr.add; split <;> simp_all]
      have : cur[f * 3 + j]? = some v := by
        rw [← hM, List.getElem?_drop] at hj
        simpa using hj
      show w.cell? _ = _
      simp [World.cell?, hg, this]
  refine ⟨w.drew.setRow g (M ++ cur.toList.drop M.length).toArray, ?_, ?_, ?_⟩
  · simp only [Nat.zero_add, List.take_zero, List.nil_append] at hst
    simp [Builtin.copy_, run_underlying Try.underlying57, Builtin.lenOf, sizeOf, typeInfo, hi0, hz1, hmin, hfc, hst, Result.andThen, goInt]
  · exact setRow_heap w.drew g cur _ 65 (0, 0) hg
  · exact ⟨rfl, rfl, rfl, by simp [World.setRow], fun k hk hne => setRow_other w.drew g k _ (fun e => hne (by rw [e]))⟩
end Go.Proofs.Qxb6604439a
