import Derived.Test.Qxb6604439aW2
namespace Go.Proofs.Qxb6604439a
open Go.RowKit
set_option linter.unusedVariables false
set_option linter.unusedSimpArgs false

set_option maxHeartbeats 800000 in
theorem grow_move (rb g N f : Nat) (w w2 : World) (hN : N ≤ 1048576) (hf0 : 0 < f) (hfN : f ≤ N) (h43 : 3 * N ≤ 4 * f)
    (c0 : w.cell? ⟨rb, 0, none⟩ = some (.slice (some ⟨g, 0, none⟩) N N)) (c1 : w.cell? ⟨rb, 1, none⟩ = some (.int .i64 f)) (c2 : w.cell? ⟨rb, 2, none⟩ = some (.int .i64 N))
    (hrun : (Builtin.copy_ #[57, 57] 3 #[.slice (some ⟨g, 0, none⟩) N N, .slice (if N = f then some ⟨g, 0, none⟩ else some ⟨g, f * 3, none⟩) (N - f) (N - f)]).run Try.prog w.drew = .ok (.int .i64 ((N - f : Nat) : Int)) w2)
    (k0 : w2.cell? ⟨rb, 0, none⟩ = some (.slice (some ⟨g, 0, none⟩) N N)) (k1 : w2.cell? ⟨rb, 1, none⟩ = some (.int .i64 f)) (k2 : w2.cell? ⟨rb, 2, none⟩ = some (.int .i64 N)) (kf1 : w2.frozen? ⟨rb, 1, none⟩ = false) (kf2 : w2.frozen? ⟨rb, 2, none⟩ = false) :
    Calls Try.prog 34 #[.pointer (some ⟨rb, 0, none⟩)] w fun en w' => en = .returned (.pointer (some ⟨g, (N - f) * 3, none⟩)) ∧ w' = (w2.setCell ⟨rb, 1, none⟩ (.int .i64 0)).setCell ⟨rb, 2, none⟩ (.int .i64 ((N - f + 1 : Nat) : Int)) := by
  have hb : ((N : Int) == (N : Int)) = true := by simp
  have hz : (3 : Int) * (N : Int) ≤ 4 * (f : Int) := by omega
  have hz0 : (0 : Int) < (f : Int) := by omega
  have hzN : (f : Int) ≤ (N : Int) := by omega
  go_enter Try.func34, Try.ntmps34
  go_wp2
  go_region
  clear hrun
  generalize (if N = f then some (⟨g, 0, none⟩ : Addr) else some ⟨g, f * 3, none⟩) = aa
  generalize hd : N - f = d
  have hdN : (d : Int) < (N : Int) := by omega
  have hd9 : d ≤ 1048576 := by omega
  have HD : Hid (N - f = d) := hd
  clear hd
  go_wp2
  go_ret
  rw [HD.out]
  exact ⟨rfl, by simp⟩

theorem drew_heap (w : World) : w.drew.heap = w.heap := rfl

theorem Rec.grown {w w1 : World} {rb : Nat} {v : Value} {f e : Nat} {o s : Int} {z1 z2 : Obj} {row : Option Nat} (h : Rec w rb v f e o s) (hg : ((w.alloc z1).alloc z2).drew.grownBy w1 row) (hne : some rb ≠ row) : Rec w1 rb v f e o s := by
  have hl := h.lt
  have h1 : ((w.alloc z1).alloc z2).drew.heap[rb]? = w.heap[rb]? := by
    rw [drew_heap, heap_alloc_old _ _ (by simp; omega), heap_alloc_old _ _ hl]
  exact h.of_block ((hg.block rb (by simp; omega) hne).trans h1)

theorem own_ne {w : World} {rb n m : Nat} {v : Value} {xs : List Value} (h : w.ownsRow (rb + 1) 65 3 v n xs) : some rb ≠ v.ownBlock := fun e => by
  have := (h.lt rb e.symm).1
  omega

theorem news_zero (w : World) : ∀ j u, [Value.int .i64 0, .int .i64 0, .int .i64 0][j]? = some u → ((w.alloc (.cells #[.int .i64 0, .int .i64 0, .int .i64 0] 65)).alloc (.cells #[.int .i64 0, .int .i64 0, .int .i64 0] 65)).drew.cell? ((⟨w.heap.size + 1, 0, none⟩ : Addr).add j) = some u :=
  World.news_of_block (cs := #[.int .i64 0, .int .i64 0, .int .i64 0]) (t := 65) (fr := (0, 0)) (by rw [drew_heap]; have h := heap_alloc_new (w.alloc (.cells #[.int .i64 0, .int .i64 0, .int .i64 0] 65)) (.cells #[.int .i64 0, .int .i64 0, .int .i64 0] 65); simpa using h)

def NewHere (w : World) (rb N : Nat) (ao : Option Addr) (xs : List Value) (g cap : Nat) (w1 : World) : Prop :=
  w1.ownsRow (rb + 1) 65 3 (.slice (some ⟨g, 0, none⟩) (N + 1) cap) (N + 1) (xs ++ [.int .i64 0, .int .i64 0, .int .i64 0]) ∧
    ((w.alloc (.cells #[.int .i64 0, .int .i64 0, .int .i64 0] 65)).alloc (.cells #[.int .i64 0, .int .i64 0, .int .i64 0] 65)).drew.grownBy w1 (Value.slice ao N N).ownBlock ∧
    ((Value.slice ao N N).ownBlock = some g ∨ g = w.heap.size + 2) ∧ g < w1.heap.size

/-- What the append path leaves. -/
def NewSaid (w : World) (rb N : Nat) (ao : Option Addr) (xs : List Value) (en : Ending) (w' : World) : Prop :=
  ∃ (g cap : Nat) (w1 : World), en = .returned (.pointer (some ⟨g, N * 3, none⟩)) ∧ NewHere w rb N ao xs g cap w1 ∧
    w' = (((w1.setCell ⟨rb, 0, none⟩ (.slice (some ⟨g, 0, none⟩) (N + 1) cap)).setCell ⟨rb, 0, none⟩ (.slice (some ⟨g, 0, none⟩) cap cap)).setCell ⟨rb, 2, none⟩ (.int .i64 ((N + 1 : Nat) : Int))).drew

set_option maxRecDepth 10000 in
set_option maxHeartbeats 1600000 in
theorem grow_new (rb N f e : Nat) (ao : Option Addr) (o s : Int) (xs : List Value) (w : World) (hN : N ≤ 1048576) (hfN : f ≤ N) (h43 : ¬ (3 * N ≤ 4 * f ∧ 0 < f))
    (hR : Rec w rb (.slice ao N N) f N o s) (hown : w.ownsRow (rb + 1) 65 3 (.slice ao N N) N xs) :
    Calls Try.prog 34 #[.pointer (some ⟨rb, 0, none⟩)] w (NewSaid w rb N ao xs) := by
  obtain ⟨c0, c1, c2, _, _⟩ := hR.cells
  have f0 := hR.free 0
  have f2 := hR.free 2
  have hrb := hR.lt
  have hb : ((N : Int) == (N : Int)) = true := by simp
  obtain ⟨i0, hi0, hz0, hz1, hz2⟩ := info_parts Try.info65
  have HO : Hid (w.ownsRow (rb + 1) 65 3 (.slice ao N N) N xs) := hown
  have HR : Hid (Rec w rb (.slice ao N N) f N o s) := hR
  clear hown hR
  have hcapof : ∀ {w1 : World} {g cap : Nat} {ys : List Value}, w1.ownsRow (rb + 1) 65 3 (.slice (some ⟨g, 0, none⟩) (N + 1) cap) (N + 1) ys → (N : Int) < (cap : Int) := fun h => by
    rcases h.2 with ⟨h', _⟩ | ⟨g', cap', cur, h', _, _, hc, _⟩
    · simp at h'
    · simp only [Value.slice.injEq, Option.some.injEq, Addr.mk.injEq, and_true, true_and] at h'
      omega
  by_cases hz3 : 3 * N ≤ 4 * f
  · have hz : (3 : Int) * (N : Int) ≤ 4 * (f : Int) := by omega
    have hzf : ¬ (0 : Int) < (f : Int) := by omega
    have HC := @hcapof
    clear hcapof
    go_enter Try.func34, Try.ntmps34
    go_wp2
    go_region_law ((refine step_append_lies _ (by rfl) _ _ _ (by rfl) (rb + 1) 65 i0 _ 3 24 Try.underlying57 hi0 hz0 hz1 hz2 rfl (by omega) (.slice ao N N) N xs (by rfl) (((HO.out.alloc _).alloc _).drew) ⟨w.heap.size + 1, 0, none⟩ 1 1 [.int .i64 0, .int .i64 0, .int .i64 0] (by rfl) (by rfl) (news_zero w) (by simp [Value.oneCell']) (by omega) (by unfold maxLen; omega) (by omega) (by simp; omega) (w.heap.size + 2) (by simp) ?_; intro g cap w1 hown1 hgrow hat hlt; have hR1 := HR.out.grown hgrow (own_ne (m := 0) HO.out); obtain ⟨d0, d1, d2, _, _⟩ := hR1.cells; have g0 := hR1.free 0; have g2 := hR1.free 2; have hcc := HC hown1; have HD : Hid (NewHere w rb N ao xs g cap w1) := ⟨hown1, hgrow, hat, hlt⟩; clear hown1 hgrow hat hlt hR1))
    all_goals
      have hcz : (0 : Int) ≤ (cap : Int) := by omega
      have hNz : (0 : Int) ≤ (N : Int) := by omega
      go_wp2
      go_region
      all_goals
        go_wp2
        go_ret
        exact ⟨g, cap, w1, rfl, HD.out, by simp⟩
  · have hz : ¬ (3 : Int) * (N : Int) ≤ 4 * (f : Int) := by omega
    have HC := @hcapof
    clear hcapof
    go_enter Try.func34, Try.ntmps34
    go_wp2
    go_region_law ((refine step_append_lies _ (by rfl) _ _ _ (by rfl) (rb + 1) 65 i0 _ 3 24 Try.underlying57 hi0 hz0 hz1 hz2 rfl (by omega) (.slice ao N N) N xs (by rfl) (((HO.out.alloc _).alloc _).drew) ⟨w.heap.size + 1, 0, none⟩ 1 1 [.int .i64 0, .int .i64 0, .int .i64 0] (by rfl) (by rfl) (news_zero w) (by simp [Value.oneCell']) (by omega) (by unfold maxLen; omega) (by omega) (by simp; omega) (w.heap.size + 2) (by simp) ?_; intro g cap w1 hown1 hgrow hat hlt; have hR1 := HR.out.grown hgrow (own_ne (m := 0) HO.out); obtain ⟨d0, d1, d2, _, _⟩ := hR1.cells; have g0 := hR1.free 0; have g2 := hR1.free 2; have hcc := HC hown1; have HD : Hid (NewHere w rb N ao xs g cap w1) := ⟨hown1, hgrow, hat, hlt⟩; clear hown1 hgrow hat hlt hR1))
    all_goals
      have hcz : (0 : Int) ≤ (cap : Int) := by omega
      have hNz : (0 : Int) ≤ (N : Int) := by omega
      go_wp2
      go_region
      all_goals
        go_wp2
        go_ret
        exact ⟨g, cap, w1, rfl, HD.out, by simp⟩
end Go.Proofs.Qxb6604439a
