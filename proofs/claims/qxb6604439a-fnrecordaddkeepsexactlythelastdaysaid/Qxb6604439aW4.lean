import Derived.Test.Qxb6604439aW3
import Derived.Deep.Heap
namespace Go.Proofs.Qxb6604439a
open Go.RowKit Go.Deep
set_option linter.unusedVariables false
set_option linter.unusedSimpArgs false

theorem Kept.refl (w : World) (rb : Nat) (g : Option Nat) : Kept w w rb g := ⟨rfl, rfl, rfl, Nat.le_refl _, fun _ _ _ _ => rfl⟩

theorem Kept.set {w w' : World} {rb : Nat} {g : Option Nat} (h : Kept w w' rb g) (j : Nat) (u : Value) : Kept w (w'.setCell ⟨rb, j, none⟩ u) rb g :=
  ⟨h.os, h.tape, h.output, by simpa using h.size, fun k hk h1 h2 => (blk_setCell_other w' _ u k h1).trans (h.block k hk h1 h2)⟩

theorem Kept.drew {w w' : World} {rb : Nat} {g : Option Nat} (h : Kept w w' rb g) : Kept w w'.drew rb g := ⟨h.os, h.tape, h.output, h.size, h.block⟩

theorem own_set {w : World} {rb n : Nat} {v : Value} {xs : List Value} (h : w.ownsRow (rb + 1) 65 3 v n xs) (j : Nat) (u : Value) : (w.setCell ⟨rb, j, none⟩ u).ownsRow (rb + 1) 65 3 v n xs := by
  refine ⟨h.1, ?_⟩
  rcases h.2 with hn | ⟨g, cap, cur, rfl, hb, hgg, rest⟩
  · exact .inl hn
  · exact .inr ⟨g, cap, cur, rfl, hb, by rw [blk_setCell_other w _ u g (by show g ≠ rb; omega)]; exact hgg, rest⟩

theorem three_of {post : List Value} {k : Nat} (h : post.length = k * 3) (hk : 0 < k) : ∃ c0 c1 c2 p, post = c0 :: c1 :: c2 :: p := by
  match post, h with
  | [], h => simp at h; omega
  | [_], h => simp at h; omega
  | [_, _], h => simp at h; omega
  | a :: b :: c :: p, _ => exact ⟨a, b, c, p, rfl⟩

theorem own_some {w : World} {rb N : Nat} {ao : Option Addr} {xs : List Value} (h : w.ownsRow (rb + 1) 65 3 (.slice ao N N) N xs) (hN : 0 < N) :
    ∃ g cur, ao = some ⟨g, 0, none⟩ ∧ rb < g ∧ g < w.heap.size ∧ w.heap[g]? = some (.cells cur 65 (0, 0)) ∧ cur.size = N * 3 ∧ cur.toList = xs := by
  rcases h.2 with ⟨h', h0⟩ | ⟨g', cap', cur, h', hb, hg, hc, _, hs, ht⟩
  · omega
  · simp only [Value.slice.injEq, true_and] at h'
    obtain ⟨rfl, rfl⟩ := h'
    refine ⟨g', cur, rfl, hb, (Array.getElem?_eq_some_iff.1 hg).1, hg, hs, ?_⟩
    rw [← ht, List.take_of_length_le (by simp [hs])]

theorem grow_said {w : World} {rb : Nat} {ao : Option Addr} {N f e : Nat} {o s : Int} {L : List (Int × Int × Int)} {pre post : List Value} (hq : Que w rb ao N f e o s L pre post) (he : e ≤ 1048576) :
    Calls Try.prog 34 #[.pointer (some ⟨rb, 0, none⟩)] w (GrowSaid w rb ao e o s L) := by
  obtain ⟨c0, c1, c2, _, _⟩ := hq.box.cells
  have f1 := hq.box.free 1
  have f2 := hq.box.free 2
  have hpl := hq.post_length
  have hp := hq.pl
  have hfe := hq.fe
  have heN := hq.eN
  rcases Nat.lt_or_ge e N with hlt | hge
  · obtain ⟨g, cur, rfl, hrg, hgs, hg, hcs, hxs⟩ := own_some hq.own (by omega)
    refine (grow_room rb g N f e w hlt he c0 c2 f2).mono ?_
    rintro en w' ⟨rfl, rfl⟩
    obtain ⟨x0, x1, x2, p, rfl⟩ := three_of hpl (by omega)
    subst hfe
    exact ⟨g, N, f, pre, p, x0, x1, x2, rfl, hq.box.set2 _, own_set hq.own _ _, hp, hlt, Nat.le_refl _, (Kept.refl w rb _).set _ _, by simpa using hgs, Or.inl rfl⟩
  · obtain rfl : N = e := by omega
    obtain rfl : post = [] := List.eq_nil_of_length_eq_zero (by omega)
    by_cases h43 : 3 * N ≤ 4 * f ∧ 0 < f
    · obtain ⟨g, cur, rfl, hrg, hgs, hg, hcs, hxs⟩ := own_some hq.own (by omega)
      rw [List.append_nil] at hxs
      obtain ⟨w2, hrun, hg2, hgr⟩ := run_move w g N f cur (flat L) hg hcs h43.2 (by omega) (by rw [hxs, ← hp]; exact take_rest _ _) (flat_one L)
      have hR2 : Rec w2 rb (.slice (some ⟨g, 0, none⟩) N N) f N o s := hq.box.of_block (hgr.block rb hq.box.lt (by simp; omega))
      obtain ⟨k0, k1, k2, _, _⟩ := hR2.cells
      refine (grow_move rb g N f w w2 he h43.2 (by omega) h43.1 c0 c1 c2 hrun k0 k1 k2 (hR2.free 1) (hR2.free 2)).mono ?_
      rintro en w' ⟨rfl, rfl⟩
      have hlL : N - f = L.length := by omega
      have hdl : (cur.toList.drop (flat L).length).length = f * 3 := by
        rw [List.length_drop, Array.length_toList, hcs, flat_length]
        omega
      obtain ⟨x0, x1, x2, p, hd⟩ := three_of hdl h43.2
      have hown2 : w2.ownsRow (rb + 1) 65 3 (.slice (some ⟨g, 0, none⟩) N N) N ([] ++ (flat L ++ (x0 :: x1 :: x2 :: p))) := by
        rw [hd] at hg2
        have hl : (flat L ++ x0 :: x1 :: x2 :: p).length = N * 3 := by
          rw [List.length_append, ← hd, hdl, flat_length]
          omega
        refine ⟨hl, .inr ⟨g, N, _, rfl, hrg, hg2, Nat.le_refl _, by unfold maxLen; omega, by simpa using hl, ?_⟩⟩
        rw [List.toList_toArray, List.nil_append, List.take_of_length_le (by omega)]
      refine ⟨g, N, 0, [], p, x0, x1, x2, by rw [hlL, Nat.zero_add], ?_, own_set (own_set hown2 _ _) _ _, rfl, by omega, by omega, (Kept.set (Kept.set ⟨hgr.os, hgr.tape, hgr.output, hgr.size, fun k hk _ h2 => hgr.block k hk h2⟩ _ _) _ _), ?_, Or.inl rfl⟩
      · rw [Nat.zero_add, hlL]
        exact (hR2.set1 0).set2 _
      · simpa using Nat.lt_of_lt_of_le hgs hgr.size
    · refine (grow_new rb N f N ao o s (pre ++ flat L) w he (by omega) h43 hq.box (by simpa using hq.own)).mono ?_
      rintro en w' ⟨g, cap, w1, rfl, ⟨hown1, hgr, hat, hlt⟩, rfl⟩
      have hR1 := hq.box.grown hgr (own_ne (m := 0) hq.own)
      obtain ⟨cur, hrg, hg, hNc, hcm, hcs, htk⟩ : ∃ cur, rb < g ∧ w1.heap[g]? = some (.cells cur 65 (0, 0)) ∧ N + 1 ≤ cap ∧ cap ≤ maxLen ∧ cur.size = cap * 3 ∧ cur.toList.take ((N + 1) * 3) = pre ++ flat L ++ [.int .i64 0, .int .i64 0, .int .i64 0] := by
        rcases hown1.2 with ⟨h', _⟩ | ⟨g', cap', cur, h', hb, hg, hc, hm, hs, ht⟩
        · simp at h'
        · simp only [Value.slice.injEq, Option.some.injEq, Addr.mk.injEq, and_true, true_and] at h'
          obtain ⟨rfl, rfl⟩ := h'
          exact ⟨cur, hb, hg, hc, hm, hs, ht⟩
      have hall : cur.toList = pre ++ (flat L ++ (.int .i64 0 :: .int .i64 0 :: .int .i64 0 :: cur.toList.drop ((N + 1) * 3))) := by
        conv => lhs; rw [← List.take_append_drop ((N + 1) * 3) cur.toList, htk]
        simp
      have hown2 : w1.ownsRow (rb + 1) 65 3 (.slice (some ⟨g, 0, none⟩) cap cap) cap (pre ++ (flat L ++ (.int .i64 0 :: .int .i64 0 :: .int .i64 0 :: cur.toList.drop ((N + 1) * 3)))) := by
        rw [← hall]
        exact ⟨by simpa using hcs, .inr ⟨g, cap, cur, rfl, hrg, hg, Nat.le_refl _, hcm, hcs, List.take_of_length_le (by simp [hcs])⟩⟩
      have hK : Kept w w1 rb (Value.slice ao 0 0).ownBlock := by
        have e0 : (Value.slice ao N N).ownBlock = (Value.slice ao 0 0).ownBlock := by cases ao <;> rfl
        refine ⟨hgr.os, hgr.tape, hgr.output, ?_, fun k hk _ h2 => ?_⟩
        · have := hgr.size
          simp at this
          omega
        · rw [hgr.block k (by simp; omega) (by rw [e0]; exact h2), drew_heap, heap_alloc_old _ _ (by simp; omega), heap_alloc_old _ _ hk]
      refine ⟨g, cap, f, pre, cur.toList.drop ((N + 1) * 3), .int .i64 0, .int .i64 0, .int .i64 0, by rw [hfe], ?_, (own_set (own_set (own_set hown2 _ _) _ _) _ _).drew, hp, by omega, by omega, (((hK.set _ _).set _ _).set _ _).drew, by simpa using hlt, ?_⟩
      · rw [hfe]
        exact ((hR1.set0 _).set0 _).set2 _
      · rcases hat with h | h
        · left
          cases ao with
          | none => simp [Value.ownBlock] at h
          | some a =>
            simp only [Value.ownBlock, Option.some.injEq] at h
            rcases hq.own.2 with ⟨h', _⟩ | ⟨g', cap', cur', h', _⟩
            · simp at h'
            · simp only [Value.slice.injEq, Option.some.injEq] at h'
              obtain ⟨rfl, _⟩ := h'
              simp only at h
              rw [h]
        · right; omega
end Go.Proofs.Qxb6604439a
