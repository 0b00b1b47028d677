import Derived.Test.Qxb6604439aW5
namespace Go.Proofs.Qxb6604439a
open Go.RowKit Go.Deep
set_option linter.unusedVariables false
set_option linter.unusedSimpArgs false

def sumO : List (Int × Int × Int) → Int
  | [] => 0
  | d :: L => d.2.1 + sumO L
def sumS : List (Int × Int × Int) → Int
  | [] => 0
  | d :: L => d.2.2 + sumS L
/-- What is left when the decisions at or before c have gone from the front. -/
def keep (c : Int) : List (Int × Int × Int) → List (Int × Int × Int)
  | [] => []
  | d :: L => if d.1 ≤ c then keep c L else d :: L
def dueL (t : Int) : List (Int × Int × Int) → Bool
  | [] => false
  | d :: _ => decide (d.1 ≤ t - 86400)
def addL (t a b : Int) (L : List (Int × Int × Int)) : List (Int × Int × Int) :=
  keep (t - 86400) L ++ (if a = 0 ∧ b = 0 then [] else [(t, a, b)])

theorem keep_due {t : Int} {L : List (Int × Int × Int)} (h : dueL t L = false) : keep (t - 86400) L = L := by
  cases L with
  | nil => rfl
  | cons d L => simp only [dueL, decide_eq_false_iff_not] at h; simp [keep, h]

theorem Que.drewN {w : World} {rb : Nat} {ao : Option Addr} {N f e : Nat} {o s : Int} {L : List (Int × Int × Int)} {pre post : List Value} (h : Que w rb ao N f e o s L pre post) (m : Nat) : Que (w.drewN m) rb ao N f e o s L pre post := ⟨h.box, h.own, h.pl, h.fe, h.eN⟩

/-- The first value in the queue. -/
theorem Que.front {w : World} {rb : Nat} {ao : Option Addr} {N f e : Nat} {o s : Int} {d : Int × Int × Int} {L : List (Int × Int × Int)} {pre post : List Value} (h : Que w rb ao N f e o s (d :: L) pre post) :
    ∃ g, ao = some ⟨g, 0, none⟩ ∧ rb < g ∧ w.cell? ⟨g, f * 3, none⟩ = some (.int .i64 d.1) ∧ w.cell? ⟨g, f * 3 + 1, none⟩ = some (.int .i64 d.2.1) ∧ w.cell? ⟨g, f * 3 + 2, none⟩ = some (.int .i64 d.2.2) := by
  have hN := h.eN
  have hfe := h.fe
  simp only [List.length_cons] at hfe
  obtain ⟨g, cur, rfl, hrg, _⟩ := own_some h.own (by omega)
  have key : ∀ c, c < 3 → w.cell? ⟨g, f * 3 + c, none⟩ = (flat (d :: L) ++ post)[c]? := fun c hc => by
    rw [h.own.cellAt _ (by omega), List.getElem?_append_right (by rw [h.pl]; omega), h.pl, Nat.add_sub_cancel_left]
  exact ⟨g, rfl, hrg, key 0 (by omega), key 1 (by omega), key 2 (by omega)⟩

theorem due_any {w : World} {rb : Nat} {ao : Option Addr} {N f e : Nat} {o s : Int} {L : List (Int × Int × Int)} {pre post : List Value} (h : Que w rb ao N f e o s L pre post) (he : e ≤ 1048576) (t : Int) (ht0 : -4611686018427387904 ≤ t) (ht1 : t ≤ 4611686018427387904) :
    Calls Try.prog 30 #[.pointer (some ⟨rb, 0, none⟩), .int .i64 t] w fun en w' => en = .returned (.bool (dueL t L)) ∧ ∃ m, w' = w.drewN m := by
  obtain ⟨c0, c1, c2, _, _⟩ := h.box.cells
  have hfe := h.fe
  cases L with
  | nil =>
    simp only [List.length_nil, Nat.add_zero] at hfe
    subst hfe
    exact due_empty rb f t w he c1 c2
  | cons d L =>
    simp only [List.length_cons] at hfe
    obtain ⟨g, rfl, hrg, q0, _, _⟩ := h.front
    exact due_some rb g N f e t d.1 _ w (by omega) h.eN he ht0 ht1 c0 c1 c2 q0 rfl

/-- The record holds the decisions L and their sums. -/
def Good (w : World) (rb e : Nat) (L : List (Int × Int × Int)) : Prop := Holds w rb e (wrap64 (sumO L)) (wrap64 (sumS L)) L

theorem Holds.drewN {w : World} {rb e : Nat} {o s : Int} {L : List (Int × Int × Int)} (h : Holds w rb e o s L) (m : Nat) : Holds (w.drewN m) rb e o s L := by
  obtain ⟨ao, N, f, e', pre, post, hq, he⟩ := h
  exact ⟨ao, N, f, e', pre, post, hq.drewN m, he⟩

def AddSaid (w : World) (rb e : Nat) (L : List (Int × Int × Int)) (en : Ending) (w' : World) : Prop :=
  en = .returned (.tuple #[]) ∧ Good w' rb e L ∧ Below rb w w'

theorem wrap_is (x : Int) : IntKind.i64.wrap x = wrap64 x := by
  have e1 : (2 ^ IntKind.i64.bits : Int) = 18446744073709551616 := rfl
  have e2 : (2 ^ (IntKind.i64.bits - 1) : Int) = 9223372036854775808 := rfl
  unfold IntKind.wrap wrap64
  simp only [e1, e2, IntKind.signed, Bool.true_and, decide_eq_true_eq, ge_iff_le]
  split <;> omega

theorem sum_drop (o : Int) (x y : Int) : wrap64 (wrap64 (x + y) - x) = wrap64 y := by unfold wrap64; omega

theorem Que.of_heap {w w' : World} {rb : Nat} {ao : Option Addr} {N f e : Nat} {o s : Int} {L : List (Int × Int × Int)} {pre post : List Value} (h : Que w rb ao N f e o s L pre post) (hh : w'.heap = w.heap) : Que w' rb ao N f e o s L pre post := by
  refine ⟨?_, ⟨h.own.1, ?_⟩, h.pl, h.fe, h.eN⟩
  · have := h.box; unfold Rec at *; rw [hh]; exact this
  · rw [hh]; exact h.own.2

theorem round_heap {w W : World} {rb g N f e' e : Nat} {d : Int × Int × Int} {L : List (Int × Int × Int)} {pre post : List Value}
    (h : Que w rb (some ⟨g, 0, none⟩) N f e' (wrap64 (sumO (d :: L))) (wrap64 (sumS (d :: L))) (d :: L) pre post) (he : e' ≤ e)
    {o2 s2 : Int} (hh : W.heap = (((w.setCell ⟨rb, 3, none⟩ (.int .i64 o2)).setCell ⟨rb, 4, none⟩ (.int .i64 s2)).setCell ⟨rb, 1, none⟩ (.int .i64 ((f + 1 : Nat) : Int))).heap) (ho : o2 = wrap64 (wrap64 (sumO (d :: L)) - d.2.1)) (hs : s2 = wrap64 (wrap64 (sumS (d :: L)) - d.2.2)) : Good W rb e L := by
  have hfe := h.fe
  simp only [List.length_cons] at hfe
  refine ⟨some ⟨g, 0, none⟩, N, f + 1, e', pre ++ cell3 d, post, Que.of_heap ⟨?_, ?_, ?_, by omega, h.eN⟩ hh, he⟩
  · have h1 := ((h.box.set3 (wrap64 (sumO L))).set4 (wrap64 (sumS L))).set1 (f + 1)
    rw [ho, hs]
    simp only [sumO, sumS]
    rw [sum_drop 0, sum_drop 0]
    exact h1
  · have h1 := own_set (own_set (own_set h.own 3 (.int .i64 o2)) 4 (.int .i64 s2)) 1 (.int .i64 ((f + 1 : Nat) : Int))
    simpa [flat] using h1
  · rw [List.length_append, h.pl]
    simp only [cell3, List.length_cons, List.length_nil]
    omega

theorem below_heap {w w1 W : World} {rb : Nat} {v1 v2 v3 : Value} (h : Below rb w w1) (hh : W.heap = (((w1.setCell ⟨rb, 3, none⟩ v1).setCell ⟨rb, 4, none⟩ v2).setCell ⟨rb, 1, none⟩ v3).heap) (h1 : W.os = w1.os) (h2 : W.tape = w1.tape) (h3 : W.output = w1.output) : Below rb w W := by
  have hB := ((h.setCell (p := ⟨rb, 3, none⟩) (Nat.le_refl _) v1).setCell (p := ⟨rb, 4, none⟩) (Nat.le_refl _) v2).setCell (p := ⟨rb, 1, none⟩) (Nat.le_refl _) v3
  exact ⟨h1.trans h.os, h2.trans h.tape, h3.trans h.output, by rw [hh]; exact hB.size, fun k hk => by rw [hh]; exact hB.block k hk⟩

theorem below_drewN {rb : Nat} {w w1 : World} (h : Below rb w w1) (m : Nat) : Below rb w (w1.drewN m) := ⟨h.os, h.tape, h.output, h.size, h.block⟩

theorem end_zero {w : World} {rb e e' : Nat} {t : Int} {ao : Option Addr} {N f : Nat} {L L1 : List (Int × Int × Int)} {pre post : List Value} (h : Que w rb ao N f e' (wrap64 (sumO L1)) (wrap64 (sumS L1)) L1 pre post) (he : e' ≤ e)
    (hk : keep (t - 86400) L = keep (t - 86400) L1) (hd : dueL t L1 = false) (m : Nat) : Good (w.drewN m) rb (e + 1) (addL t 0 0 L) := by
  have : addL t 0 0 L = L1 := by simp [addL, hk, keep_due hd]
  rw [this]
  exact ⟨ao, N, f, e', pre, post, h.drewN m, by omega⟩

theorem sumO_snoc (L : List (Int × Int × Int)) (d : Int × Int × Int) : sumO (L ++ [d]) = sumO L + d.2.1 := by
  induction L with
  | nil => simp [sumO]
  | cons x L ih => simp only [List.cons_append, sumO, ih]; omega

theorem sumS_snoc (L : List (Int × Int × Int)) (d : Int × Int × Int) : sumS (L ++ [d]) = sumS L + d.2.2 := by
  induction L with
  | nil => simp [sumS]
  | cons x L ih => simp only [List.cons_append, sumS, ih]; omega

theorem wrap_add (x y : Int) : wrap64 (wrap64 x + y) = wrap64 (x + y) := by unfold wrap64; omega

theorem end_push {w W : World} {rb e e2 : Nat} {t a b : Int} {ao : Option Addr} {N f : Nat} {L L1 : List (Int × Int × Int)} {pre post : List Value} (h : Que w rb ao N f e2 (wrap64 (sumO L1)) (wrap64 (sumS L1)) (L1 ++ [(t, a, b)]) pre post) (he : e2 ≤ e)
    (hk : keep (t - 86400) L = keep (t - 86400) L1) (hd : dueL t L1 = false) (hz : ¬ (a = 0 ∧ b = 0))
    {o2 s2 : Int} (hh : W.heap = ((w.setCell ⟨rb, 3, none⟩ (.int .i64 o2)).setCell ⟨rb, 4, none⟩ (.int .i64 s2)).heap) (ho : o2 = wrap64 (wrap64 (sumO L1) + a)) (hs : s2 = wrap64 (wrap64 (sumS L1) + b)) : Good W rb e (addL t a b L) := by
  have e0 : addL t a b L = L1 ++ [(t, a, b)] := by rw [addL, hk, keep_due hd, if_neg hz]
  rw [e0]
  refine ⟨ao, N, f, e2, pre, post, Que.of_heap ⟨?_, own_set (own_set h.own _ _) _ _, h.pl, h.fe, h.eN⟩ hh, he⟩
  rw [ho, hs, wrap_add, wrap_add, sumO_snoc, sumS_snoc]
  exact (h.box.set3 _).set4 _

theorem end_below {w w1 w2 W : World} {rb : Nat} {v1 v2 : Value} (h : Below rb w w1) (h2 : Below rb w1 w2) (hh : W.heap = ((w2.setCell ⟨rb, 3, none⟩ v1).setCell ⟨rb, 4, none⟩ v2).heap) (ho : W.os = w2.os) (ht : W.tape = w2.tape) (hp : W.output = w2.output) : Below rb w W := by
  have hB := ((h.trans h2).setCell (p := ⟨rb, 3, none⟩) (Nat.le_refl _) v1).setCell (p := ⟨rb, 4, none⟩) (Nat.le_refl _) v2
  exact ⟨ho.trans (h.trans h2).os, ht.trans (h.trans h2).tape, hp.trans (h.trans h2).output, by rw [hh]; exact hB.size, fun k hk => by rw [hh]; exact hB.block k hk⟩

set_option maxHeartbeats 1600000 in
theorem add_any {w : World} {rb e : Nat} {L : List (Int × Int × Int)} (hG : Good w rb e L) (he : e ≤ 1048575) (t a b : Int) (ht0 : -4611686018427387904 ≤ t) (ht1 : t ≤ 4611686018427387904) :
    Calls Try.prog 22 #[.pointer (some ⟨rb, 0, none⟩), .int .i64 t, .int .i64 a, .int .i64 b] w (AddSaid w rb (e + 1) (addL t a b L)) := by
  have HG : Hid (Good w rb e L) := hG
  clear hG
  go_enter Try.func22, Try.ntmps22
  go_wp2_with fail
  go_loopg [] L.length (fun g wr => ∃ L1, g = L1.length ∧ Good wr rb e L1 ∧ keep (t - 86400) L = keep (t - 86400) L1 ∧ Below rb w wr)
  case atStart => exact ⟨L, rfl, HG.out, rfl, Below.refl _ _⟩
  case round =>
    obtain ⟨L1, rfl, hG1, hk1, hB1⟩ := hrel
    clear HG
    obtain ⟨ao, N, f, e', pre, post, hq, he'⟩ := hG1
    have HQ : Hid (Que wr rb ao N f e' (wrap64 (sumO L1)) (wrap64 (sumS L1)) L1 pre post) := hq
    have HK : Hid (keep (t - 86400) L = keep (t - 86400) L1) := hk1
    have HB : Hid (Below rb w wr) := hB1
    clear hq hk1 hB1
    go_wp2_with fail
    refine (due_any HQ.out (by omega) t ht0 ht1).mono ?_
    rintro en w1 ⟨rfl, m, rfl⟩
    cases hd : dueL t L1 with
    | false =>
      have HD : Hid (dueL t L1 = false) := hd
      clear hd
      by_cases hz : a = 0 ∧ b = 0
      · obtain ⟨rfl, rfl⟩ := hz
        go_wp2
        go_end0
        exact ⟨rfl, end_zero HQ.out he' HK.out HD.out m, below_drewN HB.out _⟩
      · have hn : ¬ a = 0 ∨ ¬ b = 0 := by omega
        have HZ : Hid (¬ (a = 0 ∧ b = 0)) := hz
        by_cases ha : a = 0
        · have hb : ¬ b = 0 := by omega
          have hb2 : (b == 0) = false := by simpa using hb
          clear hn hz
          subst ha
          go_wp2_with fail
          refine (push_any (HQ.out.drewN m) (by omega) t 0 b).mono ?_
          rintro en w2 ⟨rfl, ⟨ao2, N2, f2, e2, pre2, post2, hq2, he2⟩, hB2⟩
          obtain ⟨c0, c1, c2, c3, c4⟩ := hq2.box.cells
          have f3 := hq2.box.free 3
          have f4 := hq2.box.free 4
          have HQ2 : Hid (Que w2 rb ao2 N2 f2 e2 (wrap64 (sumO L1)) (wrap64 (sumS L1)) (L1 ++ [(t, 0, b)]) pre2 post2) := hq2
          have HB2 : Hid (Below rb (wr.drewN m) w2) := hB2
          clear hq2 hB2
          go_wp2
          go_end0
          exact ⟨rfl, end_push HQ2.out (by omega) HK.out HD.out (fun h => hb h.2) rfl (by first | rfl | exact wrap_is _ | (simp only [Int.add_zero, wrap_is]; first | done | (unfold wrap64; omega))) (by first | rfl | exact wrap_is _ | (simp only [Int.add_zero, wrap_is]; first | done | (unfold wrap64; omega))), end_below (below_drewN HB.out _) HB2.out rfl rfl rfl rfl⟩
        · have ha2 : (a == 0) = false := by simpa using ha
          clear hn hz
          go_wp2_with fail
          refine (push_any (HQ.out.drewN m) (by omega) t a b).mono ?_
          rintro en w2 ⟨rfl, ⟨ao2, N2, f2, e2, pre2, post2, hq2, he2⟩, hB2⟩
          obtain ⟨c0, c1, c2, c3, c4⟩ := hq2.box.cells
          have f3 := hq2.box.free 3
          have f4 := hq2.box.free 4
          have HQ2 : Hid (Que w2 rb ao2 N2 f2 e2 (wrap64 (sumO L1)) (wrap64 (sumS L1)) (L1 ++ [(t, a, b)]) pre2 post2) := hq2
          have HB2 : Hid (Below rb (wr.drewN m) w2) := hB2
          clear hq2 hB2
          go_wp2
          go_end0
          exact ⟨rfl, end_push HQ2.out (by omega) HK.out HD.out HZ.out rfl (by first | rfl | exact wrap_is _ | (simp only [Int.add_zero, wrap_is]; first | done | (unfold wrap64; omega))) (by first | rfl | exact wrap_is _ | (simp only [Int.add_zero, wrap_is]; first | done | (unfold wrap64; omega))), end_below (below_drewN HB.out _) HB2.out rfl rfl rfl rfl⟩
    | true =>
      cases L1 with
      | nil => simp [dueL] at hd
      | cons d L1 =>
        obtain ⟨g, rfl, hrg, q0, q1, q2⟩ := HQ.out.front
        obtain ⟨c0, c1, c2, c3, c4⟩ := HQ.out.box.cells
        have f1 := HQ.out.box.free 1
        have f3 := HQ.out.box.free 3
        have f4 := HQ.out.box.free 4
        have hrb := HQ.out.box.lt
        have hfe := HQ.out.fe
        have heN := HQ.out.eN
        have hf9 : f ≤ 1048576 := by omega
        have hfN : f + 0 < N := by simp only [List.length_cons] at hfe; omega
        have hgne : g ≠ rb := by omega
        have hgne' : rb ≠ g := by omega
        have hdl : d.1 ≤ t - 86400 := by simpa [dueL] using hd
        clear hd
        go_wp2_with fail
        go_region_with ((refine (at_any rb g N f 0 _ hfN (by omega) (by simp [*]) (by simp [*])).mono ?_; rintro en w2 ⟨rfl, m2, rfl⟩; rw [Nat.add_zero]))
        all_goals
          go_wp2_with fail
          go_region_with ((refine (at_any rb g N f 0 _ hfN (by omega) (by simp [*, World.cell?_setCell_other]) (by simp [*, World.cell?_setCell_other])).mono ?_; rintro en w2 ⟨rfl, m3, rfl⟩; rw [Nat.add_zero]))
          all_goals
            go_wp2_with fail
            refine (drop_any rb f _ hf9 (by simp [*, World.cell?_setCell_other]) (by simp [*, World.cell?_setCell_other])).mono ?_
            rintro en w3 ⟨rfl, rfl⟩
            go_wp2_with fail
            go_roundg L1.length
            case measure => simp
            case rel => exact ⟨L1, rfl, round_heap HQ.out he' rfl (by first | rfl | exact wrap_is _ | (simp only [Int.add_zero, wrap_is]; first | done | (unfold wrap64; omega))) (by first | rfl | exact wrap_is _ | (simp only [Int.add_zero, wrap_is]; first | done | (unfold wrap64; omega))), HK.out.trans (by simp [keep, hdl]), below_heap HB.out rfl rfl rfl rfl⟩
end Go.Proofs.Qxb6604439a
