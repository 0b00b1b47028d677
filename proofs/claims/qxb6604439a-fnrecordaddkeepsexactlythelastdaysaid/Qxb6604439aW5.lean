import Derived.Test.Qxb6604439aW4
namespace Go.Proofs.Qxb6604439a
open Go.RowKit Go.Deep
set_option linter.unusedVariables false
set_option linter.unusedSimpArgs false

theorem Rec.alloc {w : World} {rb : Nat} {v : Value} {f e : Nat} {o s : Int} (h : Rec w rb v f e o s) (z : Obj) : Rec (w.alloc z) rb v f e o s := h.of_block (heap_alloc_old _ _ h.lt)

theorem Que.alloc {w : World} {rb : Nat} {ao : Option Addr} {N f e : Nat} {o s : Int} {L : List (Int × Int × Int)} {pre post : List Value} (h : Que w rb ao N f e o s L pre post) (z : Obj) : Que (w.alloc z) rb ao N f e o s L pre post :=
  ⟨h.box.alloc z, h.own.alloc z, h.pl, h.fe, h.eN⟩

theorem Que.drew {w : World} {rb : Nat} {ao : Option Addr} {N f e : Nat} {o s : Int} {L : List (Int × Int × Int)} {pre post : List Value} (h : Que w rb ao N f e o s L pre post) : Que w.drew rb ao N f e o s L pre post := ⟨h.box, h.own, h.pl, h.fe, h.eN⟩

/-- The record at block rb holds the decisions L, with the sums o and s; at most e pushes were made. -/
def Holds (w : World) (rb e : Nat) (o s : Int) (L : List (Int × Int × Int)) : Prop :=
  ∃ ao N f e' pre post, Que w rb ao N f e' o s L pre post ∧ e' ≤ e

def PushSaid (w : World) (rb e : Nat) (o s : Int) (L : List (Int × Int × Int)) (en : Ending) (w' : World) : Prop :=
  en = .returned (.tuple #[]) ∧ Holds w' rb (e + 1) o s L ∧ Below rb w w'

theorem Que.row_lt {w : World} {rb : Nat} {ao : Option Addr} {N f e : Nat} {o s : Int} {L : List (Int × Int × Int)} {pre post : List Value} (h : Que w rb ao N f e o s L pre post) : ∀ k, (Value.slice ao 0 0).ownBlock = some k → rb < k ∧ k < w.heap.size := fun k hk => by
  have := h.own.lt k (by cases ao; exact hk; exact hk)
  omega

theorem box_after {w w' : World} {rb : Nat} {row : Option Nat} {t a b : Int} (hK : Kept ((w.alloc (.cells #[.int .i64 t, .int .i64 a, .int .i64 b] 65)).drew) w' rb row) (hrb : rb < w.heap.size) (hrow : ∀ k, row = some k → k < w.heap.size) :
    w'.cell? ⟨w.heap.size, 0, none⟩ = some (.int .i64 t) ∧ w'.cell? ⟨w.heap.size, 1, none⟩ = some (.int .i64 a) ∧ w'.cell? ⟨w.heap.size, 2, none⟩ = some (.int .i64 b) := by
  have h := hK.block w.heap.size (by simp) (by omega) (fun e => by have := hrow _ e.symm; omega)
  rw [drew_heap, heap_alloc_new] at h
  exact ⟨by rw [cell_of_row w' _ 0 _ 65 (0, 0) h]; rfl, by rw [cell_of_row w' _ 1 _ 65 (0, 0) h]; rfl, by rw [cell_of_row w' _ 2 _ 65 (0, 0) h]; rfl⟩

theorem room_cells {w : World} {rb g N f : Nat} {L : List (Int × Int × Int)} {pre post : List Value} {x0 x1 x2 : Value} (h : w.ownsRow (rb + 1) 65 3 (.slice (some ⟨g, 0, none⟩) N N) N (pre ++ (flat L ++ (x0 :: x1 :: x2 :: post)))) (hp : pre.length = f * 3) (hN : f + L.length + 1 ≤ N) :
    w.cell? ⟨g, (f + L.length) * 3, none⟩ = some x0 ∧ w.cell? ⟨g, (f + L.length) * 3 + 1, none⟩ = some x1 ∧ w.cell? ⟨g, (f + L.length) * 3 + 2, none⟩ = some x2 := by
  have hl : (pre ++ flat L).length = (f + L.length) * 3 := by rw [List.length_append, hp, flat_length]; omega
  have key : ∀ c, c < 3 → w.cell? ⟨g, (f + L.length) * 3 + c, none⟩ = (x0 :: x1 :: x2 :: post)[c]? := fun c hc => by
    rw [h.cellAt _ (by omega), ← List.append_assoc, List.getElem?_append_right (by omega), hl, Nat.add_sub_cancel_left]
  exact ⟨key 0 (by omega), key 1 (by omega), key 2 (by omega)⟩

def GrowHere (w' : World) (rb e : Nat) (o s : Int) (L : List (Int × Int × Int)) (g N f : Nat) (pre post : List Value) (x0 x1 x2 : Value) : Prop :=
  Rec w' rb (.slice (some ⟨g, 0, none⟩) N N) f (f + L.length + 1) o s ∧
    w'.ownsRow (rb + 1) 65 3 (.slice (some ⟨g, 0, none⟩) N N) N (pre ++ (flat L ++ (x0 :: x1 :: x2 :: post))) ∧ pre.length = f * 3 ∧ f + L.length + 1 ≤ N ∧ f + L.length ≤ e

theorem set3 (A : List Value) (x0 x1 x2 y0 y1 y2 : Value) (post : List Value) (n : Nat) (hn : A.length = n) : (((A ++ (x0 :: x1 :: x2 :: post)).set n y0).set (n + 1) y1).set (n + 2) y2 = A ++ (y0 :: y1 :: y2 :: post) := by
  subst hn
  rw [List.set_append_right _ _ (Nat.le_refl _), Nat.sub_self, List.set_append_right _ _ (by omega), List.set_append_right _ _ (by omega), Nat.add_sub_cancel_left, Nat.add_sub_cancel_left]
  rfl

theorem push_done {w w' : World} {rb e g N f : Nat} {o s : Int} {L : List (Int × Int × Int)} {pre post : List Value} {x0 x1 x2 : Value} {z : Obj} {row : Option Nat} (t a b : Int)
    (hG : GrowHere w' rb e o s L g N f pre post x0 x1 x2) (hK : Kept ((w.alloc z).drew) w' rb row) (hrb : rb < w.heap.size) (hrow : ∀ k, row = some k → rb < k) :
    Holds (((w'.setCell ⟨g, (f + L.length) * 3, none⟩ (.int .i64 t)).setCell ⟨g, (f + L.length) * 3 + 1, none⟩ (.int .i64 a)).setCell ⟨g, (f + L.length) * 3 + 2, none⟩ (.int .i64 b)) rb (e + 1) o s (L ++ [(t, a, b)]) ∧
      Below rb w (((w'.setCell ⟨g, (f + L.length) * 3, none⟩ (.int .i64 t)).setCell ⟨g, (f + L.length) * 3 + 1, none⟩ (.int .i64 a)).setCell ⟨g, (f + L.length) * 3 + 2, none⟩ (.int .i64 b)) := by
  obtain ⟨hR, hown, hp, hN, he⟩ := hG
  obtain ⟨_, cur, hg0, hrg, hgs, _⟩ := own_some hown (by omega)
  simp only [Option.some.injEq, Addr.mk.injEq, and_true] at hg0
  subst hg0
  have hl : (pre ++ flat L).length = (f + L.length) * 3 := by rw [List.length_append, hp, flat_length]; omega
  have h3 := (((hown.stored ((f + L.length) * 3) (.int .i64 t)).1.stored ((f + L.length) * 3 + 1) (.int .i64 a)).1.stored ((f + L.length) * 3 + 2) (.int .i64 b)).1
  rw [← List.append_assoc, set3 _ _ _ _ _ _ _ _ _ hl] at h3
  have hblk : ∀ k, k ≠ g → (((w'.setCell ⟨g, (f + L.length) * 3, none⟩ (.int .i64 t)).setCell ⟨g, (f + L.length) * 3 + 1, none⟩ (.int .i64 a)).setCell ⟨g, (f + L.length) * 3 + 2, none⟩ (.int .i64 b)).heap[k]? = w'.heap[k]? := fun k hk => by
    rw [blk_setCell_other _ _ _ k hk, blk_setCell_other _ _ _ k hk, blk_setCell_other _ _ _ k hk]
  refine ⟨⟨some ⟨g, 0, none⟩, N, f, f + L.length + 1, pre, post, ⟨hR.of_block (hblk rb (by omega)), ?_, hp, by simp; omega, hN⟩, by omega⟩, ?_⟩
  · rw [flat_append]
    simpa [flat, cell3] using h3
  · refine ⟨hK.os, hK.tape, hK.output, ?_, fun k hk => ?_⟩
    · have := hK.size
      simp at this ⊢
      omega
    · rw [hblk k (by omega), hK.block k (by simp; omega) (by omega) (fun e => by have := hrow k e.symm; omega), drew_heap, heap_alloc_old _ _ (by omega)]

set_option maxHeartbeats 800000 in
theorem push_any {w : World} {rb : Nat} {ao : Option Addr} {N f e : Nat} {o s : Int} {L : List (Int × Int × Int)} {pre post : List Value} (hq : Que w rb ao N f e o s L pre post) (he : e ≤ 1048576) (t a b : Int) :
    Calls Try.prog 32 #[.pointer (some ⟨rb, 0, none⟩), .agg #[.int .i64 t, .int .i64 a, .int .i64 b]] w (PushSaid w rb e o s (L ++ [(t, a, b)])) := by
  have HQ : Hid (Que w rb ao N f e o s L pre post) := hq
  have hrb := hq.box.lt
  clear hq
  go_enter Try.func32, Try.ntmps32
  go_wp2
  go_region_with ((refine (grow_said ((HQ.out.alloc _).drew) he).mono ?_; rintro en w' ⟨g, N', f', pre', post', x0, x1, x2, rfl, hR', hown', hp', hN', he', hK', hg', hat'⟩; obtain ⟨b0, b1, b2⟩ := box_after hK' hrb (fun k hk => (HQ.out.row_lt k hk).2); obtain ⟨r0, r1, r2⟩ := room_cells hown' hp' hN'; have z0 := hown'.frozenAt ((f' + L.length) * 3); have z1 := hown'.frozenAt ((f' + L.length) * 3 + 1); have z2 := hown'.frozenAt ((f' + L.length) * 3 + 2); have HG : Hid (GrowHere w' rb e o s L g N' f' pre' post' x0 x1 x2) := ⟨hR', hown', hp', hN', he'⟩; have HK : Hid (Kept _ w' rb _) := hK'; have HA := hat'; clear hR' hown' hp' hN' he' hK' hat'))
  all_goals
    go_end0
    exact ⟨rfl, push_done t a b HG.out HK.out hrb (fun k hk => (HQ.out.row_lt k hk).1)⟩
end Go.Proofs.Qxb6604439a
