import Derived.Test.Qxb6603821aW7
namespace Go.Proofs.Qxb6603821a
open Go.RowKit Go.WideMaps Go.Maps
set_option linter.unusedVariables false
set_option linter.unusedSimpArgs false

theorem Try.info61 : (Try.prog.info? 61).map (fun i => (i.zero, i.size, i.bytes)) = some (some (.agg #[.pointer none, .slice none 0 0]), 2, 32) := by kernel_rfl
theorem Try.info65 : (Try.prog.info? 65).map (fun i => (i.zero, i.size, i.bytes)) = some (some (.agg #[.string ByteArray.empty, .string ByteArray.empty, .string ByteArray.empty, .bool false]), 4, 56) := by kernel_rfl

theorem run_make61 (n : Nat) (hn : n ≤ 1048576) (w : World) :
    (Instr.makeSlice 52 (.int .i64 (n : Int)) (.int .i64 (n : Int))).run Try.prog w = .ok (.slice (some ⟨w.heap.size, 0, none⟩) n n) (w.alloc (.cells (madeCells #[.pointer none, .slice none 0 0] (n * 2)) 61)) := by
  obtain ⟨i0, hi0, hz0, hz1, hz2⟩ := info_parts Try.info61
  have := run_make (P := Try.prog) w 52 61 i0 _ Try.underlying52 hi0 hz0 .i64 .i64 (n : Int) (n : Int) (by omega) (by omega) (by rw [hz2]; omega) (by omega)
  simp only [Int.toNat_natCast, hz1] at this
  exact this

theorem run_make65 (n : Nat) (hn : n ≤ 1048576) (w : World) :
    (Instr.makeSlice 55 (.int .i64 (n : Int)) (.int .i64 (n : Int))).run Try.prog w =
      .ok (.slice (some ⟨w.heap.size, 0, none⟩) n n) (w.alloc (.cells (madeCells #[.string ByteArray.empty, .string ByteArray.empty, .string ByteArray.empty, .bool false] (n * 4)) 65)) := by
  obtain ⟨i0, hi0, hz0, hz1, hz2⟩ := info_parts Try.info65
  have := run_make (P := Try.prog) w 55 65 i0 _ Try.underlying55 hi0 hz0 .i64 .i64 (n : Int) (n : Int) (by omega) (by omega) (by rw [hz2]; omega) (by omega)
  simp only [Int.toNat_natCast, hz1] at this
  exact this

theorem run_makeHint (n : Nat) (w : World) : (Instr.makeMap 28 (some (.int .i64 (n : Int)))).run Try.prog w = .ok (.map (some w.heap.size)) (w.alloc (.map #[] 0)) := by
  simp [Instr.makeMap, asInt, asIntOf, Result.andThen]

/-- The last place below i of the name s. -/
def place (S : Nat → ByteArray) : Nat → ByteArray → Option Nat
  | 0, _ => none
  | i + 1, s => if s = S i then some i else place S i s

theorem place_lt (S : Nat → ByteArray) (s : ByteArray) (i j : Nat) (h : place S i s = some j) : j < i := by
  induction i with
  | zero => cases h
  | succ i ih =>
    simp only [place] at h
    split at h
    · cases h; omega
    · have := ih h; omega

/-- What zzWaiting has built when i tables are laid. -/
structure Built (w wr : World) (gb tb mb n i : Nat) (dv : Value) (CV : Nat → Value) (T F : Nat → Nat) (S : Nat → ByteArray) (K : Nat → Nat) (R : Nat → Nat → ByteArray) : Prop where
  below : Below w.heap.size w wr
  top : w.heap.size + 3 ≤ wr.heap.size
  gl : w.heap.size ≤ gb ∧ gb < w.heap.size + 3
  tl : w.heap.size ≤ tb ∧ tb < w.heap.size + 3
  ml : w.heap.size ≤ mb ∧ mb < w.heap.size + 3
  ne : gb ≠ tb ∧ gb ≠ mb ∧ tb ≠ mb
  g : wr.rowIs gb 63 3 (fun j => if j = 0 then .slice (some ⟨tb, 0, none⟩) n n else if j = 1 then dv else .map (some mb))
  t : ∃ X, wr.rowIs tb 61 (n * 2) X ∧ ∀ j, j < i → X (j * 2) = .pointer (some ⟨T j, 0, none⟩) ∧ X (j * 2 + 1) = CV j
  m : MapAt wr mb i (place S i)
  tab : ∀ j, j < i → w.heap.size + 3 ≤ T j ∧ ∃ X, wr.rowIs (T j) 58 5 X ∧ X 2 = .slice (some ⟨F j, 0, none⟩) (K j) (K j)
  key : ∀ j, j < i → w.heap.size + 3 ≤ F j ∧ ∃ X, wr.rowIs (F j) 65 (K j * 4) X ∧ ∀ k, k < K j → X (k * 4 + 1) = .string (R j k)

theorem row3 (w : World) (a b c : Value) (t : TypeId) : (w.alloc (.cells #[a, b, c] t)).rowIs w.heap.size t 3 (fun j => if j = 0 then a else if j = 1 then b else c) :=
  World.rowIs_alloc w #[a, b, c] t _ fun i hi => by
    have : i < 3 := hi
    match i, this with
    | 0, _ => rfl
    | 1, _ => rfl
    | 2, _ => rfl

theorem rowMade (w : World) (z : Array Value) (n : Nat) (t : TypeId) : ∃ X, (w.alloc (.cells (madeCells z n) t)).rowIs w.heap.size t n X := by
  refine ⟨fun i => (madeCells z n)[i]?.getD undef, ?_⟩
  have := World.rowIs_alloc w (madeCells z n) t (fun i => (madeCells z n)[i]?.getD undef) (fun i hi => by simp [hi])
  rwa [size_madeCells] at this

theorem mapAt_alloc {w : World} {mb n : Nat} {f : ByteArray → Option Nat} (h : MapAt w mb n f) (o : Obj) : MapAt (w.alloc o) mb n f := h.of_block (Below.heap_alloc w o mb h.lt)

theorem built_a (w : World) (n : Nat) (dv : Value) (CV : Nat → Value) (T F : Nat → Nat) (S : Nat → ByteArray) (K : Nat → Nat) (R : Nat → Nat → ByteArray) (z : Array Value) :
    Built w (((w.alloc (.cells (madeCells z (n * 2)) 61)).alloc (.map #[] 0)).alloc (.cells #[.slice (some ⟨w.heap.size, 0, none⟩) n n, dv, .map (some (w.heap.size + 1))] 63)).drew (w.heap.size + 1 + 1) w.heap.size (w.heap.size + 1) n 0 dv CV T F S K R := by
  obtain ⟨X, hX⟩ := rowMade w z (n * 2) 61
  have h3 := row3 ((w.alloc (.cells (madeCells z (n * 2)) 61)).alloc (.map #[] 0)) (.slice (some ⟨w.heap.size, 0, none⟩) n n) dv (.map (some (w.heap.size + 1))) 63
  have hm := mapAt_made (w.alloc (.cells (madeCells z (n * 2)) 61))
  have e1 : (w.alloc (.cells (madeCells z (n * 2)) 61)).heap.size = w.heap.size + 1 := by simp
  have e2 : ((w.alloc (.cells (madeCells z (n * 2)) 61)).alloc (.map #[] 0)).heap.size = w.heap.size + 1 + 1 := by simp
  rw [e2] at h3
  rw [e1] at hm
  exact ⟨((((Below.refl _ _).alloc (Nat.le_refl _) _).alloc (by simp) _).alloc (by simp; omega) _).drew, by simp, by omega, by omega, by omega, by omega, h3.drew, ⟨X, ((hX.alloc _).alloc _).drew, fun j hj => absurd hj (Nat.not_lt_zero _)⟩,
    (mapAt_alloc hm _).of_block rfl, fun j hj => absurd hj (Nat.not_lt_zero _), fun j hj => absurd hj (Nat.not_lt_zero _)⟩

theorem built_b (w : World) (n : Nat) (dv : Value) (CV : Nat → Value) (T F : Nat → Nat) (S : Nat → ByteArray) (K : Nat → Nat) (R : Nat → Nat → ByteArray) (z : Array Value) :
    Built w (((w.alloc (.map #[] 0)).alloc (.cells (madeCells z (n * 2)) 61)).alloc (.cells #[.slice (some ⟨w.heap.size + 1, 0, none⟩) n n, dv, .map (some w.heap.size)] 63)).drew (w.heap.size + 1 + 1) (w.heap.size + 1) w.heap.size n 0 dv CV T F S K R := by
  obtain ⟨X, hX⟩ := rowMade (w.alloc (.map #[] 0)) z (n * 2) 61
  have h3 := row3 ((w.alloc (.map #[] 0)).alloc (.cells (madeCells z (n * 2)) 61)) (.slice (some ⟨w.heap.size + 1, 0, none⟩) n n) dv (.map (some w.heap.size)) 63
  have hm := mapAt_made w
  have e1 : (w.alloc (.map #[] 0)).heap.size = w.heap.size + 1 := by simp
  have e2 : ((w.alloc (.map #[] 0)).alloc (.cells (madeCells z (n * 2)) 61)).heap.size = w.heap.size + 1 + 1 := by simp
  rw [e2] at h3
  rw [e1] at hX
  exact ⟨((((Below.refl _ _).alloc (Nat.le_refl _) _).alloc (by simp) _).alloc (by simp; omega) _).drew, by simp, by omega, by omega, by omega, by omega, h3.drew, ⟨X, (hX.alloc _).drew, fun j hj => absurd hj (Nat.not_lt_zero _)⟩,
    (mapAt_alloc (mapAt_alloc hm _) _).of_block rfl, fun j hj => absurd hj (Nat.not_lt_zero _), fun j hj => absurd hj (Nat.not_lt_zero _)⟩

def upd {α : Type} (f : Nat → α) (i : Nat) (x : α) : Nat → α := fun j => if j = i then x else f j
theorem upd_self {α : Type} (f : Nat → α) (i : Nat) (x : α) : upd f i x i = x := by simp [upd]
theorem upd_other {α : Type} (f : Nat → α) (i j : Nat) (x : α) (h : j ≠ i) : upd f i x j = f j := by simp [upd, h]

theorem built_step {w wr wi w1 : World} {gb tb mb n i : Nat} {dv : Value} {CV : Nat → Value} {T F : Nat → Nat} {S : Nat → ByteArray} {K : Nat → Nat} {R : Nat → Nat → ByteArray} (h : Built w wr gb tb mb n i dv CV T F S K R)
    (hb : Below wr.heap.size wr wi) (hF : ∃ X, wi.rowIs wr.heap.size 65 (K i * 4) X ∧ ∀ k, k < K i → X (k * 4 + 1) = .string (R i k)) (tbl : Obj) (X5 : Nat → Value)
    (ht : (wi.alloc tbl).rowIs wi.heap.size 58 5 X5) (hX5 : X5 2 = .slice (some ⟨wr.heap.size, 0, none⟩) (K i) (K i))
    (hm : MapAt w1 mb (i + 1) (place S (i + 1)))
    (hg : (((wi.alloc tbl).setCell ⟨tb, i * 2, none⟩ (.pointer (some ⟨wi.heap.size, 0, none⟩))).setCell ⟨tb, i * 2 + 1, none⟩ (CV i)).grownBy w1 (some mb)) :
    Built w w1 gb tb mb n (i + 1) dv CV (upd T i wi.heap.size) (upd F i wr.heap.size) S K R := by
  have hsz := hb.size
  have htop := h.top
  have hgl := h.gl
  have htl := h.tl
  have hml := h.ml
  have hne := h.ne
  -- what lies in a block of wr other than tb and mb is as it was
  have keep : ∀ b, b < wi.heap.size → b ≠ tb → b ≠ mb → w1.heap[b]? = wi.heap[b]? := fun b hb1 hb2 hb3 => by
    rw [hg.block b (by simp; omega) (by simp [hb3]), Below.heap_setCell _ _ _ _ hb2, Below.heap_setCell _ _ _ _ hb2, Below.heap_alloc _ _ _ hb1]
  have keepr : ∀ b, b < wr.heap.size → b ≠ tb → b ≠ mb → w1.heap[b]? = wr.heap[b]? := fun b hb1 hb2 hb3 => (keep b (by omega) hb2 hb3).trans (hb.block b hb1)
  obtain ⟨X, hX, hXj⟩ := h.t
  refine ⟨⟨?_, ?_, ?_, ?_, fun k hk => ?_⟩, ?_, h.gl, h.tl, h.ml, h.ne, h.g.of_block (keepr _ (by omega) hne.1 hne.2.1), ?_, hm, fun j hj => ?_, fun j hj => ?_⟩
  · exact hg.os.trans (hb.os.trans h.below.os)
  · exact hg.tape.trans (hb.tape.trans h.below.tape)
  · exact hg.output.trans (hb.output.trans h.below.output)
  · have := hg.size; simp at this; omega
  · rw [keepr k (by omega) (by omega) (by omega)]; exact h.below.block k hk
  · have := hg.size; simp at this; omega
  · have hXi : wi.rowIs tb 61 (n * 2) X := hX.of_block (hb.block _ (by omega))
    have h1 := (((hXi.alloc tbl).set (i * 2) (.pointer (some ⟨wi.heap.size, 0, none⟩))).set (i * 2 + 1) (CV i)).of_block (hg.block tb (by simp; omega) (by simp; omega))
    refine ⟨_, h1, fun j hj => ?_⟩
    by_cases e : j = i
    · subst e
      rw [upd_self]
      exact ⟨by rw [if_neg (by omega), if_pos rfl], by rw [if_pos rfl]⟩
    · rw [upd_other _ _ _ _ e, if_neg (by omega), if_neg (by omega), if_neg (by omega), if_neg (by omega)]
      exact hXj j (by omega)
  · by_cases e : j = i
    · subst e
      rw [upd_self, upd_self]
      refine ⟨by omega, X5, ht.of_block ?_, hX5⟩
      rw [hg.block wi.heap.size (by simp) (by simp; omega), Below.heap_setCell _ _ _ _ (by simp; omega), Below.heap_setCell _ _ _ _ (by simp; omega)]
    · rw [upd_other _ _ _ _ e, upd_other _ _ _ _ e]
      obtain ⟨h1, Y, hY, hY2⟩ := h.tab j (by omega)
      exact ⟨h1, Y, hY.of_block (keepr _ hY.lt (by omega) (by omega)), hY2⟩
  · by_cases e : j = i
    · subst e
      rw [upd_self]
      obtain ⟨Y, hY, hYk⟩ := hF
      exact ⟨by omega, Y, hY.of_block (keep _ hY.lt (by omega) (by omega)), hYk⟩
    · rw [upd_other _ _ _ _ e]
      obtain ⟨h1, Y, hY, hYk⟩ := h.key j (by omega)
      exact ⟨h1, Y, hY.of_block (keepr _ hY.lt (by omega) (by omega)), hYk⟩

theorem built_done {w wr : World} {gb tb mb n : Nat} {dv : Value} {CV : Nat → Value} {T F : Nat → Nat} {S : Nat → ByteArray} {K : Nat → Nat} {R : Nat → Nat → ByteArray} {CL : Nat → Nat} {CB : Nat → Nat → Bool} {D : Nat → Bool}
    (h : Built w wr gb tb mb n n dv CV T F S K R) (hd : SliceAt w 0 dv n (fun j => .bool (D j))) (hc : ∀ i, i < n → SliceAt w 0 (CV i) (CL i) (fun k => .bool (CB i k))) :
    GraphAt wr gb tb mb n dv T F CV (place S n) K R CL CB D := by
  obtain ⟨X, hX, hXj⟩ := h.t
  refine ⟨by simpa using h.g.cell (i := 0) (by omega), by simpa using h.g.cell (i := 1) (by omega), by simpa using h.g.cell (i := 2) (by omega), h.m, hd.keep h.below, fun i hi => ?_, fun i hi => ?_, fun i hi => (hc i hi).keep h.below, fun i hi => ?_, fun i hi k hk => ?_⟩
  · rw [hX.cell (by omega), (hXj i hi).1]
  · rw [hX.cell (by omega), (hXj i hi).2]
  · obtain ⟨_, Y, hY, hY2⟩ := h.tab i hi
    rw [hY.cell (by omega), hY2]
  · obtain ⟨_, Y, hY, hYk⟩ := h.key i hi
    rw [hY.cell (by omega), hYk k hk]
end Go.Proofs.Qxb6603821a
