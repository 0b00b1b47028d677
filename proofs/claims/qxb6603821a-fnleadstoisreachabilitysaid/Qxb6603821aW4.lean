import Derived.Test.Qxb6603821aW3
import Derived.Deep.OwnRows
import Derived.Deep.Slices
namespace Go.Proofs.Qxb6603821a
open Go.RowKit
set_option linter.unusedVariables false
set_option linter.unusedSimpArgs false

theorem Try.info9 : (Try.prog.info? 9).map (fun i => (i.zero, i.size, i.bytes)) = some (some (.string ByteArray.empty), 1, 16) := by kernel_rfl
theorem Try.info4 : (Try.prog.info? 4).map (fun i => (i.zero, i.size, i.bytes)) = some (some (.bool false), 1, 1) := by kernel_rfl
theorem Try.info22 : (Try.prog.info? 22).map (fun i => (i.zero, i.size, i.bytes)) = some (some (.slice none 0 0), 1, 24) := by kernel_rfl
theorem Try.info25 : (Try.prog.info? 25).map (fun i => (i.zero, i.size, i.bytes)) = some (some (.slice none 0 0), 1, 24) := by kernel_rfl

/-- The value v is a slice of n elements; element i is the cell value V i; all of them lie from block lo on. -/
def SliceAt (w : World) (lo : Nat) (v : Value) (n : Nat) (V : Nat → Value) : Prop :=
  ∃ (a : Option Addr) (b o c : Nat), v = .slice a n c ∧ ∀ i, i < n → a = some ⟨b, o, none⟩ ∧ lo ≤ b ∧ w.cell? ⟨b, o + i, none⟩ = some (V i)

theorem SliceAt.keep {w w' : World} {lo n : Nat} {v : Value} {V : Nat → Value} (h : SliceAt w lo v n V) (hb : Below w.heap.size w w') : SliceAt w' lo v n V := by
  obtain ⟨a, b, o, c, hv, hc⟩ := h
  exact ⟨a, b, o, c, hv, fun i hi => ⟨(hc i hi).1, (hc i hi).2.1, cell_later hb (hc i hi).2.2⟩⟩

theorem SliceAt.low {w : World} {lo lo' n : Nat} {v : Value} {V : Nat → Value} (h : SliceAt w lo v n V) (hl : lo' ≤ lo) : SliceAt w lo' v n V := by
  obtain ⟨a, b, o, c, hv, hc⟩ := h
  exact ⟨a, b, o, c, hv, fun i hi => ⟨(hc i hi).1, Nat.le_trans hl (hc i hi).2.1, (hc i hi).2.2⟩⟩

theorem SliceAt.setCell {w : World} {lo n : Nat} {v : Value} {V : Nat → Value} (h : SliceAt w lo v n V) {p : Addr} (hp : p.block < lo) (u : Value) : SliceAt (w.setCell p u) lo v n V := by
  obtain ⟨a, b, o, c, hv, hc⟩ := h
  refine ⟨a, b, o, c, hv, fun i hi => ⟨(hc i hi).1, (hc i hi).2.1, ?_⟩⟩
  rw [World.cell?_setCell_other _ _ _ _ (fun e => by have := congrArg Addr.block e; have := (hc i hi).2.1; simp at *; omega)]
  exact (hc i hi).2.2

theorem SliceAt.congr {w : World} {lo n : Nat} {v : Value} {V V' : Nat → Value} (h : SliceAt w lo v n V) (hV : ∀ i, i < n → V i = V' i) : SliceAt w lo v n V' := by
  obtain ⟨a, b, o, c, hv, hc⟩ := h
  exact ⟨a, b, o, c, hv, fun i hi => ⟨(hc i hi).1, (hc i hi).2.1, by rw [← hV i hi]; exact (hc i hi).2.2⟩⟩

theorem SliceAt.nil (w : World) (lo : Nat) (V : Nat → Value) : SliceAt w lo (.slice none 0 0) 0 V := ⟨none, 0, 0, 0, rfl, fun i hi => absurd hi (Nat.not_lt_zero _)⟩

theorem SliceAt.ofRow {w : World} {lo b t n : Nat} {V : Nat → Value} (h : w.rowIs b t n V) (hl : lo ≤ b) : SliceAt w lo (.slice (some ⟨b, 0, none⟩) n n) n V :=
  ⟨some ⟨b, 0, none⟩, b, 0, n, rfl, fun i hi => ⟨rfl, hl, by rw [Nat.zero_add]; exact h.cell hi⟩⟩

/-- What a copy of a slice is: the same elements, in new memory. -/
def CopySaid (w : World) (n : Nat) (V : Nat → Value) (e : Ending) (w' : World) : Prop :=
  ∃ v, e = .returned v ∧ SliceAt w' w.heap.size v n V ∧ Below w.heap.size w w'

theorem cp_step {wr : World} {g t n k : Nat} {z : Value} {V : Nat → Value} (h : wr.rowIs g t n (fun j => if j < k then V j else z)) :
    (wr.setCell ⟨g, k, none⟩ (V k)).rowIs g t n (fun j => if j < k + 1 then V j else z) := by
  refine (h.set k (V k)).congr fun j hj => ?_
  by_cases e : j = k
  · subst e; simp
  · simp only [if_neg e]
    by_cases hlt : j < k
    · rw [if_pos hlt, if_pos (by omega)]
    · rw [if_neg hlt, if_neg (by omega)]

set_option maxHeartbeats 800000 in
theorem copyStrings_any (s : Option Addr) (n b o c : Nat) (S : Nat → ByteArray) (w : World) (hn : n ≤ 1048576)
    (hc : ∀ i, i < n → s = some ⟨b, o, none⟩ ∧ w.cell? ⟨b, o + i, none⟩ = some (.string (S i))) (hs : s = none → n = 0) :
    Calls Try.prog 11 #[.slice s n c] w (CopySaid w n (fun i => .string (S i))) := by
  have heq : ∀ (w : World), (binOp .eql 22 (.slice s n c) (.slice none 0 0)).run Try.prog w = .ok (.bool s.isNone) w := fun w => Lib.run_eql_slice_nil w 22 9 s n c 0 0 Try.underlying22
  cases s with
  | none =>
    obtain rfl := hs rfl
    go_enter Try.func11, Try.ntmps11
    go_wp2
    go_ret
    exact ⟨_, rfl, SliceAt.nil _ _ _, Below.refl _ _⟩
  | some a =>
    have hmk := run_make_row' (P := Try.prog) 22 9 (.string ByteArray.empty) 16 Try.underlying22 Try.info9 rfl .i64 .i64 n (by omega) (by omega)
    go_enter Try.func11, Try.ntmps11
    go_wp2
    clear hmk heq
    go_loopg [4] n (fun g i wr => ∃ k : Nat, k ≤ n ∧ g = n - k ∧ i = .int .i64 k ∧ Below w.heap.size w wr ∧ wr.rowIs w.heap.size 9 n (fun j => if j < k then .string (S j) else .string ByteArray.empty))
    case atStart => exact ⟨0, Nat.zero_le _, rfl, rfl, (Below.refl _ _).alloc (Nat.le_refl _) _, (World.rowIs_made w _ n 9).congr (fun j _ => by simp)⟩
    case round =>
      obtain ⟨k, hk, rfl, rfl, hB, hR⟩ := hrel
      by_cases hlt : k < n
      · obtain ⟨ha, hcell⟩ := hc k hlt
        obtain rfl : a = ⟨b, o, none⟩ := by simpa using ha
        have hz : (k : Int) < (n : Int) := by omega
        have h1 := cell_later hB hcell
        have h2 := hR.cell hlt
        simp only [Nat.lt_irrefl, if_false] at h2
        have h3 := hR.frozen k
        clear ha hc
        go_wp2
        go_roundg (n - (k + 1))
        case measure => omega
        case rel => exact ⟨k + 1, by omega, rfl, by go_num, hB.setCell (Nat.le_refl _) _, cp_step (V := fun j => .string (S j)) hR⟩
      · have hz : ¬ ((k : Int) < (n : Int)) := by omega
        obtain rfl : k = n := by omega
        clear hc
        go_wp2
        go_ret
        exact ⟨_, rfl, SliceAt.ofRow (hR.congr fun j hj => by simp [hj]) (Nat.le_refl _), hB⟩

set_option maxHeartbeats 800000 in
theorem copyBools_any (s : Option Addr) (n b o c : Nat) (S : Nat → Bool) (w : World) (hn : n ≤ 1048576)
    (hc : ∀ i, i < n → s = some ⟨b, o, none⟩ ∧ w.cell? ⟨b, o + i, none⟩ = some (.bool (S i))) (hs : s = none → n = 0) :
    Calls Try.prog 14 #[.slice s n c] w (CopySaid w n (fun i => .bool (S i))) := by
  have heq : ∀ (w : World), (binOp .eql 25 (.slice s n c) (.slice none 0 0)).run Try.prog w = .ok (.bool s.isNone) w := fun w => Lib.run_eql_slice_nil w 25 4 s n c 0 0 Try.underlying25
  cases s with
  | none =>
    obtain rfl := hs rfl
    go_enter Try.func14, Try.ntmps14
    go_wp2
    go_ret
    exact ⟨_, rfl, SliceAt.nil _ _ _, Below.refl _ _⟩
  | some a =>
    have hmk := run_make_row' (P := Try.prog) 25 4 (.bool false) 1 Try.underlying25 Try.info4 rfl .i64 .i64 n (by omega) (by omega)
    go_enter Try.func14, Try.ntmps14
    go_wp2
    clear hmk heq
    go_loopg [4] n (fun g i wr => ∃ k : Nat, k ≤ n ∧ g = n - k ∧ i = .int .i64 k ∧ Below w.heap.size w wr ∧ wr.rowIs w.heap.size 4 n (fun j => if j < k then .bool (S j) else .bool false))
    case atStart => exact ⟨0, Nat.zero_le _, rfl, rfl, (Below.refl _ _).alloc (Nat.le_refl _) _, (World.rowIs_made w _ n 4).congr (fun j _ => by simp)⟩
    case round =>
      obtain ⟨k, hk, rfl, rfl, hB, hR⟩ := hrel
      by_cases hlt : k < n
      · obtain ⟨ha, hcell⟩ := hc k hlt
        obtain rfl : a = ⟨b, o, none⟩ := by simpa using ha
        have hz : (k : Int) < (n : Int) := by omega
        have h1 := cell_later hB hcell
        have h2 := hR.cell hlt
        simp only [Nat.lt_irrefl, if_false] at h2
        have h3 := hR.frozen k
        clear ha hc
        go_wp2
        go_roundg (n - (k + 1))
        case measure => omega
        case rel => exact ⟨k + 1, by omega, rfl, by go_num, hB.setCell (Nat.le_refl _) _, cp_step (V := fun j => .bool (S j)) hR⟩
      · have hz : ¬ ((k : Int) < (n : Int)) := by omega
        obtain rfl : k = n := by omega
        clear hc
        go_wp2
        go_ret
        exact ⟨_, rfl, SliceAt.ofRow (hR.congr fun j hj => by simp [hj]) (Nat.le_refl _), hB⟩

/-- A slice of slices: row i has K i elements, of cell values F i k. -/
def RowsAt (w : World) (lo : Nat) (v : Value) (n : Nat) (K : Nat → Nat) (F : Nat → Nat → Value) : Prop :=
  ∃ V : Nat → Value, SliceAt w lo v n V ∧ ∀ i, i < n → SliceAt w lo (V i) (K i) (F i)

theorem RowsAt.keep {w w' : World} {lo n : Nat} {v : Value} {K : Nat → Nat} {F : Nat → Nat → Value} (h : RowsAt w lo v n K F) (hb : Below w.heap.size w w') : RowsAt w' lo v n K F := by
  obtain ⟨V, h1, h2⟩ := h
  exact ⟨V, h1.keep hb, fun i hi => (h2 i hi).keep hb⟩

theorem RowsAt.low {w : World} {lo lo' n : Nat} {v : Value} {K : Nat → Nat} {F : Nat → Nat → Value} (h : RowsAt w lo v n K F) (hl : lo' ≤ lo) : RowsAt w lo' v n K F := by
  obtain ⟨V, h1, h2⟩ := h
  exact ⟨V, h1.low hl, fun i hi => (h2 i hi).low hl⟩

theorem shapes {w : World} {lo n : Nat} {V : Nat → Value} {K : Nat → Nat} {F : Nat → Nat → Value} (hV : ∀ i, i < n → SliceAt w lo (V i) (K i) (F i)) :
    ∃ (A : Nat → Option Addr) (C : Nat → Nat), ∀ i, i < n → V i = .slice (A i) (K i) (C i) := by
  obtain ⟨f, hf⟩ := Go.Deep.choose_lt (α := Option Addr × Nat) (p := fun i y => V i = .slice y.1 (K i) y.2) (fun i hi => by
    obtain ⟨a, b, o, c, hv, _⟩ := hV i hi
    exact ⟨(a, c), hv⟩)
  exact ⟨fun i => (f i).1, fun i => (f i).2, hf⟩

def RowsSaid (w : World) (n : Nat) (K : Nat → Nat) (F : Nat → Nat → Value) (e : Ending) (w' : World) : Prop :=
  ∃ v, e = .returned v ∧ RowsAt w' w.heap.size v n K F ∧ Below w.heap.size w w'

/-- A copy of rows, k of them made: the row of rows lies in block w.heap.size. -/
def Part (w wr : World) (t n : Nat) (K : Nat → Nat) (F : Nat → Nat → Value) (k : Nat) : Prop :=
  ∃ V : Nat → Value, wr.rowIs w.heap.size t n (fun j => if j < k then V j else .slice none 0 0) ∧ ∀ j, j < k → SliceAt wr (w.heap.size + 1) (V j) (K j) (F j)

theorem part_start (w : World) (t n : Nat) (K : Nat → Nat) (F : Nat → Nat → Value) : Part w (w.alloc (.cells (madeCells #[.slice none 0 0] n) t)) t n K F 0 :=
  ⟨fun _ => .slice none 0 0, (World.rowIs_made w _ n t).congr (fun j _ => by simp), fun j hj => absurd hj (Nat.not_lt_zero _)⟩

theorem Part.lt {w wr : World} {t n k : Nat} {K : Nat → Nat} {F : Nat → Nat → Value} (h : Part w wr t n K F k) : w.heap.size < wr.heap.size := by
  obtain ⟨V, h1, _⟩ := h
  exact h1.lt

theorem Part.at {w wr w1 : World} {t n k : Nat} {K : Nat → Nat} {F : Nat → Nat → Value} (h : Part w wr t n K F k) (hk : k < n) (hb : Below wr.heap.size wr w1) :
    w1.cell? ⟨w.heap.size, k, none⟩ = some (.slice none 0 0) ∧ w1.frozen? ⟨w.heap.size, k, none⟩ = false := by
  obtain ⟨V, h1, _⟩ := h
  have h1' := h1.of_block (hb.block _ h1.lt)
  exact ⟨by simpa using h1'.cell hk, h1'.frozen k⟩

theorem part_step {w wr w1 : World} {t n k : Nat} {K : Nat → Nat} {F : Nat → Nat → Value} {v : Value} (h : Part w wr t n K F k) (hk : k < n) (hv : SliceAt w1 wr.heap.size v (K k) (F k)) (hb : Below wr.heap.size wr w1) :
    Part w (w1.setCell ⟨w.heap.size, k, none⟩ v) t n K F (k + 1) := by
  obtain ⟨V, h1, h2⟩ := h
  have hlt := h1.lt
  have h1' := h1.of_block (hb.block _ h1.lt)
  refine ⟨fun j => if j = k then v else V j, ((h1'.set k v).congr fun j hj => ?_), fun j hj => ?_⟩
  · by_cases e : j = k
    · subst e; simp
    · simp only [if_neg e]
      by_cases hlt : j < k
      · rw [if_pos hlt, if_pos (by omega)]
      · rw [if_neg hlt, if_neg (by omega)]
  · by_cases e : j = k
    · subst e
      simp only [if_true]
      exact (hv.low (by omega)).setCell (by show w.heap.size < w.heap.size + 1; omega) _
    · simp only [if_neg e]
      exact ((h2 j (by omega)).keep hb).setCell (by show w.heap.size < w.heap.size + 1; omega) _

theorem part_done {w wr : World} {t n : Nat} {K : Nat → Nat} {F : Nat → Nat → Value} (h : Part w wr t n K F n) : RowsAt wr w.heap.size (.slice (some ⟨w.heap.size, 0, none⟩) n n) n K F := by
  obtain ⟨V, h1, h2⟩ := h
  exact ⟨V, SliceAt.ofRow (h1.congr fun j hj => by simp [hj]) (Nat.le_refl _), fun i hi => (h2 i hi).low (by omega)⟩

theorem copyStrings_sl {w : World} {lo n : Nat} {v : Value} {S : Nat → ByteArray} (hn : n ≤ 1048576) (h : SliceAt w lo v n (fun i => .string (S i))) :
    Calls Try.prog 11 #[v] w (CopySaid w n (fun i => .string (S i))) := by
  obtain ⟨a, b, o, c, rfl, hc⟩ := h
  refine copyStrings_any a n b o c S w hn (fun i hi => ⟨(hc i hi).1, (hc i hi).2.2⟩) (fun h => ?_)
  rcases Nat.eq_zero_or_pos n with h0 | h0
  · exact h0
  · have := (hc 0 h0).1; rw [h] at this; cases this

set_option maxHeartbeats 800000 in
theorem copyStrings2_any (s : Option Addr) (n b o c : Nat) (A : Nat → Option Addr) (K C : Nat → Nat) (R : Nat → Nat → ByteArray) (w : World) (hn : n ≤ 1048576) (hK : ∀ i, i < n → K i ≤ 1048576)
    (hc : ∀ i, i < n → s = some ⟨b, o, none⟩ ∧ w.cell? ⟨b, o + i, none⟩ = some (.slice (A i) (K i) (C i))) (hs : s = none → n = 0)
    (hR : ∀ i, i < n → SliceAt w 0 (.slice (A i) (K i) (C i)) (K i) (fun k => .string (R i k))) :
    Calls Try.prog 12 #[.slice s n c] w (RowsSaid w n K (fun i k => .string (R i k))) := by
  have heq : ∀ (w : World), (binOp .eql 23 (.slice s n c) (.slice none 0 0)).run Try.prog w = .ok (.bool s.isNone) w := fun w => Lib.run_eql_slice_nil w 23 22 s n c 0 0 Try.underlying23
  cases s with
  | none =>
    obtain rfl := hs rfl
    clear hR
    go_enter Try.func12, Try.ntmps12
    go_wp2
    go_ret
    exact ⟨_, rfl, ⟨fun _ => .slice none 0 0, SliceAt.nil _ _ _, fun i hi => absurd hi (Nat.not_lt_zero _)⟩, Below.refl _ _⟩
  | some a =>
    have hmk := run_make_row' (P := Try.prog) 23 22 (.slice none 0 0) 24 Try.underlying23 Try.info22 rfl .i64 .i64 n (by omega) (by omega)
    have HR : Hid (∀ i, i < n → SliceAt w 0 (.slice (A i) (K i) (C i)) (K i) (fun k => .string (R i k))) := hR
    clear hR
    go_enter Try.func12, Try.ntmps12
    go_wp2
    clear hmk heq
    go_loopg [4] n (fun g i wr => ∃ k : Nat, k ≤ n ∧ g = n - k ∧ i = .int .i64 k ∧ Below w.heap.size w wr ∧ Part w wr 22 n K (fun i k => .string (R i k)) k)
    case atStart => exact ⟨0, Nat.zero_le _, rfl, rfl, (Below.refl _ _).alloc (Nat.le_refl _) _, part_start w 22 n K _⟩
    case round =>
      obtain ⟨k, hk, rfl, rfl, hB, hP⟩ := hrel
      by_cases hlt : k < n
      · obtain ⟨ha, hcell⟩ := hc k hlt
        obtain rfl : a = ⟨b, o, none⟩ := by simpa using ha
        have hz : (k : Int) < (n : Int) := by omega
        have h1 := cell_later hB hcell
        have hKk := hK k hlt
        have hsl := (HR.out k hlt).keep hB
        have hgs : w.heap.size < wr.heap.size := hP.lt
        clear ha hc
        go_wp2_with fail
        refine (copyStrings_sl hKk hsl).mono ?_
        rintro e w1 ⟨v, rfl, hv, hB1⟩
        have hP1 := part_step hP hlt hv hB1
        obtain ⟨h2, h3⟩ := hP.at hlt hB1
        obtain ⟨va, vb, vo, vc, rfl, _⟩ := hv
        clear hsl hP h1
        go_wp2
        go_roundg (n - (k + 1))
        case measure => omega
        case rel => exact ⟨k + 1, by omega, rfl, by go_num, (hB.trans (hB1.mono (by omega))).setCell (Nat.le_refl _) _, hP1⟩
      · have hz : ¬ ((k : Int) < (n : Int)) := by omega
        obtain rfl : k = n := by omega
        clear hc
        go_wp2
        go_ret
        exact ⟨_, rfl, part_done hP, hB⟩

theorem copyStrings2_sl {w : World} {n : Nat} {v : Value} {K : Nat → Nat} {R : Nat → Nat → ByteArray} (hn : n ≤ 1048576) (hK : ∀ i, i < n → K i ≤ 1048576) (h : RowsAt w 0 v n K (fun i k => .string (R i k))) :
    Calls Try.prog 12 #[v] w (RowsSaid w n K (fun i k => .string (R i k))) := by
  obtain ⟨V, ⟨a, b, o, c, rfl, hc⟩, hV⟩ := h
  obtain ⟨A, C, hA⟩ := shapes hV
  refine copyStrings2_any a n b o c A K C R w hn hK (fun i hi => ⟨(hc i hi).1, by rw [← hA i hi]; exact (hc i hi).2.2⟩) (fun h => ?_) (fun i hi => by rw [← hA i hi]; exact hV i hi)
  rcases Nat.eq_zero_or_pos n with h0 | h0
  · exact h0
  · have := (hc 0 h0).1; rw [h] at this; cases this

theorem copyBools_sl {w : World} {lo n : Nat} {v : Value} {S : Nat → Bool} (hn : n ≤ 1048576) (h : SliceAt w lo v n (fun i => .bool (S i))) :
    Calls Try.prog 14 #[v] w (CopySaid w n (fun i => .bool (S i))) := by
  obtain ⟨a, b, o, c, rfl, hc⟩ := h
  refine copyBools_any a n b o c S w hn (fun i hi => ⟨(hc i hi).1, (hc i hi).2.2⟩) (fun h => ?_)
  rcases Nat.eq_zero_or_pos n with h0 | h0
  · exact h0
  · have := (hc 0 h0).1; rw [h] at this; cases this

set_option maxHeartbeats 800000 in
theorem copyBools2_any (s : Option Addr) (n b o c : Nat) (A : Nat → Option Addr) (K C : Nat → Nat) (R : Nat → Nat → Bool) (w : World) (hn : n ≤ 1048576) (hK : ∀ i, i < n → K i ≤ 1048576)
    (hc : ∀ i, i < n → s = some ⟨b, o, none⟩ ∧ w.cell? ⟨b, o + i, none⟩ = some (.slice (A i) (K i) (C i))) (hs : s = none → n = 0)
    (hR : ∀ i, i < n → SliceAt w 0 (.slice (A i) (K i) (C i)) (K i) (fun k => .bool (R i k))) :
    Calls Try.prog 13 #[.slice s n c] w (RowsSaid w n K (fun i k => .bool (R i k))) := by
  have heq : ∀ (w : World), (binOp .eql 24 (.slice s n c) (.slice none 0 0)).run Try.prog w = .ok (.bool s.isNone) w := fun w => Lib.run_eql_slice_nil w 24 25 s n c 0 0 Try.underlying24
  cases s with
  | none =>
    obtain rfl := hs rfl
    clear hR
    go_enter Try.func13, Try.ntmps13
    go_wp2
    go_ret
    exact ⟨_, rfl, ⟨fun _ => .slice none 0 0, SliceAt.nil _ _ _, fun i hi => absurd hi (Nat.not_lt_zero _)⟩, Below.refl _ _⟩
  | some a =>
    have hmk := run_make_row' (P := Try.prog) 24 25 (.slice none 0 0) 24 Try.underlying24 Try.info25 rfl .i64 .i64 n (by omega) (by omega)
    have HR : Hid (∀ i, i < n → SliceAt w 0 (.slice (A i) (K i) (C i)) (K i) (fun k => .bool (R i k))) := hR
    clear hR
    go_enter Try.func13, Try.ntmps13
    go_wp2
    clear hmk heq
    go_loopg [4] n (fun g i wr => ∃ k : Nat, k ≤ n ∧ g = n - k ∧ i = .int .i64 k ∧ Below w.heap.size w wr ∧ Part w wr 25 n K (fun i k => .bool (R i k)) k)
    case atStart => exact ⟨0, Nat.zero_le _, rfl, rfl, (Below.refl _ _).alloc (Nat.le_refl _) _, part_start w 25 n K _⟩
    case round =>
      obtain ⟨k, hk, rfl, rfl, hB, hP⟩ := hrel
      by_cases hlt : k < n
      · obtain ⟨ha, hcell⟩ := hc k hlt
        obtain rfl : a = ⟨b, o, none⟩ := by simpa using ha
        have hz : (k : Int) < (n : Int) := by omega
        have h1 := cell_later hB hcell
        have hKk := hK k hlt
        have hsl := (HR.out k hlt).keep hB
        have hgs : w.heap.size < wr.heap.size := hP.lt
        clear ha hc
        go_wp2_with fail
        refine (copyBools_sl hKk hsl).mono ?_
        rintro e w1 ⟨v, rfl, hv, hB1⟩
        have hP1 := part_step hP hlt hv hB1
        obtain ⟨h2, h3⟩ := hP.at hlt hB1
        obtain ⟨va, vb, vo, vc, rfl, _⟩ := hv
        clear hsl hP h1
        go_wp2
        go_roundg (n - (k + 1))
        case measure => omega
        case rel => exact ⟨k + 1, by omega, rfl, by go_num, (hB.trans (hB1.mono (by omega))).setCell (Nat.le_refl _) _, hP1⟩
      · have hz : ¬ ((k : Int) < (n : Int)) := by omega
        obtain rfl : k = n := by omega
        clear hc
        go_wp2
        go_ret
        exact ⟨_, rfl, part_done hP, hB⟩

theorem copyBools2_sl {w : World} {n : Nat} {v : Value} {K : Nat → Nat} {R : Nat → Nat → Bool} (hn : n ≤ 1048576) (hK : ∀ i, i < n → K i ≤ 1048576) (h : RowsAt w 0 v n K (fun i k => .bool (R i k))) :
    Calls Try.prog 13 #[v] w (RowsSaid w n K (fun i k => .bool (R i k))) := by
  obtain ⟨V, ⟨a, b, o, c, rfl, hc⟩, hV⟩ := h
  obtain ⟨A, C, hA⟩ := shapes hV
  refine copyBools2_any a n b o c A K C R w hn hK (fun i hi => ⟨(hc i hi).1, by rw [← hA i hi]; exact (hc i hi).2.2⟩) (fun h => ?_) (fun i hi => by rw [← hA i hi]; exact hV i hi)
  rcases Nat.eq_zero_or_pos n with h0 | h0
  · exact h0
  · have := (hc 0 h0).1; rw [h] at this; cases this
end Go.Proofs.Qxb6603821a
