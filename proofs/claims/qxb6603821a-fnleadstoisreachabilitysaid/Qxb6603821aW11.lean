import Derived.Test.Qxb6603821aW10
namespace Go.Proofs.Qxb6603821a
open Go.RowKit Go.WideMaps Go.Maps
set_option linter.unusedVariables false
set_option linter.unusedSimpArgs false

def Apart (S : Nat → ByteArray) (n : Nat) : Prop := ∀ i, i < n → place S i (S i) = none

def IndexSaid (w : World) (S : Nat → ByteArray) (n : Nat) (e : Ending) (w' : World) : Prop :=
  ∃ mb r, e = .returned (.tuple #[.map (some mb), .bool r]) ∧ (r = true ↔ Apart S n) ∧ (r = true → MapAt w' mb n (place S n)) ∧ Below w.heap.size w w'

set_option maxHeartbeats 800000 in
theorem nameIndex_any (na : Option Addr) (n nb no nc : Nat) (S : Nat → ByteArray) (w : World) (hn0 : n ≤ 1048576) (hS : ∀ i, i < n → (S i).size ≤ maxLen)
    (hn : ∀ i, i < n → na = some ⟨nb, no, none⟩ ∧ w.cell? ⟨nb, no + i, none⟩ = some (.string (S i))) :
    Calls Try.prog 10 #[.slice na n nc] w (IndexSaid w S n) := by
  have hmm := run_makeHint n
  have HS : Hid (∀ i, i < n → (S i).size ≤ maxLen) := hS
  clear hS
  go_enter Try.func10, Try.ntmps10
  go_wp2
  clear hmm
  go_loopg [5] n (fun g ii wr => ∃ i : Nat, i ≤ n ∧ g = n - i ∧ ii = .int .i64 i ∧ Apart S i ∧ MapAt wr w.heap.size i (place S i) ∧ Below w.heap.size w wr)
  case atStart => exact ⟨0, Nat.zero_le _, rfl, rfl, fun i hi => absurd hi (Nat.not_lt_zero _), mapAt_made w, (Below.refl _ _).alloc (Nat.le_refl _) _⟩
  case round =>
    obtain ⟨i, hi, rfl, rfl, hA, hM, hB⟩ := hrel
    by_cases hlt : i < n
    · have hiz : (i : Int) < (n : Int) := by omega
      obtain ⟨rfl, x1⟩ := hn i hlt
      have y1 := cell_later hB x1
      have hlook := hM.look (HS.out i hlt)
      have HA : Hid (Apart S i) := hA
      clear hA
      cases hp : place S i (S i) with
      | some j =>
        rw [hp] at hlook
        simp only [Option.isSome, Option.getD] at hlook
        have HP : Hid (place S i (S i) = some j) := hp
        clear hp
        go_wp2
        go_ret2
        exact ⟨_, false, rfl, ⟨fun h => (by cases h), fun h => by have := h i hlt; rw [HP.out] at this; cases this⟩, fun h => (by cases h), hB⟩
      | none =>
        rw [hp] at hlook
        simp only [Option.isSome, Option.getD] at hlook
        have HP : Hid (place S i (S i) = none) := hp
        clear hp
        obtain ⟨w3, hrun, hm3, hg3⟩ := hM.store (by unfold maxLen; omega) (HS.out i hlt) i (by omega)
        have HM3 : Hid (MapAt w3 w.heap.size (i + 1) (place S (i + 1))) := hm3
        have HB3 : Hid (Below w.heap.size w w3) := hB.grown hg3 hB.size (fun k hk => by simp at hk; omega)
        clear hm3 hg3 hB hM
        go_wp2
        go_roundg (n - (i + 1))
        case measure => omega
        case rel =>
          refine ⟨i + 1, by omega, rfl, by go_num, fun j hj => ?_, HM3.out, HB3.out⟩
          by_cases e : j = i
          · subst e; exact HP.out
          · exact HA.out j (by omega)
    · have hiz : ¬ ((i : Int) < (n : Int)) := by omega
      obtain rfl : i = n := by omega
      go_wp2
      go_ret2
      exact ⟨_, true, rfl, ⟨fun _ => hA, fun _ => rfl⟩, fun _ => hM, hB⟩

theorem nameIndex_sl {w : World} {n : Nat} {S : Nat → ByteArray} {nv : Value} (hn0 : n ≤ 1048576) (hS : ∀ i, i < n → (S i).size ≤ maxLen) (hnv : SliceAt w 0 nv n (fun i => .string (S i))) :
    Calls Try.prog 10 #[nv] w (IndexSaid w S n) := by
  obtain ⟨na, nb, no, nc, rfl, h1⟩ := hnv
  exact nameIndex_any na n nb no nc S w hn0 hS (fun i hi => ⟨(h1 i hi).1, (h1 i hi).2.2⟩)

set_option maxHeartbeats 400000 in
theorem marked_any (ca : Option Addr) (L C cb co k : Nat) (B : Nat → Bool) (r : Bool) (w : World)
    (hca : ∀ c, c < L → ca = some ⟨cb, co, none⟩ ∧ w.cell? ⟨cb, co + c, none⟩ = some (.bool (B c))) (hr : (decide (k < L) && B k) = r) :
    Calls Try.prog 26 #[.slice ca L C, .int .i64 k] w fun e w' => e = .returned (.bool r) ∧ w' = w := by
  have HR : Hid ((decide (k < L) && B k) = r) := hr
  clear hr
  by_cases h : k < L
  · obtain ⟨rfl, hc⟩ := hca k h
    have hz : (k : Int) < (L : Int) := by omega
    clear hca
    go_enter Try.func26, Try.ntmps26
    go_wp2
    go_ret
    exact ⟨by rw [← HR.out]; simp [h], rfl⟩
  · have hz : ¬ ((k : Int) < (L : Int)) := by omega
    clear hca
    go_enter Try.func26, Try.ntmps26
    go_wp2
    go_ret
    exact ⟨by rw [← HR.out]; simp [h], rfl⟩

theorem Try.info42 : (Try.prog.info? 42).map (fun i => (i.zero, i.size, i.bytes)) = some (some (.slice none 0 0), 1, 24) := by kernel_rfl

theorem SliceAt.kept {w w' : World} {lo n : Nat} {v : Value} {V : Nat → Value} (h : SliceAt w lo v n V) (hk : ∀ b, lo ≤ b → b < w.heap.size → w'.heap[b]? = w.heap[b]?) : SliceAt w' lo v n V := by
  obtain ⟨a, b, o, c, hv, hc⟩ := h
  refine ⟨a, b, o, c, hv, fun i hi => ⟨(hc i hi).1, (hc i hi).2.1, ?_⟩⟩
  have hl := World.block_lt_of_cell? _ _ (hc i hi).2.2
  exact (World.cell?_of_block (w := w) (hk b (hc i hi).2.1 hl)).trans (hc i hi).2.2

/-- One row of numbers in the making: k of its cells are filled; W1: the world ahead of that row. -/
structure InRow (w W1 wi : World) (n i k Ki : Nat) (V : Nat → Value) (Z : Nat → Value) : Prop where
  below : Below w.heap.size w wi
  keep : ∀ b, b < W1.heap.size → b ≠ w.heap.size → wi.heap[b]? = W1.heap[b]?
  top : wi.rowIs w.heap.size 42 n (fun j => if j < i then V j else if j = i then .slice (some ⟨W1.heap.size, 0, none⟩) Ki Ki else .slice none 0 0)
  cur : wi.rowIs W1.heap.size 3 Ki (fun j => if j < k then Z j else .int .i64 0)

theorem inRow_start {w W1 : World} {n i Ki : Nat} {V Z : Nat → Value} (hB : Below w.heap.size w W1) (hg : w.heap.size < W1.heap.size) (h : W1.rowIs w.heap.size 42 n (fun j => if j < i then V j else .slice none 0 0)) :
    InRow w W1 ((W1.setCell ⟨w.heap.size, i, none⟩ (.slice (some ⟨W1.heap.size, 0, none⟩) Ki Ki)).alloc (.cells (madeCells #[.int .i64 0] Ki) 3)) n i 0 Ki V Z := by
  have e1 : (W1.setCell ⟨w.heap.size, i, none⟩ (.slice (some ⟨W1.heap.size, 0, none⟩) Ki Ki)).heap.size = W1.heap.size := by simp [World.setCell]
  have hnew := World.rowIs_made (W1.setCell ⟨w.heap.size, i, none⟩ (.slice (some ⟨W1.heap.size, 0, none⟩) Ki Ki)) (.int .i64 0) Ki 3
  rw [e1] at hnew
  refine ⟨(hB.setCell (Nat.le_refl _) _).alloc (by rw [e1]; omega) _, fun b hb hne => ?_, ((h.set i _).alloc _).congr fun j _ => ?_, hnew.congr fun j _ => by simp⟩
  · rw [Below.heap_alloc _ _ _ (by rw [e1]; exact hb), Below.heap_setCell _ _ _ _ hne]
  · by_cases e : j = i
    · subst e; simp
    · simp only [if_neg e]

theorem inRow_step {w W1 wi : World} {n i k Ki : Nat} {V Z : Nat → Value} (hg : w.heap.size < W1.heap.size) (h : InRow w W1 wi n i k Ki V Z) : InRow w W1 (wi.setCell ⟨W1.heap.size, k, none⟩ (Z k)) n i (k + 1) Ki V Z :=
  ⟨h.below.setCell (by show w.heap.size ≤ W1.heap.size; omega) _, fun b hb hne => by rw [Below.heap_setCell _ _ _ _ (by show b ≠ W1.heap.size; omega)]; exact h.keep b hb hne, h.top.setOther (by show w.heap.size ≠ W1.heap.size; omega) _, cp_step h.cur⟩

theorem inRow_done {w W1 wi : World} {n i : Nat} {K : Nat → Nat} {F : Nat → Nat → Value} {V : Nat → Value} (hg : w.heap.size < W1.heap.size) (hV : ∀ j, j < i → SliceAt W1 (w.heap.size + 1) (V j) (K j) (F j)) (h : InRow w W1 wi n i (K i) (K i) V (F i)) :
    Part w wi 42 n K F (i + 1) := by
  refine ⟨upd V i (.slice (some ⟨W1.heap.size, 0, none⟩) (K i) (K i)), h.top.congr fun j hj => ?_, fun j hj => ?_⟩
  · by_cases e : j = i
    · subst e; rw [if_neg (by omega), if_pos rfl, if_pos (by omega), upd_self]
    · by_cases hlt : j < i
      · rw [if_pos hlt, if_pos (by omega), upd_other _ _ _ _ e]
      · rw [if_neg hlt, if_neg e, if_neg (by omega)]
  · by_cases e : j = i
    · subst e
      rw [upd_self]
      exact SliceAt.ofRow (h.cur.congr fun k hk => by simp [hk]) (by omega)
    · rw [upd_other _ _ _ _ e]
      exact (hV j (by omega)).kept fun b hb1 hb2 => h.keep b hb2 (by omega)

set_option maxHeartbeats 1600000 in
theorem resolve_any (ra : Option Addr) (n rb ro rc mb mn : Nat) (A : Nat → Option Addr) (K C RB RO : Nat → Nat) (R : Nat → Nat → ByteArray) (f : ByteArray → Option Nat) (w : World) (hn0 : n ≤ 1048576)
    (hr : ∀ i, i < n → ra = some ⟨rb, ro, none⟩ ∧ w.cell? ⟨rb, ro + i, none⟩ = some (.slice (A i) (K i) (C i)))
    (hrr : ∀ i, i < n → ∀ k, k < K i → A i = some ⟨RB i, RO i, none⟩ ∧ w.cell? ⟨RB i, RO i + k, none⟩ = some (.string (R i k)))
    (hK : ∀ i, i < n → K i ≤ 1048576) (hR : ∀ i, i < n → ∀ k, k < K i → (R i k).size ≤ maxLen) (hM : MapAt w mb mn f) :
    Calls Try.prog 16 #[.map (some mb), .slice ra n rc] w (RowsSaid w n K (fun i k => .int .i64 (edgeZ (f (R i k))))) := by
  have hmk := run_make_row' (P := Try.prog) 36 42 (.slice none 0 0) 24 Try.underlying36 Try.info42 rfl .i64 .i64 n (by omega) (by omega)
  have HM : Hid (MapAt w mb mn f) := hM
  have HR : Hid (∀ i, i < n → ∀ k, k < K i → (R i k).size ≤ maxLen) := hR
  clear hM hR
  go_enter Try.func16, Try.ntmps16
  go_wp2
  clear hmk
  go_loopg [6] n (fun g ii wr => ∃ i : Nat, i ≤ n ∧ g = n - i ∧ ii = .int .i64 i ∧ Below w.heap.size w wr ∧ Part w wr 42 n K (fun i k => .int .i64 (edgeZ (f (R i k)))) i)
  case atStart => exact ⟨0, Nat.zero_le _, rfl, rfl, (Below.refl _ _).alloc (Nat.le_refl _) _, part_start w 42 n K _⟩
  case round =>
    obtain ⟨i, hi, rfl, rfl, hB, hP⟩ := hrel
    rename World => W1
    by_cases hlt : i < n
    · have hiz : (i : Int) < (n : Int) := by omega
      obtain ⟨rfl, x1⟩ := hr i hlt
      have y1 := cell_later hB x1
      have hKi := hK i hlt
      have hmk := run_make_row' (P := Try.prog) 42 3 (.int .i64 0) 8 Try.underlying42 Try.info3 rfl .i64 .i64 (K i) (by omega) (by omega)
      have hgs := hP.lt
      obtain ⟨V, hV1, hV2⟩ := hP
      have t1 := fun o => (hV1.alloc o).cell hlt
      simp only [Nat.lt_irrefl, if_false] at t1
      have t2 := fun o => (hV1.alloc o).frozen i
      have y1' : ∀ o v, ((W1.alloc o).setCell ⟨w.heap.size, i, none⟩ v).cell? ⟨rb, ro + i, none⟩ = some (.slice (A i) (K i) (C i)) := fun o v =>
        cell_later ((hB.alloc (by omega) o).setCell (Nat.le_refl _) v) x1
      go_wp2
      clear hmk t1 t2
      have hI0 := inRow_start (i := i) (Ki := K i) (Z := fun k => Value.int .i64 (edgeZ (f (R i k)))) hB hgs hV1
      clear y1 y1' hB
      go_loopg [7] (K i) (fun g kk wi => ∃ k : Nat, k ≤ K i ∧ g = K i - k ∧ kk = .int .i64 k ∧ InRow w W1 wi n i k (K i) V (fun k => Value.int .i64 (edgeZ (f (R i k)))))
      case atStart => exact ⟨0, Nat.zero_le _, rfl, rfl, hI0⟩
      case round =>
        obtain ⟨k, hk, rfl, rfl, hI⟩ := hrel
        clear hI0
        have y1 := cell_later hI.below x1
        by_cases hlt2 : k < K i
        · have hkz : (k : Int) < (K i : Int) := by omega
          obtain ⟨hA, x2⟩ := hrr i hlt k hlt2
          rw [hA] at y1
          have y2 := cell_later hI.below x2
          have hlook := (HM.out.of_block (w' := wr) (hI.below.block _ HM.out.lt)).look (HR.out i hlt k hlt2)
          have t1 := hI.top.cell hlt
          rw [if_neg (Nat.lt_irrefl _), if_pos rfl] at t1
          have t2 := hI.cur.cell hlt2
          rw [if_neg (Nat.lt_irrefl _)] at t2
          have t3 := hI.cur.frozen k
          have hst := inRow_step hgs hI
          clear hA x2 hI
          cases hp : f (R i k) with
          | none =>
            rw [hp] at hlook hst
            simp only [Option.isSome, Option.getD] at hlook
            have HS : Hid (InRow w W1 (wr.setCell ⟨W1.heap.size, k, none⟩ (.int .i64 (-1))) n i (k + 1) (K i) V (fun k => Value.int .i64 (edgeZ (f (R i k))))) := hst
            clear hp hst
            go_wp2
            go_roundg (K i - (k + 1))
            case measure => omega
            case rel => exact ⟨k + 1, by omega, rfl, by go_num, HS.out⟩
          | some j =>
            rw [hp] at hlook hst
            simp only [Option.isSome, Option.getD] at hlook
            have HS : Hid (InRow w W1 (wr.setCell ⟨W1.heap.size, k, none⟩ (.int .i64 (j : Int))) n i (k + 1) (K i) V (fun k => Value.int .i64 (edgeZ (f (R i k))))) := hst
            clear hp hst
            go_wp2
            go_roundg (K i - (k + 1))
            case measure => omega
            case rel => exact ⟨k + 1, by omega, rfl, by go_num, HS.out⟩
        · have hkz : ¬ ((k : Int) < (K i : Int)) := by omega
          obtain rfl : k = K i := by omega
          go_wp2
          go_roundg (n - (i + 1))
          case measure => omega
          case rel => exact ⟨i + 1, by omega, rfl, by go_num, hI.below, inRow_done hgs hV2 hI⟩
    · have hiz : ¬ ((i : Int) < (n : Int)) := by omega
      obtain rfl : i = n := by omega
      go_wp2
      go_ret
      exact ⟨_, rfl, part_done hP, hB⟩

theorem resolve_sl {w : World} {n mb mn : Nat} {K : Nat → Nat} {R : Nat → Nat → ByteArray} {f : ByteArray → Option Nat} {rv : Value} (hn0 : n ≤ 1048576) (hK : ∀ i, i < n → K i ≤ 1048576) (hR : ∀ i, i < n → ∀ k, k < K i → (R i k).size ≤ maxLen)
    (hM : MapAt w mb mn f) (hrv : RowsAt w 0 rv n K (fun i k => .string (R i k))) : Calls Try.prog 16 #[.map (some mb), rv] w (RowsSaid w n K (fun i k => .int .i64 (edgeZ (f (R i k))))) := by
  obtain ⟨V, ⟨ra, rb, ro, rc, rfl, h2⟩, h3⟩ := hrv
  obtain ⟨A, C, RB, RO, h4⟩ := bases h3
  exact resolve_any ra n rb ro rc mb mn A K C RB RO R f w hn0 (fun i hi => ⟨(h2 i hi).1, by rw [← (h4 i hi).1]; exact (h2 i hi).2.2⟩) (fun i hi k hk => (h4 i hi).2 k hk) hK hR hM
end Go.Proofs.Qxb6603821a
