import Derived.Test.Qxb6603821aW8
import Derived.Deep.CutRange
namespace Go.Proofs.Qxb6603821a
open Go.RowKit Go.WideMaps Go.Maps
set_option linter.unusedVariables false
set_option linter.unusedSimpArgs false

theorem row5 (w : World) (a b c d e : Value) (t : TypeId) : (w.alloc (.cells #[a, b, c, d, e] t)).rowIs w.heap.size t 5 (fun j => if j = 0 then a else if j = 1 then b else if j = 2 then c else if j = 3 then d else e) :=
  World.rowIs_alloc w #[a, b, c, d, e] t _ fun i hi => by
    have : i < 5 := hi
    match i, this with
    | 0, _ => rfl
    | 1, _ => rfl
    | 2, _ => rfl
    | 3, _ => rfl
    | 4, _ => rfl

def WaitSaid (w : World) (n : Nat) (S : Nat → ByteArray) (K : Nat → Nat) (R : Nat → Nat → ByteArray) (CL : Nat → Nat) (CB : Nat → Nat → Bool) (D : Nat → Bool) (e : Ending) (w' : World) : Prop :=
  ∃ gb tb mb dv T F CV, e = .returned (.pointer (some ⟨gb, 0, none⟩)) ∧ GraphAt w' gb tb mb n dv T F CV (place S n) K R CL CB D ∧ Below w.heap.size w w'

set_option maxHeartbeats 1600000 in
set_option maxRecDepth 100000 in
theorem waiting_any (na ra ca : Option Addr) (n nb no nc rb ro rc cb co cc : Nat) (S : Nat → ByteArray) (A : Nat → Option Addr) (K C RB RO : Nat → Nat) (R : Nat → Nat → ByteArray) (CA : Nat → Option Addr) (CL CC : Nat → Nat) (CB : Nat → Nat → Bool) (da : Option Addr) (dc : Nat) (D : Nat → Bool)
    (w : World) (hn0 : n ≤ 1048576)
    (hn : ∀ i, i < n → na = some ⟨nb, no, none⟩ ∧ w.cell? ⟨nb, no + i, none⟩ = some (.string (S i))) (hS : ∀ i, i < n → (S i).size ≤ maxLen)
    (hr : ∀ i, i < n → ra = some ⟨rb, ro, none⟩ ∧ w.cell? ⟨rb, ro + i, none⟩ = some (.slice (A i) (K i) (C i)))
    (hrr : ∀ i, i < n → ∀ k, k < K i → A i = some ⟨RB i, RO i, none⟩ ∧ w.cell? ⟨RB i, RO i + k, none⟩ = some (.string (R i k)))
    (hK : ∀ i, i < n → K i ≤ 1048576)
    (hc : ∀ i, i < n → ca = some ⟨cb, co, none⟩ ∧ w.cell? ⟨cb, co + i, none⟩ = some (.slice (CA i) (CL i) (CC i)))
    (hcr : ∀ i, i < n → SliceAt w 0 (.slice (CA i) (CL i) (CC i)) (CL i) (fun k => .bool (CB i k)))
    (hd : SliceAt w 0 (.slice da n dc) n (fun j => .bool (D j))) :
    Calls Try.prog 28 #[.slice na n nc, .slice ra n rc, .slice ca n cc, .slice da n dc] w (WaitSaid w n S K R CL CB D) := by
  have hmk := run_make61 n hn0
  have hmm := run_makeHint n
  have HD : Hid (SliceAt w 0 (.slice da n dc) n (fun j => .bool (D j))) := hd
  have HC : Hid (∀ i, i < n → SliceAt w 0 (.slice (CA i) (CL i) (CC i)) (CL i) (fun k => .bool (CB i k))) := hcr
  clear hd hcr
  go_enter Try.func28, Try.ntmps28
  go_upto_region 1 with fail
  go_cut [9] from 13 to 21 (fun g wx => ∃ gb tb mb, g = .pointer (some ⟨gb, 0, none⟩) ∧ Built w wx gb tb mb n 0 (.slice da n dc) (fun i => .slice (CA i) (CL i) (CC i)) (fun _ => 0) (fun _ => 0) S K R)
  case first =>
    go_region
    all_goals (go_wp2_with fail; go_meet)
    · exact ⟨_, _, _, rfl, built_a _ _ _ _ _ _ _ _ _ _⟩
    · exact ⟨_, _, _, rfl, built_b _ _ _ _ _ _ _ _ _ _⟩
  case rest =>
    obtain ⟨gb, tb, mb, rfl, hB0⟩ := hcut
    clear hmk hmm
    go_wp2
    go_loopg [24] n (fun g ii wr => ∃ (i : Nat) (T F : Nat → Nat), i ≤ n ∧ g = n - i ∧ ii = .int .i64 i ∧ Built w wr gb tb mb n i (.slice da n dc) (fun i => .slice (CA i) (CL i) (CC i)) T F S K R)
    case atStart => exact ⟨0, _, _, Nat.zero_le _, rfl, rfl, hB0⟩
    case round =>
      obtain ⟨i, T, F, hi, rfl, rfl, hB⟩ := hrel
      rename World => W1
      clear hB0
      by_cases hlt : i < n
      · have hiz : (i : Int) < (n : Int) := by omega
        obtain ⟨rfl, x1⟩ := hn i hlt
        obtain ⟨rfl, x2⟩ := hr i hlt
        obtain ⟨rfl, x3⟩ := hc i hlt
        have y2 := cell_later hB.below x2
        have hKi := hK i hlt
        have hmk := run_make65 (K i) hKi
        have y2' := cell_new y2
        obtain ⟨X0, hX0⟩ := rowMade W1 #[.string ByteArray.empty, .string ByteArray.empty, .string ByteArray.empty, .bool false] (K i * 4) 65
        go_wp2
        clear hmk
        go_loopg [38] (K i) (fun g kk wi => ∃ (k : Nat) (X : Nat → Value), k ≤ K i ∧ g = K i - k ∧ kk = .int .i64 k ∧ Below W1.heap.size W1 wi ∧ wi.rowIs W1.heap.size 65 (K i * 4) X ∧ ∀ k', k' < k → X (k' * 4 + 1) = .string (R i k'))
        case atStart => exact ⟨0, X0, Nat.zero_le _, rfl, rfl, (Below.refl _ _).alloc (Nat.le_refl _) _, hX0, fun k' hk' => absurd hk' (Nat.not_lt_zero _)⟩
        case round =>
          obtain ⟨k, X, hk, rfl, rfl, hBi, hX, hXk⟩ := hrel
          clear hX0 y2'
          by_cases hlt2 : k < K i
          · have hkz : (k : Int) < (K i : Int) := by omega
            obtain ⟨hA, x4⟩ := hrr i hlt k hlt2
            rw [hA] at y2
            have y3 := cell_later hBi y2
            have y4 := cell_later hBi (cell_later hB.below x4)
            have s1 := hX.cell (i := k * 4 + 1) (by omega)
            have s2 := hX.frozen (k * 4 + 1)
            have R1 := hX.set (k * 4 + 1) (.string (R i k))
            have R2 := hBi.setCell (p := ⟨W1.heap.size, k * 4 + 1, none⟩) (Nat.le_refl _) (.string (R i k))
            clear hA y2 x4
            go_wp2
            go_roundg (K i - (k + 1))
            case measure => omega
            case rel =>
              refine ⟨k + 1, _, by omega, rfl, by go_num, R2, R1, fun k' hk' => ?_⟩
              by_cases e : k' = k
              · subst e; simp
              · rw [if_neg (by omega)]; exact hXk k' (by omega)
          · have hkz : ¬ ((k : Int) < (K i : Int)) := by omega
            obtain rfl : k = K i := by omega
            have hsz := hBi.size
            have htop := hB.top
            have hgl := hB.gl
            have htl := hB.tl
            have hml := hB.ml
            have hne := hB.ne
            have g0 : wr.cell? ⟨gb, 0, none⟩ = some (.slice (some ⟨tb, 0, none⟩) n n) := cell_later hBi (by simpa using hB.g.cell (i := 0) (by omega))
            have z1 := cell_later hBi (cell_later hB.below x1)
            have z3 := cell_later hBi (cell_later hB.below x3)
            obtain ⟨X1, hX1, _⟩ := hB.t
            have hX2 := hX1.of_block (hBi.block _ (by omega))
            have t1 := cell_new (hX2.cell (i := i * 2) (by omega))
            have t2 := cell_new (hX2.cell (i := i * 2 + 1) (by omega))
            have u1 := fun o => (hX2.alloc o).frozen (i * 2)
            have u2 := fun o => (hX2.alloc o).frozen (i * 2 + 1)
            have g0' := cell_new g0
            have z1' := cell_new z1
            have z3' := cell_new z3
            clear x2 x3 hn hr hc hrr y2
            go_wp2
            go_region
            go_wp2
            have hrow5 := row5 wr (.string (S i)) (.slice none 0 0) (.slice (some ⟨W1.heap.size, 0, none⟩) (K i) (K i)) (.slice none 0 0) (.bool false) 58
            generalize hW2 : ((wr.alloc (.cells #[.string (S i), .slice none 0 0, .slice (some ⟨W1.heap.size, 0, none⟩) (K i) (K i), .slice none 0 0, .bool false] 58)).setCell ⟨tb, i * 2, none⟩ (.pointer (some ⟨wr.heap.size, 0, none⟩))).setCell ⟨tb, i * 2 + 1, none⟩ (.slice (CA i) (CL i) (CC i)) = W2
            have hk : ∀ b, b < wr.heap.size → b ≠ tb → W2.heap[b]? = wr.heap[b]? := fun b hb1 hb2 => by
              rw [← hW2, Below.heap_setCell _ _ _ _ hb2, Below.heap_setCell _ _ _ _ hb2, Below.heap_alloc _ _ _ hb1]
            have HW2 : Hid (_ = W2) := hW2
            clear hW2 t1 t2 u1 u2 g0' z1' z3'
            have nbl := World.block_lt_of_cell? _ _ z1
            have nbl0 := World.block_lt_of_cell? _ _ x1
            simp only at nbl nbl0
            have e1 : W2.cell? ⟨gb, 2, none⟩ = some (.map (some mb)) := by
              rw [World.cell?_of_block (w := wr) (hk gb (by omega) (by omega))]
              exact cell_later hBi (by simpa using hB.g.cell (i := 2) (by omega))
            have e2 : W2.cell? ⟨nb, no + i, none⟩ = some (.string (S i)) := by
              rw [World.cell?_of_block (w := wr) (hk nb nbl (by omega))]
              exact z1
            have hmp : MapAt W2.drew.drew mb i (place S i) := hB.m.of_block ((hk mb (by omega) (by omega)).trans (hBi.block _ (by omega)))
            obtain ⟨w3, hrun, hm3, hg3⟩ := hmp.store (by unfold maxLen; omega) (hS i hlt) i (by omega)
            have HM3 : Hid (MapAt w3 mb (i + 1) (place S (i + 1))) := hm3
            have HG3 : Hid (W2.grownBy w3 (some mb)) := ⟨hg3.os, hg3.tape, hg3.output, hg3.size, hg3.block⟩
            clear hm3 hg3 hmp hk
            go_region
            go_wp2
            have R0 := built_step (w1 := w3) hB hBi ⟨X, hX, hXk⟩ _ _ hrow5 rfl HM3.out (by rw [HW2.out]; exact HG3.out)
            go_roundg (n - (i + 1))
            case measure => omega
            case rel => exact ⟨i + 1, _, _, by omega, rfl, by go_num, R0⟩
      · have hiz : ¬ ((i : Int) < (n : Int)) := by omega
        obtain rfl : i = n := by omega
        go_wp2
        go_ret
        exact ⟨gb, tb, mb, _, T, F, _, rfl, built_done hB HD.out HC.out, hB.below⟩
end Go.Proofs.Qxb6603821a
