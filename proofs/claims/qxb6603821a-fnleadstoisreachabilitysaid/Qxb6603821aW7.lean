import Derived.Test.Qxb6603821aW6
import Derived.Test.Qxb6603821aReach
namespace Go.Proofs.Qxb6603821a
open Go.RowKit Go.WideMaps Go.Maps
set_option linter.unusedVariables false
set_option linter.unusedSimpArgs false

theorem Try.info3 : (Try.prog.info? 3).map (fun i => (i.zero, i.size, i.bytes)) = some (some (.int .i64 0), 1, 8) := by kernel_rfl

theorem GraphAt.keep {w w' : World} {gb tb mb n : Nat} {dv : Value} {T F : Nat → Nat} {CV : Nat → Value} {f : ByteArray → Option Nat} {K : Nat → Nat} {R : Nat → Nat → ByteArray} {CL : Nat → Nat} {CB : Nat → Nat → Bool} {D : Nat → Bool}
    (G : GraphAt w gb tb mb n dv T F CV f K R CL CB D) (hb : Below w.heap.size w w') : GraphAt w' gb tb mb n dv T F CV f K R CL CB D :=
  ⟨cell_later hb G.g0, cell_later hb G.g1, cell_later hb G.g2, G.map.of_block (hb.block _ G.map.lt), G.created.keep hb, fun i hi => cell_later hb (G.t0 i hi), fun i hi => cell_later hb (G.t1 i hi),
    fun i hi => (G.closing i hi).keep hb, fun i hi => cell_later hb (G.tab i hi), fun i hi k hk => cell_later hb (G.keys i hi k hk)⟩

def ints (l : List Nat) : List Value := l.map fun x : Nat => Value.int .i64 (x : Int)
theorem ints_length (l : List Nat) : (ints l).length = l.length := by simp [ints]
theorem ints_snoc (l : List Nat) (i : Nat) : ints (l ++ [i]) = ints l ++ [.int .i64 (i : Int)] := by simp [ints]

/-- A stack of numbers that the call owns from block base on. -/
def StackAt (w : World) (base : Nat) (v : Value) (l : List Nat) : Prop :=
  ∃ g cap, v = .slice (some ⟨g, 0, none⟩) l.length cap ∧ w.ownsRow base 3 1 v l.length (ints l)

theorem StackAt.pop {w : World} {base g cap : Nat} {l : List Nat} {i : Nat} (h : w.ownsRow base 3 1 (.slice (some ⟨g, 0, none⟩) (l.length + 1) cap) (l.length + 1) (ints (l ++ [i]))) :
    StackAt w base (.slice (some ⟨g, 0, none⟩) l.length cap) l ∧ w.cell? ⟨g, l.length, none⟩ = some (.int .i64 (i : Int)) := by
  have hc := h.cellAt l.length (by omega)
  rw [ints_snoc] at h hc
  refine ⟨⟨g, cap, rfl, ownsRow_pop (by simp [ints_length]) h⟩, ?_⟩
  rw [hc, List.getElem?_append_right (by simp [ints_length])]
  simp [ints_length]

theorem ownsRow_cap {w : World} {base g cap n : Nat} {xs : List Value} (h : w.ownsRow base 3 1 (.slice (some ⟨g, 0, none⟩) n cap) n xs) : n ≤ cap ∧ base ≤ g ∧ cap ≤ maxLen := by
  rcases h.2 with ⟨h0, h1⟩ | ⟨g', cap', cur, hv, hb, _, hc, hm, _⟩
  · cases h0
  · cases hv; exact ⟨hc, hb, hm⟩

theorem StackAt.below {w w' : World} {base : Nat} {v : Value} {l : List Nat} (h : StackAt w base v l) (hb : Below w.heap.size w w') : StackAt w' base v l := by
  obtain ⟨g, cap, rfl, ho⟩ := h
  exact ⟨g, cap, rfl, ho.kept (row := none) ⟨hb.os, hb.tape, hb.output, hb.size, fun k hk _ => hb.block k hk⟩ (Or.inr (by simp [Value.ownBlock]))⟩

theorem StackAt.low {w : World} {base : Nat} {v : Value} {l : List Nat} (h : StackAt w base v l) {p : Addr} (hp : p.block < base) (u : Value) : StackAt (w.setCell p u) base v l := by
  obtain ⟨g, cap, rfl, ho⟩ := h
  exact ⟨g, cap, rfl, ownsRow_setCell_below ho hp u⟩

theorem stack_of {w : World} {base : Nat} {v : Value} {l : List Nat} {j : Nat} (h : w.ownsRow base 3 1 v (l.length + 1) (ints l ++ [.int .i64 (j : Int)])) : StackAt w base v (l ++ [j]) := by
  rcases h.2 with ⟨h0, h1⟩ | ⟨g, cap, cur, hv, _⟩
  · omega
  · refine ⟨g, cap, by simpa using hv, ?_⟩
    rw [ints_snoc]
    simpa using h

def LeadsSaid (w : World) (E : Nat → Nat → Prop) (a : Nat) (to : Int) (e : Ending) (w' : World) : Prop :=
  ∃ b : Bool, e = .returned (.bool b) ∧ (b = true ↔ ∃ t : Nat, (t : Int) = to ∧ Reach E a t) ∧ Below w.heap.size w w'

theorem row_mark {w : World} {b n i : Nat} {seen : Nat → Bool} (h : w.rowIs b 4 n (fun j => .bool (seen j))) : (w.setCell ⟨b, i, none⟩ (.bool true)).rowIs b 4 n (fun j => .bool (mark seen i j)) :=
  (h.set i _).congr fun j _ => by simp only [mark]; split <;> rfl

set_option maxHeartbeats 1600000 in
set_option maxRecDepth 100000 in
theorem leadsTo_any (gb tb mb n : Nat) (dv : Value) (T F : Nat → Nat) (CV : Nat → Value) (f : ByteArray → Option Nat) (K : Nat → Nat) (R : Nat → Nat → ByteArray) (CL : Nat → Nat) (CB : Nat → Nat → Bool) (D : Nat → Bool)
    (w : World) (G : GraphAt w gb tb mb n dv T F CV f K R CL CB D) (hn : n ≤ 1048576) (hKb : ∀ i, i < n → K i ≤ 1048576) (hsum : sumTo K n ≤ 1048576)
    (hf : ∀ s j, f s = some j → j < n) (hR : ∀ i, i < n → ∀ k, k < K i → (R i k).size ≤ maxLen)
    (a : Nat) (ha : a < n) (to : Int) :
    Calls Try.prog 29 #[.pointer (some ⟨gb, 0, none⟩), .int .i64 a, .int .i64 to] w (LeadsSaid w (E n K (edge f R CL CB D)) a to) := by
  have c0 := G.g0
  have hmk := run_make_row' (P := Try.prog) 25 4 (.bool false) 1 Try.underlying25 Try.info4 rfl .i64 .i64 n (by omega) (by omega)
  have HG : Hid (GraphAt w gb tb mb n dv T F CV f K R CL CB D) := G
  have HF : Hid (∀ s j, f s = some j → j < n) := hf
  clear G hf
  go_enter Try.func29, Try.ntmps29
  go_wp2
  clear hmk
  have HE : Hid (∀ i k j, edge f R CL CB D i k = some j → j < n) := fun i k j h => by
    unfold edge at h
    split at h
    · cases h
    · rename_i hj
      split at h
      · cases h
      · cases h; exact HF.out _ _ hj
  go_loopg [8] (1 + sumTo K n) (fun g v wr => ∃ (seen : Nat → Bool) (l : List Nat), g = l.length + bud K seen n ∧ g ≤ 1048577 ∧ Inv n K (edge f R CL CB D) a to seen l ∧ Below w.heap.size w wr ∧ wr.rowIs w.heap.size 4 n (fun j => .bool (seen j)) ∧ StackAt wr (w.heap.size + 1) v l)
  case atStart =>
    refine ⟨fun _ => false, [a], by rw [bud_none]; rfl, by omega, inv_start ha, ((Below.refl _ _).alloc (Nat.le_refl _) _).alloc (by simp) _, (World.rowIs_made w _ n 4).alloc _, ?_⟩
    refine ⟨w.heap.size + 1, 1, rfl, ?_⟩
    have := World.ownsRow_lit (base := w.heap.size + 1) (e := 3) (size := 1) (w.alloc (.cells (madeCells #[.bool false] n) 4)) #[.int .i64 (a : Int)] 1 (by simp) (by decide) (by simp)
    simpa [ints] using this
  case round =>
    obtain ⟨seen, l, hg, hg9, hI, hB, hrow, g, cap, rfl, hst⟩ := hrel
    rcases List.eq_nil_or_concat l with rfl | ⟨l', i, rfl⟩
    · go_wp2
      go_ret
      exact ⟨false, rfl, ⟨fun h => (by cases h), fun h => absurd h (inv_end hI)⟩, hB⟩
    · rw [List.concat_eq_append] at *
      simp only [List.length_append, List.length_cons, List.length_nil, Nat.zero_add] at *
      obtain ⟨hcap, hgb, hcm⟩ := ownsRow_cap hst
      obtain ⟨hpop, hcell⟩ := StackAt.pop hst
      obtain ⟨hin, hre⟩ := hI.s2 i (by simp)
      have hiz : (i : Int) < (n : Int) := by omega
      have hl9 : l'.length ≤ 1048577 := by omega
      clear hst
      by_cases hto : (i : Int) = to
      · have hb1 : ((i : Int) == to) = true := by simp [hto]
        have HT : Hid ((i : Int) = to) := hto
        clear hto
        go_wp2
        go_ret
        exact ⟨true, rfl, ⟨fun _ => ⟨i, HT.out, hre⟩, fun _ => rfl⟩, hB⟩
      · have hb1 : ((i : Int) == to) = false := by simp [hto]
        have hs := hrow.cell hin
        cases hsi : seen i with
        | true =>
          rw [hsi] at hs
          go_wp2
          go_roundg (l'.length + bud K seen n)
          case measure => omega
          case rel => exact ⟨seen, l', rfl, by omega, inv_skip hI hsi, hB, hrow, hpop⟩
        | false =>
          rw [hsi] at hs
          have hfz := hrow.frozen i
          have hB2 := hB.setCell (p := ⟨w.heap.size, i, none⟩) (Nat.le_refl _) (.bool true)
          have hG2 := HG.out.keep hB2
          have q0 := hG2.g0
          have q1 := hG2.t0 i hin
          have q2 := hG2.tab i hin
          have hKi := hKb i hin
          have hbm := bud_mark K seen i n hin hsi
          have hrow2 := row_mark (i := i) hrow
          have hpop2 := hpop.low (p := ⟨w.heap.size, i, none⟩) (by show w.heap.size < w.heap.size + 1; omega) (.bool true)
          have hK0 := inv_enter hI hto
          have hM9 : l'.length + bud K seen n ≤ 1048576 := by omega
          have HM : Hid (gk = l'.length + 1 + bud K seen n) := hg
          clear hg hrow hpop hG2 hB hI hto
          go_wp2
          clear q0 q1 q2 hs hfz hcell
          obtain ⟨i0, hi0, hz0, hz1, hz2⟩ := info_parts Try.info3
          go_loopg [8, 58] (K i) (fun g v kk wi => ∃ (k : Nat) (l : List Nat), k ≤ K i ∧ g = K i - k ∧ kk = .int .i64 k ∧ l.length + (K i - k) + bud K (mark seen i) n ≤ l'.length + bud K seen n ∧ InvK n K (edge f R CL CB D) a to (mark seen i) l i k ∧
            Below w.heap.size w wi ∧ wi.rowIs w.heap.size 4 n (fun j => .bool (mark seen i j)) ∧ StackAt wi (w.heap.size + 1) v l)
          case atStart => exact ⟨0, l', Nat.zero_le _, rfl, rfl, by omega, hK0, hB2, hrow2, hpop2⟩
          case round =>
            obtain ⟨k, l, hk, rfl, rfl, hle, hIK, hBi, hrowi, hsti⟩ := hrel
            clear hB2 hrow2 hpop2 hK0
            by_cases hlt : k < K i
            · have hkz : (k : Int) < (K i : Int) := by omega
              have hwf := waitsFor_any gb tb mb n dv T F CV f K R CL CB D _ (HG.out.keep hBi) hn hKb HF.out hR i k hin hlt
              have hll : l.length ≤ 1048577 := by omega
              have hsz := hrowi.lt
              cases hed : edge f R CL CB D i k with
              | none =>
                rw [hed] at hwf
                have HW := hwf
                clear hwf
                obtain ⟨g1, cap1, rfl, hst1⟩ := hsti
                go_wp2_with fail
                refine HW.mono ?_
                rintro e w1 ⟨he, hb1⟩
                obtain rfl : e = .returned (.int .i64 (-1)) := he
                have hsto : StackAt _ (w.heap.size + 1) _ l := ⟨g1, cap1, rfl, hst1⟩
                have R1 := hsto.below hb1
                have R2 := hBi.trans (hb1.mono (by omega))
                have R3 := hrowi.of_block (hb1.block _ hsz)
                clear hst1 hsto hb1 hrowi hBi
                go_wp2
                go_roundg (K i - (k + 1))
                case measure => omega
                case rel => exact ⟨k + 1, l, by omega, rfl, by go_num, by omega, invk_none hIK hed, R2, R3, R1⟩
              | some j =>
                rw [hed] at hwf
                have HW := hwf
                clear hwf
                have hjn := HE.out i k j hed
                obtain ⟨g1, cap1, rfl, hst1⟩ := hsti
                go_wp2_with fail
                refine HW.mono ?_
                rintro e w1 ⟨he, hb1⟩
                obtain rfl : e = .returned (.int .i64 (j : Int)) := he
                have hjz : (0 : Int) ≤ (j : Int) := by omega
                have hsto : StackAt _ (w.heap.size + 1) _ l := ⟨g1, cap1, rfl, hst1⟩
                obtain ⟨_, _, hv2, hst2⟩ := hsto.below hb1
                have R2 := hBi.trans (hb1.mono (by omega))
                have R3 := hrowi.of_block (hb1.block _ hsz)
                have hgg := (ownsRow_cap hst1).2.1
                have hsz1 := hb1.size
                have HS : Hid (w1.ownsRow (w.heap.size + 1) 3 1 (.slice (some ⟨g1, 0, none⟩) l.length cap1) l.length (ints l)) := hst2
                have HR2 : Hid (Below w.heap.size w w1) := R2
                have HR3 : Hid (w1.rowIs w.heap.size 4 n (fun j => .bool (mark seen i j))) := R3
                clear hst1 hsto hb1 hrowi hBi hv2 hst2 R2 R3
                go_wp2_with (at_builtin; refine wpList_append_own _ rfl _ _ 42 rfl (w.heap.size + 1) 3 i0 (.int .i64 0) 1 8 Try.underlying42 hi0 hz0 hz1 hz2 rfl (by decide) _ _ _ rfl (HS.out.alloc _) ⟨w1.heap.size, 0, none⟩ 1 1 [.int .i64 (j : Int)] rfl rfl (cell_one_new _ _ _) (ints_oneCell .i64 [(j : Int)]) (by unfold maxLen; omega) (by omega) (by simp; omega) ?_)
                intro v2 w2 hown hgrow _
                have R1 := stack_of hown
                have hgr := (World.grownBy_alloc w1 _ _).trans hgrow
                have R2 := HR2.out.grown hgr (by omega) (fun k hk => by simp [Value.ownBlock] at hk; omega)
                have R3 := HR3.out.of_block (hgr.block _ (by omega) (by simp [Value.ownBlock]; omega))
                clear hown hgrow hgr HR2 HR3 HS
                go_wp2
                go_roundg (K i - (k + 1))
                case measure => omega
                case rel => exact ⟨k + 1, l ++ [j], by omega, rfl, by go_num, by simp; omega, invk_some hIK hlt hed hjn, R2, R3, R1⟩
            · have hkz : ¬ ((k : Int) < (K i : Int)) := by omega
              obtain rfl : k = K i := by omega
              go_wp2
              go_roundg (l.length + bud K (mark seen i) n)
              case measure => have := HM.out; omega
              case rel => exact ⟨mark seen i, l, rfl, by omega, invk_done hIK, hBi, hrowi, hsti⟩
end Go.Proofs.Qxb6603821a
