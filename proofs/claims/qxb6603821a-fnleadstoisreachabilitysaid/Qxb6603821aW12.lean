import Derived.Test.Qxb6603821aW11
import Derived.Test.Qxb6603821aReach2
namespace Go.Proofs.Qxb6603821a
open Go.RowKit Go.WideMaps Go.Maps
set_option linter.unusedVariables false
set_option linter.unusedSimpArgs false

def ReachSaid (w : World) (n : Nat) (E : Nat → Nat → Prop) (a : Nat) (e : Ending) (w' : World) : Prop :=
  ∃ (v : Value) (reach : Nat → Bool), e = .returned v ∧ SliceAt w' 0 v n (fun j => .bool (reach j)) ∧ (∀ t, t < n → (reach t = true ↔ Reach E a t)) ∧ Below w.heap.size w w'

def b2n (b : Bool) : Nat := if b = true then 1 else 0

set_option maxHeartbeats 3200000 in
set_option maxRecDepth 100000 in
theorem reachFrom_any (ta ca da : Option Addr) (n tb t0 tc cb co cc db do_ dc : Nat) (TA : Nat → Option Addr) (K TC TB TO : Nat → Nat) (CA : Nat → Option Addr) (CL CC XB XO : Nat → Nat) (CB : Nat → Nat → Bool) (D : Nat → Bool)
    (f : ByteArray → Option Nat) (R : Nat → Nat → ByteArray) (w : World) (hn0 : n ≤ 1048576) (hK : ∀ i, i < n → K i ≤ 1048576) (hf : ∀ s j, f s = some j → j < n)
    (ht : ∀ i, i < n → ta = some ⟨tb, t0, none⟩ ∧ w.cell? ⟨tb, t0 + i, none⟩ = some (.slice (TA i) (K i) (TC i)))
    (htr : ∀ i, i < n → ∀ k, k < K i → TA i = some ⟨TB i, TO i, none⟩ ∧ w.cell? ⟨TB i, TO i + k, none⟩ = some (.int .i64 (edgeZ (f (R i k)))))
    (hc : ∀ i, i < n → ca = some ⟨cb, co, none⟩ ∧ w.cell? ⟨cb, co + i, none⟩ = some (.slice (CA i) (CL i) (CC i)))
    (hcr : ∀ i, i < n → ∀ k, k < CL i → CA i = some ⟨XB i, XO i, none⟩ ∧ w.cell? ⟨XB i, XO i + k, none⟩ = some (.bool (CB i k)))
    (hd : ∀ i, i < n → da = some ⟨db, do_, none⟩ ∧ w.cell? ⟨db, do_ + i, none⟩ = some (.bool (D i)))
    (a : Nat) (ha : a < n) :
    Calls Try.prog 15 #[.slice ta n tc, .slice ca n cc, .slice da n dc, .int .i64 a] w (ReachSaid w n (E n K (edge f R CL CB D)) a) := by
  have hmk := run_make_row' (P := Try.prog) 25 4 (.bool false) 1 Try.underlying25 Try.info4 rfl .i64 .i64 n (by omega) (by omega)
  have haz : (a : Int) < (n : Int) := by omega
  have hrow0 := (World.rowIs_made w (.bool false) n 4)
  have i1 := hrow0.cell ha
  have i2 := hrow0.frozen a
  have HF : Hid (∀ s j, f s = some j → j < n) := hf
  have HCR : Hid (∀ i, i < n → ∀ k, k < CL i → CA i = some ⟨XB i, XO i, none⟩ ∧ w.cell? ⟨XB i, XO i + k, none⟩ = some (.bool (CB i k))) := hcr
  have hrow1 := row_mark (i := a) (seen := fun _ => false) hrow0
  have hB1 : Below w.heap.size w ((w.alloc (.cells (madeCells #[.bool false] n) 4)).setCell ⟨w.heap.size, a, none⟩ (.bool true)) := ((Below.refl _ _).alloc (Nat.le_refl _) _).setCell (Nat.le_refl _) _
  clear hf hcr
  go_enter Try.func15, Try.ntmps15
  go_wp2
  clear hmk i1 i2 hrow0
  rw [World.setCell_alloc_at _ _ _ _ _ rfl] at hrow1 hB1
  go_loopg [11] (2 * cnt (mark (fun _ => false) a) n + 1) (fun g gr wr => ∃ (grew : Bool) (reach : Nat → Bool), gr = .bool grew ∧ g = 2 * cnt reach n + b2n grew ∧ Sound n K (edge f R CL CB D) a reach ∧ (grew = false → Shut n K (edge f R CL CB D) reach n) ∧
    Below w.heap.size w wr ∧ wr.rowIs w.heap.size 4 n (fun j => .bool (reach j)))
  case atStart => exact ⟨true, _, rfl, rfl, sound_start ha, (fun h => by cases h), hB1, hrow1⟩
  case round =>
    obtain ⟨grew, reach, rfl, hgk, hS, hSh, hB, hrow⟩ := hrel
    clear hB1 hrow1
    cases grew with
    | false =>
      have hSh' := hSh rfl
      clear hSh
      go_wp2
      go_ret
      exact ⟨_, reach, rfl, SliceAt.ofRow hrow (Nat.zero_le _), fun t ht => l2_final hS hSh' t ht, hB⟩
    | true =>
      clear hSh
      have hgk' : 2 * cnt reach n + 1 = gk := hgk.symm
      have HG : Hid (2 * cnt reach n + 1 = gk) := hgk'
      have hL0 := l2_start hS
      clear hgk hgk' hS
      go_wp2
      generalize cnt reach n = c0 at hL0 HG
      go_loopg [11, 12] n (fun g gr ii wr => ∃ (grew : Bool) (reach : Nat → Bool) (i : Nat), gr = .bool grew ∧ i ≤ n ∧ g = n - i ∧ ii = .int .i64 i ∧ L2 n K (edge f R CL CB D) a c0 i grew reach ∧
        Below w.heap.size w wr ∧ wr.rowIs w.heap.size 4 n (fun j => .bool (reach j)))
      case atStart => exact ⟨false, reach, 0, rfl, Nat.zero_le _, rfl, rfl, hL0, hB, hrow⟩
      case round =>
        clear hB hrow hL0
        obtain ⟨grew, reach, i, rfl, hi, rfl, rfl, hL, hB, hrow⟩ := hrel
        by_cases hlt : i < n
        · have hiz : (i : Int) < (n : Int) := by omega
          have q1 := hrow.cell hlt
          cases hri : reach i with
          | false =>
            rw [hri] at q1
            go_wp2
            go_roundg (n - (i + 1))
            case measure => omega
            case rel => exact ⟨grew, reach, i + 1, rfl, by omega, rfl, by go_num, l2_skip hL hri, hB, hrow⟩
          | true =>
            rw [hri] at q1
            have hL3 := l3_start hL hri
            clear hL
            obtain ⟨rfl, x1⟩ := ht i hlt
            obtain ⟨rfl, x2⟩ := hc i hlt
            have hKi := hK i hlt
            have HRI : Hid (reach i = true) := hri
            clear hri
            go_wp2
            clear q1
            go_loopg [11, 13] (K i) (fun g gr kk wr => ∃ (grew : Bool) (reach : Nat → Bool) (k : Nat), gr = .bool grew ∧ k ≤ K i ∧ g = K i - k ∧ kk = .int .i64 k ∧ L3 n K (edge f R CL CB D) a c0 i k grew reach ∧
              Below w.heap.size w wr ∧ wr.rowIs w.heap.size 4 n (fun j => .bool (reach j)))
            case atStart => exact ⟨grew, reach, 0, rfl, Nat.zero_le _, rfl, rfl, hL3, hB, hrow⟩
            case round =>
              clear hB hrow hL3 HRI
              obtain ⟨grew, reach, k, rfl, hk, rfl, rfl, hL3, hB, hrow⟩ := hrel
              have y1 := cell_later hB x1
              have y2 := cell_later hB x2
              by_cases hlt2 : k < K i
              · have hkz : (k : Int) < (K i : Int) := by omega
                obtain ⟨hA, x3⟩ := htr i hlt k hlt2
                rw [hA] at y1
                have y3 := cell_later hB x3
                clear hA x3
                cases hp : f (R i k) with
                | none =>
                  rw [hp] at y3
                  simp only [edgeZ] at y3
                  have HE : Hid (edge f R CL CB D i k = none) := by show edge f R CL CB D i k = none; simp [edge, hp]
                  clear hp
                  go_wp2
                  go_roundg (K i - (k + 1))
                  case measure => omega
                  case rel => exact ⟨grew, reach, k + 1, rfl, by omega, rfl, by go_num, l3_none hL3 HE.out, hB, hrow⟩
                | some j =>
                  rw [hp] at y3
                  simp only [edgeZ] at y3
                  have hjn := HF.out _ _ hp
                  have hjz : (j : Int) < (n : Int) := by omega
                  obtain ⟨hda, x4⟩ := hd j hjn
                  have y4 := cell_later hB x4
                  obtain rfl := hda
                  have HE0 : Hid (edge f R CL CB D i k = if j = i ∨ D j = true ∨ (decide (k < CL i) && CB i k) = true then none else some j) := by show edge f R CL CB D i k = _; simp [edge, hp]
                  clear hp x4
                  by_cases hji : j = i
                  · have hb1 : ((j : Int) == (i : Int)) = true := by simp [hji]
                    have HE : Hid (edge f R CL CB D i k = none) := by show edge f R CL CB D i k = none; rw [HE0.out, if_pos (Or.inl hji)]
                    clear HE0 hji
                    go_wp2
                    go_roundg (K i - (k + 1))
                    case measure => omega
                    case rel => exact ⟨grew, reach, k + 1, rfl, by omega, rfl, by go_num, l3_none hL3 HE.out, hB, hrow⟩
                  · have hb1 : ((j : Int) == (i : Int)) = false := by simp; omega
                    cases hD : D j with
                    | true =>
                      rw [hD] at y4
                      have HE : Hid (edge f R CL CB D i k = none) := by show edge f R CL CB D i k = none; rw [HE0.out, if_pos (Or.inr (Or.inl hD))]
                      clear HE0 hji hD
                      go_wp2
                      go_roundg (K i - (k + 1))
                      case measure => omega
                      case rel => exact ⟨grew, reach, k + 1, rfl, by omega, rfl, by go_num, l3_none hL3 HE.out, hB, hrow⟩
                    | false =>
                      rw [hD] at y4
                      have hmk : ∀ r, (decide (k < CL i) && CB i k) = r → Calls Try.prog 26 #[.slice (CA i) (CL i) (CC i), .int .i64 k] wr fun e w' => e = .returned (.bool r) ∧ w' = wr := fun r hr =>
                        marked_any (CA i) (CL i) (CC i) (XB i) (XO i) k (CB i) r wr (fun c hc => ⟨(HCR.out i hlt c hc).1, cell_later hB (HCR.out i hlt c hc).2⟩) hr
                      cases hcb : (decide (k < CL i) && CB i k) with
                      | true =>
                        have hm := hmk true hcb
                        have HE : Hid (edge f R CL CB D i k = none) := by show edge f R CL CB D i k = none; rw [HE0.out, if_pos (Or.inr (Or.inr hcb))]
                        clear HE0 hji hD hmk hcb
                        go_wp2_with fail
                        refine hm.mono ?_
                        rintro e w1 ⟨rfl, hw1⟩
                        rw [hw1]
                        clear hw1 hm
                        go_wp2
                        go_roundg (K i - (k + 1))
                        case measure => omega
                        case rel => exact ⟨grew, reach, k + 1, rfl, by omega, rfl, by go_num, l3_none hL3 HE.out, hB, hrow⟩
                      | false =>
                        have hm := hmk false hcb
                        have HE : Hid (edge f R CL CB D i k = some j) := by show edge f R CL CB D i k = some j; rw [HE0.out, if_neg (by rw [hcb]; simp [hji, hD])]
                        have y5 := hrow.cell hjn
                        have y6 := hrow.frozen j
                        clear HE0 hji hD hmk hcb
                        cases hrj : reach j with
                        | true =>
                          rw [hrj] at y5
                          have HRJ : Hid (reach j = true) := hrj
                          clear hrj
                          go_wp2_with fail
                          refine hm.mono ?_
                          rintro e w1 ⟨rfl, hw1⟩
                          rw [hw1]
                          clear hw1 hm
                          go_wp2
                          go_roundg (K i - (k + 1))
                          case measure => omega
                          case rel => exact ⟨grew, reach, k + 1, rfl, by omega, rfl, by go_num, l3_old hL3 HE.out HRJ.out, hB, hrow⟩
                        | false =>
                          rw [hrj] at y5
                          have HRJ : Hid (reach j = false) := hrj
                          clear hrj
                          go_wp2_with fail
                          refine hm.mono ?_
                          rintro e w1 ⟨rfl, hw1⟩
                          rw [hw1]
                          clear hw1 hm
                          go_wp2
                          go_roundg (K i - (k + 1))
                          case measure => omega
                          case rel => exact ⟨true, mark reach j, k + 1, rfl, by omega, rfl, by go_num, l3_new hL3 hlt2 HE.out HRJ.out hjn, hB.setCell (Nat.le_refl _) _, row_mark hrow⟩
              · have hkz : ¬ ((k : Int) < (K i : Int)) := by omega
                obtain rfl : k = K i := by omega
                go_wp2
                go_roundg (n - (i + 1))
                case measure => omega
                case rel => exact ⟨grew, reach, i + 1, rfl, by omega, rfl, by go_num, l3_done hL3, hB, hrow⟩
        · have hiz : ¬ ((i : Int) < (n : Int)) := by omega
          obtain rfl : i = n := by omega
          go_wp2
          go_roundg (2 * cnt reach i + b2n grew)
          case measure =>
            have := HG.out
            have h1 := hL.le
            cases grew with
            | false => simp [b2n]; omega
            | true => have h2 := hL.lt rfl; simp [b2n]; omega
          case rel => exact ⟨grew, reach, rfl, rfl, hL.snd, hL.cl, hB, hrow⟩

theorem reachFrom_sl {w : World} {n : Nat} {K : Nat → Nat} {R : Nat → Nat → ByteArray} {CL : Nat → Nat} {CB : Nat → Nat → Bool} {D : Nat → Bool} {f : ByteArray → Option Nat} {tv cv dv : Value} (hn0 : n ≤ 1048576) (hK : ∀ i, i < n → K i ≤ 1048576) (hf : ∀ s j, f s = some j → j < n)
    (htv : RowsAt w 0 tv n K (fun i k => .int .i64 (edgeZ (f (R i k))))) (hcv : RowsAt w 0 cv n CL (fun i k => .bool (CB i k))) (hdv : SliceAt w 0 dv n (fun i => .bool (D i))) (a : Nat) (ha : a < n) :
    Calls Try.prog 15 #[tv, cv, dv, .int .i64 a] w (ReachSaid w n (E n K (edge f R CL CB D)) a) := by
  obtain ⟨V, ⟨ra, rb, ro, rc, rfl, h2⟩, h3⟩ := htv
  obtain ⟨A, C, RB, RO, h4⟩ := bases h3
  obtain ⟨V', ⟨ca, cb, co, cc, rfl, h5⟩, h6⟩ := hcv
  obtain ⟨CA, CC, XB, XO, h7⟩ := bases h6
  obtain ⟨da, db, do_, dc, rfl, h8⟩ := hdv
  exact reachFrom_any ra ca da n rb ro rc cb co cc db do_ dc A K C RB RO CA CL CC XB XO CB D f R w hn0 hK hf (fun i hi => ⟨(h2 i hi).1, by rw [← (h4 i hi).1]; exact (h2 i hi).2.2⟩) (fun i hi k hk => (h4 i hi).2 k hk)
    (fun i hi => ⟨(h5 i hi).1, by rw [← (h7 i hi).1]; exact (h5 i hi).2.2⟩) (fun i hi k hk => (h7 i hi).2 k hk) (fun i hi => ⟨(h8 i hi).1, (h8 i hi).2.2⟩) a ha
end Go.Proofs.Qxb6603821a
