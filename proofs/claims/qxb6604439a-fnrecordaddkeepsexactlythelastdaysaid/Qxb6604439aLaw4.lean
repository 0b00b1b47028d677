import Derived.Test.Qxb6604439aPlain
namespace Go.Proofs.Qxb6604439a
open Go.RowKit Go.Deep
set_option linter.unusedVariables false
set_option linter.unusedSimpArgs false

def TrueSaid (w : World) (e : Ending) (w' : World) : Prop := e = .returned (.bool true) ∧ Below w.heap.size w w'

theorem Arg.lt {w : World} {sa : Option Addr} {n b o : Nat} {D : Nat → Dec} (h : Arg w sa n b o D) {i : Nat} (hi : i < n) : b < w.heap.size := World.block_lt_of_cell? w _ (h.c0 i hi)

theorem Arg.later {w w' : World} {sa : Option Addr} {n b o : Nat} {D : Nat → Dec} {B : Nat} (h : Arg w sa n b o D) (hB : Below w.heap.size w w') : Arg w' sa n b o D := by
  have e : ∀ i, i < n → ∀ j, w'.cell? ⟨b, j, none⟩ = w.cell? ⟨b, j, none⟩ := fun i hi j => World.cell?_of_block (hB.block b (h.lt hi))
  exact ⟨h.ad, fun i hi => (e i hi _).trans (h.c0 i hi), fun i hi => (e i hi _).trans (h.c1 i hi), fun i hi => (e i hi _).trans (h.c2 i hi)⟩

theorem three_later {w w' : World} {rb b x : Nat} {v0 v1 v2 : Value} (hB : Below rb w w') (hb : b < rb) (h : w.cell? ⟨b, x, none⟩ = some v0 ∧ w.cell? ⟨b, x + 1, none⟩ = some v1 ∧ w.cell? ⟨b, x + 2, none⟩ = some v2) :
    w'.cell? ⟨b, x, none⟩ = some v0 ∧ w'.cell? ⟨b, x + 1, none⟩ = some v1 ∧ w'.cell? ⟨b, x + 2, none⟩ = some v2 := by
  have e : ∀ j, w'.cell? ⟨b, j, none⟩ = w.cell? ⟨b, j, none⟩ := fun j => World.cell?_of_block (hB.block b hb)
  rw [e, e, e]
  exact h

theorem below_of_drew {rb : Nat} {w w' : World} (h : Below rb w.drew w') : Below rb w w' := ⟨h.os, h.tape, h.output, h.size, h.block⟩

theorem Good.drew {w : World} {rb e : Nat} {L : List Dec} (h : Good w rb e L) : Good w.drew rb e L := by
  obtain ⟨ao, N, f, e', pre, post, hq, he⟩ := h
  exact ⟨ao, N, f, e', pre, post, hq.drew, he⟩

set_option maxRecDepth 10000 in
set_option maxHeartbeats 3200000 in
theorem law4 {w : World} {sa : Option Addr} {n b o : Nat} {D : Nat → Dec} (c : Nat) (h : Arg w sa n b o D) (hn : n ≤ maxLen) : Calls Try.prog 4 #[.slice sa n c] w (TrueSaid w) := by
  have HA : Hid (Arg w sa n b o D) := h
  clear h
  go_enter Try.func4, Try.ntmps4
  go_wp2_with fail
  refine (bytes16 sa n c hn w).mono ?_
  rintro e w' ⟨⟨t, rfl, ht⟩, hw⟩
  have hw := hw.symm
  subst hw
  cases t
  · clear ht
    go_wp2
    go_ret
    exact ⟨rfl, Below.refl _ _⟩
  · have hn1 := ht rfl
    clear ht hn
    by_cases h4 : (n : Int) > 4096
    · go_wp2
      go_ret
      exact ⟨rfl, Below.refl _ _⟩
    · go_wp2_with fail
      refine (order_any HA.out hn1).mono ?_
      rintro e w' ⟨⟨t, rfl, ht⟩, m, rfl⟩
      cases t
      · clear ht
        go_wp2
        go_ret
        exact ⟨rfl, below_drewN (Below.refl _ _) m⟩
      · have HO : Hid (InOrder n D) := ht rfl
        clear ht
        go_wp2_with fail
        refine (new_any _).mono ?_
        rintro e w' ⟨rfl, rfl⟩
        have hG0 := good_new (w.drewN m)
        have hB0 : Below w.heap.size w ((w.drewN m).alloc (.cells #[.slice none 0 0, .int .i64 0, .int .i64 0, .int .i64 0, .int .i64 0] 61)) := (below_drewN (Below.refl _ _) m).alloc (Nat.le_refl _) _
        rw [show (w.drewN m).heap.size = w.heap.size from rfl] at hG0 ⊢
        generalize ((w.drewN m).alloc (.cells #[.slice none 0 0, .int .i64 0, .int .i64 0, .int .i64 0, .int .i64 0] 61)) = W0 at hG0 hB0 ⊢
        have HG0 : Hid (Good W0 w.heap.size 0 []) := hG0
        have HB0 : Hid (Below w.heap.size w W0) := hB0
        clear hG0 hB0
        generalize hrb : w.heap.size = rb at HG0 HB0 ⊢
        have HRB : Hid (w.heap.size = rb) := hrb
        clear hrb
        go_wp2_with fail
        go_loopg [22] n (fun g kk wr => ∃ k, k ≤ n ∧ g = n - k ∧ kk = .int .i64 k ∧ Good wr rb k (runL D k) ∧ Below rb w wr)
        case atStart => exact ⟨0, Nat.zero_le _, rfl, rfl, HG0.out, HB0.out⟩
        case round =>
          obtain ⟨k, hk, rfl, rfl, hG, hB⟩ := hrel
          clear HG0 HB0
          have HG : Hid (Good wr rb k (runL D k)) := hG
          have HB : Hid (Below rb w wr) := hB
          clear hG hB
          by_cases hlt : k < n
          · have hkz : (k : Int) < (n : Int) := by omega
            obtain rfl := HA.out.ad k hlt
            have HA1 : Hid (Arg wr (some ⟨b, o, none⟩) n b o D) := HA.out.later (B := 0) (by rw [HRB.out]; exact HB.out)
            have hbr : b < rb := by rw [← HRB.out]; exact HA.out.lt hlt
            have x0 := HA1.out.c0 k hlt
            have x1 := HA1.out.c1 k hlt
            have x2 := HA1.out.c2 k hlt
            obtain ⟨t0, t1⟩ := HO.out.1 k hlt
            have HADD : Hid (Calls Try.prog 11 #[.pointer (some ⟨rb, 0, none⟩), .int .i64 (D k).1, .int .i64 (D k).2.1, .int .i64 (D k).2.2] wr.drew (AddSaid wr.drew rb (k + 1) (runL D (k + 1)))) := zzadd_any HG.out.drew (by omega) _ _ _ t0 t1
            go_wp2_with fail
            go_region_held3 (fun w' => w'.cell? ⟨b, o + k * 3, none⟩ = some (.int .i64 (D k).1) ∧ w'.cell? ⟨b, o + k * 3 + 1, none⟩ = some (.int .i64 (D k).2.1) ∧ w'.cell? ⟨b, o + k * 3 + 2, none⟩ = some (.int .i64 (D k).2.2))
              (first | go_keep | exact three_later hB2 hbr ⟨x0, x1, x2⟩)
              ((go_at_call 11; refine HADD.out.mono ?_; rintro e w2 ⟨rfl, hG2, hB2⟩))
            have HG2 : Hid (Good w2 rb (k + 1) (held D ((D k).1 - 86400) (k + 1))) := by rw [← run_held HO.out k hlt]; exact hG2
            have HG3 : Hid (Good w2 rb (k + 1) (runL D (k + 1))) := hG2
            have HB2 : Hid (Below rb w w2) := HB.out.trans (below_of_drew hB2)
            have HA2 : Hid (Arg w2 (some ⟨b, o, none⟩) n b o D) := HA.out.later (B := 0) (by rw [HRB.out]; exact HB2.out)
            have y0 := HA2.out.c0 k hlt
            clear hG2 hB2 x0 x1 x2 HADD HG HB HA1 HA
            go_wp2_with fail
            generalize (D k).1 - 86400 = cut at HG2 ⊢
            clear y0 t0 t1
            go_loopg [6, 7, 8, 9] (k + 1) (fun g a6 a7 a8 a9 wi => w2 = wi ∧ ∃ j, j ≤ k + 1 ∧ g = k + 1 - j ∧ a6 = .int .i64 (wrap64 (sumO (held D cut j))) ∧ a7 = .int .i64 (wrap64 (sumS (held D cut j))) ∧ a8 = .int .i64 ((held D cut j).length : Nat) ∧ a9 = .int .i64 j)
            case atStart => exact ⟨rfl, 0, Nat.zero_le _, rfl, by simp [wrap64, sumO, held], by simp [wrap64, sumS, held], rfl, rfl⟩
            case round =>
              obtain ⟨rfl, j, hj, rfl, rfl, rfl, rfl, rfl⟩ := hrel
              by_cases hjk : j ≤ k
              · have hjz : (j : Int) ≤ (k : Int) := by omega
                have hjn : (j : Int) < (n : Int) := by omega
                have z0 := HA2.out.c0 j (by omega)
                have z1 := HA2.out.c1 j (by omega)
                have z2 := HA2.out.c2 j (by omega)
                have hl := held_length D cut j
                by_cases ht : (D j).1 > cut
                · obtain ⟨e1, e2⟩ := held_sum (D := D) (c := cut) (j := j) ht
                  have E1 : Hid (wrap64 (sumO (held D cut (j + 1))) = wrap64 (wrap64 (sumO (held D cut j)) + (D j).2.1)) := e1
                  have E2 : Hid (wrap64 (sumS (held D cut (j + 1))) = wrap64 (wrap64 (sumS (held D cut j)) + (D j).2.2)) := e2
                  clear e1 e2
                  by_cases hz : (D j).2.1 = 0 ∧ (D j).2.2 = 0
                  · have HL : Hid (held D cut (j + 1) = held D cut j) := held_zero hz
                    have ha2 : ((D j).2.1 == 0) = true := by simpa using hz.1
                    have hb2 : ((D j).2.2 == 0) = true := by simpa using hz.2
                    have HZ : Hid ((D j).2.1 = 0 ∧ (D j).2.2 = 0) := hz
                    clear hz
                    go_wp2
                    all_goals first | (exfalso; rename_i hx; exact hx HZ.out.1) | skip
                    go_roundg (k + 1 - (j + 1))
                    case measure => omega
                    case rel =>
                      refine ⟨rfl, j + 1, by omega, rfl, ?_, ?_, by rw [HL.out], by go_num⟩
                      · rw [E1.out, HZ.out.1, Int.add_zero]
                      · rw [E2.out, HZ.out.2, Int.add_zero]
                  · have HL : Hid (held D cut (j + 1) = held D cut j ++ [D j]) := held_in ht hz
                    by_cases ha : (D j).2.1 = 0
                    · have ha2 : ((D j).2.1 == 0) = true := by simpa using ha
                      have hb2 : ((D j).2.2 == 0) = false := by simpa using fun e => hz ⟨ha, e⟩
                      have HZ : Hid ((D j).2.1 = 0) := ha
                      clear hz ha
                      go_wp2
                      go_roundg (k + 1 - (j + 1))
                      case measure => omega
                      case rel =>
                        refine ⟨rfl, j + 1, by omega, rfl, ?_, ?_, ?_, by go_num⟩
                        · rw [E1.out, HZ.out, Int.add_zero]
                        · rw [E2.out]
                        · rw [HL.out]; simp
                    · have ha2 : ((D j).2.1 == 0) = false := by simpa using ha
                      clear hz ha
                      go_wp2
                      go_roundg (k + 1 - (j + 1))
                      case measure => omega
                      case rel =>
                        refine ⟨rfl, j + 1, by omega, rfl, ?_, ?_, ?_, by go_num⟩
                        · rw [E1.out]
                        · rw [E2.out]
                        · rw [HL.out]; simp
                · have HL : Hid (held D cut (j + 1) = held D cut j) := held_out ht
                  go_wp2
                  go_roundg (k + 1 - (j + 1))
                  case measure => omega
                  case rel => exact ⟨rfl, j + 1, by omega, rfl, by rw [HL.out], by rw [HL.out], by rw [HL.out], by go_num⟩
              · have hjz : ¬ (j : Int) ≤ (k : Int) := by omega
                obtain rfl : j = k + 1 := by omega
                go_wp2_with fail
                refine (zzown_any HG2.out).mono ?_
                rintro e w3 ⟨rfl, hw3⟩
                have hw3 := hw3.symm
                subst hw3
                go_wp2_with fail
                refine (zzstock_any HG2.out).mono ?_
                rintro e w3 ⟨rfl, hw3⟩
                have hw3 := hw3.symm
                subst hw3
                go_wp2_with fail
                refine (zzlen_any HG2.out (by omega)).mono ?_
                rintro e w3 ⟨rfl, m3, rfl⟩
                go_wp2
                go_roundg (n - (k + 1))
                case measure => omega
                case rel => exact ⟨k + 1, by omega, rfl, by go_num, HG3.out.drewN _, below_drewN HB2.out _⟩
          · have hkz : ¬ (k : Int) < (n : Int) := by omega
            go_wp2
            go_ret
            exact ⟨rfl, by rw [HRB.out]; exact HB.out⟩
end Go.Proofs.Qxb6604439a
