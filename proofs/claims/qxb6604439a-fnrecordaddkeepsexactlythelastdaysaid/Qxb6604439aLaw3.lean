import Derived.Test.Qxb6604439aLaw4
namespace Go.Proofs.Qxb6604439a
open Go.RowKit Go.Deep
set_option linter.unusedVariables false
set_option linter.unusedSimpArgs false

set_option maxRecDepth 10000 in
set_option maxHeartbeats 3200000 in
theorem law3 {w : World} {sa : Option Addr} {n b o : Nat} {D : Nat → Dec} (c : Nat) (h : Arg w sa n b o D) (hn : n ≤ maxLen) : Calls Try.prog 3 #[.slice sa n c] w (TrueSaid w) := by
  have HA : Hid (Arg w sa n b o D) := h
  clear h
  go_enter Try.func3, Try.ntmps3
  go_wp2_with fail
  refine (bytes8 sa n c hn w).mono ?_
  rintro e w' ⟨⟨t, rfl, ht⟩, hw⟩
  have hw := hw.symm
  subst hw
  cases t
  · clear ht
    go_wp2
    go_ret
    exact ⟨rfl, Below.refl _ _⟩
  · have hn1 := ht rfl
    clear ht hn
    by_cases h4 : (n : Int) > 43690
    · go_wp2
      go_ret
      exact ⟨rfl, Below.refl _ _⟩
    · go_wp2_with fail
      refine (order_any HA.out hn1).mono ?_
      rintro e w' ⟨⟨t, rfl, ht⟩, m, rfl⟩
      cases t
      · clear ht
        go_wp2
        go_ret
        exact ⟨rfl, below_drewN (Below.refl _ _) m⟩
      · have HO : Hid (InOrder n D) := ht rfl
        clear ht
        go_wp2_with fail
        refine (new_any _).mono ?_
        rintro e w' ⟨rfl, rfl⟩
        have hG0 := good_new (w.drewN m)
        have hB0 : Below w.heap.size w ((w.drewN m).alloc (.cells #[.slice none 0 0, .int .i64 0, .int .i64 0, .int .i64 0, .int .i64 0] 61)) := (below_drewN (Below.refl _ _) m).alloc (Nat.le_refl _) _
        rw [show (w.drewN m).heap.size = w.heap.size from rfl] at hG0 ⊢
        generalize ((w.drewN m).alloc (.cells #[.slice none 0 0, .int .i64 0, .int .i64 0, .int .i64 0, .int .i64 0] 61)) = W0 at hG0 hB0 ⊢
        have HG0 : Hid (Good W0 w.heap.size 0 []) := hG0
        have HB0 : Hid (Below w.heap.size w W0) := hB0
        clear hG0 hB0
        generalize hrb : w.heap.size = rb at HG0 HB0 ⊢
        have HRB : Hid (w.heap.size = rb) := hrb
        clear hrb
        go_wp2_with fail
        go_loopg [26] n (fun g kk wr => ∃ k, k ≤ n ∧ g = n - k ∧ kk = .int .i64 k ∧ Good wr rb k (runL D k) ∧ Below rb w wr)
        case atStart => exact ⟨0, Nat.zero_le _, rfl, rfl, HG0.out, HB0.out⟩
        case round =>
          obtain ⟨k, hk, rfl, rfl, hG, hB⟩ := hrel
          clear HG0 HB0
          have HG : Hid (Good wr rb k (runL D k)) := hG
          have HB : Hid (Below rb w wr) := hB
          clear hG hB
          by_cases hlt : k < n
          · have hkz : (k : Int) < (n : Int) := by omega
            obtain rfl := HA.out.ad k hlt
            have HA1 : Hid (Arg wr (some ⟨b, o, none⟩) n b o D) := HA.out.later (B := 0) (by rw [HRB.out]; exact HB.out)
            have hbr : b < rb := by rw [← HRB.out]; exact HA.out.lt hlt
            have x0 := HA1.out.c0 k hlt
            have x1 := HA1.out.c1 k hlt
            have x2 := HA1.out.c2 k hlt
            obtain ⟨t0, t1⟩ := HO.out.1 k hlt
            have HADD : Hid (Calls Try.prog 11 #[.pointer (some ⟨rb, 0, none⟩), .int .i64 (D k).1, .int .i64 (D k).2.1, .int .i64 (D k).2.2] wr.drew (AddSaid wr.drew rb (k + 1) (runL D (k + 1)))) := zzadd_any HG.out.drew (by omega) _ _ _ t0 t1
            go_wp2_with fail
            go_region_held3 (fun w' => w'.cell? ⟨b, o + k * 3, none⟩ = some (.int .i64 (D k).1) ∧ w'.cell? ⟨b, o + k * 3 + 1, none⟩ = some (.int .i64 (D k).2.1) ∧ w'.cell? ⟨b, o + k * 3 + 2, none⟩ = some (.int .i64 (D k).2.2))
              (first | go_keep | exact three_later hB2 hbr ⟨x0, x1, x2⟩)
              ((go_at_call 11; refine HADD.out.mono ?_; rintro e w2 ⟨rfl, hG2, hB2⟩))
            have HG3 : Hid (Good w2 rb (k + 1) (runL D (k + 1))) := hG2
            have HB2 : Hid (Below rb w w2) := HB.out.trans (below_of_drew hB2)
            clear hG2 hB2 x0 x1 x2 HADD HG HB HA1 HA t0 t1
            go_wp2
            go_roundg (n - (k + 1))
            case measure => omega
            case rel => exact ⟨k + 1, by omega, rfl, by go_num, HG3.out, HB2.out⟩
          · have hkz : ¬ (k : Int) < (n : Int) := by omega
            obtain rfl : k = n := by omega
            clear hkz
            by_cases hn0 : k = 0
            · subst hn0
              have hk0 : (((0 : Nat) : Int) == 0) = true := rfl
              have HG1 : Hid (Good wr rb 0 []) := HG.out
              go_wp2_with fail
              refine (zzlen_any HG1.out (by omega)).mono ?_
              rintro e w3 ⟨rfl, m3, rfl⟩
              have h13 := zzown_any (HG1.out.drewN m3)
              have h14 := zzstock_any (HG1.out.drewN m3)
              rw [show wrap64 (sumO []) = 0 from by simp [wrap64, sumO]] at h13
              rw [show wrap64 (sumS []) = 0 from by simp [wrap64, sumS]] at h14
              go_wp2_with fail
              refine h13.mono ?_
              rintro e w3 ⟨rfl, hw3⟩
              have hw3 := hw3.symm
              subst hw3
              go_wp2_with fail
              refine h14.mono ?_
              rintro e w3 ⟨rfl, hw3⟩
              have hw3 := hw3.symm
              subst hw3
              go_wp2
              go_ret
              exact ⟨rfl, by rw [HRB.out]; exact below_drewN HB.out _⟩
            · have hk0 : ((k : Int) == 0) = false := by simp; omega
              obtain rfl := HA.out.ad (k - 1) (by omega)
              have HA2 : Hid (Arg wr (some ⟨b, o, none⟩) k b o D) := HA.out.later (B := 0) (by rw [HRB.out]; exact HB.out)
              have y0 := HA2.out.c0 (k - 1) (by omega)
              obtain ⟨t0, t1⟩ := HO.out.1 (k - 1) (by omega)
              have HG2 : Hid (Good wr rb k (held D ((D (k - 1)).1 - 86400) k)) := by
                have h1 := run_held HO.out (k - 1) (by omega)
                rw [Nat.sub_add_cancel (by omega)] at h1
                rw [← h1]; exact HG.out
              have hkp : (1 : Int) ≤ (k : Int) := by omega
              have hkq : (k : Int) - 1 < (k : Int) := by omega
              have hkr : (0 : Int) ≤ (k : Int) - 1 := by omega
              clear HA HG hn0 hlt hk
              go_wp2_with fail
              refine (zzlen_any HG2.out (by omega)).mono ?_
              rintro e w3 ⟨rfl, m3, rfl⟩
              generalize (D (k - 1)).1 - 86400 = cut at HG2 ⊢
              clear y0 t0 t1
              go_wp2_with fail
              generalize hQ : (held D cut k).length = q
              have HLq : Hid ((held D cut k).length = q) := hQ
              clear hQ
              go_loopg [6, 7, 8, 75] k (fun g a6 a7 a8 aa wi => ∃ i m4, i ≤ k ∧ g = k - i ∧ a6 = .int .i64 (wrap64 (sumO (held D cut i))) ∧ a7 = .int .i64 (wrap64 (sumS (held D cut i))) ∧ a8 = .int .i64 ((held D cut i).length : Nat) ∧ aa = .int .i64 i ∧ wi = wr.drewN m4)
              case atStart => exact ⟨0, m3, Nat.zero_le _, rfl, by simp [wrap64, sumO, held], by simp [wrap64, sumS, held], rfl, rfl, rfl⟩
              case round =>
                obtain ⟨i, m4, hi, rfl, rfl, rfl, rfl, rfl, rfl⟩ := hrel
                by_cases hik : i < k
                · have hiz : (i : Int) < (k : Int) := by omega
                  have z0 := HA2.out.c0 i hik
                  have z1 := HA2.out.c1 i hik
                  have z2 := HA2.out.c2 i hik
                  have hl := held_length D cut i
                  by_cases ht : (D i).1 ≤ cut
                  · have HL : Hid (held D cut (i + 1) = held D cut i) := held_out (by omega)
                    go_wp2
                    go_roundg (k - (i + 1))
                    case measure => omega
                    case rel => exact ⟨i + 1, m4, by omega, rfl, by rw [HL.out], by rw [HL.out], by rw [HL.out], by go_num, rfl⟩
                  · have ht' : cut < (D i).1 := by omega
                    obtain ⟨e1, e2⟩ := held_sum (D := D) (c := cut) (j := i) ht'
                    have E1 : Hid (wrap64 (sumO (held D cut (i + 1))) = wrap64 (wrap64 (sumO (held D cut i)) + (D i).2.1)) := e1
                    have E2 : Hid (wrap64 (sumS (held D cut (i + 1))) = wrap64 (wrap64 (sumS (held D cut i)) + (D i).2.2)) := e2
                    clear e1 e2
                    by_cases hz : (D i).2.1 = 0 ∧ (D i).2.2 = 0
                    · have HL : Hid (held D cut (i + 1) = held D cut i) := held_zero hz
                      have ha2 : ((D i).2.1 == 0) = true := by simpa using hz.1
                      have hb2 : ((D i).2.2 == 0) = true := by simpa using hz.2
                      have HZ : Hid ((D i).2.1 = 0 ∧ (D i).2.2 = 0) := hz
                      clear hz ht'
                      go_wp2
                      go_roundg (k - (i + 1))
                      case measure => omega
                      case rel =>
                        refine ⟨i + 1, m4, by omega, rfl, ?_, ?_, by rw [HL.out], by go_num, rfl⟩
                        · first | rw [E1.out] | rw [E1.out, HZ.out.1, Int.add_zero]
                        · first | rw [E2.out] | rw [E2.out, HZ.out.2, Int.add_zero]
                    · obtain ⟨hat, hlt2⟩ := held_at (D := D) (c := cut) hik ht' hz
                      have HL : Hid (held D cut (i + 1) = held D cut i ++ [D i]) := held_in ht' hz
                      have hq2 : ¬ (q : Int) ≤ ((held D cut i).length : Int) := by have := HLq.out; omega
                      have HAT := zzat_any (HG2.out.drewN m4) (by omega) (held D cut i).length (D i) hat
                      have HT : Hid (Calls Try.prog 15 #[.pointer (some ⟨rb, 0, none⟩), .int .i64 ((held D cut i).length : Nat)] (wr.drewN m4) fun en w' => en = .returned (.tuple #[.int .i64 (D i).1, .int .i64 (D i).2.1, .int .i64 (D i).2.2]) ∧ ∃ m, w' = (wr.drewN m4).drewN m) := HAT
                      clear HAT hat hlt2 ht'
                      by_cases ha : (D i).2.1 = 0
                      · have ha2 : ((D i).2.1 == 0) = true := by simpa using ha
                        have hb2 : ((D i).2.2 == 0) = false := by simpa using fun e => hz ⟨ha, e⟩
                        have HZ : Hid ((D i).2.1 = 0) := ha
                        clear hz ha
                        go_wp2_with fail
                        refine HT.out.mono ?_
                        rintro e w5 ⟨rfl, m5, rfl⟩
                        go_wp2
                        go_roundg (k - (i + 1))
                        case measure => omega
                        case rel =>
                          refine ⟨i + 1, m4 + m5, by omega, rfl, ?_, ?_, ?_, by go_num, by simp⟩
                          · first | rw [E1.out, HZ.out, Int.add_zero] | rw [E1.out]
                          · rw [E2.out]
                          · rw [HL.out]; simp
                      · have ha2 : ((D i).2.1 == 0) = false := by simpa using ha
                        clear hz ha
                        go_wp2_with fail
                        refine HT.out.mono ?_
                        rintro e w5 ⟨rfl, m5, rfl⟩
                        go_wp2
                        go_roundg (k - (i + 1))
                        case measure => omega
                        case rel =>
                          refine ⟨i + 1, m4 + m5, by omega, rfl, ?_, ?_, ?_, by go_num, by simp⟩
                          · rw [E1.out]
                          · rw [E2.out]
                          · rw [HL.out]; simp
                · have hiz : ¬ (i : Int) < (k : Int) := by omega
                  obtain rfl : i = k := by omega
                  rw [HLq.out]
                  go_wp2_with fail
                  refine (zzown_any (HG2.out.drewN m4)).mono ?_
                  rintro e w5 ⟨rfl, hw5⟩
                  have hw5 := hw5.symm
                  subst hw5
                  go_wp2_with fail
                  refine (zzstock_any (HG2.out.drewN m4)).mono ?_
                  rintro e w5 ⟨rfl, hw5⟩
                  have hw5 := hw5.symm
                  subst hw5
                  go_wp2
                  go_ret
                  exact ⟨by simp, by rw [HRB.out]; exact below_drewN HB.out _⟩
end Go.Proofs.Qxb6604439a
