import Derived.Test.Qxb6603821aW12
import Derived.Test.Qxb6603821aLaw4
namespace Go.Proofs.Qxb6603821a
open Go.RowKit Go.WideMaps Go.Maps
set_option linter.unusedVariables false
set_option linter.unusedSimpArgs false

theorem edge_lt {f : ByteArray → Option Nat} {R : Nat → Nat → ByteArray} {CL : Nat → Nat} {CB : Nat → Nat → Bool} {D : Nat → Bool} {n : Nat} (hf : ∀ s j, f s = some j → j < n) {i k j : Nat} (h : edge f R CL CB D i k = some j) : j < n := by
  unfold edge at h
  split at h
  · cases h
  · rename_i hj
    split at h
    · cases h
    · cases h; exact hf _ _ hj

theorem reach_lt {n : Nat} {K : Nat → Nat} {ed : Nat → Nat → Option Nat} (he : ∀ i k j, ed i k = some j → j < n) {a t : Nat} (ha : a < n) (h : Reach (E n K ed) a t) : t < n :=
  h (fun x => x < n) ha (fun x y _ hy => by obtain ⟨_, k, _, hk⟩ := hy; exact he x k y hk)

set_option maxHeartbeats 1600000 in
set_option maxRecDepth 100000 in
theorem law3 {w : World} {n m q d : Nat} {S : Nat → ByteArray} {K : Nat → Nat} {R : Nat → Nat → ByteArray} {CL : Nat → Nat} {CB : Nat → Nat → Bool} {D : Nat → Bool} (na ra ca da : Option Addr) (nc rc cc dc : Nat)
    (hS : ∀ i, i < n → (S i).size ≤ maxLen) (hR : ∀ i, i < m → ∀ k, k < K i → (R i k).size ≤ maxLen)
    (hnv : SliceAt w 0 (.slice na n nc) n (fun i => .string (S i))) (hrv : RowsAt w 0 (.slice ra m rc) m K (fun i k => .string (R i k))) (hcv : RowsAt w 0 (.slice ca q cc) q CL (fun i k => .bool (CB i k))) (hdv : SliceAt w 0 (.slice da d dc) d (fun i => .bool (D i)))
    (a b : Int) (wa : (Lit.int .i64 a).wf = true) (wb : (Lit.int .i64 b).wf = true) :
    Calls Try.prog 3 #[.slice na n nc, .slice ra m rc, .slice ca q cc, .slice da d dc, .int .i64 a, .int .i64 b] w (TrueSaid w) := by
  have h1 := bytes_sl8 hnv hrv hcv hdv a b
  have h2 := big_sl hnv hrv hcv hdv
  have HN : Hid (SliceAt w 0 (.slice na n nc) n (fun i => .string (S i))) := hnv
  have HR : Hid (RowsAt w 0 (.slice ra m rc) m K (fun i k => .string (R i k))) := hrv
  have HC : Hid (RowsAt w 0 (.slice ca q cc) q CL (fun i k => .bool (CB i k))) := hcv
  have HD : Hid (SliceAt w 0 (.slice da d dc) d (fun i => .bool (D i))) := hdv
  clear hnv hrv hcv hdv wa wb
  go_enter Try.func3, Try.ntmps3
  go_wp2_with fail
  refine h1.mono ?_
  rintro e w1 ⟨⟨r1, rfl, hr1⟩, rfl⟩
  clear h1
  cases r1 with
  | false =>
    clear hr1 h2
    go_wp2
    go_ret
    exact ⟨rfl, Below.refl _ _⟩
  | true =>
    have hf := hr1 rfl
    have h2' := h2 hf
    clear hr1 h2
    go_wp2_with fail
    refine h2'.mono ?_
    rintro e w2 ⟨⟨r2, rfl⟩, rfl⟩
    clear h2'
    cases r2 with
    | true =>
      go_wp2
      go_ret
      exact ⟨rfl, Below.refl _ _⟩
    | false =>
      by_cases H : m = n ∧ q = n ∧ d = n ∧ (0 ≤ a ∧ a < n)
      case neg =>
        go_wp2_with fail
        all_goals first
          | (go_ret; exact ⟨rfl, Below.refl _ _⟩)
          | (exfalso; simp only [bne_eq_false_iff_eq] at *; omega)
      obtain ⟨hm, hq, hd, ⟨ha0, ha1⟩⟩ := H
      subst m q d
      obtain ⟨a, rfl⟩ := Int.eq_ofNat_of_zero_le ha0
      have han : a < n := by omega
      obtain ⟨f1, f2, f3, f4, f5, f6, f7⟩ := hf
      have HS : Hid (∀ i, i < n → (S i).size ≤ maxLen) := hS
      have HRR : Hid (∀ i, i < n → ∀ k, k < K i → (R i k).size ≤ maxLen) := hR
      clear hS hR
      go_wp2_with fail
      refine (nameIndex_sl f1 HS.out HN.out).mono ?_
      rintro e w0 ⟨mb0, r0, rfl, hr0, _, hb0⟩
      have HN0 := HN.out.keep hb0
      have HR0 := HR.out.keep hb0
      have HC0 := HC.out.keep hb0
      have HD0 := HD.out.keep hb0
      cases r0 with
      | false =>
        go_wp2
        go_ret
        exact ⟨rfl, hb0⟩
      | true =>
        have HAP : Hid (Apart S n) := hr0.1 rfl
        clear hr0
        go_wp2_with fail
        refine (copyStrings_sl f1 HN0).mono ?_
        rintro e w1 ⟨v1, rfl, hv1, hb1'⟩
        have HR1 := HR0.keep hb1'
        have HC1 := HC0.keep hb1'
        have HD1 := HD0.keep hb1'
        go_wp2_with fail
        refine (copyStrings2_sl f1 f5 HR1).mono ?_
        rintro e w2 ⟨v2, rfl, hv2, hb2'⟩
        have HC2 := HC1.keep hb2'
        have HD2 := HD1.keep hb2'
        have hv1' := hv1.keep hb2'
        go_wp2_with fail
        refine (copyBools2_sl f1 f7 HC2).mono ?_
        rintro e w3 ⟨v3, rfl, hv3, hb3'⟩
        have HD3 := HD2.keep hb3'
        have hv1'' := hv1'.keep hb3'
        have hv2' := hv2.keep hb3'
        go_wp2_with fail
        refine (copyBools_sl f1 HD3).mono ?_
        rintro e w4 ⟨v4, rfl, hv4, hb4'⟩
        have n1 := (hv1''.keep hb4').low (Nat.zero_le _)
        have n2 := (hv2'.keep hb4').low (Nat.zero_le _)
        have n3 := (hv3.keep hb4').low (Nat.zero_le _)
        have n4 := hv4.low (Nat.zero_le _)
        have c1 := hb0.trans (hb1'.mono hb0.size)
        have c2 := c1.trans (hb2'.mono c1.size)
        have c3 := c2.trans (hb3'.mono c2.size)
        have nb := c3.trans (hb4'.mono c3.size)
        clear HC2 HD2 hv1' HD3 hv1'' hv2' hv1 hv2 hv3 hv4 hb1' hb2' hb3' hb4' HR1 HC1 HD1 HN0 HR0 HC0 HD0 hb0 c1 c2 c3
        go_wp2_with fail
        refine (nameIndex_sl f1 HS.out n1).mono ?_
        rintro e w5 ⟨mb, r5, rfl, hr5, hm5, hb5⟩
        have e5 : r5 = true := hr5.2 HAP.out
        subst e5
        have m5 := hm5 rfl
        have n15 := n1.keep hb5
        have n25 := n2.keep hb5
        have n35 := n3.keep hb5
        have n45 := n4.keep hb5
        have nb5 := nb.trans (hb5.mono nb.size)
        clear hr5 hm5 n1 n2 n3 n4 nb hb5
        go_wp2_with fail
        refine (resolve_sl f1 f5 HRR.out m5 n25).mono ?_
        rintro e w6 ⟨v6, rfl, hv6, hb6⟩
        have n16 := n15.keep hb6
        have n26 := n25.keep hb6
        have n36 := n35.keep hb6
        have n46 := n45.keep hb6
        have nb6 := nb5.trans (hb6.mono nb5.size)
        have t6 := hv6.low (Nat.zero_le _)
        clear n15 n25 n35 n45 nb5 hb6 hv6 m5
        have HPL : Hid (∀ s j, place S n s = some j → j < n) := fun s j h => place_lt S s n j h
        go_wp2_with fail
        refine (reachFrom_sl (CL := CL) (CB := CB) (D := D) f1 f5 HPL.out t6 n36 n46 a han).mono ?_
        rintro e w7 ⟨v7, reach, rfl, hv7, hreach, hb7⟩
        have n17 := n16.keep hb7
        have n27 := n26.keep hb7
        have n37 := n36.keep hb7
        have n47 := n46.keep hb7
        have nb7 := nb6.trans (hb7.mono nb6.size)
        clear n16 n26 n36 n46 nb6 hb7 t6
        have HZ := zzLeads f1 f5 f6 HS.out HRR.out n17 n27 n37 n47 a han b
        have HREACH : Hid (∀ t, t < n → (reach t = true ↔ Reach (E n K (edge (place S n) R CL CB D)) a t)) := hreach
        clear hreach n17 n27 n37 n47 f5 f7
        obtain ⟨va, vb, vo, vc, rfl, hv⟩ := hv7
        have HV : Hid (∀ i, i < n → va = some ⟨vb, vo, none⟩ ∧ 0 ≤ vb ∧ w7.cell? ⟨vb, vo + i, none⟩ = some (.bool (reach i))) := hv
        clear hv
        have hfin : ∀ want : Bool, (want = true ↔ ∃ t : Nat, (t : Int) = b ∧ Reach (E n K (edge (place S n) R CL CB D)) a t) →
          ∀ r : Bool, (r = true ↔ ∃ t : Nat, (t : Int) = b ∧ Reach (E n K (edge (place S n) R CL CB D)) a t) → r = want := fun want hw r hr => by
            rw [Bool.eq_iff_iff, hw, hr]
        have HFIN : Hid (∀ want : Bool, (want = true ↔ ∃ t : Nat, (t : Int) = b ∧ Reach (E n K (edge (place S n) R CL CB D)) a t) →
          ∀ r : Bool, (r = true ↔ ∃ t : Nat, (t : Int) = b ∧ Reach (E n K (edge (place S n) R CL CB D)) a t) → r = want) := hfin
        clear hfin
        by_cases hb0 : b < 0
        · have hw : Hid ((false : Bool) = true ↔ ∃ t : Nat, (t : Int) = b ∧ Reach (E n K (edge (place S n) R CL CB D)) a t) := ⟨fun h => (by cases h), fun ⟨t, ht, _⟩ => by omega⟩
          have hz : ¬ (0 ≤ b) := by omega
          go_wp2_with fail
          refine HZ.mono ?_
          rintro e w8 ⟨r8, rfl, hr8, hb8⟩
          have e8 := HFIN.out false hw.out r8 hr8
          subst e8
          clear hr8
          go_wp2
          go_ret
          exact ⟨rfl, nb7.trans (hb8.mono nb7.size)⟩
        · by_cases hbn : b < n
          · obtain ⟨t, rfl⟩ := Int.eq_ofNat_of_zero_le (Int.not_lt.1 hb0)
            have htn : t < n := by omega
            obtain ⟨rfl, _, hcell⟩ := HV.out t htn
            have hw : Hid (reach t = true ↔ ∃ t' : Nat, (t' : Int) = (t : Int) ∧ Reach (E n K (edge (place S n) R CL CB D)) a t') :=
              ⟨fun h => ⟨t, rfl, (HREACH.out t htn).1 h⟩, fun ⟨t', ht', h⟩ => by
                obtain rfl : t' = t := by omega
                exact (HREACH.out _ htn).2 h⟩
            cases hrt : reach t with
            | true =>
              rw [hrt] at hcell hw
              clear hrt
              go_wp2_with fail
              refine HZ.mono ?_
              rintro e w8 ⟨r8, rfl, hr8, hb8⟩
              have e8 := HFIN.out true (by simpa using hw.out) r8 hr8
              subst e8
              clear hr8
              go_wp2
              go_ret
              exact ⟨rfl, nb7.trans (hb8.mono nb7.size)⟩
            | false =>
              rw [hrt] at hcell hw
              clear hrt
              go_wp2_with fail
              refine HZ.mono ?_
              rintro e w8 ⟨r8, rfl, hr8, hb8⟩
              have e8 := HFIN.out false hw.out r8 hr8
              subst e8
              clear hr8
              go_wp2
              go_ret
              exact ⟨rfl, nb7.trans (hb8.mono nb7.size)⟩
          · have hw : Hid ((false : Bool) = true ↔ ∃ t : Nat, (t : Int) = b ∧ Reach (E n K (edge (place S n) R CL CB D)) a t) := ⟨fun h => (by cases h), fun ⟨t, ht, h⟩ => by
              have := reach_lt (fun i k j h => edge_lt HPL.out h) han h
              omega⟩
            go_wp2_with fail
            refine HZ.mono ?_
            rintro e w8 ⟨r8, rfl, hr8, hb8⟩
            have e8 := HFIN.out false hw.out r8 hr8
            subst e8
            clear hr8
            go_wp2
            go_ret
            exact ⟨rfl, nb7.trans (hb8.mono nb7.size)⟩
end Go.Proofs.Qxb6603821a
