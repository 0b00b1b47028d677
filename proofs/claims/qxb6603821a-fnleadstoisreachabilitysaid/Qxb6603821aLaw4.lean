import Derived.Test.Qxb6603821aW10
namespace Go.Proofs.Qxb6603821a
open Go.RowKit Go.WideMaps Go.Maps
set_option linter.unusedVariables false
set_option linter.unusedSimpArgs false

section
variable {w : World} {n m q d : Nat} {S : Nat → ByteArray} {K : Nat → Nat} {R : Nat → Nat → ByteArray} {CL : Nat → Nat} {CB : Nat → Nat → Bool} {D : Nat → Bool} {nv rv cv dv : Value}

theorem bytes_sl18 (hnv : SliceAt w 0 nv n (fun i => .string (S i))) (hrv : RowsAt w 0 rv m K (fun i k => .string (R i k))) (hcv : RowsAt w 0 cv q CL (fun i k => .bool (CB i k))) (hdv : SliceAt w 0 dv d (fun i => .bool (D i))) (xa xb xc : Int) :
    Calls Try.prog 18 #[nv, rv, cv, dv, .int .i64 xa, .int .i64 xb, .int .i64 xc] w fun e w' => BytesSaid n m q d K CL e ∧ w' = w := by
  obtain ⟨na, nb, no, nc, rfl, h1⟩ := hnv
  obtain ⟨V, ⟨ra, rb, ro, rc, rfl, h2⟩, h3⟩ := hrv
  obtain ⟨A, C, RB, RO, h4⟩ := bases h3
  obtain ⟨V', ⟨ca, cb, co, cc, rfl, h5⟩, h6⟩ := hcv
  obtain ⟨CA, CC, h7⟩ := shapes h6
  obtain ⟨da, db, do_, dc, rfl, h8⟩ := hdv
  exact bytes_any18 na ra ca da n m q d nb no nc rb ro rc cb co cc dc S A K C RB RO R CA CL CC xa xb xc w (fun i hi => ⟨(h1 i hi).1, (h1 i hi).2.2⟩)
    (fun i hi => ⟨(h2 i hi).1, by rw [← (h4 i hi).1]; exact (h2 i hi).2.2⟩) (fun i hi k hk => (h4 i hi).2 k hk) (fun i hi => ⟨(h5 i hi).1, by rw [← h7 i hi]; exact (h5 i hi).2.2⟩)

theorem bytes_sl8 (hnv : SliceAt w 0 nv n (fun i => .string (S i))) (hrv : RowsAt w 0 rv m K (fun i k => .string (R i k))) (hcv : RowsAt w 0 cv q CL (fun i k => .bool (CB i k))) (hdv : SliceAt w 0 dv d (fun i => .bool (D i))) (xa xb : Int) :
    Calls Try.prog 8 #[nv, rv, cv, dv, .int .i64 xa, .int .i64 xb] w fun e w' => BytesSaid n m q d K CL e ∧ w' = w := by
  obtain ⟨na, nb, no, nc, rfl, h1⟩ := hnv
  obtain ⟨V, ⟨ra, rb, ro, rc, rfl, h2⟩, h3⟩ := hrv
  obtain ⟨A, C, RB, RO, h4⟩ := bases h3
  obtain ⟨V', ⟨ca, cb, co, cc, rfl, h5⟩, h6⟩ := hcv
  obtain ⟨CA, CC, h7⟩ := shapes h6
  obtain ⟨da, db, do_, dc, rfl, h8⟩ := hdv
  exact bytes_any8 na ra ca da n m q d nb no nc rb ro rc cb co cc dc S A K C RB RO R CA CL CC xa xb w (fun i hi => ⟨(h1 i hi).1, (h1 i hi).2.2⟩)
    (fun i hi => ⟨(h2 i hi).1, by rw [← (h4 i hi).1]; exact (h2 i hi).2.2⟩) (fun i hi k hk => (h4 i hi).2 k hk) (fun i hi => ⟨(h5 i hi).1, by rw [← h7 i hi]; exact (h5 i hi).2.2⟩)

theorem big_sl (hnv : SliceAt w 0 nv n (fun i => .string (S i))) (hrv : RowsAt w 0 rv m K (fun i k => .string (R i k))) (hcv : RowsAt w 0 cv q CL (fun i k => .bool (CB i k))) (hdv : SliceAt w 0 dv d (fun i => .bool (D i))) (hf : Fits n m q d K CL) :
    Calls Try.prog 9 #[nv, rv, cv, dv] w fun e w' => AnyBool e ∧ w' = w := by
  obtain ⟨na, nb, no, nc, rfl, h1⟩ := hnv
  obtain ⟨V, ⟨ra, rb, ro, rc, rfl, h2⟩, h3⟩ := hrv
  obtain ⟨A, C, RB, RO, h4⟩ := bases h3
  obtain ⟨V', ⟨ca, cb, co, cc, rfl, h5⟩, h6⟩ := hcv
  obtain ⟨CA, CC, h7⟩ := shapes h6
  obtain ⟨da, db, do_, dc, rfl, h8⟩ := hdv
  obtain ⟨f1, f2, f3, f4, f5, f6, f7⟩ := hf
  exact big_any na ra ca da n m q d nb no nc rb ro rc cb co cc dc S A K C RB RO R CA CL CC w f1 f2 f3 f4 (fun i hi => ⟨(h1 i hi).1, (h1 i hi).2.2⟩)
    (fun i hi => ⟨(h2 i hi).1, by rw [← (h4 i hi).1]; exact (h2 i hi).2.2⟩) (fun i hi k hk => (h4 i hi).2 k hk) f5 (fun i hi => ⟨(h5 i hi).1, by rw [← h7 i hi]; exact (h5 i hi).2.2⟩)
end

def TrueSaid (w : World) (e : Ending) (w' : World) : Prop := e = .returned (.bool true) ∧ Below w.heap.size w w'

set_option maxHeartbeats 1600000 in
set_option maxRecDepth 100000 in
theorem law4 {w : World} {n m q d : Nat} {S : Nat → ByteArray} {K : Nat → Nat} {R : Nat → Nat → ByteArray} {CL : Nat → Nat} {CB : Nat → Nat → Bool} {D : Nat → Bool} (na ra ca da : Option Addr) (nc rc cc dc : Nat)
    (hS : ∀ i, i < n → (S i).size ≤ maxLen) (hR : ∀ i, i < m → ∀ k, k < K i → (R i k).size ≤ maxLen)
    (hnv : SliceAt w 0 (.slice na n nc) n (fun i => .string (S i))) (hrv : RowsAt w 0 (.slice ra m rc) m K (fun i k => .string (R i k))) (hcv : RowsAt w 0 (.slice ca q cc) q CL (fun i k => .bool (CB i k))) (hdv : SliceAt w 0 (.slice da d dc) d (fun i => .bool (D i)))
    (a b c : Int) :
    Calls Try.prog 4 #[.slice na n nc, .slice ra m rc, .slice ca q cc, .slice da d dc, .int .i64 a, .int .i64 b, .int .i64 c] w (TrueSaid w) := by
  have h1 := bytes_sl18 hnv hrv hcv hdv a b c
  have h2 := big_sl hnv hrv hcv hdv
  have HN : Hid (SliceAt w 0 (.slice na n nc) n (fun i => .string (S i))) := hnv
  have HR : Hid (RowsAt w 0 (.slice ra m rc) m K (fun i k => .string (R i k))) := hrv
  have HC : Hid (RowsAt w 0 (.slice ca q cc) q CL (fun i k => .bool (CB i k))) := hcv
  have HD : Hid (SliceAt w 0 (.slice da d dc) d (fun i => .bool (D i))) := hdv
  clear hnv hrv hcv hdv
  go_enter Try.func4, Try.ntmps4
  go_wp2_with fail
  refine h1.mono ?_
  rintro e w1 ⟨⟨r1, rfl, hr1⟩, rfl⟩
  clear h1
  cases r1 with
  | false =>
    clear hr1 h2
    go_wp2
    go_ret
    exact ⟨rfl, Below.refl _ _⟩
  | true =>
    have hf := hr1 rfl
    have h2' := h2 hf
    clear hr1 h2
    go_wp2_with fail
    refine h2'.mono ?_
    rintro e w2 ⟨⟨r2, rfl⟩, rfl⟩
    clear h2'
    cases r2 with
    | true =>
      go_wp2
      go_ret
      exact ⟨rfl, Below.refl _ _⟩
    | false =>
      by_cases H : m = n ∧ q = n ∧ d = n ∧ (0 ≤ a ∧ a < n) ∧ (0 ≤ b ∧ b < n) ∧ (0 ≤ c ∧ c < n)
      case neg =>
        go_wp2_with fail
        all_goals first
          | (go_ret; exact ⟨rfl, Below.refl _ _⟩)
          | (exfalso; simp only [bne_eq_false_iff_eq] at *; omega)
      obtain ⟨hm, hq, hd, ⟨ha0, ha1⟩, ⟨hb0, hb1⟩, hc0, hc1⟩ := H
      subst m q d
      obtain ⟨a, rfl⟩ := Int.eq_ofNat_of_zero_le ha0
      obtain ⟨b, rfl⟩ := Int.eq_ofNat_of_zero_le hb0
      obtain ⟨c, rfl⟩ := Int.eq_ofNat_of_zero_le hc0
      have han : a < n := by omega
      have hbn : b < n := by omega
      have hcn : c < n := by omega
      obtain ⟨f1, f2, f3, f4, f5, f6, f7⟩ := hf
      have HS : Hid (∀ i, i < n → (S i).size ≤ maxLen) := hS
      have HRR : Hid (∀ i, i < n → ∀ k, k < K i → (R i k).size ≤ maxLen) := hR
      clear hS hR
      go_wp2_with fail
      refine (copyStrings_sl f1 HN.out).mono ?_
      rintro e w1 ⟨v1, rfl, hv1, hb1'⟩
      have HR1 := HR.out.keep hb1'
      have HC1 := HC.out.keep hb1'
      have HD1 := HD.out.keep hb1'
      go_wp2_with fail
      refine (copyStrings2_sl f1 f5 HR1).mono ?_
      rintro e w2 ⟨v2, rfl, hv2, hb2'⟩
      have HC2 := HC1.keep hb2'
      have HD2 := HD1.keep hb2'
      have hv1' := hv1.keep hb2'
      go_wp2_with fail
      refine (copyBools2_sl f1 f7 HC2).mono ?_
      rintro e w3 ⟨v3, rfl, hv3, hb3'⟩
      have HD3 := HD2.keep hb3'
      have hv1'' := hv1'.keep hb3'
      have hv2' := hv2.keep hb3'
      go_wp2_with fail
      refine (copyBools_sl f1 HD3).mono ?_
      rintro e w4 ⟨v4, rfl, hv4, hb4'⟩
      have n1 := (hv1''.keep hb4').low (Nat.zero_le _)
      have n2 := (hv2'.keep hb4').low (Nat.zero_le _)
      have n3 := (hv3.keep hb4').low (Nat.zero_le _)
      have n4 := hv4.low (Nat.zero_le _)
      have nb : Below _ _ w4 := hb1'.trans ((hb2'.mono hb1'.size).trans ((hb3'.mono (Nat.le_trans hb1'.size hb2'.size)).trans (hb4'.mono (Nat.le_trans hb1'.size (Nat.le_trans hb2'.size hb3'.size)))))
      clear HC2 HD2 hv1' HD3 hv1'' hv2' hv1 hv2 hv3 hv4 hb1' hb2' hb3' hb4' HR1 HC1 HD1
      have z := fun (w' : World) (hb : Below w4.heap.size w4 w') (x : Nat) (hx : x < n) (t : Int) => zzLeads f1 f5 f6 HS.out HRR.out (n1.keep hb) (n2.keep hb) (n3.keep hb) (n4.keep hb) x hx t
      have HZ : Hid (∀ (w' : World) (hb : Below w4.heap.size w4 w') (x : Nat) (hx : x < n) (t : Int), Calls Try.prog 17 #[v1, v2, v3, v4, .int .i64 x, .int .i64 t] w' (LeadsSaid w' (E n K (edge (place S n) R CL CB D)) x t)) := z
      clear z n1 n2 n3 n4 f5 f7
      go_wp2_with fail
      refine (HZ.out w4 (Below.refl _ _) a han a).mono ?_
      rintro e w5 ⟨r5, rfl, hr5, hb5⟩
      have e5 : r5 = true := hr5.2 ⟨a, rfl, Reach.refl _ _⟩
      subst e5
      clear hr5
      go_wp2_with fail
      refine (HZ.out w5 hb5 a han b).mono ?_
      rintro e w6 ⟨r6, rfl, hr6, hb6⟩
      have hb6' := hb5.trans (hb6.mono hb5.size)
      cases r6 with
      | false =>
        clear hr6
        go_wp2
        go_ret
        exact ⟨rfl, nb.trans (hb6'.mono nb.size)⟩
      | true =>
        obtain ⟨t6, ht6, p6⟩ := hr6.1 rfl
        obtain rfl : t6 = b := by omega
        clear hr6
        go_wp2_with fail
        refine (HZ.out w6 hb6' t6 hbn c).mono ?_
        rintro e w7 ⟨r7, rfl, hr7, hb7⟩
        have hb7' := hb6'.trans (hb7.mono hb6'.size)
        cases r7 with
        | false =>
          clear hr7
          go_wp2
          go_ret
          exact ⟨rfl, nb.trans (hb7'.mono nb.size)⟩
        | true =>
          obtain ⟨t7, ht7, p7⟩ := hr7.1 rfl
          obtain rfl : t7 = c := by omega
          clear hr7
          go_wp2_with fail
          refine (HZ.out w7 hb7' a han t7).mono ?_
          rintro e w8 ⟨r8, rfl, hr8, hb8⟩
          have hb8' := hb7'.trans (hb8.mono hb7'.size)
          have e8 : r8 = true := hr8.2 ⟨t7, rfl, p6.trans p7⟩
          subst e8
          clear hr8
          go_wp2
          go_ret
          exact ⟨rfl, nb.trans (hb8'.mono nb.size)⟩
end Go.Proofs.Qxb6603821a
