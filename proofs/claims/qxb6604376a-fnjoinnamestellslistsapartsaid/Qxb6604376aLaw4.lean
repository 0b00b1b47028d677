import Derived.Test.Qxb6604376aWalks
namespace Go.Proofs.Qxb6604376a
open Go.RowKit
set_option linter.unusedVariables false
set_option linter.unusedSimpArgs false

def TrueSaid (w : World) (e : Ending) (w' : World) : Prop := e = .returned (.bool true) ∧ Below w.heap.size w w'

theorem got_eq {S T : Nat → ByteArray} {n m : Nat} (hn0 : 0 < n) (hm0 : 0 < m) (hn : ∀ i, i < n → Free (S i)) (hm : ∀ i, i < m → Free (T i)) : ((got S n).toList == (got T m).toList) = true ↔ SameList S T n m := by
  rw [ByteArray.toList_eq, ByteArray.toList_eq, got_list, got_list, beq_iff_eq]
  exact J_inj S T n m hn0 hm0 (fun i hi => free_not_mem (hn i hi)) (fun i hi => free_not_mem (hm i hi))

set_option maxHeartbeats 1600000 in
set_option maxRecDepth 100000 in
theorem law4 {w : World} {n m : Nat} {S T : Nat → ByteArray} (na ma : Option Addr) (nc mc : Nat)
    (hnv : SliceAt w 0 (.slice na n nc) n (fun i => .string (S i))) (hmv : SliceAt w 0 (.slice ma m mc) m (fun i => .string (T i))) :
    Calls Try.prog 4 #[.slice na n nc, .slice ma m mc] w (TrueSaid w) := by
  have h1 := bytes13_sl hnv hmv
  have HN : Hid (SliceAt w 0 (.slice na n nc) n (fun i => .string (S i))) := hnv
  have HM : Hid (SliceAt w 0 (.slice ma m mc) m (fun i => .string (T i))) := hmv
  clear hnv hmv
  go_enter Try.func4, Try.ntmps4
  go_wp2_with fail
  refine h1.mono ?_
  rintro e w1 ⟨⟨r1, rfl, hr1⟩, rfl⟩
  clear h1
  cases r1 with
  | false =>
    clear hr1
    go_wp2
    go_ret
    exact ⟨rfl, Below.refl _ _⟩
  | true =>
    obtain ⟨hf, hf'⟩ := hr1 rfl
    have HF : Hid (Fits n S) := hf
    have HF' : Hid (Fits m T) := hf'
    have hn9 : n ≤ 1048576 := by unfold Fits at hf; omega
    have hm9 : m ≤ 1048576 := by unfold Fits at hf'; omega
    clear hr1 hf hf'
    go_wp2_with fail
    refine (namesBytes_sl hn9 HN.out).mono ?_
    rintro e w2 ⟨⟨z1, rfl⟩, rfl⟩
    go_wp2_with fail
    refine (namesBytes_sl hm9 HM.out).mono ?_
    rintro e w3 ⟨⟨z2, rfl⟩, rfl⟩
    by_cases h0 : n = 0
    · have hb : ((n : Int) == 0) = true := by simp [h0]
      go_wp2
      all_goals (go_ret; exact ⟨rfl, Below.refl _ _⟩)
    by_cases h0' : m = 0
    · have hb : ((n : Int) == 0) = false := by simp [h0]
      have hb' : ((m : Int) == 0) = true := by simp [h0']
      go_wp2
      all_goals (go_ret; exact ⟨rfl, Below.refl _ _⟩)
    have hb : ((n : Int) == 0) = false := by simp [h0]
    have hb' : ((m : Int) == 0) = false := by simp [h0']
    go_wp2_with fail
    · go_ret; exact ⟨rfl, Below.refl _ _⟩
    refine (slashFree_sl HF.out HN.out).mono ?_
    rintro e w4 ⟨⟨r4, rfl, hr4⟩, rfl⟩
    cases r4 with
    | false =>
      clear hr4
      go_wp2
      go_ret; exact ⟨rfl, Below.refl _ _⟩
    | true =>
      have hfr := hr4 rfl
      clear hr4
      have HFR : Hid (∀ i, i < n → Free (S i)) := hfr
      clear hfr
      go_wp2_with fail
      refine (slashFree_sl HF'.out HM.out).mono ?_
      rintro e w5 ⟨⟨r5, rfl, hr5⟩, rfl⟩
      cases r5 with
      | false =>
        clear hr5
        go_wp2
        go_ret; exact ⟨rfl, Below.refl _ _⟩
      | true =>
        have hfr := hr5 rfl
        clear hr5
        have HFR' : Hid (∀ i, i < m → Free (T i)) := hfr
        clear hfr
        go_wp2_with fail
        refine (copy_sl hn9 HN.out).mono ?_
        rintro e w6 ⟨v1, rfl, hv1, hb1⟩
        have HM1 := HM.out.keep hb1
        go_wp2_with fail
        refine (copy_sl hm9 HM1).mono ?_
        rintro e w7 ⟨v2, rfl, hv2, hb2⟩
        have hv1' := hv1.keep hb2
        have nb := hb1.trans (hb2.mono hb1.size)
        clear HM1 hv1 hb1 hb2
        go_wp2_with fail
        refine (join12 HF.out hv1').mono ?_
        rintro e w8 ⟨rfl, hb8⟩
        have hv18 := hv1'.keep hb8
        have hv28 := hv2.keep hb8
        have nb8 := nb.trans (hb8.mono nb.size)
        clear hv1' hv2 nb hb8
        go_wp2_with fail
        refine (join12 HF'.out hv28).mono ?_
        rintro e w9 ⟨rfl, hb9⟩
        have hv19 := hv18.keep hb9
        have hv29 := hv28.keep hb9
        have nb9 := nb8.trans (hb9.mono nb8.size)
        clear hv18 hv28 nb8 hb9
        have hsame := sameNames_sl hn9 hm9 hv19 hv29
        clear hv19 hv29
        have hge := got_eq (by omega) (by omega) HFR.out HFR'.out
        have HGE : Hid (((got S n).toList == (got T m).toList) = true ↔ SameList S T n m) := hge
        clear hge
        go_wp2_with fail
        refine hsame.mono ?_
        rintro e w10 ⟨r10, rfl, hr10, hb10⟩
        have er : ((got S n).toList == (got T m).toList) = r10 := by rw [Bool.eq_iff_iff, HGE.out, hr10]
        clear hr10 hsame HGE
        cases r10 <;>
        · go_wp2
          go_ret
          exact ⟨rfl, nb9.trans (hb10.mono nb9.size)⟩
end Go.Proofs.Qxb6604376a
