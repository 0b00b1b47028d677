import Derived.Test.Qxb6604376aLaw4
namespace Go.Proofs.Qxb6604376a
open Go.RowKit
set_option linter.unusedVariables false
set_option linter.unusedSimpArgs false

theorem get_of (s : ByteArray) (k : Nat) (h : k < s.size) : s.data.toList[k]? = some s[k] := by
  have h' : k < s.data.toList.length := by rw [← Lib.size_eq]; exact h
  rw [List.getElem?_eq_getElem h']
  simp [ByteArray.getElem_eq_getElem_data]

theorem got_byte {S : Nat → ByteArray} {n p i : Nat} (hp : p < n) (hi : i < (S p).size) (hf : Free (S p)) (h : off S p + i < (got S n).size) : ((got S n)[off S p + i]).toNat ≠ 47 := by
  have h1 := get_of (got S n) (off S p + i) h
  rw [got_list, J_get S (by omega) (by rw [← got_size]; exact h), T_byte S hp hi] at h1
  have h2 := get_of (S p) i hi
  rw [show (S p).data.toList = word S p from rfl] at h2
  rw [h2] at h1
  have : (S p)[i] = (got S n)[off S p + i] := by simpa using h1
  rw [← this]
  exact hf i hi

theorem got_slash {S : Nat → ByteArray} {n p : Nat} (hp : p < n) (h : off S p + (S p).size < (got S n).size) : ((got S n)[off S p + (S p).size]).toNat = 47 := by
  have h1 := get_of (got S n) (off S p + (S p).size) h
  rw [got_list, J_get S (by omega) (by rw [← got_size]; exact h), T_slash S hp] at h1
  have : (47 : UInt8) = (got S n)[off S p + (S p).size] := by simpa using h1
  rw [← this]
  rfl

theorem got_cut {S : Nat → ByteArray} {n p : Nat} (hp : p < n) : (((got S n).extract (off S p) (off S p + (S p).size)).toList == (S p).toList) = true := by
  rw [ByteArray.toList_eq, ByteArray.toList_eq, Lib.extract_data, got_list, Nat.add_sub_cancel_left, J_cut S hp, beq_iff_eq]
  rfl

/-- Where the scan stands: in piece p, or behind the last. -/
def Scan (S : Nat → ByteArray) (n k p s : Nat) : Prop := (p < n ∧ s = off S p ∧ off S p ≤ k ∧ k ≤ off S p + (S p).size) ∨ (p = n ∧ k = off S n)

set_option maxHeartbeats 1600000 in
set_option maxRecDepth 100000 in
theorem law3 {w : World} {n : Nat} {S : Nat → ByteArray} (na : Option Addr) (nc : Nat) (hnv : SliceAt w 0 (.slice na n nc) n (fun i => .string (S i))) :
    Calls Try.prog 3 #[.slice na n nc] w (TrueSaid w) := by
  have h1 := bytes8_sl hnv
  have HN : Hid (SliceAt w 0 (.slice na n nc) n (fun i => .string (S i))) := hnv
  clear hnv
  go_enter Try.func3, Try.ntmps3
  go_wp2_with fail
  refine h1.mono ?_
  rintro e w1 ⟨⟨r1, rfl, hr1⟩, rfl⟩
  clear h1
  cases r1 with
  | false =>
    clear hr1
    go_wp2
    go_ret
    exact ⟨rfl, Below.refl _ _⟩
  | true =>
    have hf := hr1 rfl
    have HF : Hid (Fits n S) := hf
    have hf9 : sizes S n + n ≤ 1048576 := by unfold Fits at hf; omega
    have hn9 : n ≤ 1048576 := by omega
    clear hr1 hf
    go_wp2_with fail
    refine (namesBytes_sl hn9 HN.out).mono ?_
    rintro e w2 ⟨⟨z1, rfl⟩, rfl⟩
    go_wp2_with fail
    · go_ret; exact ⟨rfl, Below.refl _ _⟩
    refine (slashFree_sl HF.out HN.out).mono ?_
    rintro e w4 ⟨⟨r4, rfl, hr4⟩, rfl⟩
    cases r4 with
    | false =>
      clear hr4
      go_wp2
      go_ret; exact ⟨rfl, Below.refl _ _⟩
    | true =>
      have HFR : Hid (∀ i, i < n → Free (S i)) := hr4 rfl
      clear hr4
      go_wp2_with fail
      refine (copy_sl hn9 HN.out).mono ?_
      rintro e w6 ⟨v1, rfl, hv1, hb1⟩
      go_wp2_with fail
      refine (join12 HF.out hv1).mono ?_
      rintro e w8 ⟨rfl, hb8⟩
      have hv18 := hv1.keep hb8
      have nb8 := hb1.trans (hb8.mono hb1.size)
      clear hv1 hb1 hb8
      obtain ⟨va, vb, vo, vc, rfl, hcap, hv⟩ := hv18
      have HV : Hid (∀ i, i < n → va = some ⟨vb, vo, none⟩ ∧ w6.heap.size ≤ w6.heap.size ∧ w8.cell? ⟨vb, vo + i, none⟩ = some (.string (S i))) := fun i hi => ⟨(hv i hi).1, Nat.le_refl _, (hv i hi).2.2⟩
      clear hv
      rcases Nat.eq_zero_or_pos n with h0 | h0
      · subst h0
        have e0 : (got S 0).toList.isEmpty = true := by rw [ByteArray.toList_eq, got_list]; rfl
        go_wp2
        go_ret
        exact ⟨rfl, nb8⟩
      · have hb : ((n : Int) == 0) = false := by simp; omega
        have hJ := J_length S n h0
        rw [← got_size] at hJ
        have HJ : Hid ((got S n).size + 1 = off S n) := hJ
        have hL9 : (got S n).size ≤ 1048576 := by unfold off at hJ; omega
        clear hJ
        go_wp2
        go_loopg [4, 5, 6] ((got S n).size + 1) (fun g pp ss kk wr => ∃ k p s : Nat, k ≤ (got S n).size + 1 ∧ g = (got S n).size + 1 - k ∧ kk = .int .i64 k ∧ pp = .int .i64 p ∧ ss = .int .i64 s ∧ Scan S n k p s ∧ Below w8.heap.size w8 wr)
        case atStart => exact ⟨0, 0, 0, Nat.zero_le _, rfl, rfl, rfl, rfl, Or.inl ⟨h0, rfl, Nat.zero_le _, Nat.zero_le _⟩, Below.refl _ _⟩
        case round =>
          obtain ⟨k, p, s, hk, rfl, rfl, rfl, rfl, hS, hB⟩ := hrel
          rcases hS with ⟨hp, hs, hk1, hk2⟩ | ⟨hpn, hk0⟩
          · have hoff := off_mono S (p := p + 1) (n := n) (by omega)
            rw [off_succ] at hoff
            have hJ := HJ.out
            have hkz : (k : Int) ≤ ((got S n).size : Int) := by omega
            have hpz : (p : Int) < (n : Int) := by omega
            obtain ⟨rfl, _, hcell⟩ := HV.out p hp
            have y1 := cell_later hB hcell
            have hsk : s ≤ k := by omega
            have hp9 : p ≤ 1048576 := by omega
            by_cases hin : k < off S p + (S p).size
            · have hlt : k < (got S n).size := by omega
              have hltz : (k : Int) < ((got S n).size : Int) := by omega
              have hne : ((got S n)[k]).toNat ≠ 47 := by
                obtain ⟨i, rfl⟩ : ∃ i, k = off S p + i := ⟨k - off S p, by omega⟩
                exact got_byte hp (by omega) (HFR.out p hp) hlt
              have hne' : (((got S n)[k].toNat : Int) != 47) = true := by rw [bne_iff_ne]; omega
              have HSC : Hid (Scan S n (k + 1) p s) := Or.inl ⟨hp, hs, by omega, by omega⟩
              clear hs hk1 hk2 hoff hJ hin hne
              go_wp2
              go_roundg ((got S n).size + 1 - (k + 1))
              case measure => omega
              case rel => exact ⟨k + 1, p, s, by omega, rfl, by go_num, rfl, rfl, HSC.out, hB⟩
            · have hkk : k = off S p + (S p).size := by omega
              have hcut : (((got S n).extract s k).toList == (S p).toList) = true := by rw [hs, hkk]; exact got_cut hp
              have HSC : Hid (Scan S n (k + 1) (p + 1) (k + 1)) := by
                by_cases e : p + 1 = n
                · exact Or.inr ⟨e, by rw [← e, off_succ]; omega⟩
                · exact Or.inl ⟨by omega, by rw [off_succ]; omega, by rw [off_succ]; omega, by rw [off_succ]; omega⟩
              by_cases hlt : k < (got S n).size
              · have hltz : (k : Int) < ((got S n).size : Int) := by omega
                have hne : ((got S n)[k]).toNat = 47 := by
                  subst hkk
                  exact got_slash hp hlt
                have hne' : (((got S n)[k].toNat : Int) != 47) = false := by rw [bne_eq_false_iff_eq]; omega
                clear hs hk1 hk2 hoff hJ hin hne hkk
                go_wp2
                go_quiet (fail)
                go_wp2
                go_roundg ((got S n).size + 1 - (k + 1))
                case measure => omega
                case rel => exact ⟨k + 1, p + 1, k + 1, by omega, rfl, by go_num, by go_num, by go_num, HSC.out, below_drewN hB _⟩
              · have hltz : ¬ (k : Int) < ((got S n).size : Int) := by omega
                clear hs hk1 hk2 hoff hJ hin hkk
                go_wp2
                go_quiet (fail)
                go_wp2
                go_roundg ((got S n).size + 1 - (k + 1))
                case measure => omega
                case rel => exact ⟨k + 1, p + 1, k + 1, by omega, rfl, by go_num, by go_num, by go_num, HSC.out, below_drewN hB _⟩
          · have hkz : ¬ (k : Int) ≤ ((got S n).size : Int) := by have := HJ.out; omega
            have hpb : ((p : Int) == (n : Int)) = true := by simp [hpn]
            clear hpn hk0
            go_wp2
            go_ret
            exact ⟨rfl, nb8.trans (hB.mono nb8.size)⟩
end Go.Proofs.Qxb6604376a
