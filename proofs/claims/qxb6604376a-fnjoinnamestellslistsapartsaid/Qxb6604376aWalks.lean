import Derived.Test.Qxb6604376aJoin
namespace Go.Proofs.Qxb6604376a
open Go.RowKit
set_option linter.unusedVariables false
set_option linter.unusedSimpArgs false

def got (S : Nat → ByteArray) (n : Nat) : ByteArray := ⟨(J S n).toArray⟩
theorem got_list (S : Nat → ByteArray) (n : Nat) : (got S n).data.toList = J S n := by simp [got]
theorem got_size (S : Nat → ByteArray) (n : Nat) : (got S n).size = (J S n).length := by rw [Lib.size_eq, got_list]

def JoinSaid (w : World) (S : Nat → ByteArray) (n : Nat) (e : Ending) (w' : World) : Prop := e = .returned (.string (got S n)) ∧ Below w.heap.size w w'

theorem join46 {w : World} {lo n : Nat} {v : Value} {S : Nat → ByteArray} (hf : Fits n S) (h : SliceAt w lo v n (fun i => .string (S i))) :
    Calls Try.prog 46 #[v, .string ⟨#[47]⟩] w (JoinSaid w S n) := by
  obtain ⟨a, b, o, c, rfl, hcap, hc⟩ := h
  rcases Nat.eq_zero_or_pos n with h0 | h0
  · subst h0
    refine (Try.strings_Join_none a c ⟨#[47]⟩ w).mono ?_
    rintro e w' ⟨rfl, rfl⟩
    exact ⟨rfl, Below.refl _ _⟩
  · obtain ⟨rfl, _, hc0⟩ := hc 0 h0
    have hlt : b < w.heap.size := World.block_lt_of_cell? _ _ hc0
    have hJ := J_length S n h0
    have e0 : (Lib.join ((xsOf S n).map (·.data.toList)) (⟨#[47]⟩ : ByteArray).data.toList) = J S n := by rw [words_of]; rfl
    have := Try.strings_Join b o c (xsOf S n) ⟨#[47]⟩ w (fun j x hx => by
      have hj : j < n := by
        have := (List.getElem?_eq_some_iff.1 hx).1
        simpa [xsOf] using this
      have : x = S j := by simpa [xsOf, hj] using hx.symm
      subst this
      exact (hc j hj).2.2) hlt (by rw [xsOf_length]; unfold Fits at hf; omega) (by rw [xsOf_length]; exact hcap) (by rw [e0]; unfold Fits at hf; unfold off at hJ; omega)
    rw [xsOf_length, e0] at this
    exact this

set_option maxHeartbeats 400000 in
theorem join12 {w : World} {lo n : Nat} {v : Value} {S : Nat → ByteArray} (hf : Fits n S) (h : SliceAt w lo v n (fun i => .string (S i))) :
    Calls Try.prog 12 #[v] w (JoinSaid w S n) := by
  have h1 := join46 hf h
  have h34 : Calls Try.prog 34 #[v] w (JoinSaid w S n) := by
    clear h
    go_enter Try.func34, Try.ntmps34
    go_wp2_with fail
    refine h1.mono ?_
    rintro e w' ⟨rfl, hb⟩
    go_wp2
    go_ret
    exact ⟨rfl, hb⟩
  clear h h1
  go_enter Try.func12, Try.ntmps12
  go_wp2_with fail
  refine h34.mono ?_
  rintro e w' ⟨rfl, hb⟩
  go_wp2
  go_ret
  exact ⟨rfl, hb⟩

def SameList (S T : Nat → ByteArray) (n m : Nat) : Prop := n = m ∧ ∀ i, i < n → word S i = word T i

def SameSaid (w : World) (p : Prop) (e : Ending) (w' : World) : Prop := ∃ r : Bool, e = .returned (.bool r) ∧ (r = true ↔ p) ∧ Below w.heap.size w w'

set_option maxHeartbeats 1600000 in
theorem sameNames (na ma : Option Addr) (n nb no nc m mb mo mc : Nat) (S T : Nat → ByteArray) (w : World) (hn0 : n ≤ 1048576) (hm0 : m ≤ 1048576)
    (hn : ∀ i, i < n → na = some ⟨nb, no, none⟩ ∧ w.cell? ⟨nb, no + i, none⟩ = some (.string (S i)))
    (hm : ∀ i, i < m → ma = some ⟨mb, mo, none⟩ ∧ w.cell? ⟨mb, mo + i, none⟩ = some (.string (T i))) :
    Calls Try.prog 14 #[.slice na n nc, .slice ma m mc] w (SameSaid w (SameList S T n m)) := by
  by_cases hnm : n = m
  case neg =>
    have hb : ((n : Int) != (m : Int)) = true := by rw [bne_iff_ne]; omega
    go_enter Try.func14, Try.ntmps14
    go_wp2
    go_ret
    exact ⟨false, rfl, ⟨fun h => (by cases h), fun h => absurd h.1 hnm⟩, Below.refl _ _⟩
  subst hnm
  go_enter Try.func14, Try.ntmps14
  go_wp2
  go_loopg [5] n (fun g i wr => ∃ (k : Nat), k ≤ n ∧ g = n - k ∧ i = .int .i64 k ∧ (∀ j, j < k → word S j = word T j) ∧ Below w.heap.size w wr)
  case atStart => exact ⟨0, Nat.zero_le _, rfl, rfl, fun j hj => absurd hj (Nat.not_lt_zero _), Below.refl _ _⟩
  case round =>
    obtain ⟨k, hk, rfl, rfl, hw, hB⟩ := hrel
    have HW : Hid (∀ j, j < k → word S j = word T j) := hw
    clear hw
    by_cases hlt : k < n
    · obtain ⟨rfl, x1⟩ := hn k hlt
      obtain ⟨rfl, x2⟩ := hm k hlt
      have y1 := cell_later hB x1
      have y2 := cell_later hB x2
      have hz : (k : Int) < (n : Int) := by omega
      by_cases hwk : word S k = word T k
      · have ht : ((S k).toList == (T k).toList) = true := by rw [ByteArray.toList_eq, ByteArray.toList_eq]; simpa [word] using hwk
        have HK : Hid (∀ j, j < k + 1 → word S j = word T j) := fun j hj => by
          by_cases e : j = k
          · subst e; exact hwk
          · exact HW.out j (by omega)
        clear hwk
        go_wp2
        go_quiet (fail)
        go_wp2
        go_roundg (n - (k + 1))
        case measure => omega
        case rel => exact ⟨k + 1, by omega, rfl, by go_num, HK.out, below_drewN hB _⟩
      · have ht : ((S k).toList == (T k).toList) = false := by rw [ByteArray.toList_eq, ByteArray.toList_eq]; simpa [word] using hwk
        have HK : Hid (¬ word S k = word T k) := hwk
        clear hwk
        go_wp2
        go_quiet (fail)
        go_wp2
        go_ret
        exact ⟨false, rfl, ⟨fun h => (by cases h), fun h => absurd (h.2 k hlt) HK.out⟩, below_drewN hB _⟩
    · have hz : ¬ ((k : Int) < (n : Int)) := by omega
      obtain rfl : k = n := by omega
      go_wp2
      go_ret
      exact ⟨true, rfl, ⟨fun _ => ⟨rfl, HW.out⟩, fun _ => rfl⟩, hB⟩

section
variable {w : World} {lo lo' n m : Nat} {v u : Value} {S T : Nat → ByteArray}

theorem bytes8_sl (h : SliceAt w lo v n (fun i => .string (S i))) : Calls Try.prog 8 #[v] w fun e w' => BytesSaid (Fits n S) e ∧ w' = w := by
  obtain ⟨a, b, o, c, rfl, hcap, hc⟩ := h
  exact bytes8 a n b o c S w (fun i hi => ⟨(hc i hi).1, (hc i hi).2.2⟩)

theorem bytes13_sl (h : SliceAt w lo v n (fun i => .string (S i))) (h' : SliceAt w lo' u m (fun i => .string (T i))) : Calls Try.prog 13 #[v, u] w fun e w' => BytesSaid (Fits n S ∧ Fits m T) e ∧ w' = w := by
  obtain ⟨a, b, o, c, rfl, hcap, hc⟩ := h
  obtain ⟨a', b', o', c', rfl, hcap', hc'⟩ := h'
  exact bytes13 a a' n b o c m b' o' c' S T w (fun i hi => ⟨(hc i hi).1, (hc i hi).2.2⟩) (fun i hi => ⟨(hc' i hi).1, (hc' i hi).2.2⟩)

theorem namesBytes_sl (hn0 : n ≤ 1048576) (h : SliceAt w lo v n (fun i => .string (S i))) : Calls Try.prog 9 #[v] w fun e w' => AnyInt e ∧ w' = w := by
  obtain ⟨a, b, o, c, rfl, hcap, hc⟩ := h
  exact namesBytes a n b o c S w hn0 (fun i hi => ⟨(hc i hi).1, (hc i hi).2.2⟩)

theorem sizes_le {i k : Nat} (h : i < k) : (S i).size ≤ sizes S k := by
  induction k with
  | zero => omega
  | succ k ih =>
    simp only [sizes]
    by_cases e : i = k
    · subst e; omega
    · have := ih (by omega); omega

theorem slashFree_sl (hf : Fits n S) (h : SliceAt w lo v n (fun i => .string (S i))) : Calls Try.prog 10 #[v] w fun e w' => BytesSaid (∀ i, i < n → Free (S i)) e ∧ w' = w := by
  obtain ⟨a, b, o, c, rfl, hcap, hc⟩ := h
  unfold Fits at hf
  exact slashFree a n b o c S w (by omega) (fun i hi => by have := sizes_le (S := S) hi; omega) (fun i hi => ⟨(hc i hi).1, (hc i hi).2.2⟩)

theorem sameNames_sl (hn0 : n ≤ 1048576) (hm0 : m ≤ 1048576) (h : SliceAt w lo v n (fun i => .string (S i))) (h' : SliceAt w lo' u m (fun i => .string (T i))) : Calls Try.prog 14 #[v, u] w (SameSaid w (SameList S T n m)) := by
  obtain ⟨a, b, o, c, rfl, hcap, hc⟩ := h
  obtain ⟨a', b', o', c', rfl, hcap', hc'⟩ := h'
  exact sameNames a a' n b o c m b' o' c' S T w hn0 hm0 (fun i hi => ⟨(hc i hi).1, (hc i hi).2.2⟩) (fun i hi => ⟨(hc' i hi).1, (hc' i hi).2.2⟩)
end
end Go.Proofs.Qxb6604376a
