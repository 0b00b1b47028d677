import Derived.Test.Qxb6604376aSlices
namespace Go.Proofs.Qxb6604376a
open Go.RowKit
set_option linter.unusedVariables false
set_option linter.unusedSimpArgs false

def sizes (S : Nat → ByteArray) : Nat → Nat
  | 0 => 0
  | k + 1 => sizes S k + (S k).size

def Fits (n : Nat) (S : Nat → ByteArray) : Prop := n + sizes S n ≤ 1048576
def BytesSaid (p : Prop) (e : Ending) : Prop := ∃ b : Bool, e = .returned (.bool b) ∧ (b = true → p)
theorem bytesNo (p : Prop) : BytesSaid p (.returned (.bool false)) := ⟨false, rfl, fun h => by cases h⟩
theorem bytesYes {p : Prop} (h : p) : BytesSaid p (.returned (.bool true)) := ⟨true, rfl, fun _ => h⟩

set_option maxHeartbeats 1600000 in
theorem bytes8 (na : Option Addr) (n nb no nc : Nat) (S : Nat → ByteArray) (w : World)
    (hn : ∀ i, i < n → na = some ⟨nb, no, none⟩ ∧ w.cell? ⟨nb, no + i, none⟩ = some (.string (S i))) :
    Calls Try.prog 8 #[.slice na n nc] w fun e w' => BytesSaid (Fits n S) e ∧ w' = w := by
  by_cases hn0 : n ≤ 1048576
  case neg =>
    have hn0' : (1048576 : Int) < (n : Int) := by omega
    go_enter Try.func8, Try.ntmps8
    go_wp2
    go_ret
    exact ⟨bytesNo _, rfl⟩
  have hn0' : ¬ (1048576 : Int) < (n : Int) := by omega
  go_enter Try.func8, Try.ntmps8
  go_wp2
  go_loopg [3, 4] n (fun g t i wr => w = wr ∧ ∃ (k : Nat) (z : Int), k ≤ n ∧ g = n - k ∧ i = .int .i64 k ∧ t = .int .i64 z ∧ 0 ≤ z ∧ z ≤ 1048576 ∧ (n : Int) + sizes S k ≤ z)
  case atStart => exact ⟨rfl, 0, _, Nat.zero_le _, rfl, rfl, rfl, by omega, by omega, by simp [sizes]⟩
  case round =>
    obtain ⟨rfl, k, z, hk, rfl, rfl, rfl, hz0, hz9, hzs⟩ := hrel
    by_cases hlt : k < n
    · obtain ⟨rfl, hcell⟩ := hn k hlt
      have hz : (k : Int) < (n : Int) := by omega
      go_wp2
      all_goals first
        | (go_ret; exact ⟨bytesNo _, rfl⟩)
        | (go_roundg (n - (k + 1))
           case measure => omega
           case rel => exact ⟨rfl, k + 1, _, by omega, rfl, by go_num, rfl, by omega, by omega, by simp only [sizes]; omega⟩)
    · have hz : ¬ ((k : Int) < (n : Int)) := by omega
      obtain rfl : k = n := by omega
      go_wp2
      go_ret
      exact ⟨bytesYes (by unfold Fits; omega), rfl⟩

set_option maxHeartbeats 1600000 in
theorem bytes13 (na ma : Option Addr) (n nb no nc m mb mo mc : Nat) (S T : Nat → ByteArray) (w : World)
    (hn : ∀ i, i < n → na = some ⟨nb, no, none⟩ ∧ w.cell? ⟨nb, no + i, none⟩ = some (.string (S i)))
    (hm : ∀ i, i < m → ma = some ⟨mb, mo, none⟩ ∧ w.cell? ⟨mb, mo + i, none⟩ = some (.string (T i))) :
    Calls Try.prog 13 #[.slice na n nc, .slice ma m mc] w fun e w' => BytesSaid (Fits n S ∧ Fits m T) e ∧ w' = w := by
  by_cases hn0 : n ≤ 1048576
  case neg =>
    have hn0' : (1048576 : Int) < (n : Int) := by omega
    go_enter Try.func13, Try.ntmps13
    go_wp2
    go_ret
    exact ⟨bytesNo _, rfl⟩
  have hn0' : ¬ (1048576 : Int) < (n : Int) := by omega
  go_enter Try.func13, Try.ntmps13
  go_wp2
  go_loopg [5, 6] n (fun g t i wr => w = wr ∧ ∃ (k : Nat) (z : Int), k ≤ n ∧ g = n - k ∧ i = .int .i64 k ∧ t = .int .i64 z ∧ 0 ≤ z ∧ z ≤ 1048576 ∧ (n : Int) + sizes S k ≤ z)
  case atStart => exact ⟨rfl, 0, _, Nat.zero_le _, rfl, rfl, rfl, by omega, by omega, by simp [sizes]⟩
  case round =>
    obtain ⟨rfl, k, z, hk, rfl, rfl, rfl, hz0, hz9, hzs⟩ := hrel
    by_cases hlt : k < n
    · obtain ⟨rfl, hcell⟩ := hn k hlt
      have hz : (k : Int) < (n : Int) := by omega
      go_wp2
      all_goals first
        | (go_ret; exact ⟨bytesNo _, rfl⟩)
        | (go_roundg (n - (k + 1))
           case measure => omega
           case rel => exact ⟨rfl, k + 1, _, by omega, rfl, by go_num, rfl, by omega, by omega, by simp only [sizes]; omega⟩)
    · have hz : ¬ ((k : Int) < (n : Int)) := by omega
      obtain rfl : k = n := by omega
      by_cases hm0 : m ≤ 1048576
      case neg =>
        have hm0' : (1048576 : Int) < (m : Int) := by omega
        go_wp2
        go_ret
        exact ⟨bytesNo _, rfl⟩
      have hm0' : ¬ (1048576 : Int) < (m : Int) := by omega
      go_wp2
      · go_ret
        exact ⟨bytesNo _, rfl⟩
      go_loopg [5, 7] m (fun g t i wr => w = wr ∧ ∃ (k : Nat) (z : Int), k ≤ m ∧ g = m - k ∧ i = .int .i64 k ∧ t = .int .i64 z ∧ 0 ≤ z ∧ z ≤ 1048576 ∧ (m : Int) + sizes T k ≤ z)
      case atStart => exact ⟨rfl, 0, _, Nat.zero_le _, rfl, rfl, rfl, by omega, by omega, by simp [sizes]; omega⟩
      case round =>
        obtain ⟨rfl, k1, z1, hk1, rfl, rfl, rfl, hz10, hz19, hzs1⟩ := hrel
        by_cases hlt1 : k1 < m
        · obtain ⟨rfl, hcell⟩ := hm k1 hlt1
          have hz1 : (k1 : Int) < (m : Int) := by omega
          go_wp2
          all_goals first
            | (go_ret; exact ⟨bytesNo _, rfl⟩)
            | (go_roundg (m - (k1 + 1))
               case measure => omega
               case rel => exact ⟨rfl, k1 + 1, _, by omega, rfl, by go_num, rfl, by omega, by omega, by simp only [sizes]; omega⟩)
        · have hz1 : ¬ ((k1 : Int) < (m : Int)) := by omega
          obtain rfl : k1 = m := by omega
          go_wp2
          go_ret
          exact ⟨bytesYes ⟨by unfold Fits; omega, by unfold Fits; omega⟩, rfl⟩

def AnyInt (e : Ending) : Prop := ∃ z : Int, e = .returned (.int .i64 z)
theorem anyInt (z : Int) : AnyInt (.returned (.int .i64 z)) := ⟨z, rfl⟩

set_option maxHeartbeats 1600000 in
theorem namesBytes (na : Option Addr) (n nb no nc : Nat) (S : Nat → ByteArray) (w : World) (hn0 : n ≤ 1048576)
    (hn : ∀ i, i < n → na = some ⟨nb, no, none⟩ ∧ w.cell? ⟨nb, no + i, none⟩ = some (.string (S i))) :
    Calls Try.prog 9 #[.slice na n nc] w fun e w' => AnyInt e ∧ w' = w := by
  go_enter Try.func9, Try.ntmps9
  go_wp2
  go_loopg [3, 8] n (fun g t i wr => w = wr ∧ ∃ (k : Nat) (z : Int), k ≤ n ∧ g = n - k ∧ i = .int .i64 k ∧ t = .int .i64 z)
  case atStart => exact ⟨rfl, 0, _, Nat.zero_le _, rfl, rfl, rfl⟩
  case round =>
    obtain ⟨rfl, k, z, hk, rfl, rfl, rfl⟩ := hrel
    by_cases hlt : k < n
    · obtain ⟨rfl, hcell⟩ := hn k hlt
      have hz : (k : Int) < (n : Int) := by omega
      go_wp2
      all_goals first
        | (go_ret; exact ⟨anyInt _, rfl⟩)
        | (go_roundg (n - (k + 1))
           case measure => omega
           case rel => exact ⟨rfl, k + 1, _, by omega, rfl, by go_num, rfl⟩)
    · have hz : ¬ ((k : Int) < (n : Int)) := by omega
      go_wp2
      go_ret
      exact ⟨anyInt _, rfl⟩

/-- No byte of s is a slash. -/
def Free (s : ByteArray) : Prop := ∀ i (h : i < s.size), s[i].toNat ≠ 47

set_option maxHeartbeats 1600000 in
theorem slashFree (na : Option Addr) (n nb no nc : Nat) (S : Nat → ByteArray) (w : World) (hn0 : n ≤ 1048576) (hs : ∀ i, i < n → (S i).size ≤ 1048576)
    (hn : ∀ i, i < n → na = some ⟨nb, no, none⟩ ∧ w.cell? ⟨nb, no + i, none⟩ = some (.string (S i))) :
    Calls Try.prog 10 #[.slice na n nc] w fun e w' => BytesSaid (∀ i, i < n → Free (S i)) e ∧ w' = w := by
  go_enter Try.func10, Try.ntmps10
  go_wp2
  go_loopg [8] n (fun g i wr => w = wr ∧ ∃ (k : Nat), k ≤ n ∧ g = n - k ∧ i = .int .i64 k ∧ ∀ j, j < k → Free (S j))
  case atStart => exact ⟨rfl, 0, Nat.zero_le _, rfl, rfl, fun j hj => absurd hj (Nat.not_lt_zero _)⟩
  case round =>
    obtain ⟨rfl, k, hk, rfl, rfl, hfr⟩ := hrel
    have HF : Hid (∀ j, j < k → Free (S j)) := hfr
    clear hfr
    by_cases hlt : k < n
    · obtain ⟨rfl, hcell⟩ := hn k hlt
      have hz : (k : Int) < (n : Int) := by omega
      have hsk := hs k hlt
      go_wp2
      go_loopg [5] (S k).size (fun g i wr => w = wr ∧ ∃ (j : Nat), j ≤ (S k).size ∧ g = (S k).size - j ∧ i = .int .i64 j ∧ ∀ i (h : i < j) (h' : i < (S k).size), (S k)[i].toNat ≠ 47)
      case atStart => exact ⟨rfl, 0, Nat.zero_le _, rfl, rfl, fun j hj => absurd hj (Nat.not_lt_zero _)⟩
      case round =>
        obtain ⟨rfl, j, hj, rfl, rfl, hj2⟩ := hrel
        have HJ : Hid (∀ i (h : i < j) (h' : i < (S k).size), (S k)[i].toNat ≠ 47) := hj2
        clear hj2
        by_cases hlt2 : j < (S k).size
        · have hz2 : (j : Int) < ((S k).size : Int) := by omega
          go_wp2
          · go_ret
            exact ⟨bytesNo _, rfl⟩
          · have hne : (((S k)[j].toNat : Int) == 47) = false := by assumption
            go_roundg ((S k).size - (j + 1))
            case measure => omega
            case rel =>
              refine ⟨rfl, j + 1, by omega, rfl, by go_num, fun i hi hi' => ?_⟩
              by_cases e : i = j
              · subst e
                have := beq_eq_false_iff_ne.1 hne
                omega
              · exact HJ.out i (by omega) hi'
        · have hz2 : ¬ ((j : Int) < ((S k).size : Int)) := by omega
          go_wp2
          go_roundg (n - (k + 1))
          case measure => omega
          case rel =>
            refine ⟨rfl, k + 1, by omega, rfl, by go_num, fun i hi => ?_⟩
            by_cases e : i = k
            · subst e
              exact fun i h => HJ.out i (by omega) h
            · exact HF.out i (by omega)
    · have hz : ¬ ((k : Int) < (n : Int)) := by omega
      obtain rfl : k = n := by omega
      go_wp2
      go_ret
      exact ⟨bytesYes HF.out, rfl⟩
end Go.Proofs.Qxb6604376a
