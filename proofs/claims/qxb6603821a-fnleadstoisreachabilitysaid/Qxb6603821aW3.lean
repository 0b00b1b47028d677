import Derived.Test.Qxb6603821aW2
namespace Go.Proofs.Qxb6603821a
open Go.RowKit
set_option linter.unusedVariables false
set_option linter.unusedSimpArgs false

def sumTo (K : Nat → Nat) : Nat → Nat
  | 0 => 0
  | k + 1 => sumTo K k + K k

def Fits (n m q d : Nat) (K CL : Nat → Nat) : Prop :=
  n ≤ 1048576 ∧ m ≤ 1048576 ∧ q ≤ 1048576 ∧ d ≤ 1048576 ∧ (∀ i, i < m → K i ≤ 1048576) ∧ sumTo K m ≤ 1048576 ∧ ∀ i, i < q → CL i ≤ 1048576

def BytesSaid (n m q d : Nat) (K CL : Nat → Nat) (e : Ending) : Prop := ∃ b : Bool, e = .returned (.bool b) ∧ (b = true → Fits n m q d K CL)
theorem bytesNo (n m q d : Nat) (K CL : Nat → Nat) : BytesSaid n m q d K CL (.returned (.bool false)) := ⟨false, rfl, fun h => by cases h⟩
theorem bytesYes {n m q d : Nat} {K CL : Nat → Nat} (h : Fits n m q d K CL) : BytesSaid n m q d K CL (.returned (.bool true)) := ⟨true, rfl, fun _ => h⟩

theorem sumTo_le_of {K : Nat → Nat} {m i : Nat} (h : i < m) : K i ≤ sumTo K m := by
  induction m with
  | zero => omega
  | succ m ih =>
    simp only [sumTo]
    by_cases e : i = m
    · subst e; omega
    · have := ih (by omega); omega

set_option maxHeartbeats 3200000 in
set_option maxRecDepth 100000 in
theorem bytes_any18 (na ra ca da : Option Addr) (n m q d nb no nc rb ro rc cb co cc dc : Nat) (S : Nat → ByteArray) (A : Nat → Option Addr) (K C RB RO : Nat → Nat) (R : Nat → Nat → ByteArray)
    (CA : Nat → Option Addr) (CL CC : Nat → Nat) (xa xb xc : Int) (w : World)
    (hn : ∀ i, i < n → na = some ⟨nb, no, none⟩ ∧ w.cell? ⟨nb, no + i, none⟩ = some (.string (S i)))
    (hr : ∀ i, i < m → ra = some ⟨rb, ro, none⟩ ∧ w.cell? ⟨rb, ro + i, none⟩ = some (.slice (A i) (K i) (C i)))
    (hrr : ∀ i, i < m → ∀ k, k < K i → A i = some ⟨RB i, RO i, none⟩ ∧ w.cell? ⟨RB i, RO i + k, none⟩ = some (.string (R i k)))
    (hc : ∀ i, i < q → ca = some ⟨cb, co, none⟩ ∧ w.cell? ⟨cb, co + i, none⟩ = some (.slice (CA i) (CL i) (CC i))) :
    Calls Try.prog 18 #[.slice na n nc, .slice ra m rc, .slice ca q cc, .slice da d dc, .int .i64 xa, .int .i64 xb, .int .i64 xc] w fun e w' => BytesSaid n m q d K CL e ∧ w' = w := by
  by_cases hn0 : n ≤ 1048576
  case neg =>
    have hn0' : (1048576 : Int) < (n : Int) := by omega
    go_enter Try.func18, Try.ntmps18
    go_wp2
    go_ret
    exact ⟨bytesNo _ _ _ _ _ _, rfl⟩
  have hn0' : ¬ (1048576 : Int) < (n : Int) := by omega
  go_enter Try.func18, Try.ntmps18
  go_wp2
  go_loopg [15, 16] n (fun g t i wr => w = wr ∧ ∃ (k : Nat) (z : Int), k ≤ n ∧ g = n - k ∧ i = .int .i64 k ∧ t = .int .i64 z ∧ 0 ≤ z ∧ z ≤ 1048576)
  case atStart => exact ⟨rfl, 0, _, Nat.zero_le _, rfl, rfl, rfl, by omega, by omega⟩
  case round =>
    obtain ⟨rfl, k, z, hk, rfl, rfl, rfl, hz0, hz9⟩ := hrel
    by_cases hlt : k < n
    · obtain ⟨rfl, hcell⟩ := hn k hlt
      have hz : (k : Int) < (n : Int) := by omega
      go_wp2
      all_goals first
        | (go_ret; exact ⟨bytesNo _ _ _ _ _ _, rfl⟩)
        | (go_roundg (n - (k + 1))
           case measure => omega
           case rel => exact ⟨rfl, k + 1, _, by omega, rfl, by go_num, rfl, by omega, by omega⟩)
    · have hz : ¬ ((k : Int) < (n : Int)) := by omega
      by_cases hm0 : m ≤ 1048576
      case neg =>
        have hm0' : (1048576 : Int) < (m : Int) := by omega
        go_wp2
        go_ret
        exact ⟨bytesNo _ _ _ _ _ _, rfl⟩
      have hm0' : ¬ (1048576 : Int) < (m : Int) := by omega
      go_wp2
      · go_ret
        exact ⟨bytesNo _ _ _ _ _ _, rfl⟩
      go_loopg [15, 17, 18] m (fun g t i j wr => w = wr ∧ ∃ (k : Nat) (z : Int), k ≤ m ∧ g = m - k ∧ i = .int .i64 k ∧ t = .int .i64 z ∧ 0 ≤ z ∧ z ≤ 1048576 ∧ (sumTo K k : Int) ≤ z)
      case atStart => exact ⟨rfl, 0, _, Nat.zero_le _, rfl, rfl, rfl, by omega, by omega, by simp [sumTo]; omega⟩
      case round =>
        obtain ⟨rfl, k1, z1, hk1, rfl, rfl, rfl, hz10, hz19, hs1⟩ := hrel
        by_cases hlt1 : k1 < m
        · obtain ⟨rfl, hcell⟩ := hr k1 hlt1
          have hz1 : (k1 : Int) < (m : Int) := by omega
          by_cases hK1 : K k1 ≤ 1048576
          case neg =>
            have hK1' : (1048576 : Int) < (K k1 : Int) := by omega
            go_wp2
            go_ret
            exact ⟨bytesNo _ _ _ _ _ _, rfl⟩
          have hK1' : ¬ (1048576 : Int) < (K k1 : Int) := by omega
          go_wp2
          · go_ret; exact ⟨bytesNo _ _ _ _ _ _, rfl⟩
          go_loopg [15, 18] (K k1) (fun g t i wr => w = wr ∧ ∃ (k : Nat) (z : Int), k ≤ K k1 ∧ g = K k1 - k ∧ i = .int .i64 k ∧ t = .int .i64 z ∧ 0 ≤ z ∧ z ≤ 1048576 ∧ (sumTo K k1 : Int) + K k1 ≤ z)
          case atStart => exact ⟨rfl, 0, _, Nat.zero_le _, rfl, rfl, rfl, by omega, by omega, by omega⟩
          case round =>
            obtain ⟨rfl, k2, z2, hk2, rfl, rfl, rfl, hz20, hz29, hs2⟩ := hrel
            by_cases hlt2 : k2 < K k1
            · obtain ⟨hA, hcell2⟩ := hrr k1 hlt1 k2 hlt2
              rw [hA] at hcell
              have hz2 : (k2 : Int) < (K k1 : Int) := by omega
              clear hA
              go_wp2
              all_goals first
                | (go_ret; exact ⟨bytesNo _ _ _ _ _ _, rfl⟩)
                | (go_roundg (K k1 - (k2 + 1))
                   case measure => omega
                   case rel => exact ⟨rfl, k2 + 1, _, by omega, rfl, by go_num, rfl, by omega, by omega, by omega⟩)
            · have hz2 : ¬ ((k2 : Int) < (K k1 : Int)) := by omega
              go_wp2
              go_roundg (m - (k1 + 1))
              case measure => omega
              case rel => exact ⟨rfl, k1 + 1, _, by omega, rfl, by go_num, rfl, by omega, by omega, by simp only [sumTo]; omega⟩
        · have hz1 : ¬ ((k1 : Int) < (m : Int)) := by omega
          obtain rfl : k1 = m := by omega
          by_cases hq0 : q ≤ 1048576
          case neg =>
            have hq0' : (1048576 : Int) < (q : Int) := by omega
            go_wp2
            go_ret
            exact ⟨bytesNo _ _ _ _ _ _, rfl⟩
          have hq0' : ¬ (1048576 : Int) < (q : Int) := by omega
          go_wp2
          · go_ret
            exact ⟨bytesNo _ _ _ _ _ _, rfl⟩
          go_loopg [15, 19] q (fun g t i wr => w = wr ∧ ∃ (k : Nat) (z : Int), k ≤ q ∧ g = q - k ∧ i = .int .i64 k ∧ t = .int .i64 z ∧ 0 ≤ z ∧ z ≤ 1048576 ∧ ∀ j, j < k → CL j ≤ 1048576)
          case atStart => exact ⟨rfl, 0, _, Nat.zero_le _, rfl, rfl, rfl, by omega, by omega, fun j hj => absurd hj (Nat.not_lt_zero _)⟩
          case round =>
            obtain ⟨rfl, k3, z3, hk3, rfl, rfl, rfl, hz30, hz39, hcl⟩ := hrel
            by_cases hlt3 : k3 < q
            · obtain ⟨rfl, hcell3⟩ := hc k3 hlt3
              have hz3 : (k3 : Int) < (q : Int) := by omega
              by_cases hC1 : CL k3 ≤ 1048576
              case neg =>
                have hC1' : (1048576 : Int) < (CL k3 : Int) := by omega
                go_wp2
                go_ret
                exact ⟨bytesNo _ _ _ _ _ _, rfl⟩
              have hC1' : ¬ (1048576 : Int) < (CL k3 : Int) := by omega
              have HCL : Hid (∀ j, j < k3 + 1 → CL j ≤ 1048576) := fun j hj => by
                by_cases e : j = k3
                · subst e; exact hC1
                · exact hcl j (by omega)
              clear hcl
              go_wp2
              all_goals first
                | (go_ret; exact ⟨bytesNo _ _ _ _ _ _, rfl⟩)
                | (go_roundg (q - (k3 + 1))
                   case measure => omega
                   case rel => exact ⟨rfl, k3 + 1, _, by omega, rfl, by go_num, rfl, by omega, by omega, HCL.out⟩)
            · have hz3 : ¬ ((k3 : Int) < (q : Int)) := by omega
              have HCL : Hid (∀ j, j < q → CL j ≤ 1048576) := fun j hj => hcl j (by omega)
              clear hcl
              by_cases hd0 : d ≤ 1048576
              case neg =>
                have hd0' : (1048576 : Int) < (d : Int) := by omega
                go_wp2
                go_ret
                exact ⟨bytesNo _ _ _ _ _ _, rfl⟩
              have hd0' : ¬ (1048576 : Int) < (d : Int) := by omega
              go_wp2
              all_goals first
                | (go_ret; exact ⟨bytesNo _ _ _ _ _ _, rfl⟩)
                | (go_ret; exact ⟨bytesYes ⟨hn0, hm0, hq0, hd0, fun i hi => by have := sumTo_le_of (K := K) hi; omega, by omega, HCL.out⟩, rfl⟩)

set_option maxHeartbeats 3200000 in
set_option maxRecDepth 100000 in
theorem bytes_any8 (na ra ca da : Option Addr) (n m q d nb no nc rb ro rc cb co cc dc : Nat) (S : Nat → ByteArray) (A : Nat → Option Addr) (K C RB RO : Nat → Nat) (R : Nat → Nat → ByteArray)
    (CA : Nat → Option Addr) (CL CC : Nat → Nat) (xa xb : Int) (w : World)
    (hn : ∀ i, i < n → na = some ⟨nb, no, none⟩ ∧ w.cell? ⟨nb, no + i, none⟩ = some (.string (S i)))
    (hr : ∀ i, i < m → ra = some ⟨rb, ro, none⟩ ∧ w.cell? ⟨rb, ro + i, none⟩ = some (.slice (A i) (K i) (C i)))
    (hrr : ∀ i, i < m → ∀ k, k < K i → A i = some ⟨RB i, RO i, none⟩ ∧ w.cell? ⟨RB i, RO i + k, none⟩ = some (.string (R i k)))
    (hc : ∀ i, i < q → ca = some ⟨cb, co, none⟩ ∧ w.cell? ⟨cb, co + i, none⟩ = some (.slice (CA i) (CL i) (CC i))) :
    Calls Try.prog 8 #[.slice na n nc, .slice ra m rc, .slice ca q cc, .slice da d dc, .int .i64 xa, .int .i64 xb] w fun e w' => BytesSaid n m q d K CL e ∧ w' = w := by
  by_cases hn0 : n ≤ 1048576
  case neg =>
    have hn0' : (1048576 : Int) < (n : Int) := by omega
    go_enter Try.func8, Try.ntmps8
    go_wp2
    go_ret
    exact ⟨bytesNo _ _ _ _ _ _, rfl⟩
  have hn0' : ¬ (1048576 : Int) < (n : Int) := by omega
  go_enter Try.func8, Try.ntmps8
  go_wp2
  go_loopg [13, 14] n (fun g t i wr => w = wr ∧ ∃ (k : Nat) (z : Int), k ≤ n ∧ g = n - k ∧ i = .int .i64 k ∧ t = .int .i64 z ∧ 0 ≤ z ∧ z ≤ 1048576)
  case atStart => exact ⟨rfl, 0, _, Nat.zero_le _, rfl, rfl, rfl, by omega, by omega⟩
  case round =>
    obtain ⟨rfl, k, z, hk, rfl, rfl, rfl, hz0, hz9⟩ := hrel
    by_cases hlt : k < n
    · obtain ⟨rfl, hcell⟩ := hn k hlt
      have hz : (k : Int) < (n : Int) := by omega
      go_wp2
      all_goals first
        | (go_ret; exact ⟨bytesNo _ _ _ _ _ _, rfl⟩)
        | (go_roundg (n - (k + 1))
           case measure => omega
           case rel => exact ⟨rfl, k + 1, _, by omega, rfl, by go_num, rfl, by omega, by omega⟩)
    · have hz : ¬ ((k : Int) < (n : Int)) := by omega
      by_cases hm0 : m ≤ 1048576
      case neg =>
        have hm0' : (1048576 : Int) < (m : Int) := by omega
        go_wp2
        go_ret
        exact ⟨bytesNo _ _ _ _ _ _, rfl⟩
      have hm0' : ¬ (1048576 : Int) < (m : Int) := by omega
      go_wp2
      · go_ret
        exact ⟨bytesNo _ _ _ _ _ _, rfl⟩
      go_loopg [13, 15, 16] m (fun g t i j wr => w = wr ∧ ∃ (k : Nat) (z : Int), k ≤ m ∧ g = m - k ∧ i = .int .i64 k ∧ t = .int .i64 z ∧ 0 ≤ z ∧ z ≤ 1048576 ∧ (sumTo K k : Int) ≤ z)
      case atStart => exact ⟨rfl, 0, _, Nat.zero_le _, rfl, rfl, rfl, by omega, by omega, by simp [sumTo]; omega⟩
      case round =>
        obtain ⟨rfl, k1, z1, hk1, rfl, rfl, rfl, hz10, hz19, hs1⟩ := hrel
        by_cases hlt1 : k1 < m
        · obtain ⟨rfl, hcell⟩ := hr k1 hlt1
          have hz1 : (k1 : Int) < (m : Int) := by omega
          by_cases hK1 : K k1 ≤ 1048576
          case neg =>
            have hK1' : (1048576 : Int) < (K k1 : Int) := by omega
            go_wp2
            go_ret
            exact ⟨bytesNo _ _ _ _ _ _, rfl⟩
          have hK1' : ¬ (1048576 : Int) < (K k1 : Int) := by omega
          go_wp2
          · go_ret; exact ⟨bytesNo _ _ _ _ _ _, rfl⟩
          go_loopg [13, 16] (K k1) (fun g t i wr => w = wr ∧ ∃ (k : Nat) (z : Int), k ≤ K k1 ∧ g = K k1 - k ∧ i = .int .i64 k ∧ t = .int .i64 z ∧ 0 ≤ z ∧ z ≤ 1048576 ∧ (sumTo K k1 : Int) + K k1 ≤ z)
          case atStart => exact ⟨rfl, 0, _, Nat.zero_le _, rfl, rfl, rfl, by omega, by omega, by omega⟩
          case round =>
            obtain ⟨rfl, k2, z2, hk2, rfl, rfl, rfl, hz20, hz29, hs2⟩ := hrel
            by_cases hlt2 : k2 < K k1
            · obtain ⟨hA, hcell2⟩ := hrr k1 hlt1 k2 hlt2
              rw [hA] at hcell
              have hz2 : (k2 : Int) < (K k1 : Int) := by omega
              clear hA
              go_wp2
              all_goals first
                | (go_ret; exact ⟨bytesNo _ _ _ _ _ _, rfl⟩)
                | (go_roundg (K k1 - (k2 + 1))
                   case measure => omega
                   case rel => exact ⟨rfl, k2 + 1, _, by omega, rfl, by go_num, rfl, by omega, by omega, by omega⟩)
            · have hz2 : ¬ ((k2 : Int) < (K k1 : Int)) := by omega
              go_wp2
              go_roundg (m - (k1 + 1))
              case measure => omega
              case rel => exact ⟨rfl, k1 + 1, _, by omega, rfl, by go_num, rfl, by omega, by omega, by simp only [sumTo]; omega⟩
        · have hz1 : ¬ ((k1 : Int) < (m : Int)) := by omega
          obtain rfl : k1 = m := by omega
          by_cases hq0 : q ≤ 1048576
          case neg =>
            have hq0' : (1048576 : Int) < (q : Int) := by omega
            go_wp2
            go_ret
            exact ⟨bytesNo _ _ _ _ _ _, rfl⟩
          have hq0' : ¬ (1048576 : Int) < (q : Int) := by omega
          go_wp2
          · go_ret
            exact ⟨bytesNo _ _ _ _ _ _, rfl⟩
          go_loopg [13, 17] q (fun g t i wr => w = wr ∧ ∃ (k : Nat) (z : Int), k ≤ q ∧ g = q - k ∧ i = .int .i64 k ∧ t = .int .i64 z ∧ 0 ≤ z ∧ z ≤ 1048576 ∧ ∀ j, j < k → CL j ≤ 1048576)
          case atStart => exact ⟨rfl, 0, _, Nat.zero_le _, rfl, rfl, rfl, by omega, by omega, fun j hj => absurd hj (Nat.not_lt_zero _)⟩
          case round =>
            obtain ⟨rfl, k3, z3, hk3, rfl, rfl, rfl, hz30, hz39, hcl⟩ := hrel
            by_cases hlt3 : k3 < q
            · obtain ⟨rfl, hcell3⟩ := hc k3 hlt3
              have hz3 : (k3 : Int) < (q : Int) := by omega
              by_cases hC1 : CL k3 ≤ 1048576
              case neg =>
                have hC1' : (1048576 : Int) < (CL k3 : Int) := by omega
                go_wp2
                go_ret
                exact ⟨bytesNo _ _ _ _ _ _, rfl⟩
              have hC1' : ¬ (1048576 : Int) < (CL k3 : Int) := by omega
              have HCL : Hid (∀ j, j < k3 + 1 → CL j ≤ 1048576) := fun j hj => by
                by_cases e : j = k3
                · subst e; exact hC1
                · exact hcl j (by omega)
              clear hcl
              go_wp2
              all_goals first
                | (go_ret; exact ⟨bytesNo _ _ _ _ _ _, rfl⟩)
                | (go_roundg (q - (k3 + 1))
                   case measure => omega
                   case rel => exact ⟨rfl, k3 + 1, _, by omega, rfl, by go_num, rfl, by omega, by omega, HCL.out⟩)
            · have hz3 : ¬ ((k3 : Int) < (q : Int)) := by omega
              have HCL : Hid (∀ j, j < q → CL j ≤ 1048576) := fun j hj => hcl j (by omega)
              clear hcl
              by_cases hd0 : d ≤ 1048576
              case neg =>
                have hd0' : (1048576 : Int) < (d : Int) := by omega
                go_wp2
                go_ret
                exact ⟨bytesNo _ _ _ _ _ _, rfl⟩
              have hd0' : ¬ (1048576 : Int) < (d : Int) := by omega
              go_wp2
              all_goals first
                | (go_ret; exact ⟨bytesNo _ _ _ _ _ _, rfl⟩)
                | (go_ret; exact ⟨bytesYes ⟨hn0, hm0, hq0, hd0, fun i hi => by have := sumTo_le_of (K := K) hi; omega, by omega, HCL.out⟩, rfl⟩)
end Go.Proofs.Qxb6603821a
