import Derived.Test.Qxb6603821aRows
import Derived.WalkKit
import Derived.WalkSpells
import Derived.WalkLawsBesides
import Derived.Deep.LoopGhost
namespace Go.Proofs.Qxb6603821a
open Go.RowKit
set_option linter.unusedVariables false
set_option linter.unusedSimpArgs false

def AnyBool (e : Ending) : Prop := ∃ b, e = .returned (.bool b)
theorem anyBool (b : Bool) : AnyBool (.returned (.bool b)) := ⟨b, rfl⟩

set_option maxHeartbeats 1600000 in
set_option maxRecDepth 100000 in
theorem big_any (na ra ca da : Option Addr) (n m q d nb no nc rb ro rc cb co cc dc : Nat) (S : Nat → ByteArray) (A : Nat → Option Addr) (K C RB RO : Nat → Nat) (R : Nat → Nat → ByteArray)
    (CA : Nat → Option Addr) (CL CC : Nat → Nat) (w : World)
    (hn0 : n ≤ 1048576) (hm0 : m ≤ 1048576) (hq0 : q ≤ 1048576) (hd0 : d ≤ 1048576)
    (hn : ∀ i, i < n → na = some ⟨nb, no, none⟩ ∧ w.cell? ⟨nb, no + i, none⟩ = some (.string (S i)))
    (hr : ∀ i, i < m → ra = some ⟨rb, ro, none⟩ ∧ w.cell? ⟨rb, ro + i, none⟩ = some (.slice (A i) (K i) (C i)))
    (hrr : ∀ i, i < m → ∀ k, k < K i → A i = some ⟨RB i, RO i, none⟩ ∧ w.cell? ⟨RB i, RO i + k, none⟩ = some (.string (R i k)))
    (hK : ∀ i, i < m → K i ≤ 1048576)
    (hc : ∀ i, i < q → ca = some ⟨cb, co, none⟩ ∧ w.cell? ⟨cb, co + i, none⟩ = some (.slice (CA i) (CL i) (CC i))) :
    Calls Try.prog 9 #[.slice na n nc, .slice ra m rc, .slice ca q cc, .slice da d dc] w fun e w' => AnyBool e ∧ w' = w := by
  go_enter Try.func9, Try.ntmps9
  go_wp2
  · go_ret
    exact ⟨anyBool _, rfl⟩
  go_loopg [9, 10] n (fun g t i wr => w = wr ∧ ∃ (k : Nat) (z : Int), k ≤ n ∧ g = n - k ∧ i = .int .i64 k ∧ t = .int .i64 z)
  case atStart => exact ⟨rfl, 0, _, Nat.zero_le _, rfl, rfl, rfl⟩
  case round =>
    obtain ⟨rfl, k, z, hk, rfl, rfl, rfl⟩ := hrel
    by_cases hlt : k < n
    · obtain ⟨rfl, hcell⟩ := hn k hlt
      have hz : (k : Int) < (n : Int) := by omega
      go_wp2
      all_goals first
        | (go_ret; exact ⟨anyBool _, rfl⟩)
        | (go_roundg (n - (k + 1))
           case measure => omega
           case rel => exact ⟨rfl, k + 1, _, by omega, rfl, by go_num, rfl⟩)
    · have hz : ¬ ((k : Int) < (n : Int)) := by omega
      go_wp2
      go_loopg [9, 11, 12] m (fun g t i j wr => w = wr ∧ ∃ (k : Nat) (z : Int), k ≤ m ∧ g = m - k ∧ i = .int .i64 k ∧ t = .int .i64 z)
      case atStart => exact ⟨rfl, 0, _, Nat.zero_le _, rfl, rfl, rfl⟩
      case round =>
        obtain ⟨rfl, k1, z1, hk1, rfl, rfl, rfl⟩ := hrel
        by_cases hlt1 : k1 < m
        · obtain ⟨rfl, hcell⟩ := hr k1 hlt1
          have hz1 : (k1 : Int) < (m : Int) := by omega
          have hK1 := hK k1 hlt1
          go_wp2
          · go_ret; exact ⟨anyBool _, rfl⟩
          go_loopg [9, 12] (K k1) (fun g t i wr => w = wr ∧ ∃ (k : Nat) (z : Int), k ≤ K k1 ∧ g = K k1 - k ∧ i = .int .i64 k ∧ t = .int .i64 z)
          case atStart => exact ⟨rfl, 0, _, Nat.zero_le _, rfl, rfl, rfl⟩
          case round =>
            obtain ⟨rfl, k2, z2, hk2, rfl, rfl, rfl⟩ := hrel
            by_cases hlt2 : k2 < K k1
            · obtain ⟨hA, hcell2⟩ := hrr k1 hlt1 k2 hlt2
              rw [hA] at hcell
              have hz2 : (k2 : Int) < (K k1 : Int) := by omega
              clear hA
              go_wp2
              all_goals first
                | (go_ret; exact ⟨anyBool _, rfl⟩)
                | (go_roundg (K k1 - (k2 + 1))
                   case measure => omega
                   case rel => exact ⟨rfl, k2 + 1, _, by omega, rfl, by go_num, rfl⟩)
            · have hz2 : ¬ ((k2 : Int) < (K k1 : Int)) := by omega
              go_wp2
              go_roundg (m - (k1 + 1))
              case measure => omega
              case rel => exact ⟨rfl, k1 + 1, _, by omega, rfl, by go_num, rfl⟩
        · have hz1 : ¬ ((k1 : Int) < (m : Int)) := by omega
          go_wp2
          go_loopg [9, 13] q (fun g t i wr => w = wr ∧ ∃ (k : Nat) (z : Int), k ≤ q ∧ g = q - k ∧ i = .int .i64 k ∧ t = .int .i64 z)
          case atStart => exact ⟨rfl, 0, _, Nat.zero_le _, rfl, rfl, rfl⟩
          case round =>
            obtain ⟨rfl, k3, z3, hk3, rfl, rfl, rfl⟩ := hrel
            by_cases hlt3 : k3 < q
            · obtain ⟨rfl, hcell3⟩ := hc k3 hlt3
              have hz3 : (k3 : Int) < (q : Int) := by omega
              go_wp2
              all_goals first
                | (go_ret; exact ⟨anyBool _, rfl⟩)
                | (go_roundg (q - (k3 + 1))
                   case measure => omega
                   case rel => exact ⟨rfl, k3 + 1, _, by omega, rfl, by go_num, rfl⟩)
            · have hz3 : ¬ ((k3 : Int) < (q : Int)) := by omega
              go_wp2
              go_ret
              exact ⟨anyBool _, rfl⟩
end Go.Proofs.Qxb6603821a
