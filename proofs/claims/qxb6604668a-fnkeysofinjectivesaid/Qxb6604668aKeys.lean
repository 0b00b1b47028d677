import Derived.Test.Qxb6604668aRows
import Derived.WalkKit
import Derived.ProofKit
namespace Go.Proofs.Qxb6604668a
open Go.RowKit
set_option linter.unusedVariables false
set_option linter.unusedSimpArgs false

/-- The pool's prefix: tidework/, the name, a slash. -/
def key (a : ByteArray) : ByteArray := ⟨#[116, 105, 100, 101, 119, 111, 114, 107, 47]⟩ ++ a ++ ⟨#[47]⟩

theorem key_size (a : ByteArray) : (key a).size = a.size + 10 := by
  simp only [key, ByteArray.size_append]
  have h1 : (⟨#[116, 105, 100, 101, 119, 111, 114, 107, 47]⟩ : ByteArray).size = 9 := rfl
  have h2 : (⟨#[47]⟩ : ByteArray).size = 1 := rfl
  omega

theorem key_data (a : ByteArray) : (key a).data.toList = [116, 105, 100, 101, 119, 111, 114, 107, 47] ++ (a.data.toList ++ [47]) := by
  simp [key, ByteArray.data_append]

theorem key_head (a : ByteArray) : ((key a).extract 0 9).toList = [116, 105, 100, 101, 119, 111, 114, 107, 47] := by
  rw [ByteArray.toList_eq, ByteArray.data_extract, Array.toList_extract, List.extract_eq_take_drop, key_data]
  rfl

theorem key_last (a : ByteArray) (k : Nat) (hk : k = a.size + 9) (h : k < (key a).size) : (key a)[k] = 47 := by
  have h1 : (key a).data.toList[k]? = some (key a)[k] := by
    rw [ByteArray.getElem_eq_getElem_data]
    simp
  have e : a.data.toList.length = a.size := by rw [Array.length_toList]; rfl
  have h2 : ([116, 105, 100, 101, 119, 111, 114, 107, 47] ++ (a.data.toList ++ [47]))[k]? = some (47 : UInt8) := by
    rw [List.getElem?_append_right (by simp; omega), List.getElem?_append_right (by simp; omega)]
    rw [show k - [116, 105, 100, 101, 119, 111, 114, 107, (47 : UInt8)].length - a.data.toList.length = 0 from by simp; omega]
    rfl
  rw [key_data, h2] at h1
  exact (Option.some.inj h1).symm

theorem zzkeysOf (a : ByteArray) (h : a.size ≤ 1048576) (w : World) :
    Calls Try.prog 9 #[.string a] w fun e w' => e = .returned (.string (key a)) ∧ w' = w := by
  go_enter Try.func9, Try.ntmps9
  go_wp2
  go_ret
  exact ⟨rfl, rfl⟩

theorem hasFrame (a : ByteArray) (h : a.size ≤ 1048576) (w : World) :
    Calls Try.prog 10 #[.string (key a)] w fun e w' => e = .returned (.bool true) ∧ w' = w := by
  have hs := key_size a
  have hl : ¬ ((key a).size : Int) < 10 := by omega
  have hh : (((key a).extract 0 9).toList == [116, 105, 100, 101, 119, 111, 114, 107, 47]) = true := by rw [key_head]; rfl
  go_enter Try.func10, Try.ntmps10
  go_wp2
  go_ret
  refine ⟨?_, rfl⟩
  have hx := key_last a (a.size + 9) rfl (by omega)
  show Ending.returned (.bool (((((key a)[a.size + 9]'(by omega)).toNat : Nat) : Int) == 47)) = _
  rw [hx]
  rfl

def BoolIs (p : Prop) (e : Ending) : Prop := ∃ b : Bool, e = .returned (.bool b) ∧ (b = true → p)

theorem zzBytes (a b : ByteArray) (w0 : a.size ≤ maxLen) (w1 : b.size ≤ maxLen) (w : World) :
    Calls Try.prog 8 #[.string a, .string b] w fun e w' => BoolIs (a.size ≤ 1048576 ∧ b.size ≤ 1048576) e ∧ w' = w := by
  unfold maxLen at w0 w1
  by_cases h1 : (a.size : Int) > 1048576
  · go_enter Try.func8, Try.ntmps8
    go_wp2
    go_ret
    exact ⟨⟨_, rfl, by simp⟩, rfl⟩
  · by_cases h2 : (b.size : Int) > 1048576
    · go_enter Try.func8, Try.ntmps8
      go_wp2
      go_ret
      exact ⟨⟨_, rfl, by simp⟩, rfl⟩
    · by_cases h3 : (a.size : Int) + (b.size : Int) > 1048576
      · go_enter Try.func8, Try.ntmps8
        go_wp2
        go_ret
        exact ⟨⟨_, rfl, by simp⟩, rfl⟩
      · go_enter Try.func8, Try.ntmps8
        go_wp2
        go_ret
        exact ⟨⟨_, rfl, fun _ => by omega⟩, rfl⟩

theorem key_inj {a b : ByteArray} (h : key a = key b) : a = b := by
  have h1 := congrArg (fun x : ByteArray => x.data.toList) h
  simp only [key_data] at h1
  have h2 := List.append_cancel_right (List.append_cancel_left h1)
  exact Go.WideShapes.bytes_inj h2

theorem keys_eq (a b : ByteArray) : (((key a).toList == (key b).toList) == (a.toList == b.toList)) = true := by
  simp only [ByteArray.toList_eq, beq_iff_eq]
  by_cases h : a.data.toList = b.data.toList
  · have e := Go.WideShapes.bytes_inj h
    subst e
    simp
  · have : ¬ (key a).data.toList = (key b).data.toList := fun e => h (by rw [key_inj (Go.WideShapes.bytes_inj e)])
    rw [beq_eq_false_iff_ne.2 this, beq_eq_false_iff_ne.2 h]

def TrueSame (w : World) (e : Ending) (w' : World) : Prop := e = .returned (.bool true) ∧ w' = w

theorem walkHere (a b : ByteArray) (w0 : a.size ≤ maxLen) (w1 : b.size ≤ maxLen) (w : World) :
    Calls Try.prog 3 #[.string a, .string b] w (TrueSame w) := by
  go_enter Try.func3, Try.ntmps3
  go_wp2_with fail
  refine (zzBytes a b w0 w1 w).mono ?_
  rintro e w' ⟨⟨t, rfl, ht⟩, rfl⟩
  cases t
  · go_wp2
    go_ret
    exact ⟨rfl, rfl⟩
  · obtain ⟨h1, h2⟩ := ht rfl
    clear ht
    have g1 : ¬ (a.size : Int) > 1048576 := by omega
    have g2 : ¬ (b.size : Int) > 1048576 := by omega
    by_cases g3 : (a.size : Int) + (b.size : Int) > 1048576
    · go_wp2
      go_ret
      exact ⟨rfl, rfl⟩
    · go_wp2_with fail
      refine (zzkeysOf a h1 _).mono ?_
      rintro e w' ⟨rfl, rfl⟩
      go_wp2_with fail
      refine (zzkeysOf b h2 _).mono ?_
      rintro e w' ⟨rfl, rfl⟩
      go_wp2_with fail
      refine (hasFrame a h1 _).mono ?_
      rintro e w' ⟨rfl, rfl⟩
      go_wp2_with fail
      refine (hasFrame b h2 _).mono ?_
      rintro e w' ⟨rfl, rfl⟩
      have hk := keys_eq a b
      go_wp2
      go_ret
      exact ⟨by simp, rfl⟩
end Go.Proofs.Qxb6604668a
