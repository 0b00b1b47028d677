import Derived.Test.Qxb6604376aGuards
namespace Go.Proofs.Qxb6604376a
set_option linter.unusedVariables false
set_option linter.unusedSimpArgs false

def word (S : Nat → ByteArray) (i : Nat) : List UInt8 := (S i).data.toList
def xsOf (S : Nat → ByteArray) (n : Nat) : List ByteArray := (List.range n).map S
def words (S : Nat → ByteArray) (n : Nat) : List (List UInt8) := (List.range n).map (word S)
def J (S : Nat → ByteArray) (n : Nat) : List UInt8 := Lib.join (words S n) [47]

/-- Each name and a slash behind it. -/
def T (S : Nat → ByteArray) : Nat → List UInt8
  | 0 => []
  | n + 1 => T S n ++ (word S n ++ [47])

theorem words_of (S : Nat → ByteArray) (n : Nat) : (xsOf S n).map (·.data.toList) = words S n := by simp [xsOf, words, word, List.map_map, Function.comp_def]
theorem xsOf_length (S : Nat → ByteArray) (n : Nat) : (xsOf S n).length = n := by simp [xsOf]
theorem words_succ (S : Nat → ByteArray) (n : Nat) : words S (n + 1) = words S n ++ [word S n] := by simp [words, List.range_succ]
theorem word_length (S : Nat → ByteArray) (i : Nat) : (word S i).length = (S i).size := (Lib.size_eq (S i)).symm

theorem join_snoc (ws : List (List UInt8)) (x sep : List UInt8) (h : ws ≠ []) : Lib.join (ws ++ [x]) sep = Lib.join ws sep ++ (sep ++ x) := by
  cases ws with
  | nil => exact absurd rfl h
  | cons y r =>
    rw [List.cons_append, Lib.join_cons, Lib.join_cons]
    simp [Lib.joinTail]

theorem J_succ (S : Nat → ByteArray) (n : Nat) : J S (n + 1) = T S n ++ word S n := by
  induction n with
  | zero => simp [J, words, T, Lib.join_one]
  | succ n ih =>
    have hne : words S (n + 1) ≠ [] := by simp [words]
    rw [J, words_succ, join_snoc _ _ _ hne, show Lib.join (words S (n + 1)) [47] = J S (n + 1) from rfl, ih]
    simp [T]

theorem J_T (S : Nat → ByteArray) (n : Nat) (h : 0 < n) : J S n ++ [47] = T S n := by
  cases n with
  | zero => omega
  | succ n => rw [J_succ]; simp [T]

def off (S : Nat → ByteArray) (p : Nat) : Nat := sizes S p + p

theorem T_length (S : Nat → ByteArray) (n : Nat) : (T S n).length = off S n := by
  induction n with
  | zero => rfl
  | succ n ih => simp only [T, List.length_append, ih, word_length, off, sizes, List.length_cons, List.length_nil]; omega

theorem J_length (S : Nat → ByteArray) (n : Nat) (h : 0 < n) : (J S n).length + 1 = off S n := by
  have := congrArg List.length (J_T S n h)
  rw [T_length] at this
  simpa using this

theorem off_succ (S : Nat → ByteArray) (p : Nat) : off S (p + 1) = off S p + (S p).size + 1 := by simp only [off, sizes]; omega

theorem off_mono (S : Nat → ByteArray) {p n : Nat} (h : p ≤ n) : off S p ≤ off S n := by
  induction n with
  | zero => have : p = 0 := by omega
            subst this; exact Nat.le_refl _
  | succ n ih =>
    by_cases e : p = n + 1
    · subst e; exact Nat.le_refl _
    · have := ih (by omega); rw [off_succ]; omega

theorem T_split (S : Nat → ByteArray) {p n : Nat} (h : p < n) : ∃ r, T S n = T S p ++ (word S p ++ (47 :: r)) := by
  induction n with
  | zero => omega
  | succ n ih =>
    by_cases e : p = n
    · subst e; exact ⟨[], by simp [T]⟩
    · obtain ⟨r, hr⟩ := ih (by omega)
      exact ⟨r ++ (word S n ++ [47]), by simp [T, hr]⟩

theorem T_byte (S : Nat → ByteArray) {p n i : Nat} (h : p < n) (hi : i < (S p).size) : (T S n)[off S p + i]? = (word S p)[i]? := by
  obtain ⟨r, hr⟩ := T_split S h
  rw [hr, List.getElem?_append_right (by rw [T_length]; omega), T_length, Nat.add_sub_cancel_left, List.getElem?_append_left (by rw [word_length]; exact hi)]

theorem T_slash (S : Nat → ByteArray) {p n : Nat} (h : p < n) : (T S n)[off S p + (S p).size]? = some 47 := by
  obtain ⟨r, hr⟩ := T_split S h
  rw [hr, List.getElem?_append_right (by rw [T_length]; omega), T_length, Nat.add_sub_cancel_left, List.getElem?_append_right (by rw [word_length]; omega), word_length, Nat.sub_self]
  rfl

theorem J_get (S : Nat → ByteArray) {n k : Nat} (h : 0 < n) (hk : k < (J S n).length) : (J S n)[k]? = (T S n)[k]? := by
  rw [← J_T S n h, List.getElem?_append_left hk]

theorem J_cut (S : Nat → ByteArray) {p n : Nat} (h : p < n) : ((J S n).drop (off S p)).take (S p).size = word S p := by
  have hJ := J_T S n (by omega)
  obtain ⟨r, hr⟩ := T_split S h
  have hl := J_length S n (by omega)
  have hm := off_mono S (p := p + 1) (n := n) (by omega)
  rw [off_succ] at hm
  have e1 : ((J S n ++ [47]).drop (off S p)).take (S p).size = ((J S n).drop (off S p)).take (S p).size := by
    rw [List.drop_append_of_le_length (by omega), List.take_append_of_le_length (by simp; omega)]
  rw [← e1, hJ, hr, List.drop_left' (T_length S p), List.take_left' (word_length S p)]

/-! ### the text tells the list -/
def Ends (A : List UInt8) : Prop := A = [] ∨ ∃ A', A = A' ++ [47]

theorem T_ends (S : Nat → ByteArray) (n : Nat) : Ends (T S n) := by
  cases n with
  | zero => exact Or.inl rfl
  | succ n => exact Or.inr ⟨T S n ++ word S n, by simp [T]⟩

theorem tail_one {A B x y : List UInt8} (hx : (47 : UInt8) ∉ x) (hB : Ends B) {c : List UInt8} (h1 : B = A ++ c) (h2 : x = c ++ y) : c = [] := by
  rcases List.eq_nil_or_concat c with h | ⟨c', z, rfl⟩
  · exact h
  · exfalso
    rw [List.concat_eq_append] at *
    rcases hB with h | ⟨B', h⟩
    · rw [h] at h1; simp at h1
    · rw [h, ← List.append_assoc] at h1
      have := List.append_inj_right' h1 rfl
      simp at this
      subst this
      exact hx (by rw [h2]; simp)

theorem cut_eq {A B x y : List UInt8} (h : A ++ x = B ++ y) (hx : (47 : UInt8) ∉ x) (hy : (47 : UInt8) ∉ y) (hA : Ends A) (hB : Ends B) : A = B ∧ x = y := by
  rcases List.append_eq_append_iff.1 h with ⟨c, h1, h2⟩ | ⟨c, h1, h2⟩
  · have := tail_one hx hB h1 h2
    subst this
    exact ⟨by simpa using h1.symm, by simpa using h2⟩
  · have := tail_one hy hA h1 h2
    subst this
    exact ⟨by simpa using h1, by simpa using h2.symm⟩

theorem T_inj (S S' : Nat → ByteArray) : ∀ n m : Nat, (∀ i, i < n → (47 : UInt8) ∉ word S i) → (∀ i, i < m → (47 : UInt8) ∉ word S' i) → T S n = T S' m → n = m ∧ ∀ i, i < n → word S i = word S' i
  | 0, 0, _, _, _ => ⟨rfl, fun i hi => absurd hi (Nat.not_lt_zero _)⟩
  | 0, m + 1, _, _, h => by simp [T] at h
  | n + 1, 0, _, _, h => by simp [T] at h
  | n + 1, m + 1, hn, hm, h => by
    simp only [T] at h
    rw [← List.append_assoc, ← List.append_assoc] at h
    have h' := List.append_inj_left' h rfl
    obtain ⟨h1, h2⟩ := cut_eq h' (hn n (by omega)) (hm m (by omega)) (T_ends S n) (T_ends S' m)
    obtain ⟨e, hw⟩ := T_inj S S' n m (fun i hi => hn i (by omega)) (fun i hi => hm i (by omega)) h1
    subst e
    refine ⟨rfl, fun i hi => ?_⟩
    by_cases e : i = n
    · subst e; exact h2
    · exact hw i (by omega)

theorem T_congr (S S' : Nat → ByteArray) (n : Nat) (h : ∀ i, i < n → word S i = word S' i) : T S n = T S' n := by
  induction n with
  | zero => rfl
  | succ n ih => simp only [T]; rw [ih (fun i hi => h i (by omega)), h n (by omega)]

theorem J_inj (S S' : Nat → ByteArray) (n m : Nat) (hn0 : 0 < n) (hm0 : 0 < m) (hn : ∀ i, i < n → (47 : UInt8) ∉ word S i) (hm : ∀ i, i < m → (47 : UInt8) ∉ word S' i) :
    J S n = J S' m ↔ n = m ∧ ∀ i, i < n → word S i = word S' i := by
  constructor
  · intro h
    refine T_inj S S' n m hn hm ?_
    rw [← J_T S n hn0, ← J_T S' m hm0, h]
  · rintro ⟨rfl, h⟩
    have : J S n ++ [47] = J S' n ++ [47] := by rw [J_T S n hn0, J_T S' n hn0, T_congr S S' n h]
    exact List.append_inj_left' this rfl

theorem free_not_mem {s : ByteArray} (h : Free s) : (47 : UInt8) ∉ s.data.toList := by
  intro hm
  obtain ⟨i, hi, he⟩ := List.getElem_of_mem hm
  have hi' : i < s.size := by rw [Lib.size_eq]; exact hi
  refine h i hi' ?_
  have : s[i] = s.data.toList[i] := by simp [ByteArray.getElem_eq_getElem_data]
  rw [this, he]
  rfl
end Go.Proofs.Qxb6604376a
