import Derived.Test.Qxb6604439aW6
namespace Go.Proofs.Qxb6604439a
open Go.RowKit Go.Deep
set_option linter.unusedVariables false
set_option linter.unusedSimpArgs false

theorem new_any (w : World) : Calls Try.prog 10 #[] w fun en w' => en = .returned (.pointer (some ⟨w.heap.size, 0, none⟩)) ∧ w' = w.alloc (.cells #[.slice none 0 0, .int .i64 0, .int .i64 0, .int .i64 0, .int .i64 0] 61) := by
  go_enter Try.func10, Try.ntmps10
  go_wp2
  go_ret
  exact ⟨rfl, rfl⟩

theorem good_new (w : World) : Good (w.alloc (.cells #[.slice none 0 0, .int .i64 0, .int .i64 0, .int .i64 0, .int .i64 0] 61)) w.heap.size 0 [] := by
  refine ⟨none, 0, 0, 0, [], [], ⟨?_, World.ownsRow_nil _ _ _ _, rfl, rfl, Nat.le_refl _⟩, Nat.le_refl _⟩
  unfold Rec
  rw [heap_alloc_new]
  simp [wrap64, sumO, sumS]

theorem zzadd_any {w : World} {rb e : Nat} {L : List (Int × Int × Int)} (hG : Good w rb e L) (he : e ≤ 1048575) (t a b : Int) (ht0 : -4611686018427387904 ≤ t) (ht1 : t ≤ 4611686018427387904) :
    Calls Try.prog 11 #[.pointer (some ⟨rb, 0, none⟩), .int .i64 t, .int .i64 a, .int .i64 b] w (AddSaid w rb (e + 1) (addL t a b L)) := by
  have HG : Hid (Good w rb e L) := hG
  clear hG
  go_enter Try.func11, Try.ntmps11
  go_wp2_with fail
  refine (add_any HG.out he t a b ht0 ht1).mono ?_
  rintro en w' ⟨rfl, h1, h2⟩
  go_wp2_with fail
  go_end0
  exact ⟨rfl, h1, h2⟩

theorem zzlen_any {w : World} {rb e : Nat} {L : List (Int × Int × Int)} (hG : Good w rb e L) (he : e ≤ 1048576) :
    Calls Try.prog 12 #[.pointer (some ⟨rb, 0, none⟩)] w fun en w' => en = .returned (.int .i64 ((L.length : Nat) : Int)) ∧ ∃ m, w' = w.drewN m := by
  obtain ⟨ao, N, f, e', pre, post, hq, he'⟩ := hG
  obtain ⟨c0, c1, c2, _, _⟩ := hq.box.cells
  have hfe := hq.fe
  have h1 := len_any rb f e' w (by omega) (by omega) c1 c2
  rw [show e' - f = L.length from by omega] at h1
  clear hq
  go_enter Try.func12, Try.ntmps12
  go_wp2_with fail
  refine h1.mono ?_
  rintro en w' ⟨rfl, m, rfl⟩
  go_wp2_with fail
  go_ret
  exact ⟨rfl, m, rfl⟩

theorem zzown_any {w : World} {rb e : Nat} {L : List (Int × Int × Int)} (hG : Good w rb e L) :
    Calls Try.prog 13 #[.pointer (some ⟨rb, 0, none⟩)] w fun en w' => en = .returned (.int .i64 (wrap64 (sumO L))) ∧ w' = w := by
  obtain ⟨ao, N, f, e', pre, post, hq, he'⟩ := hG
  obtain ⟨_, _, _, c3, _⟩ := hq.box.cells
  clear hq
  go_enter Try.func13, Try.ntmps13
  go_wp2
  go_ret
  exact ⟨rfl, rfl⟩

theorem zzstock_any {w : World} {rb e : Nat} {L : List (Int × Int × Int)} (hG : Good w rb e L) :
    Calls Try.prog 14 #[.pointer (some ⟨rb, 0, none⟩)] w fun en w' => en = .returned (.int .i64 (wrap64 (sumS L))) ∧ w' = w := by
  obtain ⟨ao, N, f, e', pre, post, hq, he'⟩ := hG
  obtain ⟨_, _, _, _, c4⟩ := hq.box.cells
  clear hq
  go_enter Try.func14, Try.ntmps14
  go_wp2
  go_ret
  exact ⟨rfl, rfl⟩

theorem flat_get (L : List (Int × Int × Int)) (i : Nat) (d : Int × Int × Int) (h : L[i]? = some d) (post : List Value) : (flat L ++ post)[i * 3]? = some (.int .i64 d.1) ∧ (flat L ++ post)[i * 3 + 1]? = some (.int .i64 d.2.1) ∧ (flat L ++ post)[i * 3 + 2]? = some (.int .i64 d.2.2) := by
  induction L generalizing i with
  | nil => simp at h
  | cons x L ih =>
    cases i with
    | zero =>
      simp only [List.getElem?_cons_zero, Option.some.injEq] at h
      subst h
      exact ⟨rfl, rfl, rfl⟩
    | succ i =>
      simp only [List.getElem?_cons_succ] at h
      have := ih i h
      rw [show (i + 1) * 3 = i * 3 + 3 from by omega]
      exact this

theorem Que.item {w : World} {rb : Nat} {ao : Option Addr} {N f e : Nat} {o s : Int} {L : List (Int × Int × Int)} {pre post : List Value} (h : Que w rb ao N f e o s L pre post) (i : Nat) (d : Int × Int × Int) (hi : L[i]? = some d) :
    ∃ g, ao = some ⟨g, 0, none⟩ ∧ f + i < e ∧ w.cell? ⟨g, (f + i) * 3, none⟩ = some (.int .i64 d.1) ∧ w.cell? ⟨g, (f + i) * 3 + 1, none⟩ = some (.int .i64 d.2.1) ∧ w.cell? ⟨g, (f + i) * 3 + 2, none⟩ = some (.int .i64 d.2.2) := by
  have hN := h.eN
  have hfe := h.fe
  have hiL : i < L.length := (List.getElem?_eq_some_iff.1 hi).1
  obtain ⟨g, cur, rfl, hrg, _⟩ := own_some h.own (by omega)
  have key : ∀ c, c < 3 → w.cell? ⟨g, (f + i) * 3 + c, none⟩ = (flat L ++ post)[i * 3 + c]? := fun c hc => by
    rw [h.own.cellAt _ (by omega), List.getElem?_append_right (by rw [h.pl]; omega), h.pl]
    congr 1
    omega
  obtain ⟨a1, a2, a3⟩ := flat_get L i d hi post
  exact ⟨g, rfl, by omega, (key 0 (by omega)).trans a1, (key 1 (by omega)).trans a2, (key 2 (by omega)).trans a3⟩

theorem zzat_any {w : World} {rb e : Nat} {L : List (Int × Int × Int)} (hG : Good w rb e L) (he : e ≤ 1048576) (i : Nat) (d : Int × Int × Int) (hi : L[i]? = some d) :
    Calls Try.prog 15 #[.pointer (some ⟨rb, 0, none⟩), .int .i64 i] w fun en w' => en = .returned (.tuple #[.int .i64 d.1, .int .i64 d.2.1, .int .i64 d.2.2]) ∧ ∃ m, w' = w.drewN m := by
  obtain ⟨ao, N, f, e', pre, post, hq, he'⟩ := hG
  obtain ⟨c0, c1, c2, _, _⟩ := hq.box.cells
  obtain ⟨g, rfl, hlt, q0, q1, q2⟩ := hq.item i d hi
  have hN := hq.eN
  have h1 := at_any rb g N f i w (by omega) (by omega) c0 c1
  clear hq hi
  go_enter Try.func15, Try.ntmps15
  go_wp2_with fail
  refine h1.mono ?_
  rintro en w' ⟨rfl, m, rfl⟩
  clear h1
  go_wp2_with fail
  go_quiet (fail)
  go_wp2
  go_ret3
  exact ⟨rfl, m + nq, by simp⟩

def BoolIs (p : Prop) (e : Ending) : Prop := ∃ b : Bool, e = .returned (.bool b) ∧ (b = true → p)

theorem bytes8 (sa : Option Addr) (n c : Nat) (hn : n ≤ maxLen) (w : World) : Calls Try.prog 8 #[.slice sa n c] w fun en w' => BoolIs (n ≤ 1048576) en ∧ w' = w := by
  unfold maxLen at hn
  by_cases h : (n : Int) > 1048576
  · go_enter Try.func8, Try.ntmps8
    go_wp2
    go_ret
    exact ⟨⟨_, rfl, by simp⟩, rfl⟩
  · go_enter Try.func8, Try.ntmps8
    go_wp2
    go_ret
    exact ⟨⟨_, rfl, fun _ => by omega⟩, rfl⟩

theorem bytes16 (sa : Option Addr) (n c : Nat) (hn : n ≤ maxLen) (w : World) : Calls Try.prog 16 #[.slice sa n c] w fun en w' => BoolIs (n ≤ 1048576) en ∧ w' = w := by
  unfold maxLen at hn
  by_cases h : (n : Int) > 1048576
  · go_enter Try.func16, Try.ntmps16
    go_wp2
    go_ret
    exact ⟨⟨_, rfl, by simp⟩, rfl⟩
  · go_enter Try.func16, Try.ntmps16
    go_wp2
    go_ret
    exact ⟨⟨_, rfl, fun _ => by omega⟩, rfl⟩

/-- The argument: n decisions D, three cells each. -/
structure Arg (w : World) (sa : Option Addr) (n b o : Nat) (D : Nat → Int × Int × Int) : Prop where
  ad : ∀ i, i < n → sa = some ⟨b, o, none⟩
  c0 : ∀ i, i < n → w.cell? ⟨b, o + i * 3, none⟩ = some (.int .i64 (D i).1)
  c1 : ∀ i, i < n → w.cell? ⟨b, o + i * 3 + 1, none⟩ = some (.int .i64 (D i).2.1)
  c2 : ∀ i, i < n → w.cell? ⟨b, o + i * 3 + 2, none⟩ = some (.int .i64 (D i).2.2)

theorem Arg.below {w w' : World} {sa : Option Addr} {n b o : Nat} {D : Nat → Int × Int × Int} {B : Nat} (h : Arg w sa n b o D) (hB : Below B w w') (hb : b < B) : Arg w' sa n b o D := by
  have e : ∀ j, w'.cell? ⟨b, j, none⟩ = w.cell? ⟨b, j, none⟩ := fun j => World.cell?_of_block (hB.block b hb)
  exact ⟨h.ad, fun i hi => (e _).trans (h.c0 i hi), fun i hi => (e _).trans (h.c1 i hi), fun i hi => (e _).trans (h.c2 i hi)⟩

/-- The instants never go back and lie well inside. -/
def InOrder (n : Nat) (D : Nat → Int × Int × Int) : Prop :=
  (∀ i, i < n → -4611686018427387904 ≤ (D i).1 ∧ (D i).1 ≤ 4611686018427387904) ∧ ∀ i, i + 1 < n → (D i).1 ≤ (D (i + 1)).1

theorem InOrder.next {k : Nat} {D : Nat → Int × Int × Int} (h : InOrder k D) (h1 : -4611686018427387904 ≤ (D k).1) (h2 : (D k).1 ≤ 4611686018427387904) (h3 : 0 < k → (D (k - 1)).1 ≤ (D k).1) : InOrder (k + 1) D := by
  refine ⟨fun i hi => ?_, fun i hi => ?_⟩
  · rcases Nat.lt_or_ge i k with h' | h'
    · exact h.1 i h'
    · obtain rfl : i = k := by omega
      exact ⟨h1, h2⟩
  · rcases Nat.lt_or_ge (i + 1) k with h' | h'
    · exact h.2 i h'
    · obtain rfl : i + 1 = k := by omega
      have := h3 (by omega)
      simpa using this

set_option maxHeartbeats 1600000 in
theorem order_any {w : World} {sa : Option Addr} {n c b o : Nat} {D : Nat → Int × Int × Int} (h : Arg w sa n b o D) (hn : n ≤ 1048576) :
    Calls Try.prog 9 #[.slice sa n c] w fun en w' => BoolIs (InOrder n D) en ∧ ∃ m, w' = w.drewN m := by
  have HA : Hid (Arg w sa n b o D) := h
  clear h
  go_enter Try.func9, Try.ntmps9
  go_wp2
  go_loopg [6] n (fun g kk wr => ∃ k m, k ≤ n ∧ g = n - k ∧ kk = .int .i64 k ∧ wr = w.drewN m ∧ InOrder k D)
  case atStart => exact ⟨0, 0, Nat.zero_le _, rfl, rfl, rfl, fun i hi => absurd hi (Nat.not_lt_zero _), fun i hi => absurd hi (Nat.not_lt_zero _)⟩
  case round =>
    obtain ⟨k, m, hk, rfl, rfl, rfl, hO⟩ := hrel
    have HO : Hid (InOrder k D) := hO
    clear hO
    by_cases hlt : k < n
    · have hkz : (k : Int) < (n : Int) := by omega
      obtain rfl := HA.out.ad k hlt
      have x0 := HA.out.c0 k hlt
      by_cases t1 : (D k).1 < -4611686018427387904
      · go_wp2
        go_ret
        exact ⟨⟨_, rfl, by simp⟩, m, rfl⟩
      · by_cases t2 : (D k).1 > 4611686018427387904
        · go_wp2
          go_ret
          exact ⟨⟨_, rfl, by simp⟩, m, rfl⟩
        · by_cases t3 : 0 < k
          · obtain ⟨j, rfl⟩ : ∃ j, k = j + 1 := ⟨k - 1, by omega⟩
            have x1 := HA.out.c0 j (by omega)
            have hjz : (j : Int) < (n : Int) := by omega
            by_cases t4 : (D (j + 1)).1 < (D j).1
            · go_wp2
              go_quiet (fail)
              go_wp2
              go_ret
              exact ⟨⟨_, rfl, by simp⟩, m + nq, by simp⟩
            · have HN : Hid (InOrder (j + 1 + 1) D) := HO.out.next (by omega) (by omega) (fun _ => by simpa using t4)
              go_wp2
              go_quiet (fail)
              go_wp2
              go_roundg (n - (j + 1 + 1))
              case measure => omega
              case rel => exact ⟨j + 1 + 1, m + nq, by omega, rfl, by go_num, by simp, HN.out⟩
          · obtain rfl : k = 0 := by omega
            rw [Nat.zero_mul, Nat.add_zero] at x0
            have HN : Hid (InOrder (0 + 1) D) := HO.out.next (by omega) (by omega) (fun h => absurd h (Nat.lt_irrefl _))
            go_wp2
            go_quiet (fail)
            go_wp2
            go_roundg (n - (0 + 1))
            case measure => omega
            case rel => exact ⟨0 + 1, m + nq, by omega, rfl, by go_num, by simp, HN.out⟩
    · have hkz : ¬ (k : Int) < (n : Int) := by omega
      obtain rfl : k = n := by omega
      go_wp2
      go_ret
      exact ⟨⟨_, rfl, fun _ => HO.out⟩, m, rfl⟩
end Go.Proofs.Qxb6604439a
