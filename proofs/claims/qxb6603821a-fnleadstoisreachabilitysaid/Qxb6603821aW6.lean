import Derived.Test.Qxb6603821aW5
namespace Go.Proofs.Qxb6603821a
open Go.RowKit Go.WideMaps Go.Maps
set_option linter.unusedVariables false
set_option linter.unusedSimpArgs false

/-- The place of the table that key k of table i waits for. -/
def edge (f : ByteArray → Option Nat) (R : Nat → Nat → ByteArray) (CL : Nat → Nat) (CB : Nat → Nat → Bool) (D : Nat → Bool) (i k : Nat) : Option Nat :=
  match f (R i k) with
  | none => none
  | some j => if j = i ∨ D j = true ∨ (decide (k < CL i) && CB i k) = true then none else some j

def edgeZ : Option Nat → Int
  | none => -1
  | some j => j

def WaitsSaid (w : World) (r : Option Nat) (e : Ending) (w' : World) : Prop := e = .returned (.int .i64 (edgeZ r)) ∧ Below w.heap.size w w'

theorem cell_new {w : World} {a : Addr} {v : Value} (h : w.cell? a = some v) (o : Obj) : (w.alloc o).cell? a = some v :=
  cell_later ((Below.refl _ _).alloc (Nat.le_refl _) _) h

set_option maxHeartbeats 800000 in
theorem waitsFor_any (gb tb mb n : Nat) (dv : Value) (T F : Nat → Nat) (CV : Nat → Value) (f : ByteArray → Option Nat) (K : Nat → Nat) (R : Nat → Nat → ByteArray) (CL : Nat → Nat) (CB : Nat → Nat → Bool) (D : Nat → Bool)
    (w : World) (G : GraphAt w gb tb mb n dv T F CV f K R CL CB D) (hn : n ≤ 1048576) (hKb : ∀ i, i < n → K i ≤ 1048576) (hf : ∀ s j, f s = some j → j < n) (hR : ∀ i, i < n → ∀ k, k < K i → (R i k).size ≤ maxLen)
    (i k : Nat) (hi : i < n) (hk : k < K i) :
    Calls Try.prog 31 #[.pointer (some ⟨gb, 0, none⟩), .int .i64 i, .int .i64 k] w (WaitsSaid w (edge f R CL CB D i k)) := by
  have c0 := G.g0
  have c1 := G.g1
  have c2 := G.g2
  have t0 := G.t0 i hi
  have t1 := G.t1 i hi
  have ta := G.tab i hi
  have ks := G.keys i hi k hk
  obtain ⟨da, db, do_, dc, rfl, hd⟩ := G.created
  obtain ⟨ca, cb, co, cc, hcv, hcl⟩ := G.closing i hi
  rw [hcv] at t1
  have hKi := hKb i hi
  have hlook := fun (o : Obj) (m : Nat) => (G.map.of_block (w' := (w.alloc o).drewN m) (Below.heap_alloc w o mb G.map.lt)).look (hR i hi k hk)
  have hiz : (i : Int) < (n : Int) := by omega
  have hkz : (k : Int) < (K i : Int) := by omega
  have hb : ∀ o, Below w.heap.size w (w.alloc o) := fun o => (Below.refl _ _).alloc (Nat.le_refl _) _
  clear hcv
  have HC : Hid (∀ c, c < CL i → ca = some ⟨cb, co, none⟩ ∧ w.cell? ⟨cb, co + c, none⟩ = some (.bool (CB i c))) := fun c hc => ⟨(hcl c hc).1, (hcl c hc).2.2⟩
  clear hcl
  have c0' := cell_new c0
  have c1' := cell_new c1
  have c2' := cell_new c2
  have t0' := cell_new t0
  have t1' := cell_new t1
  have ta' := cell_new ta
  have ks' := cell_new ks
  clear hb
  cases hfr : f (R i k) with
  | none =>
    rw [hfr] at hlook
    simp only [Option.isSome, Option.getD] at hlook
    have HE : Hid (edge f R CL CB D i k = none) := by show edge f R CL CB D i k = none; simp [edge, hfr]
    clear hfr
    go_enter Try.func31, Try.ntmps31
    go_wp2
    clear c0 c1 c2 t0 t1 ta ks
    go_quiet (fail)
    go_wp2
    go_ret
    refine ⟨by rw [HE.out]; rfl, ?_⟩
    exact below_drewN ((Below.refl _ _).alloc (Nat.le_refl _) _) _
  | some j =>
    rw [hfr] at hlook
    simp only [Option.isSome, Option.getD] at hlook
    have hjn := hf _ _ hfr
    have hjz : (j : Int) < (n : Int) := by omega
    obtain ⟨rfl, _, hdj⟩ := hd j hjn
    have hdj' := cell_new hdj
    have HE : Hid (edge f R CL CB D i k = if j = i ∨ D j = true ∨ (decide (k < CL i) && CB i k) = true then none else some j) := by show edge f R CL CB D i k = _; simp [edge, hfr]
    clear hfr hdj
    by_cases hji : j = i
    · have hb1 : ((j : Int) == (i : Int)) = true := by simp [hji]
      go_enter Try.func31, Try.ntmps31
      go_wp2
      clear c0 c1 c2 t0 t1 ta ks
      go_quiet (fail)
      go_wp2
      go_ret
      refine ⟨by rw [HE.out, if_pos (Or.inl hji)]; rfl, ?_⟩
      exact below_drewN ((Below.refl _ _).alloc (Nat.le_refl _) _) _
    · have hb1 : ((j : Int) == (i : Int)) = false := by simp; omega
      cases hD : D j with
      | true =>
        simp only [hD] at hdj'
        go_enter Try.func31, Try.ntmps31
        go_wp2
        clear c0 c1 c2 t0 t1 ta ks
        go_quiet (fail)
        go_wp2
        go_ret
        refine ⟨by rw [HE.out, if_pos (Or.inr (Or.inl hD))]; rfl, ?_⟩
        exact below_drewN ((Below.refl _ _).alloc (Nat.le_refl _) _) _
      | false =>
        simp only [hD] at hdj'
        cases hcb : (decide (k < CL i) && CB i k) with
        | true =>
          have HB : Hid ((decide (k < CL i) && CB i k) = true) := hcb
          clear hcb
          go_enter Try.func31, Try.ntmps31
          go_wp2
          clear c0 c1 c2 t0 t1 ta ks
          go_quiet (fail)
          go_wp2_with fail
          refine (closes_any _ ca (CL i) cc cb co k (CB i) true _ (fun c hc => ⟨(HC.out c hc).1, cell_later (below_drewN ((Below.refl _ _).alloc (Nat.le_refl _) _) _) (HC.out c hc).2⟩) HB.out).mono ?_
          rintro e w1 ⟨rfl, hbw⟩
          go_wp2
          go_ret
          refine ⟨by rw [HE.out, if_pos (Or.inr (Or.inr HB.out))]; rfl, ?_⟩
          exact (below_drewN ((Below.refl _ _).alloc (Nat.le_refl _) _) _).trans (hbw.mono (by simp))
        | false =>
          have HB : Hid ((decide (k < CL i) && CB i k) = false) := hcb
          clear hcb
          go_enter Try.func31, Try.ntmps31
          go_wp2
          clear c0 c1 c2 t0 t1 ta ks
          go_quiet (fail)
          go_wp2_with fail
          refine (closes_any _ ca (CL i) cc cb co k (CB i) false _ (fun c hc => ⟨(HC.out c hc).1, cell_later (below_drewN ((Below.refl _ _).alloc (Nat.le_refl _) _) _) (HC.out c hc).2⟩) HB.out).mono ?_
          rintro e w1 ⟨rfl, hbw⟩
          go_wp2
          go_ret
          refine ⟨by rw [HE.out, if_neg (by rw [HB.out]; simp [hji, hD])]; rfl, ?_⟩
          exact (below_drewN ((Below.refl _ _).alloc (Nat.le_refl _) _) _).trans (hbw.mono (by simp))
end Go.Proofs.Qxb6603821a
