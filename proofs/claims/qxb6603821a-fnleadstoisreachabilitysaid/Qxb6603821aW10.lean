import Derived.Test.Qxb6603821aW9
namespace Go.Proofs.Qxb6603821a
open Go.RowKit Go.WideMaps Go.Maps
set_option linter.unusedVariables false
set_option linter.unusedSimpArgs false

theorem bases {w : World} {lo n : Nat} {V : Nat → Value} {K : Nat → Nat} {F : Nat → Nat → Value} (hV : ∀ i, i < n → SliceAt w lo (V i) (K i) (F i)) :
    ∃ (A : Nat → Option Addr) (C B O : Nat → Nat), ∀ i, i < n → V i = .slice (A i) (K i) (C i) ∧ ∀ k, k < K i → A i = some ⟨B i, O i, none⟩ ∧ w.cell? ⟨B i, O i + k, none⟩ = some (F i k) := by
  obtain ⟨f, hf⟩ := Go.Deep.choose_lt (α := Option Addr × Nat × Nat × Nat) (p := fun i y => V i = .slice y.1 (K i) y.2.1 ∧ ∀ k, k < K i → y.1 = some ⟨y.2.2.1, y.2.2.2, none⟩ ∧ w.cell? ⟨y.2.2.1, y.2.2.2 + k, none⟩ = some (F i k)) (fun i hi => by
    obtain ⟨a, b, o, c, hv, h2⟩ := hV i hi
    exact ⟨(a, c, b, o), hv, fun k hk => ⟨(h2 k hk).1, (h2 k hk).2.2⟩⟩)
  exact ⟨fun i => (f i).1, fun i => (f i).2.1, fun i => (f i).2.2.1, fun i => (f i).2.2.2, hf⟩

theorem waiting_sl {w : World} {n : Nat} {S : Nat → ByteArray} {K : Nat → Nat} {R : Nat → Nat → ByteArray} {CL : Nat → Nat} {CB : Nat → Nat → Bool} {D : Nat → Bool} {nv rv cv dv : Value}
    (hn0 : n ≤ 1048576) (hK : ∀ i, i < n → K i ≤ 1048576) (hS : ∀ i, i < n → (S i).size ≤ maxLen)
    (hnv : SliceAt w 0 nv n (fun i => .string (S i))) (hrv : RowsAt w 0 rv n K (fun i k => .string (R i k))) (hcv : RowsAt w 0 cv n CL (fun i k => .bool (CB i k))) (hdv : SliceAt w 0 dv n (fun i => .bool (D i))) :
    Calls Try.prog 28 #[nv, rv, cv, dv] w (WaitSaid w n S K R CL CB D) := by
  obtain ⟨na, nb, no, nc, rfl, h1⟩ := hnv
  obtain ⟨V, ⟨ra, rb, ro, rc, rfl, h2⟩, h3⟩ := hrv
  obtain ⟨A, C, RB, RO, h4⟩ := bases h3
  obtain ⟨V', ⟨ca, cb, co, cc, rfl, h5⟩, h6⟩ := hcv
  obtain ⟨CA, CC, h7⟩ := shapes h6
  obtain ⟨da, db, do_, dc, rfl, h8⟩ := hdv
  exact waiting_any na ra ca n nb no nc rb ro rc cb co cc S A K C RB RO R CA CL CC CB da dc D w hn0 (fun i hi => ⟨(h1 i hi).1, (h1 i hi).2.2⟩) hS
    (fun i hi => ⟨(h2 i hi).1, by rw [← (h4 i hi).1]; exact (h2 i hi).2.2⟩) (fun i hi k hk => (h4 i hi).2 k hk) hK (fun i hi => ⟨(h5 i hi).1, by rw [← h7 i hi]; exact (h5 i hi).2.2⟩)
    (fun i hi => by rw [← h7 i hi]; exact h6 i hi) ⟨da, db, do_, dc, rfl, h8⟩

set_option maxHeartbeats 400000 in
theorem zzLeads {w : World} {n : Nat} {S : Nat → ByteArray} {K : Nat → Nat} {R : Nat → Nat → ByteArray} {CL : Nat → Nat} {CB : Nat → Nat → Bool} {D : Nat → Bool} {nv rv cv dv : Value}
    (hn0 : n ≤ 1048576) (hK : ∀ i, i < n → K i ≤ 1048576) (hsum : sumTo K n ≤ 1048576) (hS : ∀ i, i < n → (S i).size ≤ maxLen) (hR : ∀ i, i < n → ∀ k, k < K i → (R i k).size ≤ maxLen)
    (hnv : SliceAt w 0 nv n (fun i => .string (S i))) (hrv : RowsAt w 0 rv n K (fun i k => .string (R i k))) (hcv : RowsAt w 0 cv n CL (fun i k => .bool (CB i k))) (hdv : SliceAt w 0 dv n (fun i => .bool (D i)))
    (a : Nat) (ha : a < n) (tgt : Int) :
    Calls Try.prog 17 #[nv, rv, cv, dv, .int .i64 a, .int .i64 tgt] w (LeadsSaid w (E n K (edge (place S n) R CL CB D)) a tgt) := by
  have h1 := waiting_sl hn0 hK hS hnv hrv hcv hdv
  clear hnv hrv hcv hdv
  go_enter Try.func17, Try.ntmps17
  go_wp2_with fail
  refine h1.mono ?_
  rintro e w1 ⟨gb, tb, mb, dv', T, F, CV, rfl, hG, hb⟩
  have h2 := leadsTo_any gb tb mb n dv' T F CV (place S n) K R CL CB D w1 hG hn0 hK hsum (fun s j h => place_lt S s n j h) hR a ha tgt
  have HB : Hid (Below w.heap.size w w1) := hb
  clear hG hb h1
  go_wp2_with fail
  refine h2.mono ?_
  rintro e w2 ⟨r, rfl, hr, hb2⟩
  have HR : Hid (r = true ↔ ∃ t : Nat, (t : Int) = tgt ∧ Reach (E n K (edge (place S n) R CL CB D)) a t) := hr
  clear hr h2
  go_wp2
  go_ret
  exact ⟨r, rfl, HR.out, HB.out.trans (hb2.mono HB.out.size)⟩
end Go.Proofs.Qxb6603821a
