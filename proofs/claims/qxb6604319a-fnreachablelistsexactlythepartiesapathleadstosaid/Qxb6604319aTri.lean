/-
  The law FnDistancesKeepTheTriangleInequality, walked.
-/
import Derived.Test.Qxb6604319aBytes
import Derived.Test.Qxb6604319aClone
import Derived.Test.Qxb6604319aReach
namespace Go.Proofs.Qxb6604319a
open Go.RowKit

/-- p is a party, or not, as the tests of the laws part it. -/
theorem party_cases (n : Nat) (q : Int) : (decide (q < 1) = true) ∨ (decide (q < 1) = false ∧ decide ((n : Int) < q) = true) ∨ (decide (q < 1) = false ∧ decide ((n : Int) < q) = false ∧ ∃ a : Nat, a < n ∧ q = (a : Int) + 1) := by
  simp only [decide_eq_true_eq, decide_eq_false_iff_not]
  by_cases h1 : q < 1
  · exact .inl h1
  · by_cases h2 : (n : Int) < q
    · exact .inr (.inl ⟨h1, h2⟩)
    · exact .inr (.inr ⟨h1, h2, (q - 1).toNat, by omega, by omega⟩)

theorem party_succ {n a : Nat} (h : a < n) : partyB n ((a : Int) + 1) = true := by simp [partyB]; omega

theorem table_good {n a : Nat} {R : Nat → Nat → Nat} {D : Nat → Int} (h : Table n R ((a : Int) + 1) D) (ha : a < n) : Good n (edgeB n R) a D := by
  have := h.1 (party_succ ha)
  rw [show ((a : Int) + 1 - 1).toNat = a by omega] at this
  exact this

/-- A table that reaches something is a party's. -/
theorem table_reached {n : Nat} {R : Nat → Nat → Nat} {p : Int} {D : Nat → Int} (h : Table n R p D) {q : Nat} (hq : q < n) (h0 : 0 ≤ D q) : ∃ a : Nat, a < n ∧ p = (a : Int) + 1 ∧ Good n (edgeB n R) a D := by
  cases hp : partyB n p
  · have := h.2 hp q hq
    omega
  · have hg := h.1 hp
    simp only [partyB, Bool.and_eq_true, decide_eq_true_eq] at hp
    exact ⟨(p - 1).toNat, by omega, by omega, hg⟩

set_option maxHeartbeats 1000000 in
theorem tri_walk {w : World} {ca : Option Addr} {gb go len : Nat} {A : Nat → Option Addr} {L C RB RO : Nat → Nat} {V : Nat → Nat → Nat} (h : RowsIn w ca gb go len A L C RB RO V) (cap : Nat) (n hh p q r : Int) :
    Calls Try.prog 4 #[.int .i64 n, .int .i64 hh, .slice ca len cap, .int .i64 p, .int .i64 q, .int .i64 r] w fun e w' => e = .returned (.bool true) ∧ Below w.heap.size w w' := by
  go_enter Try.func4, Try.ntmps4
  go_wp2_with fail
  refine (bytes16_any h cap n hh p q r).mono ?_
  rintro e w' ⟨b, rfl, rfl⟩
  cases b
  · go_wp2_with fail
    go_ret
    exact ⟨rfl, Below.refl _ _⟩
  go_wp2_with fail
  refine (words_any h cap).mono ?_
  rintro e w' ⟨b, rfl, rfl, hw⟩
  cases b
  case true =>
    go_wp2_with fail
    go_ret
    exact ⟨rfl, Below.refl _ _⟩
  have hL2 := hw rfl
  clear hw
  go_wp2_with fail
  refine (shape_any h cap n).mono ?_
  rintro e w' ⟨b, rfl, rfl, hs⟩
  cases b
  · go_wp2_with fail
    go_ret
    exact ⟨rfl, Below.refl _ _⟩
  obtain ⟨rfl, hlen, hL1⟩ := hs rfl
  clear hs
  rcases party_cases len q with e1 | ⟨e1, e2⟩ | ⟨e1, e2, a, ha, rfl⟩
  · go_wp2_with fail
    go_ret
    exact ⟨rfl, Below.refl _ _⟩
  · go_wp2_with fail
    go_ret
    exact ⟨rfl, Below.refl _ _⟩
  rcases party_cases len r with f1 | ⟨f1, f2⟩ | ⟨f1, f2, b, hb, rfl⟩
  · go_wp2_with fail
    go_ret
    exact ⟨rfl, Below.refl _ _⟩
  · go_wp2_with fail
    go_ret
    exact ⟨rfl, Below.refl _ _⟩
  go_wp2_with fail
  refine (clone_any h hlen (fun r hr => ⟨by have := hL1 r hr; omega, hL2 r hr⟩) cap).mono ?_
  rintro e w1 ⟨oa, oc, rfl, hb1, hR1⟩
  go_wp2_with fail
  refine (graph_any hR1 hlen (fun r hr => ⟨hL1 r hr, hL2 r hr⟩) oc hh).mono ?_
  rintro e w2 ⟨rfl, hb2, hG⟩
  go_wp2_with fail
  refine (zzdist_any _ hG p).mono ?_
  rintro e w3 ⟨rfl, D1, hD1, hT1⟩
  go_wp2_with fail
  refine (zzdist_any _ (hG.later hD1.since) _).mono ?_
  rintro e w4 ⟨rfl, D2, hD2, hT2⟩
  have hB : Below w.heap.size w w4 := ((hb1.trans (hb2.mono hb1.size)).trans (hD1.since.mono (Nat.le_trans hb1.size hb2.size))).trans (hD2.since.mono (Nat.le_trans (Nat.le_trans hb1.size hb2.size) hD1.since.size))
  have row1 : w4.rowIs w2.heap.size 3 len (fun i => .int .i64 (D1 i)) := (hD1.below (hD2.since.mono hD1.size)).row
  have row2 := hD2.row
  have g2 := table_good hT2 ha
  clear hD1 hD2 hG hR1 hb1 hb2 h hL1 hL2 hT2
  have c1 := row1.cell ha
  have c2 := row2.cell hb
  have c3 := row1.cell hb
  clear row1 row2
  by_cases k1 : D1 a < 0
  · go_wp2_with fail
    go_ret
    exact ⟨rfl, hB⟩
  have k1d : decide (D1 a < 0) = false := by simpa using k1
  by_cases k2 : D2 b < 0
  · go_wp2_with fail
    go_ret
    exact ⟨rfl, hB⟩
  have k2d : decide (D2 b < 0) = false := by simpa using k2
  obtain ⟨x, hx, rfl, g1⟩ := table_reached hT1 ha (by omega)
  obtain ⟨t1, t2⟩ := good_triangle g1 g2 hb (by omega) (by omega)
  have b1 := g1.hi a ha
  have b2 := g2.hi b hb
  have b3 := g1.hi b hb
  clear hT1 g1 g2
  go_wp2_with fail
  go_quiet (fail)
  go_wp2
  go_ret
  exact ⟨ret_bool (by simp), hB.trans (below_drewN _ _ _)⟩
end Go.Proofs.Qxb6604319a
