/-
  The law FnDistancesAreSymmetricOnAnUndirectedGraph, walked.
-/
import Derived.Test.Qxb6604319aTri
namespace Go.Proofs.Qxb6604319a
open Go.RowKit

set_option maxHeartbeats 1000000 in
theorem sym_walk {w : World} {ca : Option Addr} {gb go len : Nat} {A : Nat → Option Addr} {L C RB RO : Nat → Nat} {V : Nat → Nat → Nat} (h : RowsIn w ca gb go len A L C RB RO V) (cap : Nat) (n hh p q : Int) :
    Calls Try.prog 5 #[.int .i64 n, .int .i64 hh, .slice ca len cap, .int .i64 p, .int .i64 q] w fun e w' => e = .returned (.bool true) ∧ Below w.heap.size w w' := by
  go_enter Try.func5, Try.ntmps5
  go_wp2_with fail
  refine (bytes17_any h cap n hh p q).mono ?_
  rintro e w' ⟨b, rfl, rfl⟩
  cases b
  · go_wp2_with fail
    go_ret
    exact ⟨rfl, Below.refl _ _⟩
  go_wp2_with fail
  refine (words_any h cap).mono ?_
  rintro e w' ⟨b, rfl, rfl, hw⟩
  cases b
  case true =>
    go_wp2_with fail
    go_ret
    exact ⟨rfl, Below.refl _ _⟩
  have hL2 := hw rfl
  clear hw
  go_wp2_with fail
  refine (shape_any h cap n).mono ?_
  rintro e w' ⟨b, rfl, rfl, hs⟩
  cases b
  · go_wp2_with fail
    go_ret
    exact ⟨rfl, Below.refl _ _⟩
  obtain ⟨rfl, hlen, hL1⟩ := hs rfl
  clear hs
  rcases party_cases len p with e1 | ⟨e1, e2⟩ | ⟨e1, e2, a, ha, rfl⟩
  · go_wp2_with fail
    go_ret
    exact ⟨rfl, Below.refl _ _⟩
  · go_wp2_with fail
    go_ret
    exact ⟨rfl, Below.refl _ _⟩
  rcases party_cases len q with f1 | ⟨f1, f2⟩ | ⟨f1, f2, b, hb, rfl⟩
  · go_wp2_with fail
    go_ret
    exact ⟨rfl, Below.refl _ _⟩
  · go_wp2_with fail
    go_ret
    exact ⟨rfl, Below.refl _ _⟩
  go_wp2_with fail
  refine (sym_any h hlen hL1 cap).mono ?_
  rintro e w' ⟨c, rfl, rfl, hsym⟩
  cases c
  · go_wp2_with fail
    go_ret
    exact ⟨rfl, Below.refl _ _⟩
  have hsy := hsym rfl
  clear hsym
  have HS : Hid (∀ i j, i < len → j < len → edgeB len V i j = edgeB len V j i) := hsy
  clear hsy
  go_wp2_with fail
  refine (clone_any h hlen (fun r hr => ⟨by have := hL1 r hr; omega, hL2 r hr⟩) cap).mono ?_
  rintro e w1 ⟨oa, oc, rfl, hb1, hR1⟩
  go_wp2_with fail
  refine (graph_any hR1 hlen (fun r hr => ⟨hL1 r hr, hL2 r hr⟩) oc hh).mono ?_
  rintro e w2 ⟨rfl, hb2, hG⟩
  go_wp2_with fail
  refine (zzdist_any _ hG _).mono ?_
  rintro e w3 ⟨rfl, D1, hD1, hT1⟩
  go_wp2_with fail
  refine (zzdist_any _ (hG.later hD1.since) _).mono ?_
  rintro e w4 ⟨rfl, D2, hD2, hT2⟩
  have hB : Below w.heap.size w w4 := ((hb1.trans (hb2.mono hb1.size)).trans (hD1.since.mono (Nat.le_trans hb1.size hb2.size))).trans (hD2.since.mono (Nat.le_trans (Nat.le_trans hb1.size hb2.size) hD1.since.size))
  have row1 : w4.rowIs w2.heap.size 3 len (fun i => .int .i64 (D1 i)) := (hD1.below (hD2.since.mono hD1.size)).row
  have row2 := hD2.row
  have g1 := table_good hT1 ha
  have g2 := table_good hT2 hb
  have heq := good_symm g1 g2 HS.out
  have HE : Hid (D1 b = D2 a) := heq
  clear heq hD1 hD2 hG hR1 hb1 hb2 h hL1 hL2 hT2 hT1 g1 g2 HS
  have c1 := row1.cell hb
  have c2 := row2.cell ha
  clear row1 row2
  go_wp2_with fail
  go_quiet (fail)
  go_wp2
  go_ret
  exact ⟨ret_bool (by rw [HE.out]; simp), hB.trans (below_drewN _ _ _)⟩
end Go.Proofs.Qxb6604319a
