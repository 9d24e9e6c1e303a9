/-
  The list that Reachable hands back, as a walk reads it.
-/
import Derived.Test.Qxb6604319aReach
import Derived.Lib.SliceRun
namespace Go.Proofs.Qxb6604319a
open Go.RowKit

/-- The reached ones, as the walk reads them. -/
theorem ReachAt.cellsOf {w wr : World} {v : Value} {L : List Nat} (h : ReachAt w wr v L) (hL : L ≠ []) :
    ∃ g cap, v = .slice (some ⟨g, 0, none⟩) L.length cap ∧ ∀ i (hi : i < L.length), wr.cell? ⟨g, i, none⟩ = some (node L[i]) := by
  obtain ⟨h1, h2⟩ := h.own
  rcases h2 with ⟨_, h0⟩ | ⟨g, cap, cur, rfl, _, hb, h3, _, h5, h6⟩
  · exact absurd (List.eq_nil_of_length_eq_zero h0) hL
  · refine ⟨g, cap, rfl, fun i hi => ?_⟩
    have hx : (L.map node)[i]? = some (node L[i]) := by simp [hi]
    rw [← h6, List.getElem?_take] at hx
    split at hx
    · simpa [World.cell?, hb] using hx
    · cases hx

end Go.Proofs.Qxb6604319a
