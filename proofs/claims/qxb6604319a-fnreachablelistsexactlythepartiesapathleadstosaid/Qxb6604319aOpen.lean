/-
  From the row's reading of a [][]uint64 to 'RowsIn'.
-/
import Derived.Test.Qxb6604319aMat
import Derived.ProofKit
import Derived.OpenShut
import Derived.Deep.Matrix
namespace Go.Proofs.Qxb6604319a
open Go.ChangeShapes Go.WideShapes Go.ChangeAt Go.RowKit Go.Deep

theorem Try.cells40 : Try.prog.cellsOf 40 = 1 := by kernel_rfl
theorem Try.cells41 : Try.prog.cellsOf 41 = 1 := by kernel_rfl

theorem rows_of_trod {H : Type} {enc : TypeId × Value → H} {W : World} {ca : Option Addr} {len cap : Nat} {d : DataW H} {p : List MemPlace}
    (h : DataW.Trod enc Try.prog W 0 (fun _ => true) true 22 (.slice ca len cap) d p) :
    ∃ (gb go : Nat) (A : Nat → Option Addr) (L C RB RO : Nat → Nat) (V : Nat → Nat → Nat), RowsIn W ca gb go len A L C RB RO V := by
  obtain ⟨fuel, hf⟩ := h
  rcases open_int_rows Try.underlying22 Try.underlying40 Try.underlying41 Try.cells40 Try.cells41 hf with ⟨hcs, hx⟩ | ⟨a, len', cap', A, L, C, Z, hcs, _, hl, hm, hx, hrows⟩
  · simp [Value.cells] at hcs
    obtain ⟨rfl, rfl, rfl⟩ := hcs
    exact ⟨0, 0, fun _ => none, fun _ => 0, fun _ => 0, fun _ => 0, fun _ => 0, fun _ _ => 0, by omega, fun h => absurd h (Nat.lt_irrefl _), fun r hr => absurd hr (Nat.not_lt_zero _), fun r hr => absurd hr (Nat.not_lt_zero _), fun r hr => absurd hr (Nat.not_lt_zero _)⟩
  · simp [Value.cells] at hcs
    obtain ⟨rfl, rfl, rfl⟩ := hcs
    unfold maxLen at hm
    obtain ⟨gb, go, gs⟩ := a
    refine ⟨gb, go, A, L, C, fun r => ((A r).getD default).block, fun r => ((A r).getD default).off, fun r c => ((Z r).getD c 0).toNat, by omega, fun h0 => ?_, fun r hr => ?_, fun r hr => ?_, fun r hr c hc => ?_⟩
    · have hgs : gs = none := by simpa [Addr.add] using World.cell?_spot (hrows 0 (by omega)).1
      rw [hgs]
    · have hgs : gs = none := by simpa [Addr.add] using World.cell?_spot (hrows 0 (by omega)).1
      subst hgs
      rw [← add_plain]
      exact (hrows r (by omega)).1
    · obtain ⟨_, h1, h2, _⟩ := hrows r (by omega)
      unfold maxLen at h2
      omega
    · obtain ⟨_, h1, h2, h3, h4, h5, h6⟩ := hrows r (by omega)
      cases hA : A r with
      | none => have := h5 hA; omega
      | some a' =>
        obtain ⟨ab, ao, asp⟩ := a'
        obtain ⟨_, hcell⟩ := h6 _ hA
        have has : asp = none := by simpa [Addr.add] using World.cell?_spot (hcell 0 (by omega))
        subst has
        have hc' := hcell c (by omega)
        have hmem : (Z r).getD c 0 ∈ Z r := by
          rw [List.getD_eq_getElem?_getD, List.getElem?_eq_getElem (by omega)]
          exact List.getElem_mem _
        have hwf := bounds_u64 (h4 _ hmem)
        refine ⟨rfl, ?_, ?_⟩
        · rw [add_plain] at hc'
          show W.cell? ⟨ab, ao + c, none⟩ = _
          rw [hc', Int.toNat_of_nonneg hwf.1]
        · rw [two64]
          omega
end Go.Proofs.Qxb6604319a
