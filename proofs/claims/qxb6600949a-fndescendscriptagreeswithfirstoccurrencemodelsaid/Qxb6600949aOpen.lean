/-
  From the rows' readings of a []string and a []int to 'StrsIn', 'IntsIn'.
-/
import Derived.Test.Qxb6600949aArgs
import Derived.ProofKit
import Derived.OpenShut
import Derived.SliceStrings
import Derived.Deep.Matrix
namespace Go.Proofs.Qxb6600949a
open Go.ChangeShapes Go.WideShapes Go.ChangeAt Go.RowKit Go.Deep

theorem Try.cells3 : Try.prog.cellsOf 3 = 1 := by kernel_rfl
theorem Try.cells9 : Try.prog.cellsOf 9 = 1 := by kernel_rfl

theorem strs_of_trod {H : Type} {enc : TypeId × Value → H} {W : World} {ca : Option Addr} {len cap : Nat} {d : DataW H} {p : List MemPlace}
    (h : DataW.Trod enc Try.prog W 0 (fun _ => true) true 22 (.slice ca len cap) d p) : ∃ (b o : Nat) (S : Nat → ByteArray), StrsIn W ca b o len S := by
  obtain ⟨fuel, hf⟩ := h
  rcases open_strings Try.underlying22 Try.underlying9 Try.cells9 hf with ⟨hcs, hx⟩ | ⟨a, len', cap', ss, hcs, _, hl, hm, hz, hx, hcell, hsz⟩
  · simp [Value.cells] at hcs
    obtain ⟨rfl, rfl, rfl⟩ := hcs
    exact ⟨0, 0, _, strs_nil W⟩
  · simp [Value.cells] at hcs
    obtain ⟨rfl, rfl, rfl⟩ := hcs
    simp only [if_true] at hz
    unfold maxLen at hm
    obtain ⟨gb, go, gs⟩ := a
    have hgs : 0 < len → gs = none := fun h0 => by simpa [Addr.add] using World.cell?_spot (hcell 0 (by omega))
    refine ⟨gb, go, fun i => ss.getD i ByteArray.empty, by omega, fun h0 => ?_, fun i hi => ?_, fun i hi => ?_⟩
    · rw [hgs h0]
    · obtain rfl := hgs (by omega)
      rw [← add_plain]
      exact hcell i (by omega)
    · have hmem : ss.getD i ByteArray.empty ∈ ss := by
        rw [List.getD_eq_getElem?_getD, List.getElem?_eq_getElem (by omega)]
        exact List.getElem_mem _
      have := hsz _ hmem
      unfold maxLen at this
      omega

theorem ints_of_trod {H : Type} {enc : TypeId × Value → H} {W : World} {ca : Option Addr} {len cap : Nat} {d : DataW H} {p : List MemPlace}
    (h : DataW.Trod enc Try.prog W 0 (fun _ => true) true 23 (.slice ca len cap) d p) : ∃ (b o : Nat) (Z : Nat → Int), IntsIn W ca b o len Z := by
  obtain ⟨fuel, hf⟩ := h
  rcases open_ints Try.underlying23 Try.underlying3 Try.cells3 hf with ⟨hcs, hx⟩ | ⟨a, len', cap', zs, hcs, _, hl, hm, hz, hx, hcell, hsz⟩
  · simp [Value.cells] at hcs
    obtain ⟨rfl, rfl, rfl⟩ := hcs
    exact ⟨0, 0, fun _ => 0, by omega, fun h => absurd h (Nat.lt_irrefl _), fun i hi => absurd hi (Nat.not_lt_zero _)⟩
  · simp [Value.cells] at hcs
    obtain ⟨rfl, rfl, rfl⟩ := hcs
    simp only [if_true] at hz
    unfold maxLen at hm
    obtain ⟨gb, go, gs⟩ := a
    have hgs : 0 < len → gs = none := fun h0 => by simpa [Addr.add] using World.cell?_spot (hcell 0 (by omega))
    refine ⟨gb, go, fun i => zs.getD i 0, by omega, fun h0 => ?_, fun i hi => ?_⟩
    · rw [hgs h0]
    · obtain rfl := hgs (by omega)
      rw [← add_plain]
      exact hcell i (by omega)
end Go.Proofs.Qxb6600949a
