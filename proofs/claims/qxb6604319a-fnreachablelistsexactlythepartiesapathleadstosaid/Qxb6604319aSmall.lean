/-
  The small functions of graph.go: party, has, newSet, add, Adjacent; and the graph as it lies in memory ('IsGraph').
-/
import Derived.Test.Qxb6604319aRows
import Derived.Test.Qxb6604319aBits
import Derived.WalkKit
import Derived.WalkSpells
import Derived.WalkLawsBesides
import Derived.Deep.QuietTactic
import Derived.BigQuiet
import Derived.BigRegion
import Derived.Deep.OwnRows
import Derived.Deep.Draws
namespace Go.Proofs.Qxb6604319a
open Go.RowKit

theorem ret_bool {a b : Bool} (h : a = b) : Ending.returned (.bool a) = .returned (.bool b) := by rw [h]

theorem Try.info41 : (Try.prog.info? 41).map (fun i => (i.zero, i.size, i.bytes)) = some (some (.int .u64 0), 1, 8) := by kernel_rfl
theorem Try.info46 : (Try.prog.info? 46).map (fun i => (i.zero, i.size, i.bytes)) = some (some (.slice none 0 0), 1, 24) := by kernel_rfl
theorem Try.info40 : (Try.prog.info? 40).map (fun i => (i.zero, i.size, i.bytes)) = some (some (.slice none 0 0), 1, 24) := by kernel_rfl
theorem Try.info3 : (Try.prog.info? 3).map (fun i => (i.zero, i.size, i.bytes)) = some (some (.int .i64 0), 1, 8) := by kernel_rfl
theorem Try.info4 : (Try.prog.info? 4).map (fun i => (i.zero, i.size, i.bytes)) = some (some (.bool false), 1, 1) := by kernel_rfl

/-- A cell that was there is there behind whatever wrote nothing old. -/
theorem cell_keep {w w' : World} {a : Addr} {v : Value} (hb : Below w.heap.size w w') (h : w.cell? a = some v) : w'.cell? a = some v := by
  rw [hb.cell (p := a) (World.block_lt_of_cell? _ _ h)]; exact h

/-- THE GRAPH IN MEMORY: block gb holds n, h and the slice of rows (block cb); row i lies at the head of block RB i. -/
structure IsGraph (w : World) (gb cb n : Nat) (h : Int) (RB RL RC : Nat → Nat) (R : Nat → Nat → Nat) : Prop where
  nle : n ≤ 65536
  c0 : w.cell? ⟨gb, 0, none⟩ = some (.int .i64 n)
  c1 : w.cell? ⟨gb, 1, none⟩ = some (.int .i64 h)
  c2 : w.cell? ⟨gb, 2, none⟩ = some (.slice (some ⟨cb, 0, none⟩) n n)
  rows : ∀ i, i < n → w.cell? ⟨cb, i, none⟩ = some (.slice (some ⟨RB i, 0, none⟩) (RL i) (RC i))
  len : ∀ i, i < n → (n + 63) / 64 ≤ RL i ∧ RL i ≤ 1048576
  words : ∀ i, i < n → ∀ k, k < (n + 63) / 64 → w.cell? ⟨RB i, k, none⟩ = some (.int .u64 (R i k)) ∧ R i k < 2 ^ 64

theorem IsGraph.later {w w' : World} {gb cb n : Nat} {h : Int} {RB RL RC : Nat → Nat} {R : Nat → Nat → Nat} (g : IsGraph w gb cb n h RB RL RC R) (hb : Below w.heap.size w w') : IsGraph w' gb cb n h RB RL RC R :=
  ⟨g.nle, cell_keep hb g.c0, cell_keep hb g.c1, cell_keep hb g.c2, fun i hi => cell_keep hb (g.rows i hi), g.len, fun i hi k hk => ⟨cell_keep hb (g.words i hi k hk).1, (g.words i hi k hk).2⟩⟩

theorem below_drewN (B : Nat) (w : World) (m : Nat) : Below B w (w.drewN m) := ⟨rfl, rfl, rfl, Nat.le_refl _, fun _ _ => rfl⟩

/-- Bit b of row a. -/
def bitAt (R : Nat → Nat → Nat) (a b : Nat) : Bool := (R a (b / 64)).testBit (b % 64)

/-- 'g.party(p)'. -/
def partyB (n : Nat) (p : Int) : Bool := decide (1 ≤ p) && decide (p ≤ n)

/-- 'g.Adjacent(i, j)'. -/
def adjB (n : Nat) (R : Nat → Nat → Nat) (i j : Int) : Bool := !(i == j) && partyB n i && partyB n j && bitAt R (i - 1).toNat (j - 1).toNat

set_option maxHeartbeats 400000 in
theorem party_any (gb : Nat) (n : Nat) (p : Int) (w : World) (hn : w.cell? ⟨gb, 0, none⟩ = some (.int .i64 n)) :
    Calls Try.prog 28 #[.pointer (some ⟨gb, 0, none⟩), .int .i64 p] w fun e w' => e = .returned (.bool (partyB n p)) ∧ w = w' := by
  go_enter Try.func28, Try.ntmps28
  by_cases h1 : 1 ≤ p
  · go_wp2
    go_ret
    exact ⟨ret_bool (by simp [partyB, h1]), rfl⟩
  · have h2 : decide (1 ≤ p) = false := by simpa using h1
    have HX : Hid (decide (1 ≤ p) = false) := h2
    go_wp2
    go_ret
    exact ⟨ret_bool (by simp only [partyB, HX.out, Bool.false_and]), rfl⟩

set_option maxHeartbeats 400000 in
theorem has_any (rb l c : Nat) (x : Nat) (b : Nat) (w : World) (hl : l ≤ 9223372036854775807) (hb : b < 1000000) (hbl : b / 64 < l) (hx : x < 2 ^ 64)
    (hc : w.cell? ⟨rb, b / 64, none⟩ = some (.int .u64 x)) :
    Calls Try.prog 29 #[.slice (some ⟨rb, 0, none⟩) l c, .int .i64 (b + 1)] w fun e w' => e = .returned (.bool (x.testBit (b % 64))) ∧ ∃ m, w' = w.drewN m := by
  have HX : Hid (x < 2 ^ 64) := hx
  clear hx
  go_enter Try.func29, Try.ntmps29
  go_wp2
  go_quiet (fail)
  go_wp2
  go_ret
  exact ⟨ret_bool (has_bit HX.out (by omega)), _, rfl⟩

set_option maxHeartbeats 400000 in
theorem newSet_any (n : Nat) (w : World) (hn : n ≤ 65536) :
    Calls Try.prog 26 #[.int .i64 n] w fun e w' => e = .returned (.slice (some ⟨w.heap.size, 0, none⟩) ((n + 63) / 64) ((n + 63) / 64)) ∧
      w' = w.alloc (.cells (madeCells #[.int .u64 0] ((n + 63) / 64)) 41) := by
  have hmk := run_make_row' (P := Try.prog) 46 41 (.int .u64 0) 8 Try.underlying46 Try.info41 rfl .i64 .i64 ((n + 63) / 64) (by omega) (by omega)
  have e : ((((n + 63) / 64 : Nat)) : Int) = ((n : Int) + 63) / 64 := by omega
  rw [e] at hmk
  go_enter Try.func26, Try.ntmps26
  go_wp2
  go_ret
  exact ⟨rfl, rfl⟩

set_option maxHeartbeats 400000 in
theorem add_any (rb l c : Nat) (x : Nat) (b : Nat) (w : World) (hl : l ≤ 9223372036854775807) (hb : b < 1000000) (hbl : b / 64 < l) (hx : x < 2 ^ 64)
    (hc : w.cell? ⟨rb, b / 64, none⟩ = some (.int .u64 x)) (hf : w.frozen? ⟨rb, b / 64, none⟩ = false) :
    Calls Try.prog 27 #[.slice (some ⟨rb, 0, none⟩) l c, .int .i64 (b + 1)] w fun e w' => e = .returned (.tuple #[]) ∧ w' = (w.setCell ⟨rb, b / 64, none⟩ (.int .u64 ((x ||| 2 ^ (b % 64) : Nat) : Int))).drew := by
  have HX : Hid (x < 2 ^ 64) := hx
  clear hx
  go_enter Try.func27, Try.ntmps27
  go_wp2
  go_region
  all_goals go_end0
  exact ⟨rfl, by rw [or_bit HX.out (by omega)]⟩

set_option maxHeartbeats 1000000 in
theorem adj_any (w : World) {gb cb n : Nat} {h : Int} {RB RL RC : Nat → Nat} {R : Nat → Nat → Nat} (g : IsGraph w gb cb n h RB RL RC R) (i j : Int) :
    Calls Try.prog 24 #[.pointer (some ⟨gb, 0, none⟩), .int .i64 i, .int .i64 j] w fun e w' => e = .returned (.bool (adjB n R i j)) ∧ ∃ m, w' = w.drewN m := by
  have hc0 := g.c0
  have hc2 := g.c2
  have hn := g.nle
  by_cases hij : i = j
  · subst hij
    have hq : (i == i) = true := by simp
    go_enter Try.func24, Try.ntmps24
    go_wp2
    go_ret
    exact ⟨ret_bool (by simp [adjB]), 0, rfl⟩
  · have hne : (i != j) = true := by simp [hij]
    have HI : Hid (¬ i = j) := hij
    clear hij
    cases hi : partyB n i
    · go_enter Try.func24, Try.ntmps24
      go_wp2_with (go_at_call 28; refine (party_any _ _ _ _ hc0).mono ?_; rintro e w' ⟨rfl, rfl⟩)
      go_ret
      exact ⟨ret_bool (by simp [adjB, hi]), 0, rfl⟩
    · cases hj : partyB n j
      · go_enter Try.func24, Try.ntmps24
        go_wp2_with (go_at_call 28; refine (party_any _ _ _ _ hc0).mono ?_; rintro e w' ⟨rfl, rfl⟩)
        go_ret
        exact ⟨ret_bool (by simp [adjB, hi, hj]), 0, rfl⟩
      · have hi' := hi
        have hj' := hj
        simp only [partyB, Bool.and_eq_true, decide_eq_true_eq] at hi' hj'
        obtain ⟨a, rfl⟩ : ∃ a : Nat, i = (a : Int) + 1 := ⟨(i - 1).toNat, by omega⟩
        obtain ⟨b, rfl⟩ : ∃ b : Nat, j = (b : Int) + 1 := ⟨(j - 1).toNat, by omega⟩
        have ha : a < n := by omega
        have hb : b < n := by omega
        have hr := g.rows a ha
        have hl := g.len a ha
        obtain ⟨hw, hlt⟩ := g.words a ha (b / 64) (by omega)
        have HL : Hid (R a (b / 64) < 2 ^ 64) := hlt
        have HF : Hid (adjB n R ((a : Int) + 1) ((b : Int) + 1) = (R a (b / 64)).testBit (b % 64)) := by
          have hne' : ((a : Int) + 1 == (b : Int) + 1) = false := beq_eq_false_iff_ne.2 HI.out
          have e1 : ((a : Int) + 1 - 1).toNat = a := by omega
          have e2 : ((b : Int) + 1 - 1).toNat = b := by omega
          show adjB n R ((a : Int) + 1) ((b : Int) + 1) = (R a (b / 64)).testBit (b % 64)
          simp only [adjB, hi, hj, bitAt, e1, e2, hne', Bool.not_false, Bool.true_and]
        clear hlt hi' hj'
        go_enter Try.func24, Try.ntmps24
        go_wp2_with (first | (go_at_call 28; refine (party_any _ _ _ _ hc0).mono ?_; rintro e w' ⟨rfl, rfl⟩) | (go_at_call 29; refine (has_any _ _ _ _ _ _ (by omega) (by omega) (by omega) HL.out hw).mono ?_; rintro e w' ⟨rfl, m, rfl⟩))
        go_ret
        exact ⟨ret_bool HF.out.symm, _, rfl⟩
end Go.Proofs.Qxb6604319a
