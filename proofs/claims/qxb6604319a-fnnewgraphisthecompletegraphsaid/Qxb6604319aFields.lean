/-
  ZZGraphFields hands back n, h and a fresh slice of the same rows.
-/
import Derived.Test.Qxb6604319aNew
namespace Go.Proofs.Qxb6604319a
open Go.RowKit

structure Copied (w wr : World) (n : Nat) (F : Nat → Value) (r : Nat) : Prop where
  since : Below w.heap.size w wr
  top : wr.rowIs w.heap.size 40 n (fun j => if j < r then F j else .slice none 0 0)

theorem copied_start (w : World) (n : Nat) (F : Nat → Value) : Copied w (w.alloc (.cells (madeCells #[.slice none 0 0] n) 40)) n F 0 :=
  ⟨(Below.refl _ _).alloc (Nat.le_refl _) _, (World.rowIs_made w _ n 40).congr (fun j _ => by simp)⟩

theorem copied_step {w wr : World} {n : Nat} {F : Nat → Value} {r : Nat} (o : Copied w wr n F r) {v : Value} (hv : v = F r) :
    Copied w (wr.setCell ⟨w.heap.size, r, none⟩ v) n F (r + 1) := by
  subst hv
  refine ⟨o.since.setCell (Nat.le_refl _) _, (o.top.set r _).congr (fun j _ => ?_)⟩
  by_cases e : j = r
  · subst e; simp
  · rw [if_neg e]
    by_cases hlt : j < r
    · rw [if_pos hlt, if_pos (by omega)]
    · rw [if_neg hlt, if_neg (by omega)]

set_option maxHeartbeats 1000000 in
theorem fields_any (gb cb n : Nat) (h : Int) (A : Nat → Option Addr) (L C : Nat → Nat) (w : World) (hn : n ≤ 65536)
    (c0 : w.cell? ⟨gb, 0, none⟩ = some (.int .i64 n)) (c1 : w.cell? ⟨gb, 1, none⟩ = some (.int .i64 h)) (c2 : w.cell? ⟨gb, 2, none⟩ = some (.slice (some ⟨cb, 0, none⟩) n n))
    (rows : ∀ i, i < n → w.cell? ⟨cb, i, none⟩ = some (.slice (A i) (L i) (C i))) :
    Calls Try.prog 23 #[.pointer (some ⟨gb, 0, none⟩)] w fun e w' => e = .returned (.tuple #[.int .i64 n, .int .i64 h, .slice (some ⟨w.heap.size, 0, none⟩) n n]) ∧
      Below w.heap.size w w' ∧ w'.rowIs w.heap.size 40 n (fun j => .slice (A j) (L j) (C j)) := by
  have hmk := run_make_row' (P := Try.prog) 22 40 (.slice none 0 0) 24 Try.underlying22 Try.info40 rfl .i64 .i64 n (by omega) (by omega)
  have d2 : ∀ o, (w.alloc o).cell? ⟨gb, 2, none⟩ = some (.slice (some ⟨cb, 0, none⟩) n n) := fun o => cell_keep ((Below.refl _ _).alloc (Nat.le_refl _) _) c2
  go_enter Try.func23, Try.ntmps23
  go_wp2
  clear hmk d2
  go_loopg [18] n (fun g i wr => ∃ r : Nat, r ≤ n ∧ g = n - r ∧ i = .int .i64 r ∧ Copied w wr n (fun j => .slice (A j) (L j) (C j)) r)
  case atStart => exact ⟨0, Nat.zero_le _, rfl, rfl, copied_start w n _⟩
  case round =>
    obtain ⟨r, hr, rfl, rfl, hO⟩ := hrel
    by_cases hrG : r < n
    · have hrz : (r : Int) < (n : Int) := by omega
      have e2 := cell_keep hO.since c2
      have e3 := cell_keep hO.since (rows r hrG)
      have t1 : wr.cell? ⟨w.heap.size, r, none⟩ = some (.slice none 0 0) := by simpa using hO.top.cell hrG
      have t2 := hO.top.frozen r
      clear rows
      go_wp2
      go_roundg (n - (r + 1))
      case measure => go_light; omega
      case rel => go_light; exact ⟨r + 1, by omega, rfl, by go_num, copied_step hO rfl⟩
    · obtain rfl : r = n := by omega
      have e0 := cell_keep hO.since c0
      have e1 := cell_keep hO.since c1
      go_wp2
      go_quiet (fail)
      go_wp2
      go_ret3
      exact ⟨rfl, hO.since.trans (below_drewN _ _ _), hO.top.congr (fun j hj => by simp [hj])⟩

theorem fields_graph {w : World} {gb cb n : Nat} {h : Int} {RB RL RC : Nat → Nat} {R : Nat → Nat → Nat} (g : IsGraph w gb cb n h RB RL RC R) :
    Calls Try.prog 23 #[.pointer (some ⟨gb, 0, none⟩)] w fun e w' => e = .returned (.tuple #[.int .i64 n, .int .i64 h, .slice (some ⟨w.heap.size, 0, none⟩) n n]) ∧
      Below w.heap.size w w' ∧ w'.rowIs w.heap.size 40 n (fun j => .slice (some ⟨RB j, 0, none⟩) (RL j) (RC j)) :=
  fields_any gb cb n h (fun i => some ⟨RB i, 0, none⟩) RL RC w g.nle g.c0 g.c1 g.c2 g.rows
end Go.Proofs.Qxb6604319a
