/-
  ZZDistances hands on what distances gives; (*Graph).Reachable lists the reached parties in increasing order, and is nil exactly where there is none.
-/
import Derived.Test.Qxb6604319aDist
namespace Go.Proofs.Qxb6604319a
open Go.RowKit

set_option maxHeartbeats 400000 in
theorem zzdist_any (w : World) {gb cb n : Nat} {h : Int} {RB RL RC : Nat → Nat} {R : Nat → Nat → Nat} (g : IsGraph w gb cb n h RB RL RC R) (p : Int) :
    Calls Try.prog 14 #[.pointer (some ⟨gb, 0, none⟩), .int .i64 p] w fun e w' => e = .returned (.slice (some ⟨w.heap.size, 0, none⟩) n n) ∧
      ∃ D : Nat → Int, DistAt w w' n D ∧ Table n R p D := by
  go_enter Try.func14, Try.ntmps14
  go_wp2_with (go_at_call 25; refine (dist_any _ g p).mono ?_; rintro e w' ⟨rfl, hD⟩)
  go_ret
  exact ⟨rfl, hD⟩

/-- The reached ones among the first k. -/
def reachL (D : Nat → Int) (k : Nat) : List Nat := (List.range k).filter (fun q => decide (0 ≤ D q))

theorem reachL_yes {D : Nat → Int} {k : Nat} (h : 0 ≤ D k) : reachL D (k + 1) = reachL D k ++ [k] := by
  simp [reachL, List.range_succ, List.filter_append, h]

theorem reachL_no {D : Nat → Int} {k : Nat} (h : D k < 0) : reachL D (k + 1) = reachL D k := by
  have : ¬ 0 ≤ D k := by omega
  simp [reachL, List.range_succ, List.filter_append, this]

theorem reachL_le (D : Nat → Int) (k : Nat) : (reachL D k).length ≤ k := by
  have := List.length_filter_le (fun q => decide (0 ≤ D q)) (List.range k)
  simpa [reachL] using this

/-- What comes back: a slice of the call's own that holds the reached parties; nil where there is none. -/
structure ReachAt (w wr : World) (v : Value) (L : List Nat) : Prop where
  own : wr.ownsRow (w.heap.size + 1) 3 1 v L.length (L.map node)
  nil : L = [] → v = .slice none 0 0

theorem reach_step {w wr w1 : World} {n : Nat} {D : Nat → Int} {v : Value} {o : Obj} {r : Nat} (h0 : 0 ≤ D r) (hD : DistAt w wr n D) (hR : ReachAt w wr v (reachL D r)) {v' : Value}
    (hown : w1.ownsRow (w.heap.size + 1) 3 1 v' ((reachL D r).length + 1) ((reachL D r).map node ++ [node r])) (hg : (wr.alloc o).grownBy w1 v.ownBlock) :
    DistAt w w1 n D ∧ ReachAt w w1 v' (reachL D (r + 1)) := by
  have hs := hD.size
  refine ⟨(hD.alloc o).below ((Below.refl _ _).grown hg (by simp; omega) (fun k hk => (hR.own.lt k hk).1)), ?_, fun e => ?_⟩
  · rw [reachL_yes h0]
    simpa using hown
  · rw [reachL_yes h0] at e
    simp at e

set_option maxHeartbeats 1000000 in
theorem reach_any (w : World) {gb cb n : Nat} {h : Int} {RB RL RC : Nat → Nat} {R : Nat → Nat → Nat} (g : IsGraph w gb cb n h RB RL RC R) (p : Int) :
    Calls Try.prog 20 #[.pointer (some ⟨gb, 0, none⟩), .int .i64 p] w fun e w' => ∃ v, e = .returned v ∧
      ∃ D : Nat → Int, Below w.heap.size w w' ∧ ReachAt w w' v (reachL D n) ∧ Table n R p D := by
  have hn := g.nle
  obtain ⟨i0, hi, hz0, hz1, hz2⟩ := info_parts Try.info3
  go_enter Try.func20, Try.ntmps20
  go_wp2_with (go_at_call 25; refine (dist_any _ g p).mono ?_; rintro e w1 ⟨rfl, D, hD, hT⟩)
  go_loopg [5, 12] n (fun gh v i wr => ∃ r : Nat, r ≤ n ∧ gh = n - r ∧ i = .int .i64 r ∧ DistAt w wr n D ∧ ReachAt w wr v (reachL D r))
  case atStart => exact ⟨0, Nat.zero_le _, rfl, rfl, hD, World.ownsRow_nil _ _ _ _, fun _ => rfl⟩
  case round =>
    obtain ⟨r, hr, rfl, rfl, hO, hR⟩ := hrel
    clear hD
    by_cases hrG : r < n
    · have hrz : (r : Int) < (n : Int) := by omega
      have t1 := hO.row.cell hrG
      have hsz := hO.size
      by_cases h0 : 0 ≤ D r
      · have hle := reachL_le D r
        go_wp2_with (at_builtin; go_must (refine wpList_append_own _ rfl (.tmp 19) (.tmp 22) 29 rfl (w.heap.size + 1) 3 i0 (.int .i64 0) 1 8 Try.underlying29 hi hz0 hz1 hz2 rfl (by decide) _ _ _ rfl (hR.own.alloc _) ⟨wr.heap.size, 0, none⟩ 1 1 [node r] rfl rfl ?c1 ?c2 ?c3 ?c4 ?c5 ?c6))
        case c1 =>
          intro j u hj
          match j, hj with
          | 0, hj => simp at hj; subst hj; exact (World.cell?_alloc_at _ _ _ _ rfl).trans rfl
        case c2 => intro u hu; simp at hu; subst hu; rfl
        case c3 => unfold maxLen; omega
        case c4 => omega
        case c5 => simp; omega
        case c6 =>
          intro v' w2 hown' hgrow _
          have hS := reach_step h0 hO hR hown' hgrow
          clear hown' hgrow hO hR t1
          go_wp2
          go_roundg (n - (r + 1))
          case measure => go_light; omega
          case rel => go_light; exact ⟨r + 1, by omega, rfl, by go_num, hS.1, hS.2⟩
      · have hneg : D r < 0 := by omega
        go_wp2
        go_roundg (n - (r + 1))
        case measure => go_light; omega
        case rel => go_light; exact ⟨r + 1, by omega, rfl, by go_num, hO, by rw [reachL_no hneg]; exact hR⟩
    · obtain rfl : n = r := by omega
      go_wp2
      go_ret
      exact ⟨_, rfl, D, hO.since, hR, hT⟩
end Go.Proofs.Qxb6604319a
