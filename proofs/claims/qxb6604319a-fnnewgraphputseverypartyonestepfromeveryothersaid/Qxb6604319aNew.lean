/-
  NewGraph lays the complete graph: the two loops, and what lies in memory behind them.
-/
import Derived.Test.Qxb6604319aSmall
import Derived.Deep.LoopGhost
import Derived.Deep.RegionWith
import Derived.Deep.Cut
import Derived.Deep.Light
import Derived.Deep.CutRange
import Derived.Deep.DeepCutAuto
namespace Go.Proofs.Qxb6604319a
open Go.RowKit

/-- The slice of rows, when r of them are made. -/
def topV (B words r : Nat) : Nat → Value := fun j => if j < r then .slice (some ⟨B + 2 + j, 0, none⟩) words words else .slice none 0 0

/-- The struct's three cells. -/
def boxV (B n : Nat) (h : Int) : Nat → Value := fun i => if i = 0 then .int .i64 n else if i = 1 then .int .i64 h else .slice (some ⟨B, 0, none⟩) n n

structure Outer (w wr : World) (n words : Nat) (h : Int) (r : Nat) : Prop where
  since : Below w.heap.size w wr
  size : wr.heap.size = w.heap.size + 2 + r
  top : wr.rowIs w.heap.size 46 n (topV w.heap.size words r)
  box : wr.rowIs (w.heap.size + 1) 48 3 (boxV w.heap.size n h)
  done : ∀ j, j < r → wr.rowIs (w.heap.size + 2 + j) 41 words (fun k => .int .u64 (full n k : Nat))

structure Inner (w wr : World) (n words : Nat) (h : Int) (r p : Nat) : Prop where
  since : Below w.heap.size w wr
  size : wr.heap.size = w.heap.size + 2 + r + 1
  top : wr.rowIs w.heap.size 46 n (topV w.heap.size words (r + 1))
  box : wr.rowIs (w.heap.size + 1) 48 3 (boxV w.heap.size n h)
  done : ∀ j, j < r → wr.rowIs (w.heap.size + 2 + j) 41 words (fun k => .int .u64 (full n k : Nat))
  cur : wr.rowIs (w.heap.size + 2 + r) 41 words (fun k => .int .u64 (full p k : Nat))

theorem outer_start (w : World) (n words : Nat) (h : Int) :
    Outer w ((w.alloc (.cells (madeCells #[.slice none 0 0] n) 46)).alloc (.cells #[.int .i64 n, .int .i64 h, .slice (some ⟨w.heap.size, 0, none⟩) n n] 48)) n words h 0 := by
  refine ⟨((Below.refl _ _).alloc (Nat.le_refl _) _).alloc (by simp) _, by simp, ((World.rowIs_made w _ n 46).congr (fun j _ => by simp [topV])).alloc _, ?_, fun j hj => absurd hj (Nat.not_lt_zero _)⟩
  have := World.rowIs_alloc (w.alloc (.cells (madeCells #[.slice none 0 0] n) 46)) #[.int .i64 n, .int .i64 h, .slice (some ⟨w.heap.size, 0, none⟩) n n] 48 (boxV w.heap.size n h) (fun i hi => by
    have hi' : i < 3 := hi
    match i, hi' with
    | 0, _ => rfl
    | 1, _ => rfl
    | 2, _ => rfl)
  simpa using this

theorem inner_start {w wr : World} {n words : Nat} {h : Int} {r : Nat} (o : Outer w wr n words h r) (v : Value) (hv : v = .slice (some ⟨w.heap.size + 2 + r, 0, none⟩) words words) :
    Inner w ((wr.alloc (.cells (madeCells #[.int .u64 0] words) 41)).setCell ⟨w.heap.size, r, none⟩ v).drew n words h r 0 := by
  subst hv
  have hnew := World.rowIs_made wr (.int .u64 0) words 41
  rw [o.size] at hnew
  refine ⟨((o.since.alloc (by rw [o.size]; omega) _).setCell (Nat.le_refl _) _).drew, by simp [o.size], (((o.top.alloc _).set r _).congr (fun j _ => ?_)).drew, ((o.box.alloc _).setOther (by show w.heap.size + 1 ≠ w.heap.size; omega) _).drew,
    fun j hj => (((o.done j hj).alloc _).setOther (by show w.heap.size + 2 + j ≠ w.heap.size; omega) _).drew,
    ((hnew.setOther (by show w.heap.size + 2 + r ≠ w.heap.size; omega) _).congr (fun i _ => by simp [full_zero])).drew⟩
  simp only [topV]
  by_cases e : j = r
  · subst e; simp
  · rw [if_neg e]
    by_cases hlt : j < r
    · rw [if_pos hlt, if_pos (by omega)]
    · rw [if_neg hlt, if_neg (by omega)]

theorem inner_step {w wr : World} {n words : Nat} {h : Int} {r p : Nat} (o : Inner w wr n words h r p) :
    Inner w (wr.setCell ⟨w.heap.size + 2 + r, p / 64, none⟩ (.int .u64 ((full p (p / 64) ||| 2 ^ (p % 64) : Nat) : Int))).drew n words h r (p + 1) := by
  refine ⟨(o.since.setCell (by show w.heap.size ≤ w.heap.size + 2 + r; omega) _).drew, by simp [o.size], (o.top.setOther (by show w.heap.size ≠ w.heap.size + 2 + r; omega) _).drew, (o.box.setOther (by show w.heap.size + 1 ≠ w.heap.size + 2 + r; omega) _).drew,
    fun j hj => ((o.done j hj).setOther (by show w.heap.size + 2 + j ≠ w.heap.size + 2 + r; omega) _).drew, ((o.cur.set (p / 64) _).congr (fun i _ => ?_)).drew⟩
  by_cases e : i = p / 64
  · rw [if_pos e, e, full_step]
  · rw [if_neg e, full_other _ _ e]

theorem inner_done {w wr : World} {n words : Nat} {h : Int} {r : Nat} (o : Inner w wr n words h r n) : Outer w wr n words h (r + 1) :=
  ⟨o.since, by rw [o.size]; omega, o.top, o.box, fun j hj => by
    by_cases e : j = r
    · subst e; exact o.cur
    · exact o.done j (by omega)⟩

/-- What NewGraph lays is a graph whose rows hold exactly the bits 1..n. -/
theorem Outer.graph {w wr : World} {n : Nat} {h : Int} (o : Outer w wr n ((n + 63) / 64) h n) (hn : n ≤ 65536) :
    IsGraph wr (w.heap.size + 1) w.heap.size n h (fun i => w.heap.size + 2 + i) (fun _ => (n + 63) / 64) (fun _ => (n + 63) / 64) (fun _ k => full n k) :=
  ⟨hn, o.box.cell (i := 0) (by omega), o.box.cell (i := 1) (by omega), o.box.cell (i := 2) (by omega), fun i hi => by simpa [topV, hi] using o.top.cell hi, fun _ _ => ⟨Nat.le_refl _, by omega⟩,
    fun i hi k hk => ⟨(o.done i hi).cell hk, full_lt _ _⟩⟩

set_option maxHeartbeats 1000000 in
theorem newGraph_any (n : Nat) (t : Int) (w : World) (hn : n ≤ 65536) :
    Calls Try.prog 22 #[.int .i64 n, .int .i64 t] w fun e w' => e = .returned (.pointer (some ⟨w.heap.size + 1, 0, none⟩)) ∧ Outer w w' n ((n + 63) / 64) (wrap64 (n - t)) n := by
  have hmk := run_make_row' (P := Try.prog) 45 46 (.slice none 0 0) 24 Try.underlying45 Try.info46 rfl .i64 .i64 n (by omega) (by omega)
  go_enter Try.func22, Try.ntmps22
  go_wp2
  clear hmk
  go_loopg [21] n (fun g i wr => ∃ r : Nat, r ≤ n ∧ g = n - r ∧ i = .int .i64 r ∧ Outer w wr n ((n + 63) / 64) (wrap64 (n - t)) r)
  case atStart => exact ⟨0, Nat.zero_le _, rfl, rfl, outer_start w n _ _⟩
  case round =>
    obtain ⟨r, hr, rfl, rfl, hO⟩ := hrel
    by_cases hrG : r < n
    · have hrz : (r : Int) < (n : Int) := by omega
      have hsize := hO.size
      have b2 : wr.cell? ⟨w.heap.size + 1, 2, none⟩ = some (.slice (some ⟨w.heap.size, 0, none⟩) n n) := hO.box.cell (i := 2) (by omega)
      have b2' : ∀ o, (wr.alloc o).cell? ⟨w.heap.size + 1, 2, none⟩ = some (.slice (some ⟨w.heap.size, 0, none⟩) n n) := fun o => (hO.box.alloc o).cell (i := 2) (by omega)
      have t1 : ∀ o, (wr.alloc o).cell? ⟨w.heap.size, r, none⟩ = some (topV w.heap.size ((n + 63) / 64) r r) := fun o => (hO.top.alloc o).cell hrG
      have t2 : ∀ o, (wr.alloc o).frozen? ⟨w.heap.size, r, none⟩ = false := fun o => (hO.top.alloc o).frozen r
      go_upto_region 5 with fail
      go_cut [30] (fun _s wx => Inner w wx n ((n + 63) / 64) (wrap64 (n - t)) r 0)
      case first =>
        go_region_with (go_at_call 26; refine (newSet_any _ _ hn).mono ?_; rintro e w' ⟨rfl, rfl⟩)
        all_goals
          go_wp2_with fail
          go_meet
          exact inner_start hO _ rfl
      case rest =>
        clear hO hsize b2 b2' t1 t2
        go_wp2_with fail
        go_loopg [7] n (fun g i wi => ∃ p : Nat, p ≤ n ∧ g = n - p ∧ i = .int .i64 ((p : Int) + 1) ∧ Inner w wi n ((n + 63) / 64) (wrap64 (n - t)) r p)
        case atStart => exact ⟨0, Nat.zero_le _, rfl, rfl, hcut⟩
        case round =>
          obtain ⟨p, hp, rfl, rfl, hI⟩ := hrel
          clear hcut
          by_cases hpn : p < n
          · have b2 : wr.cell? ⟨w.heap.size + 1, 2, none⟩ = some (.slice (some ⟨w.heap.size, 0, none⟩) n n) := hI.box.cell (i := 2) (by omega)
            have t1 : wr.cell? ⟨w.heap.size, r, none⟩ = some (.slice (some ⟨w.heap.size + 2 + r, 0, none⟩) ((n + 63) / 64) ((n + 63) / 64)) := by simpa [topV] using hI.top.cell hrG
            have u1 : wr.cell? ⟨w.heap.size + 2 + r, p / 64, none⟩ = some (.int .u64 (full p (p / 64) : Nat)) := hI.cur.cell (by omega)
            have u2 : wr.frozen? ⟨w.heap.size + 2 + r, p / 64, none⟩ = false := hI.cur.frozen _
            go_wp2_with (go_at_call 27; refine (add_any _ _ _ _ p _ (by omega) (by omega) (by omega) (full_lt _ _) u1 u2).mono ?_; rintro e w' ⟨rfl, rfl⟩)
            go_roundg (n - (p + 1))
            case measure => go_light; omega
            case rel => go_light; exact ⟨p + 1, by omega, rfl, by go_num, inner_step hI⟩
          · obtain rfl : p = n := by omega
            go_wp2
            go_roundg (p - (r + 1))
            case measure => go_light; omega
            case rel => go_light; exact ⟨r + 1, by omega, rfl, by go_num, inner_done hI⟩
    · obtain rfl : r = n := by omega
      go_wp2
      go_ret
      exact ⟨rfl, hO⟩
end Go.Proofs.Qxb6604319a
