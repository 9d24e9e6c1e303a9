/-
  A []string and a []int in memory ('StrsIn', 'IntsIn'); zzB1Min, zzB1StringsBytes, zzB1TooBig, zzB1CloneStrings, zzB1CloneInts.
-/
import Derived.Test.Qxb6600949aDesc
import Derived.Lib.SliceRun
import Derived.Deep.OwnRows
import Derived.Deep.LoopGhost
import Derived.Deep.Light
namespace Go.Proofs.Qxb6600949a
open Go.RowKit Go.MapKept

theorem Try.info3 : (Try.prog.info? 3).map (fun i => (i.zero, i.size, i.bytes)) = some (some (.int .i64 0), 1, 8) := by kernel_rfl
theorem Try.info9 : (Try.prog.info? 9).map (fun i => (i.zero, i.size, i.bytes)) = some (some (.string ByteArray.empty), 1, 16) := by kernel_rfl
theorem Try.info28 : (Try.prog.info? 28).map (fun i => (i.zero, i.size, i.bytes)) = some (some (.pointer none), 1, 8) := by kernel_rfl

theorem cell_keep {w w' : World} {a : Addr} {v : Value} (hb : Below w.heap.size w w') (h : w.cell? a = some v) : w'.cell? a = some v := by
  rw [hb.cell (p := a) (World.block_lt_of_cell? _ _ h)]; exact h

/-- A []string. -/
structure StrsIn (w : World) (a : Option Addr) (b o len : Nat) (S : Nat → ByteArray) : Prop where
  lmax : len ≤ 9223372036854775807
  addr : 0 < len → a = some ⟨b, o, none⟩
  cell : ∀ i, i < len → w.cell? ⟨b, o + i, none⟩ = some (.string (S i))
  smax : ∀ i, i < len → (S i).size ≤ 9223372036854775807

/-- A []int. -/
structure IntsIn (w : World) (a : Option Addr) (b o len : Nat) (Z : Nat → Int) : Prop where
  lmax : len ≤ 9223372036854775807
  addr : 0 < len → a = some ⟨b, o, none⟩
  cell : ∀ i, i < len → w.cell? ⟨b, o + i, none⟩ = some (.int .i64 (Z i))

theorem StrsIn.later {w w' : World} {a : Option Addr} {b o len : Nat} {S : Nat → ByteArray} (h : StrsIn w a b o len S) (hb : Below w.heap.size w w') : StrsIn w' a b o len S :=
  ⟨h.lmax, h.addr, fun i hi => cell_keep hb (h.cell i hi), h.smax⟩
theorem IntsIn.later {w w' : World} {a : Option Addr} {b o len : Nat} {Z : Nat → Int} (h : IntsIn w a b o len Z) (hb : Below w.heap.size w w') : IntsIn w' a b o len Z :=
  ⟨h.lmax, h.addr, fun i hi => cell_keep hb (h.cell i hi)⟩

theorem strs_nil (w : World) : StrsIn w none 0 0 0 (fun _ => ByteArray.empty) := ⟨by omega, fun h => absurd h (Nat.lt_irrefl _), fun i hi => absurd hi (Nat.not_lt_zero _), fun i hi => absurd hi (Nat.not_lt_zero _)⟩

set_option maxHeartbeats 400000 in
theorem min_any (a b : Nat) (w : World) : Calls Try.prog 10 #[.int .i64 a, .int .i64 b] w fun e w' => e = .returned (.int .i64 (min a b : Nat)) ∧ w = w' := by
  by_cases h : a < b
  · have e : min a b = a := by omega
    rw [e]
    go_enter Try.func10, Try.ntmps10
    go_wp2
    go_ret
    exact ⟨rfl, rfl⟩
  · have e : min a b = b := by omega
    rw [e]
    have h' : decide ((a : Int) < (b : Int)) = false := by simp; omega
    go_enter Try.func10, Try.ntmps10
    go_wp2
    go_ret
    exact ⟨rfl, rfl⟩

def SbPost (w : World) (e : Ending) (w' : World) : Prop := ∃ n : Int, e = .returned (.int .i64 n) ∧ w = w'
theorem sb_mk (w : World) (n : Int) : SbPost w (.returned (.int .i64 n)) w := ⟨n, rfl, rfl⟩

set_option maxHeartbeats 1000000 in
theorem sb_any {w : World} {ca : Option Addr} {b o len : Nat} {S : Nat → ByteArray} (h : StrsIn w ca b o len S) (cap : Nat) : Calls Try.prog 19 #[.slice ca len cap] w fun e w' => SbPost w e w' := by
  have hlm := h.lmax
  go_enter Try.func19, Try.ntmps19
  go_wp2
  go_loopg [3, 4] len (fun gh t i wx => w = wx ∧ ∃ (k : Nat) (z : Int), k ≤ len ∧ gh = len - k ∧ t = .int .i64 z ∧ i = .int .i64 k ∧ 0 ≤ z ∧ z ≤ 1048576)
  case atStart => exact ⟨rfl, 0, _, Nat.zero_le _, rfl, rfl, rfl, by omega, by omega⟩
  case round =>
    obtain ⟨rfl, k, z, hk, rfl, rfl, rfl, z0, z1⟩ := hrel
    by_cases hkl : k < len
    · obtain rfl := h.addr (by omega)
      have hz : (k : Int) < (len : Int) := by omega
      have c1 := h.cell k hkl
      have hm := h.smax k hkl
      by_cases hb : 1048576 < (S k).size
      · go_wp2
        go_ret
        exact sb_mk _ _
      · by_cases hs : 1048576 < z + (16 + ((S k).size : Int))
        · go_wp2
          go_ret
          exact sb_mk _ _
        · go_wp2
          go_roundg (len - (k + 1))
          case measure => go_light; omega
          case rel => go_light; exact ⟨rfl, k + 1, _, by omega, rfl, rfl, by go_num, by omega, by omega⟩
    · go_wp2
      go_ret
      exact sb_mk _ _

structure CopyAt (w wr : World) (t : TypeId) (z : Value) (n : Nat) (F : Nat → Value) (r : Nat) : Prop where
  since : Below w.heap.size w wr
  top : wr.rowIs w.heap.size t n (fun j => if j < r then F j else z)

theorem copy_start (w : World) (t : TypeId) (z : Value) (n : Nat) (F : Nat → Value) : CopyAt w (w.alloc (.cells (madeCells #[z] n) t)) t z n F 0 :=
  ⟨(Below.refl _ _).alloc (Nat.le_refl _) _, (World.rowIs_made w z n t).congr (fun j _ => by simp)⟩

theorem copy_step {w wr : World} {t : TypeId} {z : Value} {n : Nat} {F : Nat → Value} {r : Nat} (o : CopyAt w wr t z n F r) {v : Value} (hv : v = F r) : CopyAt w (wr.setCell ⟨w.heap.size, r, none⟩ v) t z n F (r + 1) := by
  subst hv
  refine ⟨o.since.setCell (Nat.le_refl _) _, (o.top.set r _).congr (fun j _ => ?_)⟩
  by_cases e : j = r
  · subst e; simp
  · rw [if_neg e]
    by_cases hlt : j < r
    · rw [if_pos hlt, if_pos (by omega)]
    · rw [if_neg hlt, if_neg (by omega)]

/-- What a clone is: fresh, and the same. -/
def CsPost (w : World) (len : Nat) (S : Nat → ByteArray) (e : Ending) (w' : World) : Prop := ∃ oa oc, e = .returned (.slice oa len oc) ∧ Below w.heap.size w w' ∧ StrsIn w' oa w.heap.size 0 len S
def CiPost (w : World) (len : Nat) (Z : Nat → Int) (e : Ending) (w' : World) : Prop := ∃ oa oc, e = .returned (.slice oa len oc) ∧ Below w.heap.size w w' ∧ IntsIn w' oa w.heap.size 0 len Z

theorem cs_nil (w : World) (S : Nat → ByteArray) : CsPost w 0 S (.returned (.slice none 0 0)) w :=
  ⟨none, 0, rfl, Below.refl _ _, by omega, fun h => absurd h (Nat.lt_irrefl _), fun i hi => absurd hi (Nat.not_lt_zero _), fun i hi => absurd hi (Nat.not_lt_zero _)⟩
theorem ci_nil (w : World) (Z : Nat → Int) : CiPost w 0 Z (.returned (.slice none 0 0)) w :=
  ⟨none, 0, rfl, Below.refl _ _, by omega, fun h => absurd h (Nat.lt_irrefl _), fun i hi => absurd hi (Nat.not_lt_zero _)⟩
theorem cs_full {w wr : World} {len : Nat} {S : Nat → ByteArray} {z : Value} (o : CopyAt w wr 9 z len (fun i => .string (S i)) len) (hlen : len ≤ 65536) (hs : ∀ i, i < len → (S i).size ≤ 9223372036854775807) :
    CsPost w len S (.returned (.slice (some ⟨w.heap.size, 0, none⟩) len len)) wr :=
  ⟨_, _, rfl, o.since, by omega, fun _ => rfl, fun i hi => by rw [Nat.zero_add, o.top.cell hi, if_pos hi], hs⟩
theorem ci_full {w wr : World} {len : Nat} {Z : Nat → Int} {z : Value} (o : CopyAt w wr 3 z len (fun i => .int .i64 (Z i)) len) (hlen : len ≤ 65536) :
    CiPost w len Z (.returned (.slice (some ⟨w.heap.size, 0, none⟩) len len)) wr :=
  ⟨_, _, rfl, o.since, by omega, fun _ => rfl, fun i hi => by rw [Nat.zero_add, o.top.cell hi, if_pos hi]⟩

set_option maxHeartbeats 1000000 in
theorem cs_any {w : World} {ca : Option Addr} {b o len : Nat} {S : Nat → ByteArray} (h : StrsIn w ca b o len S) (hlen : len ≤ 65536) (cap : Nat) : Calls Try.prog 7 #[.slice ca len cap] w fun e w' => CsPost w len S e w' := by
  have q22 : ∀ (w : World) (a : Option Addr) (n c n' c' : Nat), (binOp .eql 22 (.slice a n c) (.slice none n' c')).run Try.prog w = .ok (.bool a.isNone) w := fun w a n c n' c' => Lib.run_eql_slice_nil w 22 9 a n c n' c' Try.underlying22
  cases ca with
  | none =>
    obtain rfl : len = 0 := by
      rcases Nat.eq_zero_or_pos len with e | e
      · exact e
      · have := h.addr e; cases this
    go_enter Try.func7, Try.ntmps7
    go_wp2
    go_ret
    exact cs_nil _ _
  | some a =>
    have hmk := run_make_row' (P := Try.prog) 22 9 (.string ByteArray.empty) 16 Try.underlying22 Try.info9 rfl .i64 .i64 len (by omega) (by omega)
    go_enter Try.func7, Try.ntmps7
    go_wp2
    clear hmk
    go_loopg [4] len (fun gh i wr => ∃ r : Nat, r ≤ len ∧ gh = len - r ∧ i = .int .i64 r ∧ CopyAt w wr 9 (.string ByteArray.empty) len (fun i => .string (S i)) r)
    case atStart => exact ⟨0, Nat.zero_le _, rfl, rfl, copy_start w 9 _ len _⟩
    case round =>
      obtain ⟨r, hr, rfl, rfl, hO⟩ := hrel
      by_cases hrG : r < len
      · obtain rfl := Option.some.inj (h.addr (by omega))
        have hrz : (r : Int) < (len : Int) := by omega
        have c1 := cell_keep hO.since (h.cell r hrG)
        have t1 : wr.cell? ⟨w.heap.size, r, none⟩ = some (.string ByteArray.empty) := by simpa using hO.top.cell hrG
        have t2 := hO.top.frozen r
        go_wp2
        go_roundg (len - (r + 1))
        case measure => go_light; omega
        case rel => go_light; exact ⟨r + 1, by omega, rfl, by go_num, copy_step hO rfl⟩
      · obtain rfl : len = r := by omega
        go_wp2
        go_ret
        exact cs_full hO hlen h.smax

set_option maxHeartbeats 1000000 in
theorem ci_any {w : World} {ca : Option Addr} {b o len : Nat} {Z : Nat → Int} (h : IntsIn w ca b o len Z) (hlen : len ≤ 65536) (cap : Nat) : Calls Try.prog 8 #[.slice ca len cap] w fun e w' => CiPost w len Z e w' := by
  have q23 : ∀ (w : World) (a : Option Addr) (n c n' c' : Nat), (binOp .eql 23 (.slice a n c) (.slice none n' c')).run Try.prog w = .ok (.bool a.isNone) w := fun w a n c n' c' => Lib.run_eql_slice_nil w 23 3 a n c n' c' Try.underlying23
  cases ca with
  | none =>
    obtain rfl : len = 0 := by
      rcases Nat.eq_zero_or_pos len with e | e
      · exact e
      · have := h.addr e; cases this
    go_enter Try.func8, Try.ntmps8
    go_wp2
    go_ret
    exact ci_nil _ _
  | some a =>
    have hmk := run_make_row' (P := Try.prog) 23 3 (.int .i64 0) 8 Try.underlying23 Try.info3 rfl .i64 .i64 len (by omega) (by omega)
    go_enter Try.func8, Try.ntmps8
    go_wp2
    clear hmk
    go_loopg [4] len (fun gh i wr => ∃ r : Nat, r ≤ len ∧ gh = len - r ∧ i = .int .i64 r ∧ CopyAt w wr 3 (.int .i64 0) len (fun i => .int .i64 (Z i)) r)
    case atStart => exact ⟨0, Nat.zero_le _, rfl, rfl, copy_start w 3 _ len _⟩
    case round =>
      obtain ⟨r, hr, rfl, rfl, hO⟩ := hrel
      by_cases hrG : r < len
      · obtain rfl := Option.some.inj (h.addr (by omega))
        have hrz : (r : Int) < (len : Int) := by omega
        have c1 := cell_keep hO.since (h.cell r hrG)
        have t1 : wr.cell? ⟨w.heap.size, r, none⟩ = some (.int .i64 0) := by simpa using hO.top.cell hrG
        have t2 := hO.top.frozen r
        go_wp2
        go_roundg (len - (r + 1))
        case measure => go_light; omega
        case rel => go_light; exact ⟨r + 1, by omega, rfl, by go_num, copy_step hO rfl⟩
      · obtain rfl : len = r := by omega
        go_wp2
        go_ret
        exact ci_full hO hlen
end Go.Proofs.Qxb6600949a
