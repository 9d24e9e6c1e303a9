/-
  zzCloneRows makes a fresh copy of the rows; ZZGraph lays a graph over rows.
-/
import Derived.Test.Qxb6604319aMat
import Derived.Lib.SliceRun
namespace Go.Proofs.Qxb6604319a
open Go.RowKit

structure COuter (w wr : World) (len : Nat) (L : Nat → Nat) (V : Nat → Nat → Nat) (r : Nat) : Prop where
  since : Below w.heap.size w wr
  size : wr.heap.size = w.heap.size + 1 + r
  top : wr.rowIs w.heap.size 40 len (fun j => if j < r then .slice (some ⟨w.heap.size + 1 + j, 0, none⟩) (L j) (L j) else .slice none 0 0)
  done : ∀ j, j < r → wr.rowIs (w.heap.size + 1 + j) 41 (L j) (fun c => .int .u64 (V j c))

structure CInner (w wr : World) (len : Nat) (L : Nat → Nat) (V : Nat → Nat → Nat) (r c : Nat) : Prop where
  since : Below w.heap.size w wr
  size : wr.heap.size = w.heap.size + 1 + r + 1
  top : wr.rowIs w.heap.size 40 len (fun j => if j < r then .slice (some ⟨w.heap.size + 1 + j, 0, none⟩) (L j) (L j) else .slice none 0 0)
  done : ∀ j, j < r → wr.rowIs (w.heap.size + 1 + j) 41 (L j) (fun c => .int .u64 (V j c))
  cur : wr.rowIs (w.heap.size + 1 + r) 41 (L r) (fun i => if i < c then .int .u64 (V r i) else .int .u64 0)

theorem couter_start (w : World) (len : Nat) (L : Nat → Nat) (V : Nat → Nat → Nat) : COuter w (w.alloc (.cells (madeCells #[.slice none 0 0] len) 40)) len L V 0 :=
  ⟨(Below.refl _ _).alloc (Nat.le_refl _) _, by simp, (World.rowIs_made w _ len 40).congr (fun j _ => by simp), fun j hj => absurd hj (Nat.not_lt_zero _)⟩

theorem cinner_start {w wr : World} {len : Nat} {L : Nat → Nat} {V : Nat → Nat → Nat} {r : Nat} (o : COuter w wr len L V r) : CInner w (wr.alloc (.cells (madeCells #[.int .u64 0] (L r)) 41)) len L V r 0 := by
  have hnew := World.rowIs_made wr (.int .u64 0) (L r) 41
  rw [o.size] at hnew
  exact ⟨o.since.alloc (by rw [o.size]; omega) _, by simp [o.size], o.top.alloc _, fun j hj => (o.done j hj).alloc _, hnew.congr (fun i _ => by simp)⟩

theorem cinner_step {w wr : World} {len : Nat} {L : Nat → Nat} {V : Nat → Nat → Nat} {r c : Nat} (o : CInner w wr len L V r c) : CInner w (wr.setCell ⟨w.heap.size + 1 + r, c, none⟩ (.int .u64 (V r c))) len L V r (c + 1) := by
  refine ⟨o.since.setCell (by show w.heap.size ≤ w.heap.size + 1 + r; omega) _, by simp [o.size], o.top.setOther (by show w.heap.size ≠ w.heap.size + 1 + r; omega) _,
    fun j hj => (o.done j hj).setOther (by show w.heap.size + 1 + j ≠ w.heap.size + 1 + r; omega) _, (o.cur.set c _).congr (fun i _ => ?_)⟩
  by_cases e : i = c
  · subst e; simp
  · rw [if_neg e]
    by_cases hlt : i < c
    · rw [if_pos hlt, if_pos (by omega)]
    · rw [if_neg hlt, if_neg (by omega)]

theorem cinner_done {w wr : World} {len : Nat} {L : Nat → Nat} {V : Nat → Nat → Nat} {r : Nat} (o : CInner w wr len L V r (L r)) :
    COuter w (wr.setCell ⟨w.heap.size, r, none⟩ (.slice (some ⟨w.heap.size + 1 + r, 0, none⟩) (L r) (L r))) len L V (r + 1) := by
  refine ⟨o.since.setCell (Nat.le_refl _) _, by simp [o.size]; omega, (o.top.set r _).congr (fun j _ => ?_), fun j hj => ?_⟩
  · by_cases e : j = r
    · subst e; simp
    · rw [if_neg e]
      by_cases hlt : j < r
      · rw [if_pos hlt, if_pos (by omega)]
      · rw [if_neg hlt, if_neg (by omega)]
  · by_cases e : j = r
    · subst e
      exact (o.cur.setOther (by show w.heap.size + 1 + j ≠ w.heap.size; omega) _).congr (fun i hi => by rw [if_pos hi])
    · exact (o.done j (by omega)).setOther (by show w.heap.size + 1 + j ≠ w.heap.size; omega) _

/-- What zzCloneRows leaves. -/
def ClonePost (w : World) (len : Nat) (L : Nat → Nat) (V : Nat → Nat → Nat) (e : Ending) (w' : World) : Prop :=
  ∃ oa oc, e = .returned (.slice oa len oc) ∧ Below w.heap.size w w' ∧ RowsIn w' oa w.heap.size 0 len (fun r => some ⟨w.heap.size + 1 + r, 0, none⟩) L L (fun r => w.heap.size + 1 + r) (fun _ => 0) V

theorem clone_nil (w : World) (L : Nat → Nat) (V : Nat → Nat → Nat) : ClonePost w 0 L V (.returned (.slice none 0 0)) w :=
  ⟨none, 0, rfl, Below.refl _ _, by omega, fun h => absurd h (Nat.lt_irrefl _), fun r hr => absurd hr (Nat.not_lt_zero _), fun r hr => absurd hr (Nat.not_lt_zero _), fun r hr => absurd hr (Nat.not_lt_zero _)⟩

theorem clone_full {w wr : World} {len : Nat} {L : Nat → Nat} {V : Nat → Nat → Nat} (o : COuter w wr len L V len) (hlen : len ≤ 65536) (hL : ∀ r, r < len → L r ≤ 1048576) (hV : ∀ r, r < len → ∀ c, c < L r → V r c < 2 ^ 64) :
    ClonePost w len L V (.returned (.slice (some ⟨w.heap.size, 0, none⟩) len len)) wr :=
  ⟨_, _, rfl, o.since, by omega, fun _ => rfl, fun r hr => by rw [Nat.zero_add, o.top.cell hr, if_pos hr], fun r hr => Nat.le_trans (hL r hr) (by decide),
    fun r hr c hc => ⟨rfl, by rw [Nat.zero_add]; exact (o.done r hr).cell hc, hV r hr c hc⟩⟩

set_option maxHeartbeats 1000000 in
theorem clone_any {w : World} {ca : Option Addr} {gb go len : Nat} {A : Nat → Option Addr} {L C RB RO : Nat → Nat} {V : Nat → Nat → Nat} (h : RowsIn w ca gb go len A L C RB RO V) (hlen : len ≤ 65536) (hL : ∀ r, r < len → 1 ≤ L r ∧ L r ≤ 1048576) (cap : Nat) :
    Calls Try.prog 12 #[.slice ca len cap] w fun e w' => ClonePost w len L V e w' := by
  have q22 : ∀ (w : World) (a : Option Addr) (n c n' c' : Nat), (binOp .eql 22 (.slice a n c) (.slice none n' c')).run Try.prog w = .ok (.bool a.isNone) w := fun w a n c n' c' => Lib.run_eql_slice_nil w 22 40 a n c n' c' Try.underlying22
  have q40 : ∀ (w : World) (a : Option Addr) (n c n' c' : Nat), (binOp .eql 40 (.slice a n c) (.slice none n' c')).run Try.prog w = .ok (.bool a.isNone) w := fun w a n c n' c' => Lib.run_eql_slice_nil w 40 41 a n c n' c' Try.underlying40
  cases ca with
  | none =>
    obtain rfl : len = 0 := by
      rcases Nat.eq_zero_or_pos len with e | e
      · exact e
      · have := h.addr e; cases this
    go_enter Try.func12, Try.ntmps12
    go_wp2
    go_ret
    exact clone_nil _ _ _
  | some a =>
    have hmk := run_make_row' (P := Try.prog) 22 40 (.slice none 0 0) 24 Try.underlying22 Try.info40 rfl .i64 .i64 len (by omega) (by omega)
    go_enter Try.func12, Try.ntmps12
    go_wp2
    clear hmk
    go_loopg [4] len (fun gh i wr => ∃ r : Nat, r ≤ len ∧ gh = len - r ∧ i = .int .i64 r ∧ COuter w wr len L V r)
    case atStart => exact ⟨0, Nat.zero_le _, rfl, rfl, couter_start w len L V⟩
    case round =>
      obtain ⟨r, hr, rfl, rfl, hO⟩ := hrel
      by_cases hrG : r < len
      · obtain rfl := Option.some.inj (h.addr (by omega))
        obtain ⟨hL1, hL2⟩ := hL r hrG
        have hrz : (r : Int) < (len : Int) := by omega
        have hmk := run_make_row' (P := Try.prog) 40 41 (.int .u64 0) 8 Try.underlying40 Try.info41 rfl .i64 .i64 (L r) (by omega) (by omega)
        have c1 := cell_keep hO.since (h.row r hrG)
        rw [(h.word r hrG 0 (by omega)).1] at c1
        have hsize := hO.size
        go_wp2
        clear hmk
        have hI0 := cinner_start hO
        clear hO c1
        go_loopg [7] (L r) (fun gh i wi => ∃ c : Nat, c ≤ L r ∧ gh = L r - c ∧ i = .int .i64 c ∧ CInner w wi len L V r c)
        case atStart => exact ⟨0, Nat.zero_le _, rfl, rfl, hI0⟩
        case round =>
          obtain ⟨c, hc, rfl, rfl, hI⟩ := hrel
          clear hI0 hsize
          by_cases hcL : c < L r
          · have hcz : (c : Int) < (L r : Int) := by omega
            have u1 := cell_keep hI.since (h.word r hrG c hcL).2.1
            have u2 : wr.cell? ⟨w.heap.size + 1 + r, c, none⟩ = some (.int .u64 0) := by simpa using hI.cur.cell hcL
            have u3 := hI.cur.frozen c
            go_wp2
            go_roundg (L r - (c + 1))
            case measure => go_light; omega
            case rel => go_light; exact ⟨c + 1, by omega, rfl, by go_num, cinner_step hI⟩
          · obtain rfl : L r = c := by omega
            have t1 : wr.cell? ⟨w.heap.size, r, none⟩ = some (.slice none 0 0) := by simpa using hI.top.cell hrG
            have t2 := hI.top.frozen r
            go_wp2
            go_roundg (len - (r + 1))
            case measure => go_light; omega
            case rel => go_light; exact ⟨r + 1, by omega, rfl, by go_num, cinner_done hI⟩
      · obtain rfl : len = r := by omega
        go_wp2
        go_ret
        exact clone_full hO hlen (fun r hr => (hL r hr).2) (fun r hr c hc => (h.word r hr c hc).2.2)
structure GCopied (w wr : World) (n : Nat) (F : Nat → Value) (r : Nat) : Prop where
  since : Below w.heap.size w wr
  size : wr.heap.size = w.heap.size + 1
  top : wr.rowIs w.heap.size 46 n (fun j => if j < r then F j else .slice none 0 0)

theorem gcopied_start (w : World) (n : Nat) (F : Nat → Value) : GCopied w (w.alloc (.cells (madeCells #[.slice none 0 0] n) 46)) n F 0 :=
  ⟨(Below.refl _ _).alloc (Nat.le_refl _) _, by simp, (World.rowIs_made w _ n 46).congr (fun j _ => by simp)⟩

theorem gcopied_step {w wr : World} {n : Nat} {F : Nat → Value} {r : Nat} (o : GCopied w wr n F r) {v : Value} (hv : v = F r) :
    GCopied w (wr.setCell ⟨w.heap.size, r, none⟩ v) n F (r + 1) := by
  subst hv
  refine ⟨o.since.setCell (Nat.le_refl _) _, by simp [o.size], (o.top.set r _).congr (fun j _ => ?_)⟩
  by_cases e : j = r
  · subst e; simp
  · rw [if_neg e]
    by_cases hlt : j < r
    · rw [if_pos hlt, if_pos (by omega)]
    · rw [if_neg hlt, if_neg (by omega)]

theorem gcopied_graph {w wr : World} {ca : Option Addr} {gb go len : Nat} {L C RB : Nat → Nat} {V : Nat → Nat → Nat} {h : Int} (hR : RowsIn w ca gb go len (fun r => some ⟨RB r, 0, none⟩) L C RB (fun _ => 0) V)
    (hlen : len ≤ 65536) (hL : ∀ r, r < len → (len + 63) / 64 ≤ L r ∧ L r ≤ 1048576) (o : GCopied w wr len (fun r => .slice (some ⟨RB r, 0, none⟩) (L r) (C r)) len) :
    Below w.heap.size w (wr.alloc (.cells #[.int .i64 len, .int .i64 h, .slice (some ⟨w.heap.size, 0, none⟩) len len] 48)) ∧
    IsGraph (wr.alloc (.cells #[.int .i64 len, .int .i64 h, .slice (some ⟨w.heap.size, 0, none⟩) len len] 48)) (w.heap.size + 1) w.heap.size len h RB L C V := by
  have hb : Below w.heap.size w (wr.alloc (.cells #[.int .i64 len, .int .i64 h, .slice (some ⟨w.heap.size, 0, none⟩) len len] 48)) := o.since.alloc (by rw [o.size]; omega) _
  have hc : ∀ i, (wr.alloc (.cells #[.int .i64 len, .int .i64 h, .slice (some ⟨w.heap.size, 0, none⟩) len len] 48)).cell? ⟨w.heap.size + 1, i, none⟩ = #[.int .i64 len, .int .i64 h, .slice (some ⟨w.heap.size, 0, none⟩) len len][i]? :=
    fun i => World.cell?_alloc_at _ _ _ _ o.size.symm
  refine ⟨hb, hlen, by rw [hc]; rfl, by rw [hc]; rfl, by rw [hc]; rfl, fun i hi => ?_, hL, fun i hi k hk => ?_⟩
  · have := (o.top.alloc (.cells #[.int .i64 len, .int .i64 h, .slice (some ⟨w.heap.size, 0, none⟩) len len] 48)).cell hi
    rw [if_pos hi] at this
    exact this
  · obtain ⟨_, h2, h3⟩ := hR.word i hi k (by have := (hL i hi).1; omega)
    rw [Nat.zero_add] at h2
    exact ⟨cell_keep hb h2, h3⟩

set_option maxHeartbeats 1000000 in
theorem graph_any {w : World} {ca : Option Addr} {gb go len : Nat} {L C RB : Nat → Nat} {V : Nat → Nat → Nat} (hR : RowsIn w ca gb go len (fun r => some ⟨RB r, 0, none⟩) L C RB (fun _ => 0) V)
    (hlen : len ≤ 65536) (hL : ∀ r, r < len → (len + 63) / 64 ≤ L r ∧ L r ≤ 1048576) (cap : Nat) (h : Int) :
    Calls Try.prog 13 #[.int .i64 len, .int .i64 h, .slice ca len cap] w fun e w' => e = .returned (.pointer (some ⟨w.heap.size + 1, 0, none⟩)) ∧ Below w.heap.size w w' ∧ IsGraph w' (w.heap.size + 1) w.heap.size len h RB L C V := by
  have hmk := run_make_row' (P := Try.prog) 45 46 (.slice none 0 0) 24 Try.underlying45 Try.info46 rfl .i64 .i64 len (by omega) (by omega)
  go_enter Try.func13, Try.ntmps13
  go_wp2
  clear hmk
  go_loopg [14] len (fun gh i wr => ∃ r : Nat, r ≤ len ∧ gh = len - r ∧ i = .int .i64 r ∧ GCopied w wr len (fun r => .slice (some ⟨RB r, 0, none⟩) (L r) (C r)) r)
  case atStart => exact ⟨0, Nat.zero_le _, rfl, rfl, gcopied_start w len _⟩
  case round =>
    obtain ⟨r, hr, rfl, rfl, hO⟩ := hrel
    by_cases hrG : r < len
    · obtain rfl := hR.addr (by omega)
      have hrz : (r : Int) < (len : Int) := by omega
      have e3 := cell_keep hO.since (hR.row r hrG)
      have t1 : wr.cell? ⟨w.heap.size, r, none⟩ = some (.slice none 0 0) := by simpa using hO.top.cell hrG
      have t2 := hO.top.frozen r
      go_wp2
      go_roundg (len - (r + 1))
      case measure => go_light; omega
      case rel => go_light; exact ⟨r + 1, by omega, rfl, by go_num, gcopied_step hO rfl⟩
    · obtain rfl : len = r := by omega
      have hsz := hO.size
      go_wp2
      go_ret
      exact ⟨rfl, gcopied_graph hR hlen hL hO⟩
end Go.Proofs.Qxb6604319a
