/-
  (*Graph).distances: the walk. What comes back is a row of n ints in new memory that bears the certificate 'Good' (or -1 throughout, where p is no party).
-/
import Derived.Test.Qxb6604319aQueue
import Derived.Test.Qxb6604319aBfs
import Derived.Deep.LoopGhost
import Derived.Deep.Light
namespace Go.Proofs.Qxb6604319a
open Go.RowKit

/-- The edge relation as Adjacent tells it, parties from 0. -/
def edgeB (n : Nat) (R : Nat → Nat → Nat) (a b : Nat) : Bool := adjB n R ((a : Int) + 1) ((b : Int) + 1)

/-- The table lies in block B = w.heap.size; nothing older has turned. -/
structure DistAt (w wr : World) (n : Nat) (D : Nat → Int) : Prop where
  since : Below w.heap.size w wr
  size : w.heap.size < wr.heap.size
  row : wr.rowIs w.heap.size 3 n (fun i => .int .i64 (D i))

theorem DistAt.congr {w wr : World} {n : Nat} {D D' : Nat → Int} (h : DistAt w wr n D) (e : ∀ i, i < n → D i = D' i) : DistAt w wr n D' :=
  ⟨h.since, h.size, h.row.congr (fun i hi => by rw [e i hi])⟩

theorem DistAt.drewN {w wr : World} {n : Nat} {D : Nat → Int} (h : DistAt w wr n D) (m : Nat) : DistAt w (wr.drewN m) n D := ⟨h.since.trans (below_drewN _ _ _), h.size, h.row⟩

theorem DistAt.set {w wr : World} {n : Nat} {D : Nat → Int} (h : DistAt w wr n D) (k : Nat) (v : Int) : DistAt w (wr.setCell ⟨w.heap.size, k, none⟩ (.int .i64 v)) n (upd D k v) :=
  ⟨h.since.setCell (Nat.le_refl _) _, by simpa [World.setCell] using h.size, (h.row.set k _).congr (fun i _ => by simp only [upd]; split <;> rfl)⟩

theorem DistAt.alloc {w wr : World} {n : Nat} {D : Nat → Int} (h : DistAt w wr n D) (o : Obj) : DistAt w (wr.alloc o) n D :=
  ⟨h.since.alloc (Nat.le_of_lt h.size) o, by have := h.size; simp; omega, h.row.alloc o⟩

theorem DistAt.below {w wr w' : World} {n : Nat} {D : Nat → Int} (h : DistAt w wr n D) (hb : Below (w.heap.size + 1) wr w') : DistAt w w' n D :=
  ⟨h.since.trans (hb.mono (Nat.le_succ _)), Nat.lt_of_lt_of_le h.size hb.size, h.row.of_block (hb.block _ (Nat.lt_succ_self _))⟩

/-- What the table is. -/
def Table (n : Nat) (R : Nat → Nat → Nat) (p : Int) (D : Nat → Int) : Prop :=
  (partyB n p = true → Good n (edgeB n R) (p - 1).toNat D) ∧ (partyB n p = false → ∀ i, i < n → D i = -1)

theorem table_no {n : Nat} {R : Nat → Nat → Nat} {p : Int} (h : partyB n p = false) : Table n R p (fun _ => -1) :=
  ⟨fun k => (by rw [h] at k; cases k), fun _ _ _ => rfl⟩

theorem table_yes {n : Nat} {R : Nat → Nat → Nat} {a : Nat} {D : Nat → Int} (h : partyB n ((a : Int) + 1) = true) (hi : Inv n (edgeB n R) a D []) : Table n R ((a : Int) + 1) D :=
  ⟨fun _ => by rw [show ((a : Int) + 1 - 1).toNat = a by omega]; exact inv_end hi, fun k => by rw [h] at k; cases k⟩

/-- A party, as the queue holds it. -/
def node (x : Nat) : Value := .int .i64 ((x : Int) + 1)

theorem queue_start {w wr : World} {n : Nat} {D : Nat → Int} (h : DistAt w wr n D) (a : Nat) (v : Int) : QueueAt ((wr.setCell ⟨w.heap.size, a, none⟩ (.int .i64 v)).alloc (.cells #[node a] 3)) (w.heap.size + 1) (.slice (some ⟨wr.heap.size, 0, none⟩) 1 1) [node a] := by
  refine ⟨wr.heap.size, 0, 1, #[node a], rfl, h.size, ?_, by simp, by simp, fun i u hu => ?_⟩
  · have e : (wr.setCell ⟨w.heap.size, a, none⟩ (.int .i64 v)).heap.size = wr.heap.size := by simp [World.setCell]
    have := Deep.blk_alloc_new (wr.setCell ⟨w.heap.size, a, none⟩ (.int .i64 v)) (.cells #[node a] 3)
    rw [e] at this
    exact this
  · match i, hu with
    | 0, hu => simpa using hu

set_option maxHeartbeats 1000000 in
theorem dist_any (w : World) {gb cb n : Nat} {h : Int} {RB RL RC : Nat → Nat} {R : Nat → Nat → Nat} (g : IsGraph w gb cb n h RB RL RC R) (p : Int) :
    Calls Try.prog 25 #[.pointer (some ⟨gb, 0, none⟩), .int .i64 p] w fun e w' => e = .returned (.slice (some ⟨w.heap.size, 0, none⟩) n n) ∧
      ∃ D : Nat → Int, DistAt w w' n D ∧ Table n R p D := by
  have hn := g.nle
  have hc0 := g.c0
  have hmk := run_make_row' (P := Try.prog) 29 3 (.int .i64 0) 8 Try.underlying29 Try.info3 rfl .i64 .i64 n (by omega) (by omega)
  go_enter Try.func25, Try.ntmps25
  go_wp2
  clear hmk
  go_loopg [17] n (fun gh i wr => ∃ r : Nat, r ≤ n ∧ gh = n - r ∧ i = .int .i64 r ∧ DistAt w wr n (fun j => if j < r then -1 else 0))
  case atStart => exact ⟨0, Nat.zero_le _, rfl, rfl, ⟨(Below.refl _ _).alloc (Nat.le_refl _) _, by simp, (World.rowIs_made w _ n 3).congr (fun j _ => by simp)⟩⟩
  case round =>
    obtain ⟨r, hr, rfl, rfl, hO⟩ := hrel
    by_cases hrG : r < n
    · have hrz : (r : Int) < (n : Int) := by omega
      have t1 := hO.row.cell hrG
      have t2 := hO.row.frozen r
      go_wp2
      go_roundg (n - (r + 1))
      case measure => go_light; omega
      case rel =>
        go_light
        refine ⟨r + 1, by omega, rfl, by go_num, (hO.set r (-1)).congr (fun i _ => ?_)⟩
        simp only [upd]
        by_cases e : i = r
        · rw [if_pos e, if_pos (by omega)]
        · rw [if_neg e]
          by_cases hlt : i < r
          · rw [if_pos hlt, if_pos (by omega)]
          · rw [if_neg hlt, if_neg (by omega)]
    · obtain rfl : n = r := by omega
      have hD : DistAt w wr n (fun _ => -1) := hO.congr (fun i hi => by simp [hi])
      clear hO hrG hr
      have e0 := cell_keep hD.since hc0
      cases hp : partyB n p
      · go_wp2_with (go_at_call 28; refine (party_any _ _ _ _ e0).mono ?_; rintro e w' ⟨rfl, rfl⟩)
        go_ret
        exact ⟨rfl, _, hD, table_no hp⟩
      · have hp' := hp
        simp only [partyB, Bool.and_eq_true, decide_eq_true_eq] at hp'
        obtain ⟨a, rfl⟩ : ∃ a : Nat, p = (a : Int) + 1 := ⟨(p - 1).toNat, by omega⟩
        have ha : a < n := by omega
        clear hp'
        have t1 := hD.row.cell ha
        have t2 := hD.row.frozen a
        go_wp2_with (go_at_call 28; refine (party_any _ _ _ _ e0).mono ?_; rintro e w' ⟨rfl, rfl⟩)
        clear t1 t2
        go_loopg [7] (unv (upd (fun _ => -1) a 0) n + 1) (fun gh v wq => ∃ (D : Nat → Int) (Q : List Nat), gh = unv D n + Q.length ∧ Inv n (edgeB n R) a D Q ∧ DistAt w wq n D ∧ QueueAt wq (w.heap.size + 1) v (Q.map node))
        case atStart => exact ⟨_, [a], rfl, inv_start ha, (hD.set a 0).alloc _, queue_start hD a 0⟩
        case round =>
          obtain ⟨D, Q, rfl, hI, hD', hq⟩ := hrel
          clear hD e0
          cases Q with
          | nil =>
            obtain ⟨gq, oq, cq, rfl⟩ := hq.empty
            go_wp2
            go_ret
            exact ⟨rfl, D, hD', table_yes hp hI⟩
          | cons x Q =>
            obtain ⟨gq, oq, L, cq, rfl, hL, hLc, hcell, -⟩ := hq.head
            have hq0 := hq
            clear hq
            have HQ : Hid (QueueAt wr (w.heap.size + 1) (.slice (some ⟨gq, oq, none⟩) L cq) (node x :: Q.map node)) := hq0
            obtain ⟨hxn, hx0⟩ := hI.mem x (by simp)
            have hxb := hI.cnt x hxn
            clear hq0
            have hcell' : wr.cell? ⟨gq, oq, none⟩ = some (.int .i64 ((x : Int) + 1)) := hcell
            clear hcell
            go_wp2
            go_loopg [7, 9] n (fun gh v j wi => ∃ (k : Nat) (D' : Nat → Int) (Q' : List Nat), k ≤ n ∧ gh = n - k ∧ j = .int .i64 ((k : Int) + 1) ∧ unv D' n + (Q'.length + 1) = unv D n + (x :: Q).length ∧
              Mid n (edgeB n R) a D' x Q' k ∧ DistAt w wi n D' ∧ QueueAt wi (w.heap.size + 1) v (node x :: Q'.map node))
            case atStart => exact ⟨0, D, Q, Nat.zero_le _, rfl, rfl, rfl, mid_start hI, hD', HQ.out⟩
            case round =>
              clear HQ hL hLc hcell' hD' hI hx0 hxb
              obtain ⟨k, D', Q', hkn, rfl, rfl, hM, hMid, hDi, hq⟩ := hrel
              have HM : Hid (unv D' n + (Q'.length + 1) = unv D n + (x :: Q).length) := hM
              clear hM
              have e0 := cell_keep hDi.since hc0
              by_cases hk : k < n
              · have hx0 := (hMid.inv.mem x (by simp)).2
                have hxb := hMid.inv.cnt x hxn
                have hsum := hMid.inv.sum
                have r1 := hDi.row.cell hk
                have r2 := hDi.row.frozen k
                have r3 := hDi.row.cell hxn
                by_cases hDk : D' k < 0
                · cases hE : adjB n R ((x : Int) + 1) ((k : Int) + 1)
                  · go_wp2_with (go_at_call 24; refine (adj_any _ (g.later hDi.since) _ _).mono ?_; rintro e w' ⟨rfl, m, rfl⟩)
                    go_roundg (n - (k + 1))
                    case measure => go_light; omega
                    case rel => go_light; exact ⟨k + 1, D', Q', by omega, rfl, by go_num, HM.out, mid_skip hMid hk (.inr hE), hDi.drewN m, hq⟩
                  · have hsz : w.heap.size + 1 ≤ wr.heap.size := hDi.size
                    go_wp2_with (first | (go_at_call 24; refine (adj_any _ (g.later hDi.since) _ _).mono ?_; rintro e w' ⟨rfl, m, rfl⟩) | (at_builtin; go_must (refine wpList_append_queue _ rfl (.tmp 73) (.tmp 75) rfl (w.heap.size + 1) _ (node x :: Q'.map node) rfl ?qh ?qb ⟨wr.heap.size, 0, none⟩ (node k) rfl ?qc rfl ?ql ?qk; case qh => exact (hq.setBelow (a := ⟨w.heap.size, k, none⟩) (Nat.lt_succ_self _) _).alloc _)))
                    case qb => simp; omega
                    case qc => exact (World.cell?_alloc_at _ _ _ _ (by simp [World.setCell])).trans rfl
                    case ql => simp only [List.length_cons, List.length_map] at hsum ⊢; omega
                    case qk =>
                      intro v' w' hq' hb'
                      have hD2 : DistAt w w' n (upd D' k (D' x + 1)) := (((hDi.drewN m).set k _).alloc _).below hb'
                      have hM2 := mid_visit hMid hk hDk hE
                      clear hq hDi r1 r2 r3 e0 hb'
                      go_wp2
                      go_roundg (n - (k + 1))
                      case measure => go_light; omega
                      case rel =>
                        go_light
                        refine ⟨k + 1, _, Q' ++ [k], by omega, rfl, by go_num, ?_, hM2, hD2, by simpa using hq'⟩
                        have h1 := unv_set D' k (D' x + 1) hDk (by omega) n hk
                        have h2 := HM.out
                        simp only [List.length_append, List.length_cons, List.length_nil] at h2 ⊢
                        omega
                · have hdec : decide (D' k < 0) = false := by simpa using hDk
                  go_wp2
                  go_roundg (n - (k + 1))
                  case measure => go_light; omega
                  case rel => go_light; exact ⟨k + 1, D', Q', by omega, rfl, by go_num, HM.out, mid_skip hMid hk (.inl (by omega)), hDi, hq⟩
              · obtain rfl : n = k := by omega
                obtain ⟨gq', oq', L', cq', rfl, hL', hLc', _, htail⟩ := hq.head
                go_wp2
                all_goals
                  go_roundg (unv D' n + Q'.length)
                  case measure => go_light; have := HM.out; simp only [List.length_cons] at this ⊢; omega
                  case rel =>
                    go_light
                    refine ⟨D', Q', rfl, mid_done hMid, hDi, ?_⟩
                    first
                      | exact htail _ (.inl rfl) (Nat.le_refl _)
                      | (have e1 : cq' = 1 := by assumption
                         subst e1
                         exact htail _ (.inr rfl) (Nat.le_succ _))
end Go.Proofs.Qxb6604319a
