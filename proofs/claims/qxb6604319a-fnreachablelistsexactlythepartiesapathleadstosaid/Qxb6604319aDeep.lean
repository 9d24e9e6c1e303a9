/-
  zzDepthFirst, walked: what it marks bears the plain invariant 'DInv' with an empty stack.
-/
import Derived.Test.Qxb6604319aDfs
import Derived.Test.Qxb6604319aMat
namespace Go.Proofs.Qxb6604319a
open Go.RowKit

/-- The marks lie in block B = w.heap.size; nothing older has turned. -/
structure SeenAt (w wr : World) (n : Nat) (S : Nat → Bool) : Prop where
  since : Below w.heap.size w wr
  size : w.heap.size < wr.heap.size
  row : wr.rowIs w.heap.size 4 n (fun i => .bool (S i))

theorem SeenAt.set {w wr : World} {n : Nat} {S : Nat → Bool} (h : SeenAt w wr n S) (k : Nat) : SeenAt w (wr.setCell ⟨w.heap.size, k, none⟩ (.bool true)) n (mark S k) :=
  ⟨h.since.setCell (Nat.le_refl _) _, by simpa [World.setCell] using h.size, (h.row.set k _).congr (fun i _ => by simp only [mark]; split <;> rfl)⟩

theorem SeenAt.alloc {w wr : World} {n : Nat} {S : Nat → Bool} (h : SeenAt w wr n S) (o : Obj) : SeenAt w (wr.alloc o) n S :=
  ⟨h.since.alloc (Nat.le_of_lt h.size) o, by have := h.size; simp; omega, h.row.alloc o⟩

theorem SeenAt.below {w wr w' : World} {n : Nat} {S : Nat → Bool} (h : SeenAt w wr n S) (hb : Below (w.heap.size + 1) wr w') : SeenAt w w' n S :=
  ⟨h.since.trans (hb.mono (Nat.le_succ _)), Nat.lt_of_lt_of_le h.size hb.size, h.row.of_block (hb.block _ (Nat.lt_succ_self _))⟩

/-- A stack that is not empty, as the walk wants it. -/
theorem QueueAt.last {w : World} {base : Nat} {v x : Value} {Q : List Value} (h : QueueAt w base v (Q ++ [x])) :
    ∃ g o m cap, v = .slice (some ⟨g, o, none⟩) (m + 1) cap ∧ m = Q.length ∧ m + 1 ≤ cap ∧ w.cell? ⟨g, o + m, none⟩ = some x ∧ QueueAt w base (.slice (some ⟨g, o, none⟩) m cap) Q := by
  obtain ⟨g, o, cap, c, rfl, hg, hc, h1, h2, h3⟩ := h
  refine ⟨g, o, Q.length, cap, by simp, rfl, by simpa using h1, ?_, g, o, cap, c, rfl, hg, hc, by simp at h1; omega, h2, fun i u hu => ?_⟩
  · have := h3 Q.length x (by simp)
    simpa [World.cell?, hc] using this
  · refine h3 i u ?_
    obtain ⟨hi, _⟩ := List.getElem?_eq_some_iff.1 hu
    rw [List.getElem?_append_left hi]
    exact hu

theorem queue_made {wr : World} {base : Nat} (cap : Nat) (hb : base ≤ wr.heap.size) : QueueAt (wr.alloc (.cells (madeCells #[.int .i64 0] cap) 3)) base (.slice (some ⟨wr.heap.size, 0, none⟩) 0 cap) [] :=
  ⟨wr.heap.size, 0, cap, madeCells #[.int .i64 0] cap, rfl, hb, Deep.blk_alloc_new _ _, Nat.zero_le _, by rw [size_madeCells]; simp, fun i u hu => by simp at hu⟩

/-- What the search leaves. -/
def Marked (n : Nat) (V : Nat → Nat → Nat) (p : Int) (S : Nat → Bool) : Prop :=
  (∀ a : Nat, p = (a : Int) + 1 → a < n → DInv n (edgeB n V) a S []) ∧ (partyB n p = false → ∀ i, i < n → S i = false)

theorem marked_no {n : Nat} {V : Nat → Nat → Nat} {p : Int} (h : decide (p < 1) = true ∨ decide ((n : Int) < p) = true) : Marked n V p (fun _ => false) := by
  simp only [decide_eq_true_eq] at h
  exact ⟨fun a ha hn => by omega, fun _ _ _ => rfl⟩

theorem marked_yes {n : Nat} {V : Nat → Nat → Nat} {a : Nat} {S : Nat → Bool} (ha : a < n) (h : DInv n (edgeB n V) a S []) : Marked n V ((a : Int) + 1) S := by
  refine ⟨fun b hb _ => ?_, fun hp => ?_⟩
  · obtain rfl : a = b := by omega
    exact h
  · simp only [partyB, Bool.and_eq_false_iff, decide_eq_false_iff_not] at hp
    omega

/-- 'make([]int, 0, n)'. -/
theorem make_zero (n : Nat) (hn : n ≤ 65536) (w : World) :
    (Instr.makeSlice 29 (.int .i64 0) (.int .i64 (n : Int))).run Try.prog w = .ok (.slice (some ⟨w.heap.size, 0, none⟩) 0 n) (w.alloc (.cells (madeCells #[.int .i64 0] n) 3)) := by
  obtain ⟨i0, hi, hz0, hz1, hz2⟩ := info_parts Try.info3
  have := run_make (P := Try.prog) w 29 3 i0 (.int .i64 0) Try.underlying29 hi hz0 .i64 .i64 0 n (by omega) (by omega) (by rw [hz2]; omega) (by omega)
  rw [hz1] at this
  simpa [Value.cells] using this

theorem list_last (K : List Nat) : K = [] ∨ ∃ K' x, K = K' ++ [x] := by
  rcases List.eq_nil_or_concat K with h | ⟨K', x, h⟩
  · exact .inl h
  · exact .inr ⟨K', x, by simpa using h⟩

theorem seen_start (w : World) (len a : Nat) : SeenAt w (w.alloc (.cells ((madeCells #[.bool false] len).setIfInBounds a (.bool true)) 4)) len (mark (fun _ => false) a) := by
  refine ⟨(Below.refl _ _).alloc (Nat.le_refl _) _, by simp, ?_⟩
  refine ⟨_, Deep.blk_alloc_new _ _, by simp [size_madeCells], fun i hi => ?_⟩
  rw [Array.getElem?_setIfInBounds]
  by_cases e : i = a
  · subst e
    simp [mark_same, size_madeCells, hi]
  · have hm : mark (fun _ => false) a i = false := mark_other _ e
    rw [if_neg (fun x => e x.symm)]
    simp [madeCells, hi, Nat.mod_one, hm]

theorem stack_start (w : World) (o : Obj) (len : Nat) (o' : Obj) : QueueAt (((w.alloc o).alloc (.cells (madeCells #[.int .i64 0] len) 3)).alloc o') (w.heap.size + 1) (.slice (some ⟨w.heap.size + 1, 0, none⟩) 0 len) [] := by
  have := (queue_made (wr := w.alloc o) (base := w.heap.size + 1) len (by simp)).alloc o'
  simpa using this

set_option maxHeartbeats 1000000 in
theorem deep_any {w : World} {ca : Option Addr} {gb go len : Nat} {A : Nat → Option Addr} {L C RB RO : Nat → Nat} {V : Nat → Nat → Nat} (h : RowsIn w ca gb go len A L C RB RO V) (hlen : len ≤ 65536) (hL : ∀ r, r < len → (len + 63) / 64 ≤ L r) (cap : Nat) (p : Int)
    (hp : (decide (p < 1) = true) ∨ (decide (p < 1) = false ∧ decide ((len : Int) < p) = true) ∨ (decide (p < 1) = false ∧ decide ((len : Int) < p) = false ∧ ∃ a : Nat, a < len ∧ p = (a : Int) + 1)) :
    Calls Try.prog 21 #[.int .i64 len, .slice ca len cap, .int .i64 p] w fun e w' => e = .returned (.slice (some ⟨w.heap.size, 0, none⟩) len len) ∧ ∃ S, SeenAt w w' len S ∧ Marked len V p S := by
  have hmk := run_make_row' (P := Try.prog) 35 4 (.bool false) 1 Try.underlying35 Try.info4 rfl .i64 .i64 len (by omega) (by omega)
  have hmk0 := make_zero len hlen
  have HL : Hid (∀ r, r < len → (len + 63) / 64 ≤ L r) := hL
  clear hL
  have hS0 : SeenAt w (w.alloc (.cells (madeCells #[.bool false] len) 4)) len (fun _ => false) := ⟨(Below.refl _ _).alloc (Nat.le_refl _) _, by simp, World.rowIs_made w _ len 4⟩
  rcases hp with e1 | ⟨e1, e2⟩ | ⟨e1, e2, a, ha, rfl⟩
  · go_enter Try.func21, Try.ntmps21
    go_wp2_with fail
    go_ret
    exact ⟨rfl, _, hS0, marked_no (.inl e1)⟩
  · go_enter Try.func21, Try.ntmps21
    go_wp2_with fail
    go_ret
    exact ⟨rfl, _, hS0, marked_no (.inr e2)⟩
  · have s1 : ∀ o, ((w.alloc (.cells (madeCells #[.bool false] len) 4)).alloc o).cell? ⟨w.heap.size, a, none⟩ = some (.bool false) := fun o => (hS0.row.alloc o).cell ha
    have s2 : ∀ o, ((w.alloc (.cells (madeCells #[.bool false] len) 4)).alloc o).frozen? ⟨w.heap.size, a, none⟩ = false := fun o => (hS0.row.alloc o).frozen a
    go_enter Try.func21, Try.ntmps21
    go_wp2_with (at_builtin; go_must (refine wpList_append_queue _ rfl (.tmp 27) (.tmp 29) rfl (w.heap.size + 1) _ [] rfl ?qh ?qb ⟨w.heap.size + 2, 0, none⟩ (node a) rfl ?qc rfl ?ql ?qk))
    case qh => exact stack_start w _ len _
    case qb => simp
    case qc => exact (World.cell?_alloc_at _ _ _ _ (by simp)).trans rfl
    case ql => simp
    case qk =>
      intro v' w1 hq1 hb1
      have hS1 : SeenAt w w1 len (mark (fun _ => false) a) := (((seen_start w len a).alloc _).alloc _).below hb1
      clear hS0 hb1 s1 s2 hmk hmk0
      go_wp2_with fail
      go_loopg [8] (unm (mark (fun _ => false) a) len + 1) (fun gh v wq => ∃ (S : Nat → Bool) (K : List Nat), gh = unm S len + K.length ∧ DInv len (edgeB len V) a S K ∧ SeenAt w wq len S ∧ QueueAt wq (w.heap.size + 1) v (K.map node))
      case atStart => exact ⟨_, [a], rfl, dinv_start ha, hS1, hq1⟩
      case round =>
        obtain ⟨S, K, rfl, hI, hS, hq⟩ := hrel
        clear hS1 hq1
        rcases list_last K with rfl | ⟨K', x, rfl⟩
        · obtain ⟨gq, oq, cq, rfl⟩ := hq.empty
          go_wp2_with fail
          go_ret
          exact ⟨rfl, S, hS, marked_yes ha hI⟩
        · rw [List.map_append] at hq
          obtain ⟨gq, oq, m, cq, rfl, hm, hmc, hcell, hq'⟩ := hq.last
          have hsum := hI.sum
          have hx := (hI.mem x (by simp)).1
          simp only [List.length_append, List.length_cons, List.length_nil] at hsum
          have hmle : m ≤ 65536 := by simp at hm; omega
          have hcell' : wr.cell? ⟨gq, oq + m, none⟩ = some (.int .i64 ((x : Int) + 1)) := hcell
          have HQ : Hid (QueueAt wr (w.heap.size + 1) (.slice (some ⟨gq, oq, none⟩) m cq) (K'.map node)) := hq'
          clear hcell hq hq' hm
          go_wp2_with fail
          go_loopg [8, 10] len (fun gh v j wi => ∃ (k : Nat) (z : Int) (S' : Nat → Bool) (K2 : List Nat), k ≤ len ∧ gh = k ∧ Hid (z = (k : Int)) ∧ j = .int .i64 z ∧ Hid (unm S' len + (K2.length + 1) = unm S len + (K' ++ [x]).length) ∧
            DMid len (edgeB len V) a S' x K2 k ∧ SeenAt w wi len S' ∧ QueueAt wi (w.heap.size + 1) v (K2.map node))
          case atStart => exact ⟨len, len, S, K', Nat.le_refl _, rfl, rfl, rfl, (by simp [Hid]), dmid_start hI, hS, HQ.out⟩
          case round =>
            clear HQ hcell' hI hS hsum hmc hmle
            obtain ⟨k, z, S', K2, hk, rfl, hz, rfl, HM, hMid, hSi, hq⟩ := hrel
            cases gk with
            | zero =>
              obtain rfl : z = 0 := hz.out
              clear hz
              go_wp2_with fail
              go_roundg (unm S' len + K2.length)
              case measure => go_light; have := HM.out; simp only [List.length_append, List.length_cons, List.length_nil] at this ⊢; omega
              case rel => go_light; exact ⟨S', K2, rfl, dmid_done hMid, hSi, hq⟩
            | succ k =>
              obtain rfl : z = (k : Int) + 1 := by have := hz.out; omega
              clear hz
              have hkl : k < len := by omega
              have r1 := hSi.row.cell hkl
              have r2 := hSi.row.frozen k
              have hsum := hMid.inv.sum
              simp only [List.length_append, List.length_cons, List.length_nil] at hsum
              have hR := h.later hSi.since
              have hsz : w.heap.size + 1 ≤ wr.heap.size := hSi.size
              cases hSk : S' k
              · cases hE : edgeB len V x k
                · go_wp2_with (go_at_call 15; go_must (refine (edge_any hR hlen HL.out cap x k hx hkl).mono ?_; rintro e w' ⟨rfl, rfl⟩))
                  go_roundg k
                  case measure => go_light; omega
                  case rel => go_light; exact ⟨k, _, S', K2, by omega, rfl, rfl, rfl, HM, dmid_skip hMid (.inr hE), hSi, hq⟩
                · go_wp2_with (first | (go_at_call 15; go_must (refine (edge_any hR hlen HL.out cap x k hx hkl).mono ?_; rintro e w' ⟨rfl, rfl⟩)) | (at_builtin; go_must (refine wpList_append_queue _ rfl (.tmp 66) (.tmp 68) rfl (w.heap.size + 1) _ (K2.map node) rfl ?qh ?qb ⟨wr.heap.size, 0, none⟩ (node k) rfl ?qc rfl ?ql ?qk; case qh => exact (hq.setBelow (a := ⟨w.heap.size, k, none⟩) (Nat.lt_succ_self _) _).alloc _)))
                  case qb => simp; omega
                  case qc => exact (World.cell?_alloc_at _ _ _ _ (by simp [World.setCell])).trans rfl
                  case ql => simp; omega
                  case qk =>
                    intro v2 w2 hq2 hb2
                    have hS2 : SeenAt w w2 len (mark S' k) := ((hSi.set k).alloc _).below hb2
                    have hM2 := dmid_visit hMid hkl hSk hE
                    clear hq hSi r1 r2 hb2
                    go_wp2_with fail
                    go_roundg k
                    case measure => go_light; omega
                    case rel =>
                      go_light
                      refine ⟨k, _, mark S' k, K2 ++ [k], by omega, rfl, rfl, rfl, ?_, hM2, hS2, by simpa using hq2⟩
                      have h1 := unm_set S' k hSk len hkl
                      have h2 := HM.out
                      show unm (mark S' k) len + ((K2 ++ [k]).length + 1) = _
                      simp only [List.length_append, List.length_cons, List.length_nil] at h2 ⊢
                      omega
              · go_wp2_with fail
                go_roundg k
                case measure => go_light; omega
                case rel => go_light; exact ⟨k, _, S', K2, by omega, rfl, rfl, rfl, HM, dmid_skip hMid (.inl hSk), hSi, hq⟩
end Go.Proofs.Qxb6604319a
