/-
  The law FnNewGraphPutsEveryPartyOneStepFromEveryOther, walked for 0 <= n <= 65536.
-/
import Derived.Test.Qxb6604319aReach
import Derived.Test.Qxb6604319aNew
import Derived.Lib.SliceRun
namespace Go.Proofs.Qxb6604319a
open Go.RowKit

theorem bitAt_full {n : Nat} {a b : Nat} (hb : b < n) : bitAt (fun _ k => full n k) a b = true := full_has hb

theorem adjB_full (n : Nat) (i j : Int) : adjB n (fun _ k => full n k) i j = (!(i == j) && partyB n i && partyB n j) := by
  unfold adjB
  cases hj : partyB n j
  · simp
  · have hj' := hj
    simp only [partyB, Bool.and_eq_true, decide_eq_true_eq] at hj'
    rw [bitAt_full (by omega)]
    simp

theorem edge_full {n : Nat} {a b : Nat} (ha : a < n) (hb : b < n) (h : a ≠ b) : edgeB n (fun _ k => full n k) a b = true := by
  have h1 : partyB n ((a : Int) + 1) = true := by simp [partyB]; omega
  have h2 : partyB n ((b : Int) + 1) = true := by simp [partyB]; omega
  have h3 : ((a : Int) + 1 == (b : Int) + 1) = false := by rw [beq_eq_false_iff_ne]; omega
  rw [edgeB, adjB_full, h1, h2, h3]
  rfl

theorem reachL_all {D : Nat → Int} : ∀ {n : Nat}, (∀ q, q < n → 0 ≤ D q) → reachL D n = List.range n
  | 0, _ => rfl
  | n + 1, h => by rw [reachL_yes (h n (by omega)), reachL_all (fun q hq => h q (by omega)), List.range_succ]

theorem reachL_none {D : Nat → Int} : ∀ {n : Nat}, (∀ q, q < n → D q = -1) → reachL D n = []
  | 0, _ => rfl
  | n + 1, h => by rw [reachL_no (by rw [h n (by omega)]; decide), reachL_none (fun q hq => h q (by omega))]

/-- The reached ones, as the walk reads them. -/
theorem ReachAt.cells {w wr : World} {v : Value} {L : List Nat} (h : ReachAt w wr v L) (hL : L ≠ []) :
    ∃ g cap, v = .slice (some ⟨g, 0, none⟩) L.length cap ∧ ∀ i (hi : i < L.length), wr.cell? ⟨g, i, none⟩ = some (node L[i]) := by
  obtain ⟨h1, h2⟩ := h.own
  rcases h2 with ⟨_, h0⟩ | ⟨g, cap, cur, rfl, _, hb, h3, _, h5, h6⟩
  · exact absurd (List.eq_nil_of_length_eq_zero h0) hL
  · refine ⟨g, cap, rfl, fun i hi => ?_⟩
    have hx : (L.map node)[i]? = some (node L[i]) := by simp [hi]
    rw [← h6, List.getElem?_take] at hx
    split at hx
    · simpa [World.cell?, hb] using hx
    · cases hx

theorem party_ge {n : Nat} {i : Int} (h : 1 ≤ i) : partyB n i = decide (i ≤ n) := by
  have : decide (1 ≤ i) = true := decide_eq_true h
  rw [partyB, this, Bool.true_and]

theorem party_lt {n : Nat} {i : Int} (h : i < 1) : partyB n i = false := by
  have : decide (1 ≤ i) = false := decide_eq_false (by omega)
  rw [partyB, this, Bool.false_and]

theorem party_not {n : Nat} {p : Int} (h : partyB n p = false) : decide (p < 1) = true ∨ (decide (p < 1) = false ∧ decide ((n : Int) < p) = true) := by
  simp only [partyB, Bool.and_eq_false_iff, decide_eq_false_iff_not] at h
  simp only [decide_eq_true_eq, decide_eq_false_iff_not]
  omega

set_option maxHeartbeats 1000000 in
set_option maxRecDepth 100000 in
theorem puts_walk (n : Nat) (t p i j : Int) (w : World) (hn : n ≤ 65536) :
    Calls Try.prog 8 #[.int .i64 n, .int .i64 t, .int .i64 p, .int .i64 i, .int .i64 j] w fun e w' => e = .returned (.bool true) ∧ Below w.heap.size w w' := by
  have d0 : decide ((n : Int) < 0) = false := by simp
  have d1 : decide (65536 < (n : Int)) = false := by simp; omega
  cases d2 : decide (131072 < wrap64 ((n : Int) * (((n : Int) + 63) / 64)))
  case true =>
    go_enter Try.func8, Try.ntmps8
    go_wp2_with fail
    go_ret
    exact ⟨rfl, Below.refl _ _⟩
  case false =>
    go_enter Try.func8, Try.ntmps8
    go_upto_region 6 with (go_at_call 22; refine (newGraph_any n t _ hn).mono ?_; rintro e w1 ⟨rfl, hO⟩)
    have hG := hO.graph hn
    have hB1 := hO.since
    clear hO
    go_cut [12] (fun s12 wx => s12 = .bool (partyB n i) ∧ w1 = wx)
    case first =>
      go_wp2_with fail
      all_goals
        go_meet
        go_light
        first
          | (have h1 : 1 ≤ i := by assumption
             exact ⟨by rw [party_ge h1], rfl⟩)
          | (have h1 : i < 1 := by assumption
             exact ⟨by rw [party_lt h1], rfl⟩)
    case rest =>
      obtain ⟨rfl, rfl⟩ := hcut
      go_upto_region 7 with fail
      go_cut [13] (fun s13 wx => s13 = .bool (partyB n j) ∧ w1 = wx)
      case first =>
        go_wp2_with fail
        all_goals
          go_meet
          go_light
          first
            | (have h1 : 1 ≤ j := by assumption
               exact ⟨by rw [party_ge h1], rfl⟩)
            | (have h1 : j < 1 := by assumption
               exact ⟨by rw [party_lt h1], rfl⟩)
      case rest =>
        obtain ⟨rfl, rfl⟩ := hcut
        go_upto_region 8 with fail
        go_cut [12, 13, 62] (fun s12 s13 s62 wx => s12 = .bool (partyB n i) ∧ s13 = .bool (partyB n j) ∧ s62 = .bool false ∧ ∃ m, w1.drewN m = wx)
        case first =>
          cases hne : (i != j) <;> cases hbi : partyB n i <;> cases hbj : partyB n j
          all_goals
            have hadj : adjB n (fun _ k => full n k) i j = ((i != j) && partyB n i && partyB n j) := adjB_full n i j
            simp only [hne, hbi, hbj, Bool.and_true, Bool.and_false] at hadj
            go_wp2_with (go_at_call 24; refine (adj_any _ hG _ _).mono ?_; rintro e w' ⟨rfl, m, rfl⟩)
            go_meet
            go_light
            exact ⟨by simp only [hbi], by simp only [hbj], rfl, _, rfl⟩
        case rest =>
          obtain ⟨rfl, rfl, rfl, m, rfl⟩ := hcut
          have hfin : ∀ w2 w3 : World, Below (w1.drewN m).heap.size (w1.drewN m) w2 → Below w2.heap.size w2 w3 → Below w.heap.size w w3 := fun w2 w3 h1 h2 => by
            have s1 := hB1.size
            have s2 := h1.size
            exact ((hB1.trans (below_drewN _ _ m)).trans (h1.mono s1)).trans (h2.mono (Nat.le_trans s1 s2))
          cases hp : partyB n p
          · have q29 : ∀ (w : World) (a : Option Addr) (n c n' c' : Nat), (binOp .eql 29 (.slice a n c) (.slice none n' c')).run Try.prog w = .ok (.bool a.isNone) w := fun w a n c n' c' => Lib.run_eql_slice_nil w 29 3 a n c n' c' Try.underlying29
            have hcase : decide (p < 1) = true ∨ (decide (p < 1) = false ∧ decide ((n : Int) < p) = true) := party_not hp
            rcases hcase with e1 | ⟨e1, e2⟩
            all_goals
              go_wp2_with (first | (go_at_call 14; go_must (refine (zzdist_any _ (hG.later (below_drewN _ _ _)) _).mono ?_; rintro e w2 ⟨rfl, D, hD, hT⟩)) | (go_at_call 20; go_must (refine (reach_any _ ((hG.later (below_drewN _ _ m)).later hD.since) _).mono ?_; rintro e w3 ⟨v, rfl, D2, hb3, hR, hT2⟩)))
              obtain rfl := hR.nil (reachL_none (hT2.2 hp))
              have row : w3.rowIs w1.heap.size 3 n (fun i => .int .i64 (D i)) := (hD.below (hb3.mono hD.size)).row
              have hv := hT.2 hp
              have hB := hfin _ _ hD.since hb3
              clear hD hb3 hR hT hT2 hfin
              go_loopg [16] n (fun gh i wx => w3 = wx ∧ ∃ r : Nat, r ≤ n ∧ gh = n - r ∧ i = .int .i64 r)
              case atStart => exact ⟨rfl, 0, Nat.zero_le _, rfl, rfl⟩
              case round =>
                obtain ⟨rfl, r, hrn, rfl, rfl⟩ := hrel
                by_cases hrG : r < n
                · have hz : (r : Int) < (n : Int) := by omega
                  have c1 : w3.cell? ⟨w1.heap.size, r, none⟩ = some (.int .i64 (-1)) := by rw [row.cell hrG, hv r hrG]
                  clear hv row
                  go_wp2
                  go_roundg (n - (r + 1))
                  case measure => go_light; omega
                  case rel => go_light; exact ⟨rfl, r + 1, by omega, rfl, by go_num⟩
                · go_wp2
                  go_ret
                  exact ⟨rfl, hB⟩
          · have hp' := hp
            simp only [partyB, Bool.and_eq_true, decide_eq_true_eq] at hp'
            obtain ⟨a, rfl⟩ : ∃ a : Nat, p = (a : Int) + 1 := ⟨(p - 1).toNat, by omega⟩
            have ha : a < n := by omega
            go_wp2_with (first | (go_at_call 14; go_must (refine (zzdist_any _ (hG.later (below_drewN _ _ _)) _).mono ?_; rintro e w2 ⟨rfl, D, hD, hT⟩)) | (go_at_call 20; go_must (refine (reach_any _ ((hG.later (below_drewN _ _ m)).later hD.since) _).mono ?_; rintro e w3 ⟨v, rfl, D2, hb3, hR, hT2⟩)))
            have row : w3.rowIs w1.heap.size 3 n (fun i => .int .i64 (D i)) := (hD.below (hb3.mono hD.size)).row
            have hB := hfin _ _ hD.since hb3
            have e1 : ((a : Int) + 1 - 1).toNat = a := by omega
            have g1 := hT.1 hp
            have g2 := hT2.1 hp
            rw [e1] at g1 g2
            have hv : ∀ q, q < n → D q = if q = a then 0 else 1 := good_full g1 (fun _ _ => edge_full)
            have hv2 : ∀ q, q < n → 0 ≤ D2 q := fun q hq => by rw [good_full g2 (fun _ _ => edge_full) q hq]; split <;> decide
            rw [reachL_all hv2] at hR
            have hne : List.range n ≠ [] := by
              intro e
              have := congrArg List.length e
              simp at this
              omega
            obtain ⟨gv, cv, hvv, hcv⟩ := hR.cells hne
            simp only [List.length_range, List.getElem_range, node] at hvv hcv
            subst hvv
            clear hD hb3 hR hT hT2 hfin g1 g2 hv2 hne e1 hp'
            go_loopg [17] n (fun gh i wx => w3 = wx ∧ ∃ r : Nat, r ≤ n ∧ gh = n - r ∧ i = .int .i64 ((r : Int) + 1))
            case atStart => exact ⟨rfl, 0, Nat.zero_le _, rfl, rfl⟩
            case round =>
              obtain ⟨rfl, r, hrn, rfl, rfl⟩ := hrel
              by_cases hrG : r < n
              · have c1 := row.cell hrG
                have hr := hv r hrG
                clear hv row hcv
                by_cases e : r = a
                · have eb : ((r : Int) + 1 == (a : Int) + 1) = true := by rw [beq_iff_eq]; omega
                  rw [hr, if_pos e] at c1
                  clear e hr
                  go_wp2
                  go_roundg (n - (r + 1))
                  case measure => go_light; omega
                  case rel => go_light; exact ⟨rfl, r + 1, by omega, rfl, by go_num⟩
                · have eb : ((r : Int) + 1 == (a : Int) + 1) = false := by rw [beq_eq_false_iff_ne]; omega
                  rw [hr, if_neg e] at c1
                  clear e hr
                  go_wp2
                  go_roundg (n - (r + 1))
                  case measure => go_light; omega
                  case rel => go_light; exact ⟨rfl, r + 1, by omega, rfl, by go_num⟩
              · clear hv row
                go_wp2
                go_loopg [19] n (fun gh i wx => w3 = wx ∧ ∃ k : Nat, k ≤ n ∧ gh = n - k ∧ i = .int .i64 k)
                case atStart => exact ⟨rfl, 0, Nat.zero_le _, rfl, rfl⟩
                case round =>
                  obtain ⟨rfl, k, hkn, rfl, rfl⟩ := hrel
                  by_cases hkG : k < n
                  · have hz : (k : Int) < (n : Int) := by omega
                    have c1 := hcv k hkG
                    clear hcv
                    go_wp2
                    go_roundg (n - (k + 1))
                    case measure => go_light; omega
                    case rel => go_light; exact ⟨rfl, k + 1, by omega, rfl, by go_num⟩
                  · go_wp2
                    go_ret
                    exact ⟨rfl, hB⟩
end Go.Proofs.Qxb6604319a
