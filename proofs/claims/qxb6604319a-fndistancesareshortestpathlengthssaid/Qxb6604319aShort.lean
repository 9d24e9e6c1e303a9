/-
  The law FnDistancesAreShortestPathLengths, walked.
-/
import Derived.Test.Qxb6604319aTri
namespace Go.Proofs.Qxb6604319a
open Go.RowKit

theorem edge_same {w : World} {ca : Option Addr} {gb go len : Nat} {A : Nat → Option Addr} {L C RB RO : Nat → Nat} {V : Nat → Nat → Nat} (h : RowsIn w ca gb go len A L C RB RO V) (hlen : len ≤ 65536) (hL : ∀ r, r < len → (len + 63) / 64 ≤ L r) (cap : Nat)
    (a b : Nat) (ha : a < len) (hb : b < len) (c : Bool) (hc : edgeB len V a b = c) :
    Calls Try.prog 15 #[.slice ca len cap, .int .i64 ((a : Int) + 1), .int .i64 ((b : Int) + 1)] w fun e w' => e = .returned (.bool c) ∧ w' = w :=
  (edge_any h hlen hL cap a b ha hb).mono fun _ _ ⟨h1, h2⟩ => ⟨by rw [h1, hc], h2.symm⟩

set_option maxHeartbeats 4000000 in
set_option maxRecDepth 100000 in
theorem short_walk {w : World} {ca : Option Addr} {gb go len : Nat} {A : Nat → Option Addr} {L C RB RO : Nat → Nat} {V : Nat → Nat → Nat} (h : RowsIn w ca gb go len A L C RB RO V) (cap : Nat) (n hh p : Int) :
    Calls Try.prog 3 #[.int .i64 n, .int .i64 hh, .slice ca len cap, .int .i64 p] w fun e w' => e = .returned (.bool true) ∧ Below w.heap.size w w' := by
  go_enter Try.func3, Try.ntmps3
  go_wp2_with fail
  refine (bytes9_any h cap n hh p).mono ?_
  rintro e w' ⟨b, rfl, rfl⟩
  cases b
  · go_wp2_with fail
    go_ret
    exact ⟨rfl, Below.refl _ _⟩
  go_wp2_with fail
  refine (words_any h cap).mono ?_
  rintro e w' ⟨b, rfl, rfl, hw⟩
  cases b
  case true =>
    go_wp2_with fail
    go_ret
    exact ⟨rfl, Below.refl _ _⟩
  have hL2 := hw rfl
  clear hw
  go_wp2_with fail
  refine (shape_any h cap n).mono ?_
  rintro e w' ⟨b, rfl, rfl, hs⟩
  cases b
  · go_wp2_with fail
    go_ret
    exact ⟨rfl, Below.refl _ _⟩
  obtain ⟨rfl, hlen, hL1⟩ := hs rfl
  clear hs
  go_wp2_with fail
  refine (clone_any h hlen (fun r hr => ⟨by have := hL1 r hr; omega, hL2 r hr⟩) cap).mono ?_
  rintro e w1 ⟨oa, oc, rfl, hb1, hR1⟩
  go_wp2_with fail
  refine (graph_any hR1 hlen (fun r hr => ⟨hL1 r hr, hL2 r hr⟩) oc hh).mono ?_
  rintro e w2 ⟨rfl, hb2, hG⟩
  go_wp2_with fail
  refine (zzdist_any _ hG p).mono ?_
  rintro e w3 ⟨rfl, D, hD, hT⟩
  have hB : Below w.heap.size w w3 := (hb1.trans (hb2.mono hb1.size)).trans (hD.since.mono (Nat.le_trans hb1.size hb2.size))
  have hR3 := (hR1.later hb2).later hD.since
  have row := hD.row
  have HL : Hid (∀ r, r < len → (len + 63) / 64 ≤ L r) := hL1
  clear hD hG hR1 hb1 hb2 h hL1 hL2
  cases hp : partyB len p
  · -- p is no party: -1 throughout
    have hv := hT.2 hp
    clear hT
    have hcase : (decide (1 ≤ p) = false) ∨ (decide (1 ≤ p) = true ∧ decide (p ≤ (len : Int)) = false) := by
      have := hp
      simp only [partyB, Bool.and_eq_false_iff] at this
      cases h1 : decide (1 ≤ p)
      · exact .inl rfl
      · rw [h1] at this
        rcases this with e | e
        · cases e
        · exact .inr ⟨rfl, e⟩
    rcases hcase with e1 | ⟨e1, e2⟩
    all_goals
      go_wp2_with fail
      go_loopg [12] len (fun gh i wx => w3 = wx ∧ ∃ r : Nat, r ≤ len ∧ gh = len - r ∧ i = .int .i64 ((r : Int) + 1))
      case atStart => exact ⟨rfl, 0, Nat.zero_le _, rfl, rfl⟩
      case round =>
        obtain ⟨rfl, r, hrn, rfl, rfl⟩ := hrel
        by_cases hrG : r < len
        · have c1 : w3.cell? ⟨w2.heap.size, r, none⟩ = some (.int .i64 (-1)) := by rw [row.cell hrG, hv r hrG]
          clear hv row
          go_wp2_with fail
          go_roundg (len - (r + 1))
          case measure => go_light; omega
          case rel => go_light; exact ⟨rfl, r + 1, by omega, rfl, by go_num⟩
        · go_wp2_with fail
          go_ret
          exact ⟨rfl, hB⟩
  · have hp' := hp
    simp only [partyB, Bool.and_eq_true, decide_eq_true_eq] at hp'
    obtain ⟨a, rfl⟩ : ∃ a : Nat, p = (a : Int) + 1 := ⟨(p - 1).toNat, by omega⟩
    have ha : a < len := by omega
    have hg := table_good hT ha
    clear hT hp hp'
    have x1 : decide (1 ≤ (a : Int) + 1) = true := by simp; omega
    have x2 : decide ((a : Int) + 1 ≤ (len : Int)) = true := by simp; omega
    go_wp2_with fail
    clear x1 x2
    go_loopg [12] len (fun gh i wx => w3 = wx ∧ ∃ r : Nat, r ≤ len ∧ gh = len - r ∧ i = .int .i64 ((r : Int) + 1))
    case atStart => exact ⟨rfl, 0, Nat.zero_le _, rfl, rfl⟩
    case round =>
      obtain ⟨rfl, r, hrn, rfl, rfl⟩ := hrel
      by_cases hrG : r < len
      · have c1 := row.cell hrG
        have lo := hg.lo r hrG
        have hi := hg.hi r hrG
        have hzr : decide ((r : Int) + 1 ≤ (len : Int)) = true := by simp; omega
        by_cases era : r = a
        · have e1 : ((r : Int) + 1 == (a : Int) + 1) = true := by rw [beq_iff_eq]; omega
          have c1' : w3.cell? ⟨w2.heap.size, r, none⟩ = some (.int .i64 0) := by rw [c1, era, hg.src]
          clear c1 era lo hi
          go_wp2_with fail
          go_roundg (len - (r + 1))
          case measure => go_light; omega
          case rel => go_light; exact ⟨rfl, r + 1, by omega, rfl, by go_num⟩
        · have e1 : ((r : Int) + 1 == (a : Int) + 1) = false := by rw [beq_eq_false_iff_ne]; omega
          have hz : ¬ D r = 0 := fun e => era (hg.zero r hrG e)
          have ez : (D r == 0) = false := by rw [beq_eq_false_iff_ne]; exact hz
          by_cases hpos : 0 < D r
          · go_wp2_with fail
            go_loopg [14, 15] len (fun gh fd i wx => w3 = wx ∧ ∃ (m : Nat) (b : Bool), m ≤ len ∧ gh = len - m ∧ fd = .bool b ∧ i = .int .i64 ((m : Int) + 1) ∧ Hid (b = false → ∀ i, i < m → ¬ (D i = D r - 1 ∧ edgeB len V i r = true)))
            case atStart => exact ⟨rfl, 0, false, Nat.zero_le _, rfl, rfl, rfl, fun _ i hi => absurd hi (Nat.not_lt_zero _)⟩
            case round =>
              obtain ⟨rfl, m, b, hm, rfl, rfl, rfl, hin⟩ := hrel
              cases b
              · by_cases hml : m < len
                · have d1 := row.cell hml
                  have lo2 := hg.lo m hml
                  have hi2 := hg.hi m hml
                  cases e3 : (D m == D r - 1)
                  · go_wp2_with fail
                    go_roundg (len - (m + 1))
                    case measure => go_light; omega
                    case rel =>
                      go_light
                      refine ⟨rfl, m + 1, false, by omega, rfl, rfl, by go_num, fun _ i hi => ?_⟩
                      by_cases e : i = m
                      · subst e
                        rintro ⟨h1, _⟩
                        rw [h1] at e3
                        simp at e3
                      · exact hin.out (by simp) i (by omega)
                  · cases hE : edgeB len V m r
                    · go_wp2_with (go_at_call 15; go_must (refine (edge_any hR3 hlen HL.out oc m r hml hrG).mono ?_; rintro e w' ⟨rfl, rfl⟩))
                      go_roundg (len - (m + 1))
                      case measure => go_light; omega
                      case rel =>
                        go_light
                        refine ⟨rfl, m + 1, false, by omega, rfl, rfl, by go_num, fun _ i hi => ?_⟩
                        by_cases e : i = m
                        · subst e
                          rintro ⟨_, h1⟩
                          rw [hE] at h1
                          cases h1
                        · exact hin.out (by simp) i (by omega)
                    · go_wp2_with (go_at_call 15; go_must (refine (edge_any hR3 hlen HL.out oc m r hml hrG).mono ?_; rintro e w' ⟨rfl, rfl⟩))
                      go_roundg (len - (m + 1))
                      case measure => go_light; omega
                      case rel => go_light; exact ⟨rfl, m + 1, true, by omega, rfl, rfl, by go_num, fun e => by cases e⟩
                · exfalso
                  obtain ⟨i, h1, h2, h3⟩ := hg.pre r hrG hpos
                  exact hin.out (by simp) i (by omega) ⟨h2, h3⟩
              · by_cases hml : m < len
                all_goals
                  go_wp2_with fail
                  go_roundg (len - (r + 1))
                  case measure => go_light; omega
                  case rel => go_light; exact ⟨rfl, r + 1, by omega, rfl, by go_num⟩
          · have hneg : decide (0 < D r) = false := by simp; omega
            go_wp2_with fail
            go_roundg (len - (r + 1))
            case measure => go_light; omega
            case rel => go_light; exact ⟨rfl, r + 1, by omega, rfl, by go_num⟩
      · go_wp2_with fail
        go_loopg [16] len (fun gh i wx => Below w.heap.size w wx ∧ Below w3.heap.size w3 wx ∧ ∃ r : Nat, r ≤ len ∧ gh = len - r ∧ i = .int .i64 ((r : Int) + 1))
        case atStart => exact ⟨hB, Below.refl _ _, 0, Nat.zero_le _, rfl, rfl⟩
        case round =>
          obtain ⟨hBo, hB3, r, hrn, rfl, rfl⟩ := hrel
          by_cases hrG : r < len
          · have c1 := cell_keep hB3 (row.cell hrG)
            have lo := hg.lo r hrG
            have hi := hg.hi r hrG
            have hzr : decide ((r : Int) + 1 ≤ (len : Int)) = true := by simp; omega
            by_cases hpos : D r < 0
            · go_wp2_with fail
              go_roundg (len - (r + 1))
              case measure => go_light; omega
              case rel => go_light; exact ⟨hBo, hB3, r + 1, by omega, rfl, by go_num⟩
            · have d0 : decide (D r < 0) = false := by simp; omega
              go_wp2_with fail
              go_loopg [17] len (fun gh i wx => Below w.heap.size w wx ∧ Below w3.heap.size w3 wx ∧ ∃ m : Nat, m ≤ len ∧ gh = len - m ∧ i = .int .i64 ((m : Int) + 1))
              case atStart => exact ⟨hBo, hB3, 0, Nat.zero_le _, rfl, rfl⟩
              case round =>
                obtain ⟨hBo', hB3', m, hmn, rfl, rfl⟩ := hrel
                by_cases hml : m < len
                · have c2 := cell_keep hB3' (row.cell hml)
                  have c3 := cell_keep hB3' (row.cell hrG)
                  have hR4 := hR3.later hB3'
                  have lo2 := hg.lo m hml
                  have hi2 := hg.hi m hml
                  cases hE : edgeB len V r m
                  · go_wp2_with fail
                    go_quiet ((go_at_call 15; exact Calls.quiet_of_same (edge_same (hR4.later (below_drewN _ _ _)) hlen HL.out oc r m hrG hml false hE)))
                    go_wp2_with fail
                    go_roundg (len - (m + 1))
                    case measure => go_light; omega
                    case rel => go_light; exact ⟨hBo'.trans (below_drewN _ _ _), hB3'.trans (below_drewN _ _ _), m + 1, by omega, rfl, by go_num⟩
                  · obtain ⟨x1, x2⟩ := hg.edge r m hrG hml (by omega) hE
                    have x1d : decide (D m < 0) = false := by simp; omega
                    have x2d : decide (D r + 1 < D m) = false := by simp; omega
                    go_wp2_with fail
                    go_quiet ((go_at_call 15; exact Calls.quiet_of_same (edge_same (hR4.later (below_drewN _ _ _)) hlen HL.out oc r m hrG hml true hE)))
                    go_wp2_with fail
                    go_roundg (len - (m + 1))
                    case measure => go_light; omega
                    case rel => go_light; exact ⟨hBo'.trans (below_drewN _ _ _), hB3'.trans (below_drewN _ _ _), m + 1, by omega, rfl, by go_num⟩
                · go_wp2_with fail
                  go_roundg (len - (r + 1))
                  case measure => go_light; omega
                  case rel => go_light; exact ⟨hBo', hB3', r + 1, by omega, rfl, by go_num⟩
          · go_wp2_with fail
            go_ret
            exact ⟨rfl, hBo⟩
end Go.Proofs.Qxb6604319a
