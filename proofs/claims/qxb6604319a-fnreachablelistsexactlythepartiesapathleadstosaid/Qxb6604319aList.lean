/-
  The law FnReachableListsExactlyThePartiesAPathLeadsTo, walked.
-/
import Derived.Test.Qxb6604319aTri
import Derived.Test.Qxb6604319aDeep
import Derived.Test.Qxb6604319aReachCells
namespace Go.Proofs.Qxb6604319a
open Go.RowKit

theorem reachL_split (D : Nat → Int) (r : Nat) : ∀ m, ∃ rest, reachL D (r + m) = reachL D r ++ rest
  | 0 => ⟨[], by simp⟩
  | m + 1 => by
    obtain ⟨rest, hr⟩ := reachL_split D r m
    by_cases h : 0 ≤ D (r + m)
    · exact ⟨rest ++ [r + m], by rw [← Nat.add_assoc, reachL_yes h, hr, List.append_assoc]⟩
    · exact ⟨rest, by rw [← Nat.add_assoc, reachL_no (by omega), hr]⟩

/-- The place of a reached party in the list. -/
theorem reachL_at {D : Nat → Int} {r n : Nat} (hr : r < n) (h : 0 ≤ D r) : ∃ hk : (reachL D r).length < (reachL D n).length, (reachL D n)[(reachL D r).length] = r := by
  obtain ⟨rest, hs⟩ := reachL_split D (r + 1) (n - (r + 1))
  rw [show r + 1 + (n - (r + 1)) = n by omega, reachL_yes h] at hs
  have hlt : (reachL D r).length < (reachL D n).length := by rw [hs]; simp
  refine ⟨hlt, ?_⟩
  have : (reachL D n)[(reachL D r).length]? = some r := by rw [hs]; simp
  rw [List.getElem?_eq_getElem hlt] at this
  exact Option.some.inj this

/-- What the search marks is what the table reaches. -/
theorem marked_reached {n : Nat} {V : Nat → Nat → Nat} {p : Int} {S : Nat → Bool} {D : Nat → Int} (hM : Marked n V p S) (hT : Table n V p D) (q : Nat) (hq : q < n) : S q = decide (0 ≤ D q) := by
  cases hp : partyB n p
  · rw [hM.2 hp q hq, hT.2 hp q hq]
    rfl
  · have hg := hT.1 hp
    simp only [partyB, Bool.and_eq_true, decide_eq_true_eq] at hp
    obtain ⟨a, rfl⟩ : ∃ a : Nat, p = (a : Int) + 1 := ⟨(p - 1).toNat, by omega⟩
    have ha : a < n := by omega
    rw [show ((a : Int) + 1 - 1).toNat = a by omega] at hg
    exact dfs_reached (hM.1 a rfl ha) hg q hq

set_option maxHeartbeats 2000000 in
set_option maxRecDepth 100000 in
theorem list_walk {w : World} {ca : Option Addr} {gb go len : Nat} {A : Nat → Option Addr} {L C RB RO : Nat → Nat} {V : Nat → Nat → Nat} (h : RowsIn w ca gb go len A L C RB RO V) (cap : Nat) (n hh p : Int) :
    Calls Try.prog 6 #[.int .i64 n, .int .i64 hh, .slice ca len cap, .int .i64 p] w fun e w' => e = .returned (.bool true) ∧ Below w.heap.size w w' := by
  have q29 : ∀ (w : World) (a : Option Addr) (n c n' c' : Nat), (binOp .eql 29 (.slice a n c) (.slice none n' c')).run Try.prog w = .ok (.bool a.isNone) w := fun w a n c n' c' => Lib.run_eql_slice_nil w 29 3 a n c n' c' Try.underlying29
  go_enter Try.func6, Try.ntmps6
  go_wp2_with fail
  refine (bytes19_any h cap n hh p).mono ?_
  rintro e w' ⟨b, rfl, rfl⟩
  cases b
  · go_wp2_with fail
    go_ret
    exact ⟨rfl, Below.refl _ _⟩
  go_wp2_with fail
  refine (words_any h cap).mono ?_
  rintro e w' ⟨b, rfl, rfl, hw⟩
  cases b
  case true =>
    go_wp2_with fail
    go_ret
    exact ⟨rfl, Below.refl _ _⟩
  have hL2 := hw rfl
  clear hw
  go_wp2_with fail
  refine (shape_any h cap n).mono ?_
  rintro e w' ⟨b, rfl, rfl, hs⟩
  cases b
  · go_wp2_with fail
    go_ret
    exact ⟨rfl, Below.refl _ _⟩
  obtain ⟨rfl, hlen, hL1⟩ := hs rfl
  clear hs
  go_wp2_with fail
  refine (clone_any h hlen (fun r hr => ⟨by have := hL1 r hr; omega, hL2 r hr⟩) cap).mono ?_
  rintro e w1 ⟨oa, oc, rfl, hb1, hR1⟩
  go_wp2_with fail
  refine (graph_any hR1 hlen (fun r hr => ⟨hL1 r hr, hL2 r hr⟩) oc hh).mono ?_
  rintro e w2 ⟨rfl, hb2, hG⟩
  go_wp2_with fail
  refine (reach_any _ hG p).mono ?_
  rintro e w3 ⟨v, rfl, D, hb3, hR, hT⟩
  have hR3 := (hR1.later hb2).later hb3
  go_wp2_with fail
  refine (deep_any hR3 hlen hL1 oc p (party_cases len p)).mono ?_
  rintro e w4 ⟨rfl, S, hS, hM⟩
  have hB : Below w.heap.size w w4 := ((hb1.trans (hb2.mono hb1.size)).trans (hb3.mono (Nat.le_trans hb1.size hb2.size))).trans (hS.since.mono (Nat.le_trans (Nat.le_trans hb1.size hb2.size) hb3.size))
  have row := hS.row
  have hSD := marked_reached hM hT
  have hle := reachL_le D len
  by_cases hnil : reachL D len = []
  · obtain rfl := hR.nil hnil
    have hno : ∀ q, q < len → S q = false := fun q hq => by
      rw [hSD q hq]
      simp only [decide_eq_false_iff_not]
      intro h0
      obtain ⟨hk, _⟩ := reachL_at hq h0
      rw [hnil] at hk
      simp at hk
    clear hS hG hR1 hb1 hb2 h hL1 hL2 hR hb3 hT hM hSD hR3 hnil hle
    go_wp2_with fail
    go_loopg [12, 13] len (fun gh c i wx => w4 = wx ∧ ∃ r : Nat, r ≤ len ∧ gh = len - r ∧ c = .int .i64 0 ∧ i = .int .i64 ((r : Int) + 1))
    case atStart => exact ⟨rfl, 0, Nat.zero_le _, rfl, rfl, rfl⟩
    case round =>
      obtain ⟨rfl, r, hrn, rfl, rfl, rfl⟩ := hrel
      by_cases hrG : r < len
      · have c1 : w4.cell? ⟨w3.heap.size, r, none⟩ = some (.bool false) := by rw [row.cell hrG, hno r hrG]
        clear hno row
        go_wp2_with fail
        go_roundg (len - (r + 1))
        case measure => go_light; omega
        case rel => go_light; exact ⟨rfl, r + 1, by omega, rfl, rfl, by go_num⟩
      · go_wp2_with fail
        go_ret
        exact ⟨rfl, hB⟩
  · obtain ⟨gv, cv, hvv, hcv⟩ := hR.cellsOf hnil
    have hpos : 0 < (reachL D len).length := List.length_pos_iff.2 hnil
    have hcell : ∀ i (hi : i < (reachL D len).length), w4.cell? ⟨gv, i, none⟩ = some (node (reachL D len)[i]) := fun i hi => cell_keep hS.since (hcv i hi)
    have hat : ∀ r, r < len → S r = true → w4.cell? ⟨gv, (reachL D r).length, none⟩ = some (.int .i64 ((r : Int) + 1)) ∧ (reachL D r).length < (reachL D len).length ∧ (reachL D (r + 1)).length = (reachL D r).length + 1 := fun r hr hs => by
      rw [hSD r hr, decide_eq_true_eq] at hs
      obtain ⟨hk, he⟩ := reachL_at hr hs
      exact ⟨by rw [hcell _ hk, he]; rfl, hk, by rw [reachL_yes hs]; simp⟩
    have hoff : ∀ r, r < len → S r = false → (reachL D (r + 1)).length = (reachL D r).length := fun r hr hs => by
      rw [hSD r hr, decide_eq_false_iff_not] at hs
      rw [reachL_no (by omega)]
    have HT : Hid (∀ r, r < len → S r = true → w4.cell? ⟨gv, (reachL D r).length, none⟩ = some (.int .i64 ((r : Int) + 1)) ∧ (reachL D r).length < (reachL D len).length ∧ (reachL D (r + 1)).length = (reachL D r).length + 1) := hat
    have HF : Hid (∀ r, r < len → S r = false → (reachL D (r + 1)).length = (reachL D r).length) := hoff
    subst hvv
    clear hat hoff hS hG hR1 hb1 hb2 h hL1 hL2 hR hb3 hT hSD hR3 hnil hcv hcell hM
    generalize hM : (reachL D len).length = M at *
    have HM : Hid ((reachL D len).length = M) := hM
    clear hM
    go_wp2_with fail
    go_loopg [12, 13] len (fun gh c i wx => w4 = wx ∧ ∃ (r m : Nat), r ≤ len ∧ m ≤ len ∧ Hid (m = (reachL D r).length) ∧ gh = len - r ∧ c = .int .i64 m ∧ i = .int .i64 ((r : Int) + 1))
    case atStart => exact ⟨rfl, 0, 0, Nat.zero_le _, Nat.zero_le _, rfl, rfl, rfl, rfl⟩
    case round =>
      obtain ⟨rfl, r, m, hrn, hmn, hm, rfl, rfl, rfl⟩ := hrel
      by_cases hrG : r < len
      · cases hSr : S r
        · have c1 : w4.cell? ⟨w3.heap.size, r, none⟩ = some (.bool false) := by rw [row.cell hrG, hSr]
          have e := HF.out r hrG hSr
          have HE : Hid (m = (reachL D (r + 1)).length) := by show m = _; rw [e]; exact hm.out
          clear e hSr row
          go_wp2_with fail
          go_roundg (len - (r + 1))
          case measure => go_light; omega
          case rel => go_light; exact ⟨rfl, r + 1, m, by omega, by omega, HE, rfl, rfl, by go_num⟩
        · have c1 : w4.cell? ⟨w3.heap.size, r, none⟩ = some (.bool true) := by rw [row.cell hrG, hSr]
          obtain ⟨x1, x2, x3⟩ := HT.out r hrG hSr
          rw [← hm.out] at x1 x2 x3
          have HE : Hid (m + 1 = (reachL D (r + 1)).length) := x3.symm
          clear x3 hSr row
          go_wp2_with fail
          go_roundg (len - (r + 1))
          case measure => go_light; omega
          case rel => go_light; exact ⟨rfl, r + 1, m + 1, by omega, by omega, HE, rfl, by go_num, by go_num⟩
      · obtain rfl : len = r := by omega
        obtain rfl : m = M := by rw [hm.out, HM.out]
        go_wp2_with fail
        go_ret
        exact ⟨ret_bool (by simp; omega), hB⟩
end Go.Proofs.Qxb6604319a
