/-
  The law FnNewGraphIsTheCompleteGraph, walked for 0 <= n <= 65536.
-/
import Derived.Test.Qxb6604319aFields
namespace Go.Proofs.Qxb6604319a
open Go.RowKit

set_option maxHeartbeats 1000000 in
theorem complete_walk (n : Nat) (t : Int) (w : World) (hn : n ≤ 65536) :
    Calls Try.prog 7 #[.int .i64 n, .int .i64 t] w fun e w' => e = .returned (.bool true) ∧ Below w.heap.size w w' := by
  have d0 : decide ((n : Int) < 0) = false := by simp
  have d1 : decide (65536 < (n : Int)) = false := by simp; omega
  cases d2 : decide (131072 < wrap64 ((n : Int) * (((n : Int) + 63) / 64)))
  case true =>
    go_enter Try.func7, Try.ntmps7
    go_wp2_with fail
    go_ret
    exact ⟨rfl, Below.refl _ _⟩
  case false =>
    go_enter Try.func7, Try.ntmps7
    go_wp2_with (first | (go_at_call 22; refine (newGraph_any n t _ hn).mono ?_; rintro e w1 ⟨rfl, hO⟩) | (go_at_call 23; refine (fields_graph (hO.graph hn)).mono ?_; rintro e w2 ⟨rfl, hb, hr⟩))
    have hG := (hO.graph hn).later hb
    go_loopg [10] n (fun g i wx => w2 = wx ∧ ∃ r : Nat, r ≤ n ∧ g = n - r ∧ i = .int .i64 r)
    case atStart => exact ⟨rfl, 0, Nat.zero_le _, rfl, rfl⟩
    case round =>
      obtain ⟨rfl, r, hrn, rfl, rfl⟩ := hrel
      by_cases hrG : r < n
      · have c1 := hr.cell hrG
        have hz : (r : Int) < (n : Int) := by omega
        go_wp2
        go_loopg [11] ((n + 63) / 64) (fun g i wx => w2 = wx ∧ ∃ k : Nat, k ≤ (n + 63) / 64 ∧ g = (n + 63) / 64 - k ∧ i = .int .i64 k)
        case atStart => exact ⟨rfl, 0, Nat.zero_le _, rfl, rfl⟩
        case round =>
          obtain ⟨rfl, k, hkn, rfl, rfl⟩ := hrel
          by_cases hkG : k < (n + 63) / 64
          · have hkz : (k : Int) < ((n : Int) + 63) / 64 := by omega
            have c2 := (hG.words r hrG k hkG).1
            by_cases hle : n < 64 * k + 64
            · have hwant := want_small hle
              go_wp2
              go_roundg ((n + 63) / 64 - (k + 1))
              case measure => go_light; omega
              case rel => go_light; exact ⟨rfl, k + 1, by omega, rfl, by go_num⟩
            · have hwant := want_big (Nat.le_of_not_lt hle)
              go_wp2
              go_roundg ((n + 63) / 64 - (k + 1))
              case measure => go_light; omega
              case rel => go_light; exact ⟨rfl, k + 1, by omega, rfl, by go_num⟩
          · obtain rfl : k = (n + 63) / 64 := by omega
            go_wp2
            go_roundg (n - (r + 1))
            case measure => go_light; omega
            case rel => go_light; exact ⟨rfl, r + 1, by omega, rfl, by go_num⟩
      · obtain rfl : r = n := by omega
        go_wp2
        go_ret
        exact ⟨rfl, hO.since.trans (hb.mono hO.since.size)⟩
end Go.Proofs.Qxb6604319a
