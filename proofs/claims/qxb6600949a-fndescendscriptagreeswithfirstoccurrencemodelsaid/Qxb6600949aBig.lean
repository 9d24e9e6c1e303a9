/-
  zzB1TooBig: where it answers false, no slice is longer than 65536.
-/
import Derived.Test.Qxb6600949aArgs
namespace Go.Proofs.Qxb6600949a
open Go.RowKit Go.MapKept

def TbPost (w : World) (l1 l2 l3 l4 l5 l6 l7 : Nat) (e : Ending) (w' : World) : Prop :=
  ∃ b, e = .returned (.bool b) ∧ w = w' ∧ (b = false → l1 ≤ 65536 ∧ l2 ≤ 65536 ∧ l3 ≤ 65536 ∧ l4 ≤ 65536 ∧ l5 ≤ 65536 ∧ l6 ≤ 65536 ∧ l7 ≤ 65536)

theorem tb_yes (w : World) (l1 l2 l3 l4 l5 l6 l7 : Nat) : TbPost w l1 l2 l3 l4 l5 l6 l7 (.returned (.bool true)) w := ⟨true, rfl, rfl, fun h => by cases h⟩
theorem tb_mk {w : World} {l1 l2 l3 l4 l5 l6 l7 : Nat} (b : Bool) (h1 : l1 ≤ 65536) (h2 : l2 ≤ 65536) (h3 : l3 ≤ 65536) (h4 : l4 ≤ 65536) (h5 : l5 ≤ 65536) (h6 : l6 ≤ 65536) (h7 : l7 ≤ 65536) :
    TbPost w l1 l2 l3 l4 l5 l6 l7 (.returned (.bool b)) w := ⟨b, rfl, rfl, fun _ => ⟨h1, h2, h3, h4, h5, h6, h7⟩⟩

set_option maxHeartbeats 2000000 in
set_option maxRecDepth 100000 in
theorem tb_any {w : World} {a1 a2 a3 a4 a5 a6 a7 : Option Addr} {b1 o1 l1 b3 o3 l3 b5 o5 l5 b6 o6 l6 l2 l4 l7 : Nat} {S1 S3 S5 S6 : Nat → ByteArray}
    (h1 : StrsIn w a1 b1 o1 l1 S1) (m2 : l2 ≤ 9223372036854775807) (h3 : StrsIn w a3 b3 o3 l3 S3) (m4 : l4 ≤ 9223372036854775807) (h5 : StrsIn w a5 b5 o5 l5 S5) (h6 : StrsIn w a6 b6 o6 l6 S6) (m7 : l7 ≤ 9223372036854775807)
    (k1 k2 k3 k4 k5 k6 k7 : Nat) (x : Int) :
    Calls Try.prog 6 #[.slice a1 l1 k1, .slice a2 l2 k2, .slice a3 l3 k3, .slice a4 l4 k4, .slice a5 l5 k5, .slice a6 l6 k6, .slice a7 l7 k7, .int .i64 x] w fun e w' => TbPost w l1 l2 l3 l4 l5 l6 l7 e w' := by
  have m1 := h1.lmax
  have m3 := h3.lmax
  have m5 := h5.lmax
  have m6 := h6.lmax
  by_cases g1 : 65536 < l1
  · have e1 : decide ((65536 : Int) < (l1 : Int)) = true := by simp; omega
    go_enter Try.func6, Try.ntmps6
    go_wp2
    go_ret
    exact tb_yes _ _ _ _ _ _ _ _
  have e1 : decide ((65536 : Int) < (l1 : Int)) = false := by simp; omega
  by_cases g2 : 65536 < l2
  · have e2 : decide ((65536 : Int) < (l2 : Int)) = true := by simp; omega
    go_enter Try.func6, Try.ntmps6
    go_wp2
    go_ret
    exact tb_yes _ _ _ _ _ _ _ _
  have e2 : decide ((65536 : Int) < (l2 : Int)) = false := by simp; omega
  by_cases g3 : 65536 < l3
  · have e3 : decide ((65536 : Int) < (l3 : Int)) = true := by simp; omega
    go_enter Try.func6, Try.ntmps6
    go_wp2
    go_ret
    exact tb_yes _ _ _ _ _ _ _ _
  have e3 : decide ((65536 : Int) < (l3 : Int)) = false := by simp; omega
  by_cases g4 : 65536 < l4
  · have e4 : decide ((65536 : Int) < (l4 : Int)) = true := by simp; omega
    go_enter Try.func6, Try.ntmps6
    go_wp2
    go_ret
    exact tb_yes _ _ _ _ _ _ _ _
  have e4 : decide ((65536 : Int) < (l4 : Int)) = false := by simp; omega
  by_cases g5 : 65536 < l5
  · have e5 : decide ((65536 : Int) < (l5 : Int)) = true := by simp; omega
    go_enter Try.func6, Try.ntmps6
    go_wp2
    go_ret
    exact tb_yes _ _ _ _ _ _ _ _
  have e5 : decide ((65536 : Int) < (l5 : Int)) = false := by simp; omega
  by_cases g6 : 65536 < l6
  · have e6 : decide ((65536 : Int) < (l6 : Int)) = true := by simp; omega
    go_enter Try.func6, Try.ntmps6
    go_wp2
    go_ret
    exact tb_yes _ _ _ _ _ _ _ _
  have e6 : decide ((65536 : Int) < (l6 : Int)) = false := by simp; omega
  by_cases g7 : 65536 < l7
  · have e7 : decide ((65536 : Int) < (l7 : Int)) = true := by simp; omega
    go_enter Try.func6, Try.ntmps6
    go_wp2
    go_ret
    exact tb_yes _ _ _ _ _ _ _ _
  have e7 : decide ((65536 : Int) < (l7 : Int)) = false := by simp; omega
  by_cases gx : x < 0
  · have e8 : decide (x < 0) = true := by simpa using gx
    go_enter Try.func6, Try.ntmps6
    go_wp2
    go_ret
    exact tb_yes _ _ _ _ _ _ _ _
  have e8 : decide (x < 0) = false := by simp; omega
  by_cases gy : 1048576 < x
  · have e9 : decide (1048576 < x) = true := by simpa using gy
    go_enter Try.func6, Try.ntmps6
    go_wp2
    go_ret
    exact tb_yes _ _ _ _ _ _ _ _
  have e9 : decide (1048576 < x) = false := by simp; omega
  go_enter Try.func6, Try.ntmps6
  go_wp2_with fail
  refine (sb_any h1 k1).mono ?_
  rintro e w' ⟨n1, rfl, rfl⟩
  go_wp2_with fail
  refine (sb_any h3 k3).mono ?_
  rintro e w' ⟨n3, rfl, rfl⟩
  go_wp2_with fail
  refine (sb_any h5 k5).mono ?_
  rintro e w' ⟨n5, rfl, rfl⟩
  go_wp2_with fail
  refine (sb_any h6 k6).mono ?_
  rintro e w' ⟨n6, rfl, rfl⟩
  go_wp2_with fail
  go_ret
  exact tb_mk _ (by omega) (by omega) (by omega) (by omega) (by omega) (by omega) (by omega)
end Go.Proofs.Qxb6600949a
