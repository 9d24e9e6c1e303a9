/-
  The four size guards 'zzBytes_..' only read, and answer some bool.
-/
import Derived.Test.Qxb6604319aMat
namespace Go.Proofs.Qxb6604319a
open Go.RowKit

def BytesPost (w : World) (e : Ending) (w' : World) : Prop := ∃ b, e = .returned (.bool b) ∧ w = w'
theorem bytes_mk (w : World) (b : Bool) : BytesPost w (.returned (.bool b)) w := ⟨b, rfl, rfl⟩

set_option maxHeartbeats 1000000 in
theorem bytes9_any {w : World} {ca : Option Addr} {gb go len : Nat} {A : Nat → Option Addr} {L C RB RO : Nat → Nat} {V : Nat → Nat → Nat} (h : RowsIn w ca gb go len A L C RB RO V) (cap : Nat) (n hh p : Int) :
    Calls Try.prog 9 #[.int .i64 n, .int .i64 hh, .slice ca len cap, .int .i64 p] w fun e w' => BytesPost w e w' := by
  have hlm := h.lmax
  by_cases h1 : 1048576 < len
  · go_enter Try.func9, Try.ntmps9
    go_wp2
    go_ret
    exact bytes_mk _ _
  · go_enter Try.func9, Try.ntmps9
    go_wp2
    go_loopg [9, 10] len (fun gh t i wx => w = wx ∧ ∃ (k : Nat) (z : Int), k ≤ len ∧ gh = len - k ∧ t = .int .i64 z ∧ i = .int .i64 k ∧ 0 ≤ z ∧ z ≤ 1048576)
    case atStart => exact ⟨rfl, 0, _, Nat.zero_le _, rfl, rfl, rfl, by omega, by omega⟩
    case round =>
      obtain ⟨rfl, k, z, hk, rfl, rfl, rfl, z0, z1⟩ := hrel
      by_cases hkl : k < len
      · obtain rfl := h.addr (by omega)
        have hz : (k : Int) < (len : Int) := by omega
        have c1 := h.row k hkl
        have hm := h.rmax k hkl
        by_cases hb : 1048576 < L k
        · go_wp2
          go_ret
          exact bytes_mk _ _
        · by_cases hs : 1048576 < z + (L k : Int)
          · go_wp2
            go_ret
            exact bytes_mk _ _
          · go_wp2
            go_roundg (len - (k + 1))
            case measure => go_light; omega
            case rel => go_light; exact ⟨rfl, k + 1, _, by omega, rfl, rfl, by go_num, by omega, by omega⟩
      · go_wp2
        go_ret
        exact bytes_mk _ _

set_option maxHeartbeats 1000000 in
theorem bytes16_any {w : World} {ca : Option Addr} {gb go len : Nat} {A : Nat → Option Addr} {L C RB RO : Nat → Nat} {V : Nat → Nat → Nat} (h : RowsIn w ca gb go len A L C RB RO V) (cap : Nat) (n hh p q r : Int) :
    Calls Try.prog 16 #[.int .i64 n, .int .i64 hh, .slice ca len cap, .int .i64 p, .int .i64 q, .int .i64 r] w fun e w' => BytesPost w e w' := by
  have hlm := h.lmax
  by_cases h1 : 1048576 < len
  · go_enter Try.func16, Try.ntmps16
    go_wp2
    go_ret
    exact bytes_mk _ _
  · go_enter Try.func16, Try.ntmps16
    go_wp2
    go_loopg [13, 14] len (fun gh t i wx => w = wx ∧ ∃ (k : Nat) (z : Int), k ≤ len ∧ gh = len - k ∧ t = .int .i64 z ∧ i = .int .i64 k ∧ 0 ≤ z ∧ z ≤ 1048576)
    case atStart => exact ⟨rfl, 0, _, Nat.zero_le _, rfl, rfl, rfl, by omega, by omega⟩
    case round =>
      obtain ⟨rfl, k, z, hk, rfl, rfl, rfl, z0, z1⟩ := hrel
      by_cases hkl : k < len
      · obtain rfl := h.addr (by omega)
        have hz : (k : Int) < (len : Int) := by omega
        have c1 := h.row k hkl
        have hm := h.rmax k hkl
        by_cases hb : 1048576 < L k
        · go_wp2
          go_ret
          exact bytes_mk _ _
        · by_cases hs : 1048576 < z + (L k : Int)
          · go_wp2
            go_ret
            exact bytes_mk _ _
          · go_wp2
            go_roundg (len - (k + 1))
            case measure => go_light; omega
            case rel => go_light; exact ⟨rfl, k + 1, _, by omega, rfl, rfl, by go_num, by omega, by omega⟩
      · go_wp2
        go_ret
        exact bytes_mk _ _

set_option maxHeartbeats 1000000 in
theorem bytes17_any {w : World} {ca : Option Addr} {gb go len : Nat} {A : Nat → Option Addr} {L C RB RO : Nat → Nat} {V : Nat → Nat → Nat} (h : RowsIn w ca gb go len A L C RB RO V) (cap : Nat) (n hh p q : Int) :
    Calls Try.prog 17 #[.int .i64 n, .int .i64 hh, .slice ca len cap, .int .i64 p, .int .i64 q] w fun e w' => BytesPost w e w' := by
  have hlm := h.lmax
  by_cases h1 : 1048576 < len
  · go_enter Try.func17, Try.ntmps17
    go_wp2
    go_ret
    exact bytes_mk _ _
  · go_enter Try.func17, Try.ntmps17
    go_wp2
    go_loopg [11, 12] len (fun gh t i wx => w = wx ∧ ∃ (k : Nat) (z : Int), k ≤ len ∧ gh = len - k ∧ t = .int .i64 z ∧ i = .int .i64 k ∧ 0 ≤ z ∧ z ≤ 1048576)
    case atStart => exact ⟨rfl, 0, _, Nat.zero_le _, rfl, rfl, rfl, by omega, by omega⟩
    case round =>
      obtain ⟨rfl, k, z, hk, rfl, rfl, rfl, z0, z1⟩ := hrel
      by_cases hkl : k < len
      · obtain rfl := h.addr (by omega)
        have hz : (k : Int) < (len : Int) := by omega
        have c1 := h.row k hkl
        have hm := h.rmax k hkl
        by_cases hb : 1048576 < L k
        · go_wp2
          go_ret
          exact bytes_mk _ _
        · by_cases hs : 1048576 < z + (L k : Int)
          · go_wp2
            go_ret
            exact bytes_mk _ _
          · go_wp2
            go_roundg (len - (k + 1))
            case measure => go_light; omega
            case rel => go_light; exact ⟨rfl, k + 1, _, by omega, rfl, rfl, by go_num, by omega, by omega⟩
      · go_wp2
        go_ret
        exact bytes_mk _ _

set_option maxHeartbeats 1000000 in
theorem bytes19_any {w : World} {ca : Option Addr} {gb go len : Nat} {A : Nat → Option Addr} {L C RB RO : Nat → Nat} {V : Nat → Nat → Nat} (h : RowsIn w ca gb go len A L C RB RO V) (cap : Nat) (n hh p : Int) :
    Calls Try.prog 19 #[.int .i64 n, .int .i64 hh, .slice ca len cap, .int .i64 p] w fun e w' => BytesPost w e w' := by
  have hlm := h.lmax
  by_cases h1 : 1048576 < len
  · go_enter Try.func19, Try.ntmps19
    go_wp2
    go_ret
    exact bytes_mk _ _
  · go_enter Try.func19, Try.ntmps19
    go_wp2
    go_loopg [9, 10] len (fun gh t i wx => w = wx ∧ ∃ (k : Nat) (z : Int), k ≤ len ∧ gh = len - k ∧ t = .int .i64 z ∧ i = .int .i64 k ∧ 0 ≤ z ∧ z ≤ 1048576)
    case atStart => exact ⟨rfl, 0, _, Nat.zero_le _, rfl, rfl, rfl, by omega, by omega⟩
    case round =>
      obtain ⟨rfl, k, z, hk, rfl, rfl, rfl, z0, z1⟩ := hrel
      by_cases hkl : k < len
      · obtain rfl := h.addr (by omega)
        have hz : (k : Int) < (len : Int) := by omega
        have c1 := h.row k hkl
        have hm := h.rmax k hkl
        by_cases hb : 1048576 < L k
        · go_wp2
          go_ret
          exact bytes_mk _ _
        · by_cases hs : 1048576 < z + (L k : Int)
          · go_wp2
            go_ret
            exact bytes_mk _ _
          · go_wp2
            go_roundg (len - (k + 1))
            case measure => go_light; omega
            case rel => go_light; exact ⟨rfl, k + 1, _, by omega, rfl, rfl, by go_num, by omega, by omega⟩
      · go_wp2
        go_ret
        exact bytes_mk _ _
end Go.Proofs.Qxb6604319a
