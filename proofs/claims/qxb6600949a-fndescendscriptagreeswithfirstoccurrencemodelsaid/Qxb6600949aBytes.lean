/-
  The two size guards 'zzBytes_..' only read, and answer some bool.
-/
import Derived.Test.Qxb6600949aArgs
namespace Go.Proofs.Qxb6600949a
open Go.RowKit Go.MapKept

def ByPost (w : World) (e : Ending) (w' : World) : Prop := ∃ b, e = .returned (.bool b) ∧ w = w'
theorem by_mk (w : World) (b : Bool) : ByPost w (.returned (.bool b)) w := ⟨b, rfl, rfl⟩

set_option maxHeartbeats 4000000 in
set_option maxRecDepth 100000 in
theorem bytes15_any {w : World} (st : Int) {a1 : Option Addr} {b1 o1 l1 : Nat} {S1 : Nat → ByteArray} (h1 : StrsIn w a1 b1 o1 l1 S1) (c1 : Nat) {a2 : Option Addr} {l2 : Nat} (m2 : l2 ≤ 9223372036854775807) (c2 : Nat) {a3 : Option Addr} {b3 o3 l3 : Nat} {S3 : Nat → ByteArray} (h3 : StrsIn w a3 b3 o3 l3 S3) (c3 : Nat) {a4 : Option Addr} {l4 : Nat} (m4 : l4 ≤ 9223372036854775807) (c4 : Nat) {a5 : Option Addr} {b5 o5 l5 : Nat} {S5 : Nat → ByteArray} (h5 : StrsIn w a5 b5 o5 l5 S5) (c5 : Nat) (s6 : ByteArray) (m6 : s6.size ≤ 9223372036854775807) (n7 : Int) (s8 : ByteArray) (m8 : s8.size ≤ 9223372036854775807) (n9 : Int) :
    Calls Try.prog 15 #[.int .i64 st, .slice a1 l1 c1, .slice a2 l2 c2, .slice a3 l3 c3, .slice a4 l4 c4, .slice a5 l5 c5, .string s6, .int .i64 n7, .string s8, .int .i64 n9] w fun e w' => ByPost w e w' := by
  have m1 := h1.lmax
  have m3 := h3.lmax
  have m5 := h5.lmax
  go_enter Try.func15, Try.ntmps15
  cases e1 : decide ((1048576 : Int) < (l1 : Int))
  case true =>
    go_wp2
    go_ret
    exact by_mk _ _
  have e1n : (l1 : Int) ≤ 1048576 := by simpa using e1
  go_wp2
  go_loopg [21, 22] l1 (fun gh t i wx => w = wx ∧ ∃ (k : Nat) (z : Int), k ≤ l1 ∧ gh = l1 - k ∧ t = .int .i64 z ∧ i = .int .i64 k ∧ 0 ≤ z ∧ z ≤ 1048576)
  case atStart => exact ⟨rfl, 0, _, Nat.zero_le _, rfl, rfl, rfl, by omega, by omega⟩
  case round =>
    obtain ⟨rfl, k, z1, hk, rfl, rfl, rfl, zlo1, zhi1⟩ := hrel
    by_cases hkl : k < l1
    · obtain rfl := h1.addr (by omega)
      have hz : (k : Int) < (l1 : Int) := by omega
      have q1 := h1.cell k hkl
      have qm := h1.smax k hkl
      by_cases hb : 1048576 < (S1 k).size
      · go_wp2
        go_ret
        exact by_mk _ _
      · by_cases hs : 1048576 < z1 + ((S1 k).size : Int)
        · go_wp2
          go_ret
          exact by_mk _ _
        · go_wp2
          go_roundg (l1 - (k + 1))
          case measure => go_light; omega
          case rel => go_light; exact ⟨rfl, k + 1, _, by omega, rfl, rfl, by go_num, by omega, by omega⟩
    have hkx : (l1 : Int) ≤ (k : Int) := by omega
    have hkd1 : decide (k < l1) = false := by simp; omega
    clear hkl
    cases e2 : decide ((1048576 : Int) < (l2 : Int))
    case true =>
      go_wp2
      go_ret
      exact by_mk _ _
    have e2n : (l2 : Int) ≤ 1048576 := by simpa using e2
    cases e3 : decide ((1048576 : Int) < z1 + (l2 : Int))
    case true =>
      go_wp2
      go_ret
      exact by_mk _ _
    have e3n : z1 + (l2 : Int) ≤ 1048576 := by simpa using e3
    cases e4 : decide ((1048576 : Int) < (l3 : Int))
    case true =>
      go_wp2
      go_ret
      exact by_mk _ _
    have e4n : (l3 : Int) ≤ 1048576 := by simpa using e4
    cases e5 : decide ((1048576 : Int) < (z1 + (l2 : Int)) + (l3 : Int))
    case true =>
      go_wp2
      go_ret
      exact by_mk _ _
    have e5n : (z1 + (l2 : Int)) + (l3 : Int) ≤ 1048576 := by simpa using e5
    go_wp2
    go_loopg [21, 23] l3 (fun gh t i wx => w = wx ∧ ∃ (k : Nat) (z : Int), k ≤ l3 ∧ gh = l3 - k ∧ t = .int .i64 z ∧ i = .int .i64 k ∧ 0 ≤ z ∧ z ≤ 1048576)
    case atStart => exact ⟨rfl, 0, _, Nat.zero_le _, rfl, rfl, rfl, by omega, by omega⟩
    case round =>
      obtain ⟨rfl, k, z2, hk, rfl, rfl, rfl, zlo2, zhi2⟩ := hrel
      by_cases hkl : k < l3
      · obtain rfl := h3.addr (by omega)
        have hz : (k : Int) < (l3 : Int) := by omega
        have q1 := h3.cell k hkl
        have qm := h3.smax k hkl
        by_cases hb : 1048576 < (S3 k).size
        · go_wp2
          go_ret
          exact by_mk _ _
        · by_cases hs : 1048576 < z2 + ((S3 k).size : Int)
          · go_wp2
            go_ret
            exact by_mk _ _
          · go_wp2
            go_roundg (l3 - (k + 1))
            case measure => go_light; omega
            case rel => go_light; exact ⟨rfl, k + 1, _, by omega, rfl, rfl, by go_num, by omega, by omega⟩
      have hkx : (l3 : Int) ≤ (k : Int) := by omega
      have hkd2 : decide (k < l3) = false := by simp; omega
      clear hkl
      cases e6 : decide ((1048576 : Int) < (l4 : Int))
      case true =>
        go_wp2
        go_ret
        exact by_mk _ _
      have e6n : (l4 : Int) ≤ 1048576 := by simpa using e6
      cases e7 : decide ((1048576 : Int) < z2 + (l4 : Int))
      case true =>
        go_wp2
        go_ret
        exact by_mk _ _
      have e7n : z2 + (l4 : Int) ≤ 1048576 := by simpa using e7
      cases e8 : decide ((1048576 : Int) < (l5 : Int))
      case true =>
        go_wp2
        go_ret
        exact by_mk _ _
      have e8n : (l5 : Int) ≤ 1048576 := by simpa using e8
      cases e9 : decide ((1048576 : Int) < (z2 + (l4 : Int)) + (l5 : Int))
      case true =>
        go_wp2
        go_ret
        exact by_mk _ _
      have e9n : (z2 + (l4 : Int)) + (l5 : Int) ≤ 1048576 := by simpa using e9
      go_wp2
      go_loopg [21, 24] l5 (fun gh t i wx => w = wx ∧ ∃ (k : Nat) (z : Int), k ≤ l5 ∧ gh = l5 - k ∧ t = .int .i64 z ∧ i = .int .i64 k ∧ 0 ≤ z ∧ z ≤ 1048576)
      case atStart => exact ⟨rfl, 0, _, Nat.zero_le _, rfl, rfl, rfl, by omega, by omega⟩
      case round =>
        obtain ⟨rfl, k, z3, hk, rfl, rfl, rfl, zlo3, zhi3⟩ := hrel
        by_cases hkl : k < l5
        · obtain rfl := h5.addr (by omega)
          have hz : (k : Int) < (l5 : Int) := by omega
          have q1 := h5.cell k hkl
          have qm := h5.smax k hkl
          by_cases hb : 1048576 < (S5 k).size
          · go_wp2
            go_ret
            exact by_mk _ _
          · by_cases hs : 1048576 < z3 + ((S5 k).size : Int)
            · go_wp2
              go_ret
              exact by_mk _ _
            · go_wp2
              go_roundg (l5 - (k + 1))
              case measure => go_light; omega
              case rel => go_light; exact ⟨rfl, k + 1, _, by omega, rfl, rfl, by go_num, by omega, by omega⟩
        have hkx : (l5 : Int) ≤ (k : Int) := by omega
        have hkd3 : decide (k < l5) = false := by simp; omega
        clear hkl
        cases e10 : decide ((1048576 : Int) < (s6.size : Int))
        case true =>
          go_wp2
          go_ret
          exact by_mk _ _
        have e10n : (s6.size : Int) ≤ 1048576 := by simpa using e10
        cases e11 : decide ((1048576 : Int) < z3 + (s6.size : Int))
        case true =>
          go_wp2
          go_ret
          exact by_mk _ _
        have e11n : z3 + (s6.size : Int) ≤ 1048576 := by simpa using e11
        cases e12 : decide ((1048576 : Int) < (s8.size : Int))
        case true =>
          go_wp2
          go_ret
          exact by_mk _ _
        have e12n : (s8.size : Int) ≤ 1048576 := by simpa using e12
        cases e13 : decide ((1048576 : Int) < (z3 + (s6.size : Int)) + (s8.size : Int))
        case true =>
          go_wp2
          go_ret
          exact by_mk _ _
        have e13n : (z3 + (s6.size : Int)) + (s8.size : Int) ≤ 1048576 := by simpa using e13
        go_wp2
        go_ret
        exact by_mk _ _

set_option maxHeartbeats 4000000 in
set_option maxRecDepth 100000 in
theorem bytes5_any {w : World} (st : Int) {a1 : Option Addr} {b1 o1 l1 : Nat} {S1 : Nat → ByteArray} (h1 : StrsIn w a1 b1 o1 l1 S1) (c1 : Nat) {a2 : Option Addr} {l2 : Nat} (m2 : l2 ≤ 9223372036854775807) (c2 : Nat) {a3 : Option Addr} {b3 o3 l3 : Nat} {S3 : Nat → ByteArray} (h3 : StrsIn w a3 b3 o3 l3 S3) (c3 : Nat) {a4 : Option Addr} {l4 : Nat} (m4 : l4 ≤ 9223372036854775807) (c4 : Nat) {a5 : Option Addr} {b5 o5 l5 : Nat} {S5 : Nat → ByteArray} (h5 : StrsIn w a5 b5 o5 l5 S5) (c5 : Nat) {a6 : Option Addr} {b6 o6 l6 : Nat} {S6 : Nat → ByteArray} (h6 : StrsIn w a6 b6 o6 l6 S6) (c6 : Nat) {a7 : Option Addr} {l7 : Nat} (m7 : l7 ≤ 9223372036854775807) (c7 : Nat) :
    Calls Try.prog 5 #[.int .i64 st, .slice a1 l1 c1, .slice a2 l2 c2, .slice a3 l3 c3, .slice a4 l4 c4, .slice a5 l5 c5, .slice a6 l6 c6, .slice a7 l7 c7] w fun e w' => ByPost w e w' := by
  have m1 := h1.lmax
  have m3 := h3.lmax
  have m5 := h5.lmax
  have m6 := h6.lmax
  go_enter Try.func5, Try.ntmps5
  cases e1 : decide ((1048576 : Int) < (l1 : Int))
  case true =>
    go_wp2
    go_ret
    exact by_mk _ _
  have e1n : (l1 : Int) ≤ 1048576 := by simpa using e1
  go_wp2
  go_loopg [17, 18] l1 (fun gh t i wx => w = wx ∧ ∃ (k : Nat) (z : Int), k ≤ l1 ∧ gh = l1 - k ∧ t = .int .i64 z ∧ i = .int .i64 k ∧ 0 ≤ z ∧ z ≤ 1048576)
  case atStart => exact ⟨rfl, 0, _, Nat.zero_le _, rfl, rfl, rfl, by omega, by omega⟩
  case round =>
    obtain ⟨rfl, k, z1, hk, rfl, rfl, rfl, zlo1, zhi1⟩ := hrel
    by_cases hkl : k < l1
    · obtain rfl := h1.addr (by omega)
      have hz : (k : Int) < (l1 : Int) := by omega
      have q1 := h1.cell k hkl
      have qm := h1.smax k hkl
      by_cases hb : 1048576 < (S1 k).size
      · go_wp2
        go_ret
        exact by_mk _ _
      · by_cases hs : 1048576 < z1 + ((S1 k).size : Int)
        · go_wp2
          go_ret
          exact by_mk _ _
        · go_wp2
          go_roundg (l1 - (k + 1))
          case measure => go_light; omega
          case rel => go_light; exact ⟨rfl, k + 1, _, by omega, rfl, rfl, by go_num, by omega, by omega⟩
    have hkx : (l1 : Int) ≤ (k : Int) := by omega
    have hkd1 : decide (k < l1) = false := by simp; omega
    clear hkl
    cases e2 : decide ((1048576 : Int) < (l2 : Int))
    case true =>
      go_wp2
      go_ret
      exact by_mk _ _
    have e2n : (l2 : Int) ≤ 1048576 := by simpa using e2
    cases e3 : decide ((1048576 : Int) < z1 + (l2 : Int))
    case true =>
      go_wp2
      go_ret
      exact by_mk _ _
    have e3n : z1 + (l2 : Int) ≤ 1048576 := by simpa using e3
    cases e4 : decide ((1048576 : Int) < (l3 : Int))
    case true =>
      go_wp2
      go_ret
      exact by_mk _ _
    have e4n : (l3 : Int) ≤ 1048576 := by simpa using e4
    cases e5 : decide ((1048576 : Int) < (z1 + (l2 : Int)) + (l3 : Int))
    case true =>
      go_wp2
      go_ret
      exact by_mk _ _
    have e5n : (z1 + (l2 : Int)) + (l3 : Int) ≤ 1048576 := by simpa using e5
    go_wp2
    go_loopg [17, 19] l3 (fun gh t i wx => w = wx ∧ ∃ (k : Nat) (z : Int), k ≤ l3 ∧ gh = l3 - k ∧ t = .int .i64 z ∧ i = .int .i64 k ∧ 0 ≤ z ∧ z ≤ 1048576)
    case atStart => exact ⟨rfl, 0, _, Nat.zero_le _, rfl, rfl, rfl, by omega, by omega⟩
    case round =>
      obtain ⟨rfl, k, z2, hk, rfl, rfl, rfl, zlo2, zhi2⟩ := hrel
      by_cases hkl : k < l3
      · obtain rfl := h3.addr (by omega)
        have hz : (k : Int) < (l3 : Int) := by omega
        have q1 := h3.cell k hkl
        have qm := h3.smax k hkl
        by_cases hb : 1048576 < (S3 k).size
        · go_wp2
          go_ret
          exact by_mk _ _
        · by_cases hs : 1048576 < z2 + ((S3 k).size : Int)
          · go_wp2
            go_ret
            exact by_mk _ _
          · go_wp2
            go_roundg (l3 - (k + 1))
            case measure => go_light; omega
            case rel => go_light; exact ⟨rfl, k + 1, _, by omega, rfl, rfl, by go_num, by omega, by omega⟩
      have hkx : (l3 : Int) ≤ (k : Int) := by omega
      have hkd2 : decide (k < l3) = false := by simp; omega
      clear hkl
      cases e6 : decide ((1048576 : Int) < (l4 : Int))
      case true =>
        go_wp2
        go_ret
        exact by_mk _ _
      have e6n : (l4 : Int) ≤ 1048576 := by simpa using e6
      cases e7 : decide ((1048576 : Int) < z2 + (l4 : Int))
      case true =>
        go_wp2
        go_ret
        exact by_mk _ _
      have e7n : z2 + (l4 : Int) ≤ 1048576 := by simpa using e7
      cases e8 : decide ((1048576 : Int) < (l5 : Int))
      case true =>
        go_wp2
        go_ret
        exact by_mk _ _
      have e8n : (l5 : Int) ≤ 1048576 := by simpa using e8
      cases e9 : decide ((1048576 : Int) < (z2 + (l4 : Int)) + (l5 : Int))
      case true =>
        go_wp2
        go_ret
        exact by_mk _ _
      have e9n : (z2 + (l4 : Int)) + (l5 : Int) ≤ 1048576 := by simpa using e9
      go_wp2
      go_loopg [17, 20] l5 (fun gh t i wx => w = wx ∧ ∃ (k : Nat) (z : Int), k ≤ l5 ∧ gh = l5 - k ∧ t = .int .i64 z ∧ i = .int .i64 k ∧ 0 ≤ z ∧ z ≤ 1048576)
      case atStart => exact ⟨rfl, 0, _, Nat.zero_le _, rfl, rfl, rfl, by omega, by omega⟩
      case round =>
        obtain ⟨rfl, k, z3, hk, rfl, rfl, rfl, zlo3, zhi3⟩ := hrel
        by_cases hkl : k < l5
        · obtain rfl := h5.addr (by omega)
          have hz : (k : Int) < (l5 : Int) := by omega
          have q1 := h5.cell k hkl
          have qm := h5.smax k hkl
          by_cases hb : 1048576 < (S5 k).size
          · go_wp2
            go_ret
            exact by_mk _ _
          · by_cases hs : 1048576 < z3 + ((S5 k).size : Int)
            · go_wp2
              go_ret
              exact by_mk _ _
            · go_wp2
              go_roundg (l5 - (k + 1))
              case measure => go_light; omega
              case rel => go_light; exact ⟨rfl, k + 1, _, by omega, rfl, rfl, by go_num, by omega, by omega⟩
        have hkx : (l5 : Int) ≤ (k : Int) := by omega
        have hkd3 : decide (k < l5) = false := by simp; omega
        clear hkl
        cases e10 : decide ((1048576 : Int) < (l6 : Int))
        case true =>
          go_wp2
          go_ret
          exact by_mk _ _
        have e10n : (l6 : Int) ≤ 1048576 := by simpa using e10
        cases e11 : decide ((1048576 : Int) < z3 + (l6 : Int))
        case true =>
          go_wp2
          go_ret
          exact by_mk _ _
        have e11n : z3 + (l6 : Int) ≤ 1048576 := by simpa using e11
        go_wp2
        go_loopg [17, 21] l6 (fun gh t i wx => w = wx ∧ ∃ (k : Nat) (z : Int), k ≤ l6 ∧ gh = l6 - k ∧ t = .int .i64 z ∧ i = .int .i64 k ∧ 0 ≤ z ∧ z ≤ 1048576)
        case atStart => exact ⟨rfl, 0, _, Nat.zero_le _, rfl, rfl, rfl, by omega, by omega⟩
        case round =>
          obtain ⟨rfl, k, z4, hk, rfl, rfl, rfl, zlo4, zhi4⟩ := hrel
          by_cases hkl : k < l6
          · obtain rfl := h6.addr (by omega)
            have hz : (k : Int) < (l6 : Int) := by omega
            have q1 := h6.cell k hkl
            have qm := h6.smax k hkl
            by_cases hb : 1048576 < (S6 k).size
            · go_wp2
              go_ret
              exact by_mk _ _
            · by_cases hs : 1048576 < z4 + ((S6 k).size : Int)
              · go_wp2
                go_ret
                exact by_mk _ _
              · go_wp2
                go_roundg (l6 - (k + 1))
                case measure => go_light; omega
                case rel => go_light; exact ⟨rfl, k + 1, _, by omega, rfl, rfl, by go_num, by omega, by omega⟩
          have hkx : (l6 : Int) ≤ (k : Int) := by omega
          have hkd4 : decide (k < l6) = false := by simp; omega
          clear hkl
          cases e12 : decide ((1048576 : Int) < (l7 : Int))
          case true =>
            go_wp2
            go_ret
            exact by_mk _ _
          have e12n : (l7 : Int) ≤ 1048576 := by simpa using e12
          cases e13 : decide ((1048576 : Int) < z4 + (l7 : Int))
          case true =>
            go_wp2
            go_ret
            exact by_mk _ _
          have e13n : z4 + (l7 : Int) ≤ 1048576 := by simpa using e13
          go_wp2
          go_ret
          exact by_mk _ _
end Go.Proofs.Qxb6600949a
