/-
  A [][]uint64 in memory ('RowsIn'), and the functions of the laws that only read it: zzWordsOver, zzShapeOK, zzEdge, zzSymmetric.
-/
import Derived.Test.Qxb6604319aDist
namespace Go.Proofs.Qxb6604319a
open Go.RowKit

/-- WHAT THE WALKS ARE TOLD OF A [][]uint64: 'len' rows; row r is the slice at A r of L r words V r c. -/
structure RowsIn (w : World) (ca : Option Addr) (gb go len : Nat) (A : Nat → Option Addr) (L C RB RO : Nat → Nat) (V : Nat → Nat → Nat) : Prop where
  lmax : len ≤ 9223372036854775807
  addr : 0 < len → ca = some ⟨gb, go, none⟩
  row : ∀ r, r < len → w.cell? ⟨gb, go + r, none⟩ = some (.slice (A r) (L r) (C r))
  rmax : ∀ r, r < len → L r ≤ 9223372036854775807
  word : ∀ r, r < len → ∀ c, c < L r → A r = some ⟨RB r, RO r, none⟩ ∧ w.cell? ⟨RB r, RO r + c, none⟩ = some (.int .u64 (V r c)) ∧ V r c < 2 ^ 64

theorem RowsIn.later {w w' : World} {ca : Option Addr} {gb go len : Nat} {A : Nat → Option Addr} {L C RB RO : Nat → Nat} {V : Nat → Nat → Nat} (h : RowsIn w ca gb go len A L C RB RO V) (hb : Below w.heap.size w w') :
    RowsIn w' ca gb go len A L C RB RO V :=
  ⟨h.lmax, h.addr, fun r hr => cell_keep hb (h.row r hr), h.rmax, fun r hr c hc => ⟨(h.word r hr c hc).1, cell_keep hb (h.word r hr c hc).2.1, (h.word r hr c hc).2.2⟩⟩

set_option maxHeartbeats 1000000 in
theorem words_any {w : World} {ca : Option Addr} {gb go len : Nat} {A : Nat → Option Addr} {L C RB RO : Nat → Nat} {V : Nat → Nat → Nat} (h : RowsIn w ca gb go len A L C RB RO V) (cap : Nat) :
    Calls Try.prog 10 #[.slice ca len cap, .int .i64 1048576] w fun e w' => ∃ b, e = .returned (.bool b) ∧ w = w' ∧ (b = false → ∀ r, r < len → L r ≤ 1048576) := by
  have hlm := h.lmax
  by_cases h1 : 131072 < len
  · go_enter Try.func10, Try.ntmps10
    go_wp2
    all_goals
      go_ret
      exact ⟨true, rfl, rfl, fun e => by cases e⟩
  · go_enter Try.func10, Try.ntmps10
    go_wp2
    go_loopg [5, 6] len (fun gh t i wx => w = wx ∧ ∃ (k : Nat) (z : Int), k ≤ len ∧ gh = len - k ∧ t = .int .i64 z ∧ i = .int .i64 k ∧ 0 ≤ z ∧ z ≤ 1048576 ∧ ∀ r, r < k → L r ≤ 1048576)
    case atStart => exact ⟨rfl, 0, _, Nat.zero_le _, rfl, rfl, rfl, by omega, by omega, fun r hr => absurd hr (Nat.not_lt_zero _)⟩
    case round =>
      obtain ⟨rfl, k, z, hk, rfl, rfl, rfl, z0, z1, hall⟩ := hrel
      by_cases hkl : k < len
      · obtain rfl := h.addr (by omega)
        have hz : (k : Int) < (len : Int) := by omega
        have c1 := h.row k hkl
        have hm := h.rmax k hkl
        have HA : Hid (∀ r, r < k → L r ≤ 1048576) := hall
        clear hall
        by_cases hb : 1048576 < L k
        · go_wp2
          go_ret
          exact ⟨true, rfl, rfl, fun e => by cases e⟩
        · by_cases hs : 1048576 < z + 8 * (L k : Int)
          · go_wp2
            go_ret
            exact ⟨true, rfl, rfl, fun e => by cases e⟩
          · go_wp2
            go_roundg (len - (k + 1))
            case measure => go_light; omega
            case rel =>
              go_light
              refine ⟨rfl, k + 1, _, by omega, rfl, rfl, by go_num, by omega, by omega, fun r hr => ?_⟩
              by_cases e : r = k
              · subst e; omega
              · exact HA.out r (by omega)
      · go_wp2
        go_ret
        exact ⟨false, rfl, rfl, fun _ r hr => hall r (by omega)⟩

/-- What zzShapeOK tells where it answers true. -/
def ShapePost (w : World) (len : Nat) (L : Nat → Nat) (n : Int) (e : Ending) (w' : World) : Prop :=
  ∃ b, e = .returned (.bool b) ∧ w = w' ∧ (b = true → n = len ∧ len ≤ 65536 ∧ ∀ r, r < len → (len + 63) / 64 ≤ L r)

theorem shape_no (w : World) (len : Nat) (L : Nat → Nat) (n : Int) : ShapePost w len L n (.returned (.bool false)) w := ⟨false, rfl, rfl, fun e => by cases e⟩
theorem shape_yes {w : World} {len : Nat} {L : Nat → Nat} (h1 : len ≤ 65536) (h2 : ∀ r, r < len → (len + 63) / 64 ≤ L r) : ShapePost w len L len (.returned (.bool true)) w := ⟨true, rfl, rfl, fun _ => ⟨rfl, h1, h2⟩⟩

set_option maxHeartbeats 1000000 in
theorem shape_any {w : World} {ca : Option Addr} {gb go len : Nat} {A : Nat → Option Addr} {L C RB RO : Nat → Nat} {V : Nat → Nat → Nat} (h : RowsIn w ca gb go len A L C RB RO V) (cap : Nat) (n : Int) :
    Calls Try.prog 11 #[.int .i64 n, .slice ca len cap] w fun e w' => ShapePost w len L n e w' := by
  have hlm := h.lmax
  by_cases h1 : n < 0
  · have d1 : decide (n < 0) = true := by simpa using h1
    go_enter Try.func11, Try.ntmps11
    go_wp2
    go_ret
    exact shape_no _ _ _ _
  · have d1 : decide (n < 0) = false := by simp; omega
    by_cases h2 : 65536 < n
    · have d2 : decide (65536 < n) = true := by simpa using h2
      go_enter Try.func11, Try.ntmps11
      go_wp2
      go_ret
      exact shape_no _ _ _ _
    · have d2 : decide (65536 < n) = false := by simp; omega
      by_cases h3 : (len : Int) = n
      · subst h3
        have d3 : ((len : Int) != (len : Int)) = false := by simp
        go_enter Try.func11, Try.ntmps11
        go_wp2
        go_loopg [6] len (fun gh i wx => w = wx ∧ ∃ (k : Nat), k ≤ len ∧ gh = len - k ∧ i = .int .i64 k ∧ ∀ r, r < k → (len + 63) / 64 ≤ L r)
        case atStart => exact ⟨rfl, 0, Nat.zero_le _, rfl, rfl, fun r hr => absurd hr (Nat.not_lt_zero _)⟩
        case round =>
          obtain ⟨rfl, k, hk, rfl, rfl, hall⟩ := hrel
          by_cases hkl : k < len
          · obtain rfl := h.addr (by omega)
            have hz : (k : Int) < (len : Int) := by omega
            have c1 := h.row k hkl
            have hm := h.rmax k hkl
            have HA : Hid (∀ r, r < k → (len + 63) / 64 ≤ L r) := hall
            clear hall
            by_cases hb : L k < (len + 63) / 64
            · go_wp2
              go_ret
              exact shape_no _ _ _ _
            · go_wp2
              go_roundg (len - (k + 1))
              case measure => go_light; omega
              case rel =>
                go_light
                refine ⟨rfl, k + 1, by omega, rfl, by go_num, fun r hr => ?_⟩
                by_cases e : r = k
                · subst e; omega
                · exact HA.out r (by omega)
          · go_wp2
            go_ret
            exact shape_yes (by omega) (fun r hr => hall r (by omega))
      · have d3 : ((len : Int) != n) = true := by simp [h3]
        clear h3
        go_enter Try.func11, Try.ntmps11
        go_wp2
        go_ret
        exact shape_no _ _ _ _

theorem div_cast (x k : Nat) : ((x / 2 ^ k : Nat) : Int) = (x : Int) / 2 ^ k := by rw [pow_cast]; exact Int.natCast_ediv x (2 ^ k)

set_option maxHeartbeats 1000000 in
theorem edge_any {w : World} {ca : Option Addr} {gb go len : Nat} {A : Nat → Option Addr} {L C RB RO : Nat → Nat} {V : Nat → Nat → Nat} (h : RowsIn w ca gb go len A L C RB RO V) (hlen : len ≤ 65536) (hL : ∀ r, r < len → (len + 63) / 64 ≤ L r) (cap : Nat)
    (a b : Nat) (ha : a < len) (hb : b < len) :
    Calls Try.prog 15 #[.slice ca len cap, .int .i64 ((a : Int) + 1), .int .i64 ((b : Int) + 1)] w fun e w' => e = .returned (.bool (edgeB len V a b)) ∧ w = w' := by
  obtain rfl := h.addr (by omega)
  have hpa : partyB len ((a : Int) + 1) = true := by simp [partyB]; omega
  have hpb : partyB len ((b : Int) + 1) = true := by simp [partyB]; omega
  by_cases e : a = b
  · subst e
    go_enter Try.func15, Try.ntmps15
    go_wp2
    go_ret
    exact ⟨ret_bool (by simp [edgeB, adjB]), rfl⟩
  · have e1 : ((a : Int) + 1 == (b : Int) + 1) = false := by rw [beq_eq_false_iff_ne]; omega
    have hLa := hL a ha
    have hm := h.rmax a ha
    obtain ⟨hA, hc, hv⟩ := h.word a ha (b / 64) (by omega)
    have c1 := h.row a ha
    rw [hA] at c1
    have HV : Hid (V a (b / 64) < 2 ^ 64) := hv
    have HF : Hid (edgeB len V a b = (V a (b / 64)).testBit (b % 64)) := by
      have f1 : ((a : Int) + 1 - 1).toNat = a := by omega
      have f2 : ((b : Int) + 1 - 1).toNat = b := by omega
      show edgeB len V a b = (V a (b / 64)).testBit (b % 64)
      simp only [edgeB, adjB, hpa, hpb, bitAt, f1, f2, e1, Bool.not_false, Bool.true_and]
    clear hv hA hpa hpb hL e
    go_enter Try.func15, Try.ntmps15
    go_wp2
    go_ret
    refine ⟨ret_bool ?_, rfl⟩
    rw [HF.out, ← edge_bit HV.out, div_cast]
/-- What zzSymmetric tells where it answers true. -/
def SymPost (w : World) (len : Nat) (V : Nat → Nat → Nat) (e : Ending) (w' : World) : Prop :=
  ∃ b, e = .returned (.bool b) ∧ w = w' ∧ (b = true → ∀ i j, i < len → j < len → edgeB len V i j = edgeB len V j i)

theorem sym_no (w : World) (len : Nat) (V : Nat → Nat → Nat) : SymPost w len V (.returned (.bool false)) w := ⟨false, rfl, rfl, fun e => by cases e⟩
theorem sym_yes {w : World} {len : Nat} {V : Nat → Nat → Nat} (h : ∀ i, i < len → ∀ j, i < j → j < len → edgeB len V i j = edgeB len V j i) : SymPost w len V (.returned (.bool true)) w :=
  ⟨true, rfl, rfl, fun _ i j hi hj => by
    rcases Nat.lt_trichotomy i j with hlt | rfl | hlt
    · exact h i hi j hlt hj
    · rfl
    · exact (h j hj i hlt hi).symm⟩

set_option maxHeartbeats 1000000 in
theorem sym_any {w : World} {ca : Option Addr} {gb go len : Nat} {A : Nat → Option Addr} {L C RB RO : Nat → Nat} {V : Nat → Nat → Nat} (h : RowsIn w ca gb go len A L C RB RO V) (hlen : len ≤ 65536) (hL : ∀ r, r < len → (len + 63) / 64 ≤ L r) (cap : Nat) :
    Calls Try.prog 18 #[.int .i64 len, .slice ca len cap] w fun e w' => SymPost w len V e w' := by
  go_enter Try.func18, Try.ntmps18
  go_wp2
  go_loopg [5] len (fun gh i wx => w = wx ∧ ∃ (k : Nat), k ≤ len ∧ gh = len - k ∧ i = .int .i64 ((k : Int) + 1) ∧ Hid (∀ i, i < k → ∀ j, i < j → j < len → edgeB len V i j = edgeB len V j i))
  case atStart => exact ⟨rfl, 0, Nat.zero_le _, rfl, rfl, fun r hr => absurd hr (Nat.not_lt_zero _)⟩
  case round =>
    obtain ⟨rfl, k, hk, rfl, rfl, hall⟩ := hrel
    by_cases hkl : k < len
    · have hz : (k : Int) + 1 ≤ (len : Int) := by omega
      go_wp2
      go_loopg [6] (len - (k + 1)) (fun gh i wx => w = wx ∧ ∃ (m : Nat), k < m ∧ m ≤ len ∧ gh = len - m ∧ i = .int .i64 ((m : Int) + 1) ∧ Hid (∀ j, k < j → j < m → edgeB len V k j = edgeB len V j k))
      case atStart => exact ⟨rfl, k + 1, by omega, by omega, rfl, by go_num, fun j h1 h2 => absurd h2 (by omega)⟩
      case round =>
        obtain ⟨rfl, m, hkm, hm, rfl, rfl, hin⟩ := hrel
        by_cases hml : m < len
        · cases he1 : edgeB len V k m <;> cases he2 : edgeB len V m k
          all_goals
            go_wp2_with fail
            refine (edge_any h hlen hL cap k m (by omega) (by omega)).mono ?_
            rintro e w' ⟨rfl, rfl⟩
            go_wp2_with fail
            refine (edge_any h hlen hL cap m k (by omega) (by omega)).mono ?_
            rintro e w' ⟨rfl, rfl⟩
            go_wp2_with fail
          · go_roundg (len - (m + 1))
            case measure => go_light; omega
            case rel =>
              go_light
              refine ⟨rfl, m + 1, by omega, by omega, rfl, by go_num, fun j h1 h2 => ?_⟩
              by_cases e : j = m
              · subst e; rw [he1, he2]
              · exact hin.out j h1 (by omega)
          · go_ret
            exact sym_no _ _ _
          · go_ret
            exact sym_no _ _ _
          · go_roundg (len - (m + 1))
            case measure => go_light; omega
            case rel =>
              go_light
              refine ⟨rfl, m + 1, by omega, by omega, rfl, by go_num, fun j h1 h2 => ?_⟩
              by_cases e : j = m
              · subst e; rw [he1, he2]
              · exact hin.out j h1 (by omega)
        · go_wp2_with fail
          go_roundg (len - (k + 1))
          case measure => go_light; omega
          case rel =>
            go_light
            refine ⟨rfl, k + 1, by omega, rfl, by go_num, fun i hi j h1 h2 => ?_⟩
            by_cases e : i = k
            · subst e; exact hin.out j h1 (by omega)
            · exact hall.out i (by omega) j h1 h2
    · go_wp2
      go_ret
      exact sym_yes (fun i hi => hall.out i (by omega))
end Go.Proofs.Qxb6604319a
