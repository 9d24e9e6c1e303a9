/-
  Plain facts on 64-bit words, in the spelling that the walks leave ('bits ..', 'IntKind.u64.wrap ..'). No program in sight.
-/
import Derived.WalkKit
import Derived.Laws.BitsLemmas
namespace Go.Proofs.Qxb6604319a
open Go.RowKit

theorem two64 : (2 : Nat) ^ 64 = 18446744073709551616 := by decide

theorem wraps_u64 (n : Int) (h0 : 0 ≤ n) (h1 : n < 2 ^ 64) : IntKind.u64.wrap n = n := by
  rw [IntKind.wrap_u64]; omega

theorem pow_cast (k : Nat) : (2 : Int) ^ k = ((2 ^ k : Nat) : Int) := by simp

theorem pow_lt64 {k : Nat} (h : k < 64) : 2 ^ k < 2 ^ 64 := Nat.pow_lt_pow_right (by decide) h

/-- '1 << k' for 'k < 64'. -/
theorem shl_one {k : Nat} (h : k < 64) : IntKind.u64.wrap ((2 : Int) ^ k) = ((2 ^ k : Nat) : Int) := by
  have := pow_lt64 h
  rw [pow_cast, wraps_u64]
  · exact Int.natCast_nonneg _
  · have h2 : ((2 ^ k : Nat) : Int) < ((2 ^ 64 : Nat) : Int) := by omega
    simpa using h2

theorem and_pow (x k : Nat) : x &&& 2 ^ k = if x.testBit k then 2 ^ k else 0 := by
  apply Nat.eq_of_testBit_eq
  intro i
  rw [Nat.testBit_and, Nat.testBit_two_pow]
  by_cases e : k = i
  · subst e
    cases hb : x.testBit k <;> simp
  · cases hb : x.testBit k <;> simp [e]

/-- 's[..] & (1 << k) != 0'. -/
theorem has_bit {x k : Nat} (hx : x < 2 ^ 64) (h : k < 64) : (bits BinOp.and IntKind.u64 (x : Int) (IntKind.u64.wrap ((2 : Int) ^ k)) != 0) = x.testBit k := by
  rw [shl_one h, (bits_nat .u64 64 (by decide) wraps_u64 x (2 ^ k) hx (pow_lt64 h)).1, and_pow]
  have hp : 0 < 2 ^ k := Nat.two_pow_pos k
  cases x.testBit k
  · simp
  · simp only [if_pos]
    rw [bne_iff_ne]
    omega

/-- 's[..] |= 1 << k'. -/
theorem or_bit {x k : Nat} (hx : x < 2 ^ 64) (h : k < 64) : bits BinOp.or IntKind.u64 (x : Int) (IntKind.u64.wrap ((2 : Int) ^ k)) = ((x ||| 2 ^ k : Nat) : Int) := by
  rw [shl_one h, (bits_nat .u64 64 (by decide) wraps_u64 x (2 ^ k) hx (pow_lt64 h)).2]

theorem or_lt {x k : Nat} (hx : x < 2 ^ 64) (h : k < 64) : x ||| 2 ^ k < 2 ^ 64 := Nat.or_lt_two_pow hx (pow_lt64 h)

/-- '(w >> k) & 1 == 1'. -/
theorem edge_bit {x k : Nat} (hx : x < 2 ^ 64) : (bits BinOp.and IntKind.u64 ((x / 2 ^ k : Nat) : Int) 1 == 1) = x.testBit k := by
  have h1 : (1 : Int) = ((1 : Nat) : Int) := rfl
  have hd : x / 2 ^ k < 2 ^ 64 := Nat.lt_of_le_of_lt (Nat.div_le_self _ _) hx
  rw [h1, (bits_nat .u64 64 (by decide) wraps_u64 _ 1 hd (by decide)).1, Nat.and_one_is_mod, Nat.testBit_eq_decide_div_mod_eq]
  by_cases e : x / 2 ^ k % 2 = 1
  · rw [e]; simp
  · have e0 : x / 2 ^ k % 2 = 0 := by omega
    rw [e0]; simp

/-- The word w of the full set 1..p: bits 0 .. p-64w-1, at most 64 of them. -/
def full (p w : Nat) : Nat := 2 ^ (min (p - 64 * w) 64) - 1

theorem full_lt (p w : Nat) : full p w < 2 ^ 64 := by
  unfold full
  have h1 : 2 ^ (min (p - 64 * w) 64) ≤ 2 ^ 64 := Nat.pow_le_pow_right (by decide) (Nat.min_le_right _ _)
  have h2 : 0 < 2 ^ (min (p - 64 * w) 64) := Nat.two_pow_pos _
  omega

theorem full_zero (w : Nat) : full 0 w = 0 := by simp [full]

theorem full_bit (p w i : Nat) : (full p w).testBit i = decide (i < min (p - 64 * w) 64) := by
  unfold full
  rw [Nat.testBit_two_pow_sub_one]

/-- One party more. -/
theorem full_step (p : Nat) : full (p + 1) (p / 64) = full p (p / 64) ||| 2 ^ (p % 64) := by
  apply Nat.eq_of_testBit_eq
  intro i
  rw [Nat.testBit_or, full_bit, full_bit, Nat.testBit_two_pow, ← Bool.decide_or, decide_eq_decide]
  omega

theorem full_other (p w : Nat) (h : w ≠ p / 64) : full (p + 1) w = full p w := by
  unfold full
  have : min (p + 1 - 64 * w) 64 = min (p - 64 * w) 64 := by omega
  rw [this]

theorem full_has {n b : Nat} (h : b < n) : (full n (b / 64)).testBit (b % 64) = true := by
  rw [full_bit, decide_eq_true_eq]
  omega

/-- 'want' where fewer than 64 parties are left. -/
theorem want_small {n k : Nat} (h : n < 64 * k + 64) : ((full n k : Int) != IntKind.u64.wrap (IntKind.u64.wrap ((2 : Int) ^ (n - 64 * k)) - 1)) = false := by
  have hk : n - 64 * k < 64 := by omega
  have hp := pow_lt64 hk
  have hq : 0 < 2 ^ (n - 64 * k) := Nat.two_pow_pos _
  have hm : min (n - 64 * k) 64 = n - 64 * k := by omega
  have h64 : ((2 ^ (n - 64 * k) : Nat) : Int) < 2 ^ 64 := by
    have : ((2 ^ (n - 64 * k) : Nat) : Int) < ((2 ^ 64 : Nat) : Int) := by omega
    simpa using this
  rw [shl_one hk, wraps_u64 _ (by omega) (by omega)]
  unfold full
  rw [hm, Int.natCast_sub (by omega)]
  simp

/-- 'want' where 64 or more are left. -/
theorem want_big {n k : Nat} (h : 64 * k + 64 ≤ n) : ((full n k : Int) != 18446744073709551615) = false := by
  have hm : min (n - 64 * k) 64 = 64 := by omega
  have : full n k = 18446744073709551615 := by unfold full; rw [hm]
  rw [this]
  decide
end Go.Proofs.Qxb6604319a
