/-
  zzB1WantLine, zzB1KeysAgreeWithModel, walked.
-/
import Derived.Test.Qxb6600949aCom
namespace Go.Proofs.Qxb6600949a
open Go.RowKit Go.MapKept

/-- The line that the model wants. -/
def wantOf (start : Int) (K M : ByteArray → Option Int) (s : ByteArray) : Int := (K s).getD ((M s).getD start)

set_option maxHeartbeats 400000 in
theorem want_any {w : World} {sm mm : Nat} {K M : ByteArray → Option Int} (hK : MapAt w sm (fun s => (K s).map (Value.int .i64))) (hM : MapAt w mm (fun s => (M s).map (Value.int .i64))) (start : Int) (s : ByteArray) :
    Calls Try.prog 24 #[.string s, .int .i64 start, .map (some sm), .map (some mm)] w fun e w' => e = .returned (.int .i64 (wantOf start K M s)) ∧ w = w' := by
  unfold wantOf
  have l1 := hK.look Try.underlying32 Try.underlying9 (zero3 w) s true
  have l2 := hM.look Try.underlying32 Try.underlying9 (zero3 w) s true
  cases h1 : K s with
  | some n =>
    simp only [h1, Option.map_some, Option.getD_some, Option.isSome_some, if_true] at l1
    clear l2
    go_enter Try.func24, Try.ntmps24
    go_wp2
    go_ret
    exact ⟨rfl, rfl⟩
  | none =>
    simp only [h1, Option.map_none, Option.getD_none, Option.isSome_none, if_true] at l1
    cases h2 : M s with
    | some n =>
      simp only [h2, Option.map_some, Option.getD_some, Option.isSome_some, if_true] at l2
      go_enter Try.func24, Try.ntmps24
      go_wp2
      go_ret
      exact ⟨rfl, rfl⟩
    | none =>
      simp only [h2, Option.map_none, Option.getD_none, Option.isSome_none, if_true] at l2
      go_enter Try.func24, Try.ntmps24
      go_wp2
      go_ret
      exact ⟨rfl, rfl⟩

/-- A table that answers as the model does. -/
structure Agrees (w : World) (tb sm mm : Nat) (start : Int) (L : ByteArray → Int) (H : ByteArray → Bool) : Prop where
  l : ∀ s, Calls Try.prog 16 #[ptr tb, .string s] w fun e w' => e = .returned (.int .i64 (L s)) ∧ w = w'
  q : ∀ s, Calls Try.prog 24 #[.string s, .int .i64 start, .map (some sm), .map (some mm)] w fun e w' => e = .returned (.int .i64 (L s)) ∧ w = w'
  h : ∀ s, Calls Try.prog 17 #[ptr tb, .string s] w fun e w' => e = .returned (.bool (H s)) ∧ w = w'
  k : ∀ s, ∃ v, (Instr.lookup 32 (.map (some mm)) (.string s) true).run Try.prog w = .ok (.tuple #[v, .bool (H s)]) w

theorem agrees_of {w : World} {tb km tm am sm mm : Nat} {start : Int} {K K0 M : ByteArray → Option Int} {T : ByteArray → Option Nat} {F : ByteArray → Option Value} (ht : Tab w tb km tm am start K T F)
    (hK : MapAt w sm (fun s => (K0 s).map (Value.int .i64))) (hM : MapAt w mm (fun s => (M s).map (Value.int .i64))) (hl : ∀ s, lineOf start K s = wantOf start K0 M s) (hd : ∀ s, (T s).isSome = (M s).isSome) :
    Agrees w tb sm mm start (lineOf start K) (fun s => (T s).isSome) :=
  ⟨fun s => zline_any ht s, fun s => by have := want_any hK hM start s; rw [← hl s] at this; exact this, fun s => has_any ht s, fun s => by
    have := hM.look Try.underlying32 Try.underlying9 (zero3 w) s true
    simp only [if_true, Option.isSome_map] at this
    rw [← hd s] at this
    exact ⟨_, this⟩⟩

set_option maxHeartbeats 2000000 in
theorem keys_any {w : World} {tb sm mm : Nat} {start : Int} {L : ByteArray → Int} {H : ByteArray → Bool} (hA : Agrees w tb sm mm start L H) {ca : Option Addr} {b o l : Nat} {S : Nat → ByteArray} (h : StrsIn w ca b o l S) (g : l ≤ 65536) (cap : Nat) :
    Calls Try.prog 14 #[ptr tb, .slice ca l cap, .int .i64 start, .map (some sm), .map (some mm)] w fun e w' => e = .returned (.bool true) ∧ w = w' := by
  go_enter Try.func14, Try.ntmps14
  go_wp2_with fail
  go_loopg [11] l (fun gh i wr => w = wr ∧ ∃ r : Nat, r ≤ l ∧ gh = l - r ∧ i = .int .i64 r)
  case atStart => exact ⟨rfl, 0, Nat.zero_le _, rfl, rfl⟩
  case round =>
    obtain ⟨rfl, r, hr, rfl, rfl⟩ := hrel
    by_cases hrl : r < l
    · obtain rfl := h.addr (by omega)
      have hz : (r : Int) < (l : Int) := by omega
      have c1 := h.cell r hrl
      obtain ⟨v, hv⟩ := hA.k (S r)
      go_wp2_with fail
      refine (hA.l (S r)).mono ?_
      rintro e w' ⟨rfl, rfl⟩
      go_wp2_with fail
      refine (hA.q (S r)).mono ?_
      rintro e w' ⟨rfl, rfl⟩
      go_wp2_with fail
      refine (hA.h (S r)).mono ?_
      rintro e w' ⟨rfl, rfl⟩
      go_wp2_with fail
      go_roundg (l - (r + 1))
      case measure => go_light; omega
      case rel => go_light; exact ⟨rfl, r + 1, by omega, rfl, by go_num⟩
    · have hqd : decide ((r : Int) < (l : Int)) = false := by simp; omega
      go_wp2_with fail
      go_ret
      exact ⟨rfl, rfl⟩
end Go.Proofs.Qxb6600949a
