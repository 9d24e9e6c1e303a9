/-
  zzB1SameOnKeys, zzB1WantLine, zzB1KeysAgreeWithModel, walked. Equality of pointers to tables.
-/
import Derived.Test.Qxb6600949aBuild
import Derived.Deep.QuietTactic
import Derived.BigQuiet
import Derived.LaidEqlPtr
namespace Go.Proofs.Qxb6600949a
open Go.RowKit Go.MapKept

theorem Ev.drewN {X : Nat → Prop} {a w : World} (h : Ev X a w) (n : Nat) : Ev X a (w.drewN n) := ⟨h.os, h.tape, h.output, h.size, h.block, h.maps⟩

theorem Ev.fls {w w1 w2 : World} (h : Ev (fun _ => False) w w1) (k : Ev (fun _ => False) w1 w2) : Ev (fun _ => False) w w2 :=
  (h.trans k).mono (fun _ x => x.elim id id) (fun _ _ f => f.elim)

theorem quiet_sym {f : FuncId} {args : Array Value} {w : World} {n : Nat} {v : Value} (h : Calls Try.prog f args (w.drewN n) fun e w' => e = .returned v ∧ w.drewN n = w') : Calls Try.prog f args (w.drewN n) fun e w'' => e = .returned v ∧ ∃ m, w'' = w.drewN m :=
  h.mono fun _ _ ⟨he, hm⟩ => ⟨he, n, hm.symm⟩

/-- Two tables that answer the same. -/
structure Alike (w : World) (tb ub : Nat) (L : ByteArray → Int) (H : ByteArray → Bool) : Prop where
  l1 : ∀ s, Calls Try.prog 16 #[ptr tb, .string s] w fun e w' => e = .returned (.int .i64 (L s)) ∧ w = w'
  l2 : ∀ s, Calls Try.prog 16 #[ptr ub, .string s] w fun e w' => e = .returned (.int .i64 (L s)) ∧ w = w'
  h1 : ∀ s, Calls Try.prog 17 #[ptr tb, .string s] w fun e w' => e = .returned (.bool (H s)) ∧ w = w'
  h2 : ∀ s, Calls Try.prog 17 #[ptr ub, .string s] w fun e w' => e = .returned (.bool (H s)) ∧ w = w'

theorem alike_of {w : World} {tb km tm am ub km' tm' am' : Nat} {start start' : Int} {K K' : ByteArray → Option Int} {T T' : ByteArray → Option Nat} {F F' : ByteArray → Option Value} (ht : Tab w tb km tm am start K T F) (hu : Tab w ub km' tm' am' start' K' T' F')
    (hl : ∀ s, lineOf start' K' s = lineOf start K s) (hh : ∀ s, (T' s).isSome = (T s).isSome) : Alike w tb ub (lineOf start K) (fun s => (T s).isSome) :=
  ⟨fun s => zline_any ht s, fun s => by have := zline_any hu s; rw [hl s] at this; exact this, fun s => has_any ht s, fun s => by have := has_any hu s; rw [hh s] at this; exact this⟩

set_option maxHeartbeats 2000000 in
theorem same_any {w : World} {tb ub : Nat} {L : ByteArray → Int} {H : ByteArray → Bool} (hA : ∀ w', Ev (fun _ => False) w w' → Alike w' tb ub L H) {ca : Option Addr} {b o l : Nat} {S : Nat → ByteArray} (h : StrsIn w ca b o l S) (g : l ≤ 65536) (cap : Nat) :
    Calls Try.prog 18 #[ptr tb, ptr ub, .slice ca l cap] w fun e w' => e = .returned (.bool true) ∧ Ev (fun _ => False) w w' := by
  go_enter Try.func18, Try.ntmps18
  go_wp2_with fail
  go_loopg [7] l (fun gh i wr => ∃ r : Nat, r ≤ l ∧ gh = l - r ∧ i = .int .i64 r ∧ Ev (fun _ => False) w wr)
  case atStart => exact ⟨0, Nat.zero_le _, rfl, rfl, Ev.refl w⟩
  case round =>
    obtain ⟨r, hr, rfl, rfl, hE⟩ := hrel
    by_cases hrl : r < l
    · obtain rfl := h.addr (by omega)
      have hz : (r : Int) < (l : Int) := by omega
      have c1 := hE.cell (h.cell r hrl)
      go_wp2_with fail
      go_quiet (first | (go_at_call_of 16 (ptr tb); exact quiet_sym ((hA _ (hE.drewN _)).l1 _)) | (go_at_call_of 16 (ptr ub); exact quiet_sym ((hA _ (hE.drewN _)).l2 _)))
      go_wp2_with fail
      have hE2 := hE.drewN nq
      clear c1 hE
      have c2 := hE2.cell (h.cell r hrl)
      generalize wr.drewN nq = wq at *
      go_quiet (first | (go_at_call_of 17 (ptr tb); exact quiet_sym ((hA _ (hE2.drewN _)).h1 _)) | (go_at_call_of 17 (ptr ub); exact quiet_sym ((hA _ (hE2.drewN _)).h2 _)))
      go_wp2_with fail
      go_roundg (l - (r + 1))
      case measure => go_light; omega
      case rel => go_light; exact ⟨r + 1, by omega, rfl, by go_num, hE2.drewN _⟩
    · have hqd : decide ((r : Int) < (l : Int)) = false := by simp; omega
      go_wp2_with fail
      go_ret
      exact ⟨rfl, hE⟩
end Go.Proofs.Qxb6600949a
