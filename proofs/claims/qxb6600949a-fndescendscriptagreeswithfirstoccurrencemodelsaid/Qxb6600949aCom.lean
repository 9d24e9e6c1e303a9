/-
  Two tables built alike, two keys descended in either order: what holds behind the four descents ('Com'). Worlds and contracts; no walk.
-/
import Derived.Test.Qxb6600949aSame
import Derived.Lib.Builder
namespace Go.Proofs.Qxb6600949a
open Go.RowKit Go.MapKept

theorem below_ev {w w' : World} (h : Below w.heap.size w w') : Ev (fun _ => False) w w' := ⟨h.os, h.tape, h.output, h.size, fun k hk _ => h.block k hk, fun _ _ f => f.elim⟩

theorem ev_below {w w' : World} (h : Ev (fun _ => False) w w') : Below w.heap.size w w' := h.below (Nat.le_refl _) (fun _ f => f.elim)
theorem StrsIn.ev {X : Nat → Prop} {w w' : World} {a : Option Addr} {b o len : Nat} {S : Nat → ByteArray} (h : StrsIn w a b o len S) (e : Ev X w w') : StrsIn w' a b o len S :=
  ⟨h.lmax, h.addr, fun i hi => e.cell (h.cell i hi), h.smax⟩
theorem IntsIn.ev {X : Nat → Prop} {w w' : World} {a : Option Addr} {b o len : Nat} {Z : Nat → Int} (h : IntsIn w a b o len Z) (e : Ev X w w') : IntsIn w' a b o len Z :=
  ⟨h.lmax, h.addr, fun i hi => e.cell (h.cell i hi)⟩

theorem Try.size53 : (Try.prog.info? 53).map (·.size) = some 4 := by kernel_rfl

theorem info53 : ∃ j, Try.prog.info? 53 = some j ∧ j.size ≠ 0 := by
  have h := Try.size53
  cases hj : Try.prog.info? 53 with
  | none => rw [hj] at h; cases h
  | some j =>
    rw [hj] at h
    simp at h
    exact ⟨j, rfl, by omega⟩

theorem ptr_eq_other {w : World} {a b : Nat} {n m : Int} (ha : StartBlk w a n) (hb : StartBlk w b m) (hne : a ≠ b) : (binOp .eql 28 (.pointer (some ⟨a, 0, none⟩)) (.pointer (some ⟨b, 0, none⟩))).run Try.prog w = .ok (.bool false) w := by
  obtain ⟨c, hc, _⟩ := ha
  obtain ⟨d, hd, _⟩ := hb
  obtain ⟨j, hj, hz⟩ := info53
  exact run_eql_ptr_other w Try.underlying28 hj hz (fun e => hne (congrArg Addr.block e)) hc hd

theorem ptr_neq_same (w : World) (a : Nat) : (binOp .neq 28 (.pointer (some ⟨a, 0, none⟩)) (.pointer (some ⟨a, 0, none⟩))).run Try.prog w = .ok (.bool false) w := by
  obtain ⟨j, hj, hz⟩ := info53
  exact Go.Lib.run_neq_ptr_same w _ Try.underlying28 hj

/-- A descent to what is there already. -/
theorem again_any {w : World} {tb km tm am : Nat} {start : Int} {K : ByteArray → Option Int} {T : ByteArray → Option Nat} {F : ByteArray → Option Value} (h : Tab w tb km tm am start K T F) {a : Option Nat} {s : ByteArray} (hA : LastIn w (F s) a) {r : Nat}
    (hs : a.isSome = true ∨ (T s).isSome = true) (hr : ∀ nb, dRes a (T s) nb = r) (line : Int) : Calls Try.prog 11 #[ptr tb, .string s, .int .i64 line] w fun e w' => e = .returned (ptr r) ∧ w = w' := by
  refine (zdesc_any h s line hA).mono ?_
  rintro e w' ⟨rfl, _, _, _, h4⟩
  exact ⟨by rw [hr], (h4 hs).symm⟩

/-- WHAT THE SECOND HALF OF THE LAW READS. -/
structure Com (w : World) (tb ub r1 r2 q1 q2 : Nat) (k1 k2 : ByteArray) (start x1 x2 : Int) (L : ByteArray → Int) (H : ByteArray → Bool) : Prop where
  al : Alike w tb ub L H
  s1 : Calls Try.prog 12 #[ptr r1] w fun e w' => e = .returned (.int .i64 x1) ∧ w = w'
  s2 : Calls Try.prog 12 #[ptr r2] w fun e w' => e = .returned (.int .i64 x2) ∧ w = w'
  s3 : Calls Try.prog 12 #[ptr q1] w fun e w' => e = .returned (.int .i64 x1) ∧ w = w'
  s4 : Calls Try.prog 12 #[ptr q2] w fun e w' => e = .returned (.int .i64 x2) ∧ w = w'
  st : Calls Try.prog 12 #[ptr tb] w fun e w' => e = .returned (.int .i64 start) ∧ w = w'
  su : Calls Try.prog 12 #[ptr ub] w fun e w' => e = .returned (.int .i64 start) ∧ w = w'
  d1 : ∀ n, Calls Try.prog 11 #[ptr tb, .string k1, .int .i64 n] w fun e w' => e = .returned (.pointer (some ⟨r1, 0, none⟩)) ∧ w = w'
  d2 : ∀ n, Calls Try.prog 11 #[ptr tb, .string k2, .int .i64 n] w fun e w' => e = .returned (.pointer (some ⟨r2, 0, none⟩)) ∧ w = w'
  d3 : ∀ n, Calls Try.prog 11 #[ptr ub, .string k1, .int .i64 n] w fun e w' => e = .returned (.pointer (some ⟨q1, 0, none⟩)) ∧ w = w'
  d4 : ∀ n, Calls Try.prog 11 #[ptr ub, .string k2, .int .i64 n] w fun e w' => e = .returned (.pointer (some ⟨q2, 0, none⟩)) ∧ w = w'
  e1 : (binOp .eql 28 (.pointer (some ⟨r1, 0, none⟩)) (.pointer (some ⟨r2, 0, none⟩))).run Try.prog w = .ok (.bool false) w
  e2 : (binOp .eql 28 (.pointer (some ⟨q1, 0, none⟩)) (.pointer (some ⟨q2, 0, none⟩))).run Try.prog w = .ok (.bool false) w

/-- A table, its arrays, and one descended key: the table that the descent gave. -/
structure Gone (w : World) (T : ByteArray → Option Nat) (a : Option Nat) (s : ByteArray) (r : Nat) (x : Int) : Prop where
  blk : StartBlk w r x
  res : ∀ nb, dRes a (T s) nb = r
  has : a.isSome = true ∨ (T s).isSome = true

theorem Gone.ev {X : Nat → Prop} {w w' : World} {T : ByteArray → Option Nat} {a : Option Nat} {s : ByteArray} {r : Nat} {x : Int} (h : Gone w T a s r x) (e : Ev X w w') : Gone w' T a s r x := ⟨h.blk.ev e, h.res, h.has⟩

theorem com_of {w : World} {tb km tm am ub km' tm' am' lo lo' : Nat} {start : Int} {K K' : ByteArray → Option Int} {T T' : ByteArray → Option Nat} {F F' : ByteArray → Option Value} {A A' : ByteArray → Option Nat} {St St' : ByteArray → Option Int}
    (ht : Tab w tb km tm am start K T F) (hu : Tab w ub km' tm' am' start K' T' F') (hA : Arrs w lo F A St) (hA' : Arrs w lo' F' A' St') (hl : ∀ s, K' s = K s) (hh : ∀ s, (T' s).isSome = (T s).isSome)
    {k1 k2 : ByteArray} {r1 r2 q1 q2 : Nat} {x1 x2 : Int} (g1 : Gone w T (A k1) k1 r1 x1) (g2 : Gone w T (A k2) k2 r2 x2) (g3 : Gone w T' (A' k1) k1 q1 x1) (g4 : Gone w T' (A' k2) k2 q2 x2) (n1 : r1 ≠ r2) (n2 : q1 ≠ q2) :
    Com w tb ub r1 r2 q1 q2 k1 k2 start x1 x2 (lineOf start K) (fun s => (T s).isSome) :=
  ⟨alike_of ht hu (fun s => by simp [lineOf, hl s]) hh, start_any _ _ _ g1.blk.cell, start_any _ _ _ g2.blk.cell, start_any _ _ _ g3.blk.cell, start_any _ _ _ g4.blk.cell, start_any _ _ _ ht.c0, start_any _ _ _ hu.c0,
    fun n => again_any ht (hA.last k1) g1.has g1.res n, fun n => again_any ht (hA.last k2) g2.has g2.res n, fun n => again_any hu (hA'.last k1) g3.has g3.res n, fun n => again_any hu (hA'.last k2) g4.has g4.res n,
    ptr_eq_other g1.blk g2.blk n1, ptr_eq_other g3.blk g4.blk n2⟩

theorem com_all {w : World} {tb km tm am ub km' tm' am' lo lo' : Nat} {start : Int} {K K' : ByteArray → Option Int} {T T' : ByteArray → Option Nat} {F F' : ByteArray → Option Value} {A A' : ByteArray → Option Nat} {St St' : ByteArray → Option Int}
    (ht : Tab w tb km tm am start K T F) (hu : Tab w ub km' tm' am' start K' T' F') (hA : Arrs w lo F A St) (hA' : Arrs w lo' F' A' St') (hl : ∀ s, K' s = K s) (hh : ∀ s, (T' s).isSome = (T s).isSome)
    {k1 k2 : ByteArray} {r1 r2 q1 q2 : Nat} {x1 x2 : Int} (g1 : Gone w T (A k1) k1 r1 x1) (g2 : Gone w T (A k2) k2 r2 x2) (g3 : Gone w T' (A' k1) k1 q1 x1) (g4 : Gone w T' (A' k2) k2 q2 x2) (n1 : r1 ≠ r2) (n2 : q1 ≠ q2) :
    ∀ w', Ev (fun _ => False) w w' → Com w' tb ub r1 r2 q1 q2 k1 k2 start x1 x2 (lineOf start K) (fun s => (T s).isSome) := fun _ e =>
  com_of (ht.ev e (fun f => f) (fun f => f) (fun f => f)) (hu.ev e (fun f => f) (fun f => f) (fun f => f)) (hA.ev e) (hA'.ev e) hl hh (g1.ev e) (g2.ev e) (g3.ev e) (g4.ev e) n1 n2

-- plain laws of dT, dK, dRes
theorem dT_at (a : Option Nat) (T : ByteArray → Option Nat) (s : ByteArray) (nb : Nat) : dT a T s nb s = if a.isNone = true ∧ T s = none then some nb else T s := by
  unfold dT
  cases a <;> cases hT : T s <;> simp [hT, tput_same]
theorem dT_off (a : Option Nat) (T : ByteArray → Option Nat) {s s' : ByteArray} (nb : Nat) (h : s ≠ s') : dT a T s nb s' = T s' := by
  unfold dT
  split
  · exact tput_other T nb h
  · rfl
theorem dK_at (a : Option Nat) (K : ByteArray → Option Int) (T : ByteArray → Option Nat) (s : ByteArray) (n : Int) : dK a K T s n s = if a.isNone = true ∧ T s = none ∧ K s = none then some n else K s := by
  unfold dK
  cases a <;> cases hT : T s <;> cases hK : K s <;> simp [hK, kput_same]
theorem dK_off (a : Option Nat) (K : ByteArray → Option Int) (T : ByteArray → Option Nat) {s s' : ByteArray} (n : Int) (h : s ≠ s') : dK a K T s n s' = K s' := by
  unfold dK
  split
  · exact kput_other K n h
  · rfl

theorem comm_T {a1 a2 b1 b2 : Option Nat} {T T' : ByteArray → Option Nat} (hT : ∀ s, T' s = T s) {k1 k2 : ByteArray} (hne : k1 ≠ k2) (e1 : a1.isNone = b1.isNone) (e2 : a2.isNone = b2.isNone) (n1 n2 m1 m2 : Nat) (s : ByteArray) :
    (dT b1 (dT b2 T' k2 m2) k1 m1 s).isSome = (dT a2 (dT a1 T k1 n1) k2 n2 s).isSome := by
  by_cases h1 : s = k1
  · subst h1
    rw [dT_at, dT_off b2 T' m2 (fun e => hne e.symm), dT_off a2 _ n2 (fun e => hne e.symm), dT_at, hT, e1]
    split <;> rfl
  · by_cases h2 : s = k2
    · subst h2
      rw [dT_at, dT_off a1 T n1 hne, dT_off b1 _ m1 hne, dT_at, hT, e2]
      split <;> rfl
    · rw [dT_off b1 _ m1 (fun e => h1 e.symm), dT_off b2 _ m2 (fun e => h2 e.symm), dT_off a2 _ n2 (fun e => h2 e.symm), dT_off a1 _ n1 (fun e => h1 e.symm), hT]

theorem comm_K {a1 a2 b1 b2 : Option Nat} {T : ByteArray → Option Nat} {K : ByteArray → Option Int} {k1 k2 : ByteArray} (hne : k1 ≠ k2) (e1 : a1.isNone = b1.isNone) (e2 : a2.isNone = b2.isNone) (n1 m2 : Nat) (l1 l2 : Int) (s : ByteArray) :
    dK b1 (dK b2 K T k2 l2) (dT b2 T k2 m2) k1 l1 s = dK a2 (dK a1 K T k1 l1) (dT a1 T k1 n1) k2 l2 s := by
  by_cases h1 : s = k1
  · subst h1
    rw [dK_at, dK_off b2 K T l2 (fun e => hne e.symm), dT_off b2 T m2 (fun e => hne e.symm), dK_off a2 _ _ l2 (fun e => hne e.symm), dK_at, e1]
  · by_cases h2 : s = k2
    · subst h2
      rw [dK_at, dK_off a1 K T l1 hne, dT_off a1 T n1 hne, dK_off b1 _ _ l1 hne, dK_at, e2]
    · rw [dK_off b1 _ _ l1 (fun e => h1 e.symm), dK_off b2 _ _ l2 (fun e => h2 e.symm), dK_off a2 _ _ l2 (fun e => h2 e.symm), dK_off a1 _ _ l1 (fun e => h1 e.symm)]

/-- Behind one descent: the table that it gave. -/
theorem gone_of {w w' : World} {tb km tm am lo : Nat} {start : Int} {K : ByteArray → Option Int} {T : ByteArray → Option Nat} {F : ByteArray → Option Value} {A : ByteArray → Option Nat} {St : ByteArray → Option Int} {s : ByteArray} {line : Int} {e : Ending}
    (h : DescPost w tb km tm am start K T F (A s) s line e w') (hA : Arrs w lo F A St) (hT : T s = none) :
    Gone w' (dT (A s) T s (w.heap.size + 3)) (A s) s (dRes (A s) (T s) (w.heap.size + 3)) ((St s).getD line) := by
  cases hSt : St s with
  | none =>
    have ha := hA.st1 s hSt
    obtain ⟨_, hN⟩ := h.fresh ha hT
    rw [ha, hT]
    refine ⟨by simpa [dRes] using hN.start, fun nb => by simp [dT_at, hT, dRes], by simp [dT_at, hT]⟩
  | some n =>
    obtain ⟨b, hb, hs⟩ := hA.st2 s n hSt
    have hs' := hs.ev h.ev
    rw [hb]
    exact ⟨by simpa [dRes] using hs', fun nb => by simp [dRes], by simp⟩

theorem Gone.after {w : World} {T : ByteArray → Option Nat} {a a' : Option Nat} {s s' : ByteArray} {r nb : Nat} {x : Int} (h : Gone w T a s r x) (hne : s' ≠ s) : Gone w (dT a' T s' nb) a s r x :=
  ⟨h.blk, fun k => by rw [dT_off a' T nb hne]; exact h.res k, by rw [dT_off a' T nb hne]; exact h.has⟩

/-- The tables of two keys are two. -/
theorem res_ne {w w1 : World} {tb km tm am lo : Nat} {start : Int} {K : ByteArray → Option Int} {T : ByteArray → Option Nat} {F : ByteArray → Option Value} {A : ByteArray → Option Nat} {St : ByteArray → Option Int} {s s' : ByteArray} {line : Int} {e : Ending}
    (h : DescPost w tb km tm am start K T F (A s) s line e w1) (hA : Arrs w lo F A St) (hT : T s = none) (hT' : T s' = none) (hne : s ≠ s') :
    dRes (A s) (T s) (w.heap.size + 3) ≠ dRes (A s') (dT (A s) T s (w.heap.size + 3) s') (w1.heap.size + 3) := by
  rw [dT_off _ _ _ hne, hT, hT']
  have hz := h.ev.size
  cases ha : A s with
  | none =>
    obtain ⟨h1, _⟩ := h.fresh ha hT
    cases hb : A s' with
    | none => simp only [dRes, Option.getD_none]; omega
    | some b => have := (hA.rng s' b hb).2; simp only [dRes, Option.getD_none]; omega
  | some b =>
    have hr := (hA.rng s b ha).2
    cases hb : A s' with
    | none => simp only [dRes, Option.getD_none]; omega
    | some b' =>
      simp only [dRes]
      intro x
      exact hne (hA.inj s s' b ha (by rw [hb, x]))

theorem arr_none {w : World} {lo lo' : Nat} {F F' : ByteArray → Option Value} {A A' : ByteArray → Option Nat} {St : ByteArray → Option Int} {w' : World} (h : Arrs w lo F A St) (h' : Arrs w' lo' F' A' St) (s : ByteArray) : (A s).isNone = (A' s).isNone := by
  cases hs : St s with
  | none => rw [h.st1 s hs, h'.st1 s hs]
  | some n =>
    obtain ⟨b, hb, _⟩ := h.st2 s n hs
    obtain ⟨b', hb', _⟩ := h'.st2 s n hs
    rw [hb, hb']
    rfl

/-- THE FOUR DESCENTS. -/
theorem com_full {w w1 w2 w3 w4 : World} {B C : Nat} {start : Int} {K St : ByteArray → Option Int} {F F' : ByteArray → Option Value} {A A' : ByteArray → Option Nat} {k1 k2 : ByteArray} {n1 n2 : Int} {e1 e2 e3 e4 : Ending} (hne : k1 ≠ k2) (hBC : B + 5 ≤ C)
    (hA : Arrs w (B + 5) F A St) (hA' : Arrs w (C + 5) F' A' St)
    (h1 : DescPost w (B + 3) B (B + 1) (B + 2) start K (fun _ => none) F (A k1) k1 n1 e1 w1)
    (h2 : DescPost w1 (B + 3) B (B + 1) (B + 2) start (dK (A k1) K (fun _ => none) k1 n1) (dT (A k1) (fun _ => none) k1 (w.heap.size + 3)) F (A k2) k2 n2 e2 w2)
    (h3 : DescPost w2 (C + 3) C (C + 1) (C + 2) start K (fun _ => none) F' (A' k2) k2 n2 e3 w3)
    (h4 : DescPost w3 (C + 3) C (C + 1) (C + 2) start (dK (A' k2) K (fun _ => none) k2 n2) (dT (A' k2) (fun _ => none) k2 (w2.heap.size + 3)) F' (A' k1) k1 n1 e4 w4) :
    ∃ r1 r2 q1 q2 x1 x2 L H, e1 = .returned (ptr r1) ∧ e2 = .returned (ptr r2) ∧ e3 = .returned (ptr q2) ∧ e4 = .returned (ptr q1) ∧
      ∀ w', Ev (fun _ => False) w4 w' → Com w' (B + 3) (C + 3) r1 r2 q1 q2 k1 k2 start x1 x2 L H := by
  have hne' : k2 ≠ k1 := fun e => hne e.symm
  have A1 := hA.ev h1.ev
  have A2 := A1.ev h2.ev
  have A4 := (A2.ev h3.ev).ev h4.ev
  have U2 := (hA'.ev h1.ev).ev h2.ev
  have U3 := U2.ev h3.ev
  have U4 := U3.ev h4.ev
  have t4 := (h2.tab.ev h3.ev (by omega) (by omega) (by omega)).ev h4.ev (by omega) (by omega) (by omega)
  have z2 : dT (A k1) (fun _ => none) k1 (w.heap.size + 3) k2 = none := dT_off _ _ _ hne
  have z4 : dT (A' k2) (fun _ => none) k2 (w2.heap.size + 3) k1 = none := dT_off _ _ _ hne'
  have g1 := (((gone_of h1 hA rfl).ev h2.ev).after (a' := A k2) (nb := w1.heap.size + 3) hne')
  have g2 := gone_of h2 A1 z2
  have g3 := (((gone_of h3 U2 rfl).ev h4.ev).after (a' := A' k1) (nb := w3.heap.size + 3) hne)
  have g4 := gone_of h4 U3 z4
  exact ⟨_, _, _, _, _, _, _, _, h1.ret, h2.ret, h3.ret, h4.ret,
    com_all t4 h4.tab A4 U4 (fun s => comm_K hne (arr_none hA hA' k1) (arr_none hA hA' k2) _ _ _ _ s) (fun s => comm_T (fun _ => rfl) hne (arr_none hA hA' k1) (arr_none hA hA' k2) _ _ _ _ s)
      ((g1.ev h3.ev).ev h4.ev) ((g2.ev h3.ev).ev h4.ev) g4 g3 (res_ne h1 hA rfl rfl hne) (fun x => res_ne h3 U2 rfl rfl hne' x.symm)⟩
end Go.Proofs.Qxb6600949a
