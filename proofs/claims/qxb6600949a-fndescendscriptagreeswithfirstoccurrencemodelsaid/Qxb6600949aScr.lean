/-
  What holds inside FnDescendScriptAgreesWithFirstOccurrenceModel's loop over the script. Worlds alone; no walk.
-/
import Derived.Test.Qxb6600949aAgree
namespace Go.Proofs.Qxb6600949a
open Go.RowKit Go.MapKept

/-- Seeds, and behind them the first descents. -/
def orK (K0 M : ByteArray → Option Int) (s : ByteArray) : Option Int := match K0 s with | some n => some n | none => M s

theorem Tab.congrK {w : World} {tb km tm am : Nat} {start : Int} {K K' : ByteArray → Option Int} {T : ByteArray → Option Nat} {F : ByteArray → Option Value} (h : Tab w tb km tm am start K T F) (e : ∀ s, K s = K' s) : Tab w tb km tm am start K' T F :=
  ⟨h.c0, h.c1, h.c2, h.c3, h.mkey.congr (fun s => by rw [e s]), h.mt, h.ma, h.ne, h.blk⟩
theorem Tab.congrT {w : World} {tb km tm am : Nat} {start : Int} {K : ByteArray → Option Int} {T T' : ByteArray → Option Nat} {F : ByteArray → Option Value} (h : Tab w tb km tm am start K T F) (e : ∀ s, T s = T' s) : Tab w tb km tm am start K T' F :=
  ⟨h.c0, h.c1, h.c2, h.c3, h.mkey, h.mt.congr (fun s => by rw [e s]), h.ma, h.ne, h.blk⟩

/-- THE STATE. B: the built table's first block; C: the first of the model's four maps. -/
structure Scr (w wr : World) (B C : Nat) (start : Int) (K0 St : ByteArray → Option Int) (F : ByteArray → Option Value) (A T : ByteArray → Option Nat) (M : ByteArray → Option Int) : Prop where
  below : Below w.heap.size w wr
  hB : w.heap.size ≤ B
  hC : B + 5 ≤ C
  tab : Tab wr (B + 3) B (B + 1) (B + 2) start (orK K0 M) T F
  arr : MapAt wr (B + 4) F
  arrs : Arrs wr (B + 5) F A St
  seeded : MapAt wr C (fun s => (K0 s).map (Value.int .i64))
  last : MapAt wr (C + 1) (fun s => (St s).map (Value.int .i64))
  made : MapAt wr (C + 2) (fun s => (T s).map ptr)
  at_ : MapAt wr (C + 3) (fun s => (M s).map (Value.int .i64))
  dom : ∀ s, (T s).isSome = (M s).isSome
  st : ∀ s b, T s = some b → ∃ n, M s = some n ∧ StartBlk wr b n
  rng : ∀ s b, T s = some b → B + 5 ≤ b

section
variable {w wr : World} {B C : Nat} {start : Int} {K0 St : ByteArray → Option Int} {F : ByteArray → Option Value} {A T : ByteArray → Option Nat} {M : ByteArray → Option Int}

theorem Scr.same (h : Scr w wr B C start K0 St F A T M) {w' : World} (e : Ev (fun _ => False) wr w') : Scr w w' B C start K0 St F A T M :=
  ⟨h.below.trans ((ev_below e).mono h.below.size), h.hB, h.hC, h.tab.ev e (fun f => f) (fun f => f) (fun f => f), h.arr.ev e (fun f => f), h.arrs.ev e, h.seeded.ev e (fun f => f), h.last.ev e (fun f => f), h.made.ev e (fun f => f), h.at_.ev e (fun f => f), h.dom,
    fun s b hb => by obtain ⟨n, h1, h2⟩ := h.st s b hb; exact ⟨n, h1, h2.ev e⟩, h.rng⟩

/-- A key with an array. -/
theorem Scr.byArray (h : Scr w wr B C start K0 St F A T M) {k : ByteArray} {ls : Int} (hs : St k = some ls) {n : Int} {e : Ending} {wd : World} (D : DescPost wr (B + 3) B (B + 1) (B + 2) start (orK K0 M) T F (A k) k n e wd) :
    ∃ b g m cap, e = .returned (.pointer (some ⟨b, 0, none⟩)) ∧ wd = wr ∧ StartBlk wr b ls ∧ b ≠ B + 3 ∧ F k = some (.slice (some ⟨g, 0, none⟩) (m + 1) cap) ∧ m ≤ 1000000 ∧ wr.cell? ⟨g, m, none⟩ = some (.pointer (some ⟨b, 0, none⟩)) := by
  obtain ⟨b, hb, hblk⟩ := h.arrs.st2 k ls hs
  have hl := h.arrs.last k
  have hr := (h.arrs.rng k b hb).1
  have d1 := D.ret
  have d2 := D.same (.inl (by rw [hb]; rfl))
  rw [hb] at hl d1
  obtain ⟨g, m, cap, h1, h2, h3⟩ := hl
  exact ⟨b, g, m, cap, d1, d2, hblk, by omega, h1, h2, h3⟩

/-- A key that has its table already. -/
theorem Scr.byMade (h : Scr w wr B C start K0 St F A T M) {k : ByteArray} (hs : St k = none) {p : Nat} (hp : T k = some p) {n : Int} {e : Ending} {wd : World} (D : DescPost wr (B + 3) B (B + 1) (B + 2) start (orK K0 M) T F (A k) k n e wd) :
    ∃ m, e = .returned (.pointer (some ⟨p, 0, none⟩)) ∧ wd = wr ∧ StartBlk wr p m ∧ p ≠ B + 3 ∧ M k = some m := by
  have ha := h.arrs.st1 k hs
  obtain ⟨m, hm, hblk⟩ := h.st k p hp
  have hr := h.rng k p hp
  have d1 := D.ret
  have d2 := D.same (.inr (by rw [hp]; rfl))
  rw [ha, hp] at d1
  exact ⟨m, d1, d2, hblk, by omega, hm⟩

theorem orK_put {k : ByteArray} {n : Int} (hT : T k = none) (hM : M k = none) (s : ByteArray) : dK none (orK K0 M) T k n s = orK K0 (kput M k n) s := by
  by_cases e : k = s
  · subst e
    rw [dK_at]
    unfold orK
    rw [kput_same]
    cases hk : K0 k <;> simp [hT, hM]
  · rw [dK_off _ _ _ n e]
    unfold orK
    rw [kput_other M n e]

/-- A key's first descent. wd: behind it; w1, w2: behind 'made[k] = got', 'madeAt[k] = at'. -/
theorem Scr.fresh (h : Scr w wr B C start K0 St F A T M) {k : ByteArray} (hs : St k = none) (hp : T k = none) {n : Int} {e : Ending} {wd : World} (D : DescPost wr (B + 3) B (B + 1) (B + 2) start (orK K0 M) T F (A k) k n e wd) :
    e = .returned (.pointer (some ⟨wr.heap.size + 3, 0, none⟩)) ∧ M k = none ∧ wr.heap.size + 3 ≠ B + 3 ∧ Ev (fun x => x = B ∨ x = B + 1) wr wd ∧
      Tab wd (B + 3) B (B + 1) (B + 2) start (orK K0 (kput M k n)) (tput T k (wr.heap.size + 3)) F ∧
      Tab wd (wr.heap.size + 3) wr.heap.size (wr.heap.size + 1) (wr.heap.size + 2) n (fun _ => none) (fun _ => none) (fun _ => none) := by
  have ha := h.arrs.st1 k hs
  have hM : M k = none := by
    have := h.dom k
    rw [hp] at this
    cases hm : M k with
    | none => rfl
    | some m => rw [hm] at this; cases this
  have d1 := D.ret
  have dt := D.tab
  obtain ⟨_, hN⟩ := D.fresh ha hp
  rw [ha] at dt
  rw [ha, hp] at d1
  have hlt := h.tab.mkey.lt
  refine ⟨d1, hM, by omega, D.ev, (dt.congrK (orK_put hp hM)).congrT (fun s => ?_), hN⟩
  simp [dT, hp]

theorem Scr.step (h : Scr w wr B C start K0 St F A T M) {k : ByteArray} {n : Int} {wd w1 w2 : World} (hev : Ev (fun x => x = B ∨ x = B + 1) wr wd)
    (ht : Tab wd (B + 3) B (B + 1) (B + 2) start (orK K0 (kput M k n)) (tput T k (wr.heap.size + 3)) F)
    (hN : Tab wd (wr.heap.size + 3) wr.heap.size (wr.heap.size + 1) (wr.heap.size + 2) n (fun _ => none) (fun _ => none) (fun _ => none))
    (hm1 : MapAt w1 (C + 2) (fput (fun s => (T s).map ptr) k (ptr (wr.heap.size + 3)))) (he1 : Ev (fun x => x = C + 2) wd w1)
    (hm2 : MapAt w2 (C + 3) (fput (fun s => (M s).map (Value.int .i64)) k (.int .i64 n))) (he2 : Ev (fun x => x = C + 3) w1 w2) :
    Scr w w2 B C start K0 St F A (tput T k (wr.heap.size + 3)) (kput M k n) := by
  have hB := h.hB
  have hC := h.hC
  have hlt := h.at_.lt
  have z0 := h.below.size
  have z1 := hev.size
  have z2 := he1.size
  refine ⟨((h.below.trans (hev.below z0 (fun x hx => by omega))).trans (he1.below (by omega) (fun x hx => by omega))).trans (he2.below (by omega) (fun x hx => by omega)), hB, hC,
    (ht.ev he1 (by omega) (by omega) (by omega)).ev he2 (by omega) (by omega) (by omega), ((h.arr.ev hev (by omega)).ev he1 (by omega)).ev he2 (by omega), ((h.arrs.ev hev).ev he1).ev he2,
    ((h.seeded.ev hev (by omega)).ev he1 (by omega)).ev he2 (by omega), ((h.last.ev hev (by omega)).ev he1 (by omega)).ev he2 (by omega), (hm1.ev he2 (by omega)).congr (tput_fput T k _), hm2.congr (kput_fput M k n), fun s => ?_, fun s b hb => ?_, fun s b hb => ?_⟩
  · by_cases e : k = s
    · subst e; rw [tput_same, kput_same]; rfl
    · rw [tput_other T _ e, kput_other M n e]; exact h.dom s
  · by_cases e : k = s
    · subst e
      rw [tput_same] at hb
      cases hb
      exact ⟨n, kput_same _ _ _, (hN.start.ev he1).ev he2⟩
    · rw [tput_other T _ e] at hb
      obtain ⟨m, h1, h2⟩ := h.st s b hb
      exact ⟨m, by rw [kput_other M n e]; exact h1, ((h2.ev hev).ev he1).ev he2⟩
  · by_cases e : k = s
    · subst e
      rw [tput_same] at hb
      cases hb
      omega
    · rw [tput_other T _ e] at hb
      exact h.rng s b hb

theorem Scr.agrees (h : Scr w wr B C start K0 St F A T M) : Agrees wr (B + 3) C (C + 3) start (lineOf start (orK K0 M)) (fun s => (T s).isSome) :=
  agrees_of h.tab h.seeded h.at_ (fun s => by unfold lineOf wantOf orK; cases K0 s <;> rfl) h.dom

/-- Ahead of the loop. -/
theorem scr_start {w w5 w6 wm : World} {F : ByteArray → Option Value} {A : ByteArray → Option Nat} (E : Ev (fun _ => False) w w5) (b : Below w5.heap.size w5 w6) (z : w5.heap.size + 5 ≤ w6.heap.size)
    (t : Tab w6 (w5.heap.size + 3) w5.heap.size (w5.heap.size + 1) (w5.heap.size + 2) start K0 (fun _ => none) F) (m : MapAt w6 (w5.heap.size + 4) F) (a : Arrs w6 (w5.heap.size + 5) F A St)
    (e : Ev (fun _ => False) w6 wm) (m1 : MapAt wm w6.heap.size (fun s => (K0 s).map (Value.int .i64))) (m2 : MapAt wm (w6.heap.size + 1) (fun s => (St s).map (Value.int .i64)))
    (m3 : MapAt wm (w6.heap.size + 2) (fun _ => none)) (m4 : MapAt wm (w6.heap.size + 3) (fun _ => none)) : Scr w wm w5.heap.size w6.heap.size start K0 St F A (fun _ => none) (fun _ => none) :=
  ⟨ev_below ((E.fls (below_ev b)).fls e), E.size, z, (t.ev e (fun f => f) (fun f => f) (fun f => f)).congrK (fun s => by unfold orK; cases K0 s <;> rfl), m.ev e (fun f => f), a.ev e, m1, m2, m3, m4, fun _ => rfl, fun s b hb => by (cases hb), fun s b hb => by (cases hb)⟩
end
end Go.Proofs.Qxb6600949a
