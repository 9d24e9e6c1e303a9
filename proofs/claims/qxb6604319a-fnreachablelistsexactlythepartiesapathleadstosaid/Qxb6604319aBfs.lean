/-
  Breadth-first search, plainly: the invariant of the two loops, the certificate that it ends in ('Good'), and what follows from the certificate. No Go in sight. Parties are numbered from 0 here.
-/
import Derived.WalkKit
namespace Go.Proofs.Qxb6604319a

/-- How many of the first n are not reached. -/
def unv (D : Nat → Int) : Nat → Nat
  | 0 => 0
  | n + 1 => unv D n + if D n < 0 then 1 else 0

/-- One entry turned. -/
def upd (D : Nat → Int) (j : Nat) (v : Int) : Nat → Int := fun i => if i = j then v else D i

theorem upd_same (D : Nat → Int) (j : Nat) (v : Int) : upd D j v j = v := by simp [upd]
theorem upd_other (D : Nat → Int) {j i : Nat} (v : Int) (h : i ≠ j) : upd D j v i = D i := by simp [upd, h]

theorem unv_le (D : Nat → Int) : ∀ n, unv D n ≤ n
  | 0 => Nat.le_refl _
  | n + 1 => by
    have := unv_le D n
    unfold unv
    split <;> omega

theorem unv_off (D : Nat → Int) (j : Nat) (v : Int) : ∀ n, n ≤ j → unv (upd D j v) n = unv D n
  | 0, _ => rfl
  | n + 1, h => by
    unfold unv
    rw [unv_off D j v n (by omega), upd_other D v (show n ≠ j by omega)]

theorem unv_set (D : Nat → Int) (j : Nat) (v : Int) (hj : D j < 0) (hv : 0 ≤ v) : ∀ n, j < n → unv (upd D j v) n + 1 = unv D n
  | 0, h => absurd h (Nat.not_lt_zero _)
  | n + 1, h => by
    unfold unv
    by_cases e : n = j
    · subst e
      rw [unv_off D n v n (Nat.le_refl _), upd_same, if_pos hj, if_neg (by omega)]
    · rw [upd_other D v e]
      have := unv_set D j v hj hv n (by omega)
      omega

theorem unv_all (D : Nat → Int) : ∀ n, (∀ i, i < n → D i < 0) → unv D n = n
  | 0, _ => rfl
  | n + 1, h => by
    unfold unv
    rw [unv_all D n (fun i hi => h i (by omega)), if_pos (h n (by omega))]

/-- THE CERTIFICATE: D is the table of shortest distances from p. -/
structure Good (n : Nat) (E : Nat → Nat → Bool) (p : Nat) (D : Nat → Int) : Prop where
  plt : p < n
  lo : ∀ q, q < n → -1 ≤ D q
  hi : ∀ q, q < n → D q < n
  src : D p = 0
  zero : ∀ q, q < n → D q = 0 → q = p
  pre : ∀ q, q < n → 0 < D q → ∃ i, i < n ∧ D i = D q - 1 ∧ E i q = true
  edge : ∀ i j, i < n → j < n → 0 ≤ D i → E i j = true → 0 ≤ D j ∧ D j ≤ D i + 1

/-- AT THE OUTER LOOP's HEAD: Q is the queue. -/
structure Inv (n : Nat) (E : Nat → Nat → Bool) (p : Nat) (D : Nat → Int) (Q : List Nat) : Prop where
  plt : p < n
  lo : ∀ q, q < n → -1 ≤ D q
  src : D p = 0
  zero : ∀ q, q < n → D q = 0 → q = p
  pre : ∀ q, q < n → 0 < D q → ∃ i, i < n ∧ D i = D q - 1 ∧ E i q = true
  cnt : ∀ q, q < n → D q + unv D n < n
  done : ∀ i j, i < n → j < n → 0 ≤ D i → i ∉ Q → E i j = true → 0 ≤ D j ∧ D j ≤ D i + 1
  mem : ∀ x, x ∈ Q → x < n ∧ 0 ≤ D x
  srt : Q.Pairwise (fun x y => D x ≤ D y)
  near : ∀ x, Q.head? = some x → ∀ q, q < n → D q ≤ D x + 1
  sum : unv D n + Q.length ≤ n

theorem inv_start {n : Nat} {E : Nat → Nat → Bool} {p : Nat} (hp : p < n) : Inv n E p (upd (fun _ => -1) p 0) [p] := by
  have hu : unv (upd (fun _ => -1) p 0) n + 1 = n := by
    rw [unv_set (fun _ => -1) p 0 (by decide) (by decide) n hp, unv_all]
    intro i _; decide
  have hv : ∀ q, q ≠ p → upd (fun _ => (-1 : Int)) p 0 q = -1 := fun q h => upd_other _ _ h
  have hs : upd (fun _ => (-1 : Int)) p 0 p = 0 := upd_same _ _ _
  have hc : ∀ q, upd (fun _ => (-1 : Int)) p 0 q = 0 ∨ upd (fun _ => (-1 : Int)) p 0 q = -1 := fun q => by
    by_cases e : q = p
    · subst e; exact .inl hs
    · exact .inr (hv q e)
  refine ⟨hp, fun q _ => by rcases hc q with h | h <;> omega, hs, fun q _ h => ?_, fun q _ h => ?_, fun q _ => ?_, fun i j _ _ h hn => ?_, fun x hx => ?_, by simp, fun x hx q _ => ?_, by simp; omega⟩
  · by_cases e : q = p
    · exact e
    · have := hv q e; omega
  · rcases hc q with e | e <;> omega
  · rcases hc q with e | e <;> omega
  · have : i ≠ p := fun e => hn (by simp [e])
    have := hv i this
    omega
  · simp at hx; subst hx; exact ⟨hp, by omega⟩
  · simp at hx
    subst hx
    rcases hc q with e | e <;> omega

/-- INSIDE A ROUND: x is at the queue's head, its first k targets are looked at. -/
structure Mid (n : Nat) (E : Nat → Nat → Bool) (p : Nat) (D : Nat → Int) (x : Nat) (Q : List Nat) (k : Nat) : Prop where
  inv : Inv n E p D (x :: Q)
  seen : ∀ j, j < k → E x j = true → 0 ≤ D j ∧ D j ≤ D x + 1

theorem mid_start {n : Nat} {E : Nat → Nat → Bool} {p : Nat} {D : Nat → Int} {x : Nat} {Q : List Nat} (h : Inv n E p D (x :: Q)) : Mid n E p D x Q 0 :=
  ⟨h, fun _ hj => absurd hj (Nat.not_lt_zero _)⟩

theorem mid_skip {n : Nat} {E : Nat → Nat → Bool} {p : Nat} {D : Nat → Int} {x : Nat} {Q : List Nat} {k : Nat} (h : Mid n E p D x Q k) (hk : k < n) (hs : 0 ≤ D k ∨ E x k = false) : Mid n E p D x Q (k + 1) := by
  refine ⟨h.inv, fun j hj he => ?_⟩
  by_cases e : j = k
  · subst e
    rcases hs with hs | hs
    · exact ⟨hs, h.inv.near x rfl _ hk⟩
    · rw [hs] at he; cases he
  · exact h.seen j (by omega) he

theorem mid_visit {n : Nat} {E : Nat → Nat → Bool} {p : Nat} {D : Nat → Int} {x : Nat} {Q : List Nat} {k : Nat} (h : Mid n E p D x Q k) (hk : k < n) (hD : D k < 0) (hE : E x k = true) :
    Mid n E p (upd D k (D x + 1)) x (Q ++ [k]) (k + 1) := by
  obtain ⟨hxn, hx0⟩ := h.inv.mem x (by simp)
  have hxk : x ≠ k := fun e => by subst e; omega
  have hpk : p ≠ k := fun e => by have := h.inv.src; subst e; omega
  have hu := unv_set D k (D x + 1) hD (by omega) n hk
  have hval : ∀ i, 0 ≤ D i → upd D k (D x + 1) i = D i := fun i hi => upd_other D _ (fun e => by subst e; omega)
  have hX : upd D k (D x + 1) x = D x := hval x hx0
  have hK : upd D k (D x + 1) k = D x + 1 := upd_same _ _ _
  refine ⟨⟨h.inv.plt, fun q hq => ?_, ?_, fun q hq hz => ?_, fun q hq hz => ?_, fun q hq => ?_, fun i j hi hj h0 hn he => ?_, fun y hy => ?_, ?_, fun y hy q hq => ?_, ?_⟩, fun j hj he => ?_⟩
  · by_cases e : q = k
    · subst e; omega
    · rw [upd_other D _ e]; exact h.inv.lo q hq
  · rw [upd_other D _ hpk]; exact h.inv.src
  · by_cases e : q = k
    · subst e; omega
    · rw [upd_other D _ e] at hz; exact h.inv.zero q hq hz
  · by_cases e : q = k
    · subst e; exact ⟨x, hxn, by omega, hE⟩
    · rw [upd_other D _ e] at hz ⊢
      obtain ⟨i, hi, hd, he⟩ := h.inv.pre q hq hz
      exact ⟨i, hi, by rw [hval i (by omega)]; exact hd, he⟩
  · by_cases e : q = k
    · subst e
      have := h.inv.cnt x hxn
      omega
    · rw [upd_other D _ e]
      have := h.inv.cnt q hq
      omega
  · have hik : i ≠ k := fun e => hn (by simp [e])
    rw [upd_other D _ hik] at h0 ⊢
    have hj' := h.inv.done i j hi hj h0 (fun hm => hn (by simp at hm ⊢; rcases hm with hm | hm <;> simp [hm])) he
    rw [hval j hj'.1]
    exact hj'
  · simp only [List.mem_cons, List.mem_append, List.not_mem_nil, or_false] at hy
    rcases hy with rfl | hy | rfl
    · exact ⟨hxn, by omega⟩
    · obtain ⟨h1, h2⟩ := h.inv.mem y (by simp [hy])
      exact ⟨h1, by rw [hval y h2]; exact h2⟩
    · exact ⟨hk, by omega⟩
  · show ((x :: Q) ++ [k]).Pairwise _
    rw [List.pairwise_append]
    refine ⟨?_, by simp, fun a ha b hb => ?_⟩
    · exact h.inv.srt.imp_of_mem fun {a b} ha hb hab => by
        rw [hval a (h.inv.mem a ha).2, hval b (h.inv.mem b hb).2]
        exact hab
    · simp at hb
      subst hb
      obtain ⟨h1, h2⟩ := h.inv.mem a ha
      rw [hval a h2, hK]
      exact h.inv.near x rfl a h1
  · simp at hy
    subst hy
    rw [hX]
    by_cases e : q = k
    · subst e; omega
    · rw [upd_other D _ e]; exact h.inv.near x rfl q hq
  · have := h.inv.sum
    simp only [List.length_cons, List.length_append, List.length_nil] at this ⊢
    omega
  · rw [hX]
    by_cases e : j = k
    · subst e; omega
    · obtain ⟨h1, h2⟩ := h.seen j (by omega) he
      rw [hval j h1]
      exact ⟨h1, h2⟩

theorem mid_done {n : Nat} {E : Nat → Nat → Bool} {p : Nat} {D : Nat → Int} {x : Nat} {Q : List Nat} (h : Mid n E p D x Q n) : Inv n E p D Q := by
  refine ⟨h.inv.plt, h.inv.lo, h.inv.src, h.inv.zero, h.inv.pre, h.inv.cnt, fun i j hi hj h0 hn he => ?_, fun y hy => h.inv.mem y (by simp [hy]), (List.pairwise_cons.1 h.inv.srt).2, fun y hy q hq => ?_, ?_⟩
  · by_cases e : i = x
    · subst e; exact h.seen j hj he
    · exact h.inv.done i j hi hj h0 (by simp [e, hn]) he
  · have hm : y ∈ Q := List.mem_of_mem_head? hy
    have h1 := (List.pairwise_cons.1 h.inv.srt).1 y hm
    have h2 := h.inv.near x rfl q hq
    omega
  · have := h.inv.sum
    simp only [List.length_cons] at this
    omega

theorem inv_end {n : Nat} {E : Nat → Nat → Bool} {p : Nat} {D : Nat → Int} (h : Inv n E p D []) : Good n E p D :=
  ⟨h.plt, h.lo, fun q hq => by have := h.cnt q hq; omega, h.src, h.zero, h.pre, fun i j hi hj h0 he => h.done i j hi hj h0 (by simp) he⟩

/-! ### What follows from the certificate -/

/-- The triangle. -/
theorem good_tri {n : Nat} {E : Nat → Nat → Bool} {p q : Nat} {Dp Dq : Nat → Int} (hp : Good n E p Dp) (hq : Good n E q Dq) (h0 : 0 ≤ Dp q) :
    ∀ (m r : Nat), r < n → Dq r = m → 0 ≤ Dp r ∧ Dp r ≤ Dp q + m
  | 0, r, hr, h => by
    obtain rfl := hq.zero r hr h
    exact ⟨h0, by omega⟩
  | m + 1, r, hr, h => by
    obtain ⟨i, hi, hd, he⟩ := hq.pre r hr (by omega)
    obtain ⟨h1, h2⟩ := good_tri hp hq h0 m i hi (by omega)
    obtain ⟨h3, h4⟩ := hp.edge i r hi hr h1 he
    exact ⟨h3, by omega⟩

theorem good_triangle {n : Nat} {E : Nat → Nat → Bool} {p q r : Nat} {Dp Dq : Nat → Int} (hp : Good n E p Dp) (hq : Good n E q Dq) (hr : r < n) (h0 : 0 ≤ Dp q) (h1 : 0 ≤ Dq r) :
    0 ≤ Dp r ∧ Dp r ≤ Dp q + Dq r := by
  have := good_tri hp hq h0 (Dq r).toNat r hr (by omega)
  omega

/-- Back along the way that Dp tells, where every edge runs both ways. -/
theorem good_back {n : Nat} {E : Nat → Nat → Bool} {p q : Nat} {Dp Dq : Nat → Int} (hp : Good n E p Dp) (hq : Good n E q Dq) (hE : ∀ i j, i < n → j < n → E i j = E j i) :
    ∀ (m x : Nat), x < n → Dp x = m → 0 ≤ Dq x → 0 ≤ Dq p ∧ Dq p ≤ Dq x + m
  | 0, x, hx, h, h0 => by
    obtain rfl := hp.zero x hx h
    exact ⟨h0, by omega⟩
  | m + 1, x, hx, h, h0 => by
    obtain ⟨i, hi, hd, he⟩ := hp.pre x hx (by omega)
    rw [hE i x hi hx] at he
    obtain ⟨h3, h4⟩ := hq.edge x i hx hi h0 he
    obtain ⟨h1, h2⟩ := good_back hp hq hE m i hi (by omega) h3
    exact ⟨h1, by omega⟩

theorem good_symm {n : Nat} {E : Nat → Nat → Bool} {p q : Nat} {Dp Dq : Nat → Int} (hp : Good n E p Dp) (hq : Good n E q Dq) (hE : ∀ i j, i < n → j < n → E i j = E j i) :
    Dp q = Dq p := by
  have l1 := hp.lo q hq.plt
  have l2 := hq.lo p hp.plt
  have s1 := hp.src
  have s2 := hq.src
  have a1 : 0 ≤ Dp q → 0 ≤ Dq p ∧ Dq p ≤ Dp q := fun h => by
    have := good_back hp hq hE (Dp q).toNat q hq.plt (by omega) (by omega)
    omega
  have a2 : 0 ≤ Dq p → 0 ≤ Dp q ∧ Dp q ≤ Dq p := fun h => by
    have := good_back hq hp hE (Dq p).toNat p hp.plt (by omega) (by omega)
    omega
  omega

/-- In the complete graph every other party is one step away. -/
theorem good_full {n : Nat} {E : Nat → Nat → Bool} {p : Nat} {D : Nat → Int} (h : Good n E p D) (hE : ∀ i j, i < n → j < n → i ≠ j → E i j = true) (q : Nat) (hq : q < n) : D q = if q = p then 0 else 1 := by
  by_cases e : q = p
  · subst e; rw [if_pos rfl]; exact h.src
  · rw [if_neg e]
    obtain ⟨h1, h2⟩ := h.edge p q h.plt hq (by rw [h.src]; decide) (hE p q h.plt hq (fun x => e x.symm))
    have h3 : D q ≠ 0 := fun z => e (h.zero q hq z)
    have := h.src
    omega
end Go.Proofs.Qxb6604319a
