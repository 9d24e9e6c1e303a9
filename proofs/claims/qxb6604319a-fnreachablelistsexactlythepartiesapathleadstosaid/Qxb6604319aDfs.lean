/-
  Depth-first search, plainly: the invariant of the two loops, and that what it marks is what a table with the certificate 'Good' reaches. Parties are numbered from 0 here.
-/
import Derived.Test.Qxb6604319aBfs
namespace Go.Proofs.Qxb6604319a

/-- How many of the first n are not marked. -/
def unm (S : Nat → Bool) : Nat → Nat
  | 0 => 0
  | n + 1 => unm S n + if S n then 0 else 1

/-- One mark set. -/
def mark (S : Nat → Bool) (j : Nat) : Nat → Bool := fun i => if i = j then true else S i

theorem mark_same (S : Nat → Bool) (j : Nat) : mark S j j = true := by simp [mark]
theorem mark_other (S : Nat → Bool) {j i : Nat} (h : i ≠ j) : mark S j i = S i := by simp [mark, h]
theorem mark_keep (S : Nat → Bool) (j : Nat) {i : Nat} (h : S i = true) : mark S j i = true := by
  by_cases e : i = j
  · subst e; exact mark_same _ _
  · rw [mark_other _ e]; exact h

theorem unm_off (S : Nat → Bool) (j : Nat) : ∀ n, n ≤ j → unm (mark S j) n = unm S n
  | 0, _ => rfl
  | n + 1, h => by
    unfold unm
    rw [unm_off S j n (by omega), mark_other S (show n ≠ j by omega)]

theorem unm_set (S : Nat → Bool) (j : Nat) (hj : S j = false) : ∀ n, j < n → unm (mark S j) n + 1 = unm S n
  | 0, h => absurd h (Nat.not_lt_zero _)
  | n + 1, h => by
    unfold unm
    by_cases e : n = j
    · subst e
      rw [unm_off S n n (Nat.le_refl _), mark_same, hj]
      simp
    · rw [mark_other S e]
      have := unm_set S j hj n (by omega)
      omega

theorem unm_none : ∀ n, unm (fun _ => false) n = n
  | 0 => rfl
  | n + 1 => by
    unfold unm
    rw [unm_none n]
    simp

/-- T holds p and is closed under the edges. -/
def Closed (n : Nat) (E : Nat → Nat → Bool) (p : Nat) (T : Nat → Prop) : Prop := T p ∧ ∀ i j, i < n → j < n → T i → E i j = true → T j

/-- What the search has marked, with K the stack. -/
structure DInv (n : Nat) (E : Nat → Nat → Bool) (p : Nat) (S : Nat → Bool) (K : List Nat) : Prop where
  plt : p < n
  src : S p = true
  done : ∀ i j, i < n → j < n → S i = true → i ∉ K → E i j = true → S j = true
  mem : ∀ x, x ∈ K → x < n ∧ S x = true
  least : ∀ T, Closed n E p T → ∀ q, q < n → S q = true → T q
  sum : unm S n + K.length ≤ n

theorem dinv_start {n : Nat} {E : Nat → Nat → Bool} {p : Nat} (hp : p < n) : DInv n E p (mark (fun _ => false) p) [p] := by
  refine ⟨hp, mark_same _ _, fun i j _ _ h hn => ?_, fun x hx => ?_, fun T hT q _ h => ?_, ?_⟩
  · rw [mark_other _ (fun e => hn (by simp [e]))] at h
    cases h
  · simp at hx; subst hx; exact ⟨hp, mark_same _ _⟩
  · by_cases e : q = p
    · subst e; exact hT.1
    · rw [mark_other _ e] at h; cases h
  · have := unm_set (fun _ => false) p rfl n hp
    rw [unm_none] at this
    simp
    omega

/-- INSIDE A ROUND: x is taken off the stack, its targets from k on are looked at. -/
structure DMid (n : Nat) (E : Nat → Nat → Bool) (p : Nat) (S : Nat → Bool) (x : Nat) (K : List Nat) (k : Nat) : Prop where
  inv : DInv n E p S (K ++ [x])
  seen : ∀ j, k ≤ j → j < n → E x j = true → S j = true

theorem dmid_start {n : Nat} {E : Nat → Nat → Bool} {p : Nat} {S : Nat → Bool} {x : Nat} {K : List Nat} (h : DInv n E p S (K ++ [x])) : DMid n E p S x K n :=
  ⟨h, fun j h1 h2 => absurd h2 (by omega)⟩

theorem dmid_skip {n : Nat} {E : Nat → Nat → Bool} {p : Nat} {S : Nat → Bool} {x : Nat} {K : List Nat} {k : Nat} (h : DMid n E p S x K (k + 1)) (hs : S k = true ∨ E x k = false) : DMid n E p S x K k := by
  refine ⟨h.inv, fun j h1 h2 he => ?_⟩
  by_cases e : j = k
  · subst e
    rcases hs with hs | hs
    · exact hs
    · rw [hs] at he; cases he
  · exact h.seen j (by omega) h2 he

theorem dmid_visit {n : Nat} {E : Nat → Nat → Bool} {p : Nat} {S : Nat → Bool} {x : Nat} {K : List Nat} {k : Nat} (h : DMid n E p S x K (k + 1)) (hk : k < n) (hS : S k = false) (hE : E x k = true) :
    DMid n E p (mark S k) x (K ++ [k]) k := by
  obtain ⟨hxn, hx1⟩ := h.inv.mem x (by simp)
  refine ⟨⟨h.inv.plt, mark_keep _ _ h.inv.src, fun i j hi hj h0 hn he => ?_, fun y hy => ?_, fun T hT q hq h0 => ?_, ?_⟩, fun j h1 h2 he => ?_⟩
  · have hik : i ≠ k := fun e => hn (by simp [e])
    rw [mark_other S hik] at h0
    refine mark_keep _ _ (h.inv.done i j hi hj h0 (fun hm => hn ?_) he)
    simp at hm ⊢
    rcases hm with hm | hm <;> simp [hm]
  · simp only [List.mem_append, List.mem_cons, List.not_mem_nil, or_false] at hy
    rcases hy with (hy | rfl) | rfl
    · obtain ⟨h1, h2⟩ := h.inv.mem y (by simp [hy])
      exact ⟨h1, mark_keep _ _ h2⟩
    · exact ⟨hk, mark_same _ _⟩
    · exact ⟨hxn, mark_keep _ _ hx1⟩
  · by_cases e : q = k
    · subst e
      exact hT.2 x q hxn hk (h.inv.least T hT x hxn hx1) hE
    · rw [mark_other S e] at h0
      exact h.inv.least T hT q hq h0
  · have h1 := h.inv.sum
    have h2 := unm_set S k hS n hk
    simp only [List.length_append, List.length_cons, List.length_nil] at h1 ⊢
    omega
  · by_cases e : j = k
    · subst e; exact mark_same _ _
    · exact mark_keep _ _ (h.seen j (by omega) h2 he)

theorem dmid_done {n : Nat} {E : Nat → Nat → Bool} {p : Nat} {S : Nat → Bool} {x : Nat} {K : List Nat} (h : DMid n E p S x K 0) : DInv n E p S K := by
  refine ⟨h.inv.plt, h.inv.src, fun i j hi hj h0 hn he => ?_, fun y hy => h.inv.mem y (by simp [hy]), h.inv.least, ?_⟩
  · by_cases e : i = x
    · subst e; exact h.seen j (Nat.zero_le _) hj he
    · exact h.inv.done i j hi hj h0 (by simp [e, hn]) he
  · have := h.inv.sum
    simp only [List.length_append, List.length_cons, List.length_nil] at this
    omega

/-- What is marked at the end is what is reached. -/
theorem dfs_reached {n : Nat} {E : Nat → Nat → Bool} {p : Nat} {S : Nat → Bool} {D : Nat → Int} (h : DInv n E p S []) (g : Good n E p D) (q : Nat) (hq : q < n) : S q = decide (0 ≤ D q) := by
  have h1 : S q = true → 0 ≤ D q := fun hs => h.least (fun q => 0 ≤ D q) ⟨by show 0 ≤ D p; rw [g.src]; decide, fun i j hi hj h0 he => (g.edge i j hi hj h0 he).1⟩ q hq hs
  have h2 : ∀ (m : Nat) (q : Nat), q < n → D q = m → S q = true := by
    intro m
    induction m with
    | zero =>
      intro q hq hd
      rw [g.zero q hq hd]
      exact h.src
    | succ m ih =>
      intro q hq hd
      obtain ⟨i, hi, hdi, he⟩ := g.pre q hq (by omega)
      exact h.done i q hi hq (ih i hi (by omega)) (by simp) he
  by_cases h0 : 0 ≤ D q
  · rw [h2 (D q).toNat q hq (by omega)]
    simp [h0]
  · cases hS : S q
    · simp [h0]
    · exact absurd (h1 hS) h0
end Go.Proofs.Qxb6604319a
