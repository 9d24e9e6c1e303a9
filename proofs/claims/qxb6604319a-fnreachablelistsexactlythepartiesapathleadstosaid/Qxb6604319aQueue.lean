/-
  A slice of ints of the call's own that is read from its head ('q = q[1:]') and appended to: 'QueueAt'. One law for the append, whether there is room or not.
-/
import Derived.Test.Qxb6604319aSmall
namespace Go.Proofs.Qxb6604319a
open Go.RowKit

/-- The slice v lies in block g (from 'base' on), at offset o, and its elements are Q. -/
def QueueAt (w : World) (base : Nat) (v : Value) (Q : List Value) : Prop :=
  ∃ g o cap c, v = .slice (some ⟨g, o, none⟩) Q.length cap ∧ base ≤ g ∧ w.heap[g]? = some (.cells c 3 (0, 0)) ∧ Q.length ≤ cap ∧ o + cap ≤ c.size ∧ ∀ i u, Q[i]? = some u → c[o + i]? = some u

theorem QueueAt.of_block {w w' : World} {base : Nat} {v : Value} {Q : List Value} (h : QueueAt w base v Q) (hb : ∀ k, base ≤ k → k < w.heap.size → w'.heap[k]? = w.heap[k]?) : QueueAt w' base v Q := by
  obtain ⟨g, o, cap, c, hv, hg, hc, h1, h2, h3⟩ := h
  obtain ⟨hlt, _⟩ := Array.getElem?_eq_some_iff.1 hc
  exact ⟨g, o, cap, c, hv, hg, (hb g hg hlt).trans hc, h1, h2, h3⟩

theorem QueueAt.alloc {w : World} {base : Nat} {v : Value} {Q : List Value} (h : QueueAt w base v Q) (o : Obj) : QueueAt (w.alloc o) base v Q :=
  h.of_block fun _ _ hk => Below.heap_alloc _ _ _ hk

theorem QueueAt.setBelow {w : World} {base : Nat} {v : Value} {Q : List Value} (h : QueueAt w base v Q) {a : Addr} (ha : a.block < base) (u : Value) : QueueAt (w.setCell a u) base v Q :=
  h.of_block fun k hk _ => Below.heap_setCell _ _ _ _ (by omega)

/-- The head taken off. -/
theorem QueueAt.tail {w : World} {base g o cap : Nat} {c : Array Value} {x : Value} {Q : List Value} (hg : base ≤ g) (hc : w.heap[g]? = some (.cells c 3 (0, 0))) (h1 : (x :: Q).length ≤ cap) (h2 : o + cap ≤ c.size)
    (h3 : ∀ i u, (x :: Q)[i]? = some u → c[o + i]? = some u) (o' : Nat) (ho : o' = o + 1 ∨ cap = 1) (hle : o' ≤ o + 1) : QueueAt w base (.slice (some ⟨g, o', none⟩) Q.length (cap - 1)) Q := by
  refine ⟨g, o', cap - 1, c, rfl, hg, hc, by simp at h1; omega, by simp at h1; omega, fun i u hu => ?_⟩
  rcases ho with rfl | rfl
  · have := h3 (i + 1) u (by simpa using hu)
    rw [show o + 1 + i = o + (i + 1) by omega]
    exact this
  · have : Q = [] := List.eq_nil_of_length_eq_zero (by simp only [List.length_cons] at h1; omega)
    subst this
    simp at hu

/-- A queue that is not empty, as the walk wants it. -/
theorem QueueAt.head {w : World} {base : Nat} {v x : Value} {Q : List Value} (h : QueueAt w base v (x :: Q)) :
    ∃ g o L cap, v = .slice (some ⟨g, o, none⟩) L cap ∧ 0 < L ∧ L ≤ cap ∧ w.cell? ⟨g, o, none⟩ = some x ∧
      ∀ o', o' = o + 1 ∨ cap = 1 → o' ≤ o + 1 → QueueAt w base (.slice (some ⟨g, o', none⟩) (L - 1) (cap - 1)) Q := by
  obtain ⟨g, o, cap, c, rfl, hg, hc, h1, h2, h3⟩ := h
  refine ⟨g, o, (x :: Q).length, cap, rfl, by simp, h1, ?_, fun o' ho hle => QueueAt.tail hg hc h1 h2 h3 o' ho hle⟩
  have := h3 0 x rfl
  simpa [World.cell?, hc] using this

/-- An empty queue. -/
theorem QueueAt.empty {w : World} {base : Nat} {v : Value} (h : QueueAt w base v []) : ∃ g o cap, v = .slice (some ⟨g, o, none⟩) 0 cap := by
  obtain ⟨g, o, cap, c, rfl, _⟩ := h
  exact ⟨g, o, cap, rfl⟩

theorem wpList_append_queue (w : World) {ops : Array Oper} {rest : List Oper} {o : Oper} {a : Act} {K : Exit → Act → World → Prop}
    (hg : o.guard = none) (s x : Operand) (hop : o.op = Op.call { callee := Callee.builtin Builtin.append, args := #[s, x], argTypes := #[29, 29] })
    (base : Nat) (v : Value) (Q : List Value) (hs : a.eval s = v) (hq : QueueAt w base v Q) (hbase : base ≤ w.heap.size)
    (ad : Addr) (u : Value) (hx : a.eval x = .slice (some ad) 1 1) (hc : w.cell? ad = some u) (h1c : u.oneCell' = true) (hlen : Q.length ≤ 1000000)
    (hK : ∀ v' w', QueueAt w' base v' (Q ++ [u]) → Below base w w' → wpList Try.prog ops K rest (a.put o.dst v') w') :
    wpList Try.prog ops K (o :: rest) a w := by
  obtain ⟨i0, hi, hz0, hz1, hz2⟩ := info_parts Try.info3
  obtain ⟨g, off, cap, c, rfl, hbg, hblk, hle, hsz, hel⟩ := hq
  have hcell : ∀ j, w.cell? ⟨g, off + j, none⟩ = c[off + j]? := fun j => by simp [World.cell?, hblk]
  refine wpList_append_arg w hg s x 29 hop 3 i0 (.int .i64 0) 1 8 Try.underlying29 hi hz0 hz1 hz2 rfl (by decide) g off Q.length cap Q hs (by simp) (fun j y hy => by rw [hcell]; exact hel j y hy)
    ad 1 1 [u] hx rfl (fun j y hy => ?_) (fun y hy => by simp at hy; subst hy; exact h1c) (fun hr j hj => ?_) (by unfold maxLen; omega) (by omega) (fun hr => ?_) (fun hr v' w' hown hgr => ?_)
  · match j, hy with
    | 0, hy => simp at hy; subst hy; simpa [Addr.add] using hc
  · simp at hj
    subst hj
    simp only [Nat.mul_one, Nat.add_zero]
    rw [hcell]
    refine ⟨?_, by simp [World.frozen?, hblk]⟩
    rw [Array.getElem?_eq_getElem (by omega)]
    rfl
  · rw [Nat.mul_one]
    have e : w.setCells g (off + Q.length) [u] = w.setCell ⟨g, off + Q.length, none⟩ u := rfl
    rw [e]
    refine hK _ _ ⟨g, off, cap, c.setIfInBounds (off + Q.length) u, by simp, hbg, ?_, by simpa using hr, by simpa using hsz, fun i y hy => ?_⟩ ((Below.refl _ _).setCell hbg _)
    · simp [World.setCell, Array.getElem?_modify, hblk]
    · rw [Array.getElem?_setIfInBounds]
      by_cases hi : i < Q.length
      · rw [if_neg (by omega)]
        rw [List.getElem?_append_left hi] at hy
        exact hel i y hy
      · rw [List.getElem?_append_right (by omega)] at hy
        obtain rfl : i = Q.length := by
          by_cases e : i - Q.length = 0
          · omega
          · rw [List.getElem?_eq_none (by simp; omega)] at hy
            cases hy
        simp at hy
        subst hy
        simp
        omega
  · obtain ⟨hl, hh⟩ := hown
    rcases hh with ⟨_, h0⟩ | ⟨g', cap', cur, rfl, hg', hb', h1, h2, h3, h4⟩
    · omega
    · refine hK _ _ ⟨g', 0, cap', cur, by simp, by omega, hb', by simpa using h1, by omega, fun i y hy => ?_⟩ ((Below.refl _ _).grown hgr hbase (by simp))
      rw [← h4] at hy
      have := List.getElem?_take (l := cur.toList) (i := (Q.length + 1) * 1) (j := i)
      rw [this] at hy
      split at hy
      · simpa using hy
      · cases hy
end Go.Proofs.Qxb6604319a
