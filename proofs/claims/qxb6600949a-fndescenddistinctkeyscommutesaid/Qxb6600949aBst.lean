/-
  What holds inside zzB1BuildTable: the table, the map of arrays, the slice of keys; and what each step of the loops does to it. Worlds alone; no walk.
-/
import Derived.Test.Qxb6600949aArgs
namespace Go.Proofs.Qxb6600949a
open Go.RowKit Go.MapKept

/-- A world goes on, and of the old blocks those of R alone may turn. -/
structure Kp (R : Nat → Prop) (w w' : World) : Prop where
  os : w'.os = w.os
  tape : w'.tape = w.tape
  output : w'.output = w.output
  size : w.heap.size ≤ w'.heap.size
  block : ∀ k, k < w.heap.size → ¬ R k → w'.heap[k]? = w.heap[k]?

theorem Ev.kp {X : Nat → Prop} {w w' : World} (h : Ev X w w') : Kp X w w' := ⟨h.os, h.tape, h.output, h.size, h.block⟩
theorem kp_grown {w w' : World} {row : Option Nat} (h : w.grownBy w' row) : Kp (fun k => row = some k) w w' := ⟨h.os, h.tape, h.output, h.size, fun k hk hn => h.block k hk (fun e => hn e.symm)⟩
theorem Kp.weak {w w' : World} (h : Kp (fun n => (fun _ => False) n ∨ (fun _ => False) n) w w') : Kp (fun _ => False) w w' := ⟨h.os, h.tape, h.output, h.size, fun k hk hn => h.block k hk (fun x => x.elim hn hn)⟩
theorem Kp.trans {R R' : Nat → Prop} {a b c : World} (h : Kp R a b) (k : Kp R' b c) : Kp (fun n => R n ∨ R' n) a c :=
  ⟨k.os.trans h.os, k.tape.trans h.tape, k.output.trans h.output, Nat.le_trans h.size k.size, fun i hi hn => by rw [k.block i (Nat.lt_of_lt_of_le hi h.size) (fun y => hn (.inr y)), h.block i hi (fun x => hn (.inl x))]⟩
theorem Kp.below {R : Nat → Prop} {w w' : World} (h : Kp R w w') {B : Nat} (hB : B ≤ w.heap.size) (hR : ∀ k, R k → B ≤ k) : Below B w w' :=
  ⟨h.os, h.tape, h.output, h.size, fun k hk => h.block k (by omega) (fun x => by have := hR k x; omega)⟩

/-- A block that holds a table whose start is n. -/
def StartBlk (w : World) (b : Nat) (n : Int) : Prop := ∃ c, w.heap[b]? = some (.cells c 53 (0, 0)) ∧ c[0]? = some (.int .i64 n)

theorem StartBlk.cell {w : World} {b : Nat} {n : Int} (h : StartBlk w b n) : w.cell? ⟨b, 0, none⟩ = some (.int .i64 n) := by
  obtain ⟨c, hb, hc⟩ := h
  simp [World.cell?, hb, hc]
theorem StartBlk.lt {w : World} {b : Nat} {n : Int} (h : StartBlk w b n) : b < w.heap.size := by
  obtain ⟨c, hb, hc⟩ := h
  exact (Array.getElem?_eq_some_iff.1 hb).1
theorem StartBlk.kp {R : Nat → Prop} {w w' : World} {b : Nat} {n : Int} (h : StartBlk w b n) (k : Kp R w w') (hR : ¬ R b) : StartBlk w' b n := by
  have hl := h.lt
  obtain ⟨c, hb, hc⟩ := h
  exact ⟨c, (k.block b hl hR).trans hb, hc⟩
theorem StartBlk.ev {X : Nat → Prop} {w w' : World} {b : Nat} {n : Int} (h : StartBlk w b n) (e : Ev X w w') : StartBlk w' b n := by
  obtain ⟨c, hb, hc⟩ := h
  exact ⟨c, e.cells hb, hc⟩
theorem Tab.start {w : World} {tb km tm am : Nat} {start : Int} {K : ByteArray → Option Int} {T : ByteArray → Option Nat} {F : ByteArray → Option Value} (h : Tab w tb km tm am start K T F) : StartBlk w tb start := by
  obtain ⟨c, hc⟩ := h.blk
  have := h.c0
  simp only [World.cell?, hc] at this
  exact ⟨c, hc, by simpa using this⟩
theorem newW_start (w : World) (n : Int) : StartBlk (newW w n) (w.heap.size + 3) n := by
  refine ⟨#[.int .i64 n, .map (some w.heap.size), .map (some (w.heap.size + 1)), .map (some (w.heap.size + 2))], ?_, rfl⟩
  exact newW_blk w n

/-- A row of one type is no row of another. -/
theorem own_ne {w : World} {base base' n n' : Nat} {e e' : TypeId} {v v' : Value} {xs xs' : List Value} (h : w.ownsRow base e 1 v n xs) (h' : w.ownsRow base' e' 1 v' n' xs') (hne : e ≠ e') (k : Nat) (hk : v.ownBlock = some k) : v'.ownBlock ≠ some k := by
  intro hk'
  rcases h.2 with ⟨rfl, _⟩ | ⟨g, cap, cur, rfl, _, hb, _⟩
  · cases hk
  · rcases h'.2 with ⟨rfl, _⟩ | ⟨g', cap', cur', rfl, _, hb', _⟩
    · cases hk'
    · cases hk
      cases hk'
      rw [hb] at hb'
      cases hb'
      exact hne rfl

theorem own_start_ne {w : World} {base n : Nat} {e : TypeId} {v : Value} {xs : List Value} (h : w.ownsRow base e 1 v n xs) (he : e ≠ 53) {b : Nat} {m : Int} (hs : StartBlk w b m) : v.ownBlock ≠ some b := by
  intro hk
  rcases h.2 with ⟨rfl, _⟩ | ⟨g, cap, cur, rfl, _, hb, _⟩
  · cases hk
  · cases hk
    obtain ⟨c, hc, _⟩ := hs
    rw [hb] at hc
    cases hc
    exact he rfl

theorem own_kp {R : Nat → Prop} {w w' : World} {base n : Nat} {e : TypeId} {v : Value} {xs : List Value} (h : w.ownsRow base e 1 v n xs) (k : Kp R w w') (hR : ∀ j, v.ownBlock = some j → ¬ R j) : w'.ownsRow base e 1 v n xs := by
  obtain ⟨h1, h2⟩ := h
  refine ⟨h1, ?_⟩
  rcases h2 with h2 | ⟨g, cap, cur, rfl, hg, hb, r⟩
  · exact .inl h2
  · exact .inr ⟨g, cap, cur, rfl, hg, (k.block g (Array.getElem?_eq_some_iff.1 hb).1 (hR g rfl)).trans hb, r⟩

theorem own_bounds {w : World} {base n : Nat} {e : TypeId} {v : Value} {xs : List Value} (h : w.ownsRow base e 1 v n xs) (k : Nat) (hk : v.ownBlock = some k) : base ≤ k ∧ k < w.heap.size := h.lt k hk

theorem Tab.kp {R : Nat → Prop} {w w' : World} {tb km tm am : Nat} {start : Int} {K : ByteArray → Option Int} {T : ByteArray → Option Nat} {F : ByteArray → Option Value} (h : Tab w tb km tm am start K T F) (k : Kp R w w')
    (h0 : ¬ R tb) (h1 : ¬ R km) (h2 : ¬ R tm) (h3 : ¬ R am) : Tab w' tb km tm am start K T F := by
  have hlt := World.block_lt_of_cell? _ _ h.c0
  have hc : ∀ i v, w.cell? ⟨tb, i, none⟩ = some v → w'.cell? ⟨tb, i, none⟩ = some v := fun i v hv => by
    rw [World.cell?_of_block (w := w) (a := ⟨tb, i, none⟩) (k.block tb hlt h0)]; exact hv
  exact ⟨hc _ _ h.c0, hc _ _ h.c1, hc _ _ h.c2, hc _ _ h.c3, h.mkey.of_block (k.block _ h.mkey.lt h1), h.mt.of_block (k.block _ h.mt.lt h2), h.ma.of_block (k.block _ h.ma.lt h3), h.ne, by obtain ⟨c, hc⟩ := h.blk; exact ⟨c, (k.block tb hlt h0).trans hc⟩⟩

/-- THE STATE INSIDE zzB1BuildTable. f: the map 'arrs'; A: the last element's block of each array; St: its start; ord: the keys in 'order'; P: a key that is in 'order' already and not yet in 'arrs'. -/
structure BSt (w wr : World) (start : Int) (K : ByteArray → Option Int) (G : ByteArray → Option Value) (P : ByteArray → Prop) (f : ByteArray → Option Value) (A : ByteArray → Option Nat) (St : ByteArray → Option Int) (vo : Value) (ord : List ByteArray) (i : Nat) : Prop where
  below : Below w.heap.size w wr
  size : w.heap.size + 5 ≤ wr.heap.size
  tab : Tab wr (w.heap.size + 3) w.heap.size (w.heap.size + 1) (w.heap.size + 2) start K (fun _ => none) G
  mb : MapAt wr (w.heap.size + 4) f
  own : wr.ownsRow (w.heap.size + 5) 9 1 vo ord.length (ord.map Value.string)
  olen : ord.length ≤ i
  dom1 : ∀ s, f s ≠ none → s ∈ ord
  dom2 : ∀ s, s ∈ ord → f s ≠ none ∨ P s
  elem : ∀ s v, f s = some v → ∃ l : List Nat, wr.ownsRow (w.heap.size + 5) 28 1 v l.length (l.map ptr) ∧ l.length ≤ i ∧ l.getLast? = A s
  anone : ∀ s, f s = none → A s = none
  apart : ∀ s s' v v', f s = some v → f s' = some v' → s ≠ s' → ∀ k, v.ownBlock = some k → v'.ownBlock ≠ some k
  st1 : ∀ s, St s = none → A s = none
  st2 : ∀ s n, St s = some n → ∃ b, A s = some b ∧ StartBlk wr b n
  rng : ∀ s b, A s = some b → w.heap.size + 5 ≤ b ∧ b < wr.heap.size
  inj : ∀ s s' b, A s = some b → A s' = some b → s = s'

section
variable {w wr : World} {start : Int} {K : ByteArray → Option Int} {G : ByteArray → Option Value} {P : ByteArray → Prop} {f : ByteArray → Option Value} {A : ByteArray → Option Nat} {St : ByteArray → Option Int} {vo : Value} {ord : List ByteArray} {i : Nat}

/-- Blocks turn that are none of the state's own. -/
theorem BSt.kp (h : BSt w wr start K G P f A St vo ord i) {R : Nat → Prop} {w' : World} (k : Kp R wr w') (hB : ∀ j, R j → w.heap.size + 5 ≤ j) (ho : ∀ j, vo.ownBlock = some j → ¬ R j)
    (he : ∀ s v j, f s = some v → v.ownBlock = some j → ¬ R j) (hs : ∀ b n, StartBlk wr b n → ¬ R b) : BSt w w' start K G P f A St vo ord i := by
  have hsz := h.size
  refine ⟨h.below.trans (k.below (by omega) (fun j hj => by have := hB j hj; omega)), Nat.le_trans h.size k.size, h.tab.kp k ?_ ?_ ?_ ?_, h.mb.of_block (k.block _ h.mb.lt (fun x => by have := hB _ x; omega)), own_kp h.own k ho, h.olen, h.dom1, h.dom2,
    fun s v hv => ?_, h.anone, h.apart, h.st1, fun s n hn => ?_, fun s b hb => ⟨(h.rng s b hb).1, Nat.lt_of_lt_of_le (h.rng s b hb).2 k.size⟩, h.inj⟩
  · intro x; have := hB _ x; omega
  · intro x; have := hB _ x; omega
  · intro x; have := hB _ x; omega
  · intro x; have := hB _ x; omega
  · obtain ⟨l, h1, h2, h3⟩ := h.elem s v hv
    exact ⟨l, own_kp h1 k (he s v · hv), h2, h3⟩
  · obtain ⟨b, h1, h2⟩ := h.st2 s n hn
    exact ⟨b, h1, h2.kp k (hs b n h2)⟩

theorem BSt.fresh (h : BSt w wr start K G P f A St vo ord i) {w' : World} (k : Kp (fun _ => False) wr w') : BSt w w' start K G P f A St vo ord i :=
  h.kp k (fun _ f => f.elim) (fun _ _ f => f) (fun _ _ _ _ _ f => f) (fun _ _ _ f => f)

theorem BSt.weaken (h : BSt w wr start K G P f A St vo ord i) {P' : ByteArray → Prop} {i' : Nat} (hP : ∀ s, P s → P' s) (hi : i ≤ i') : BSt w wr start K G P' f A St vo ord i' :=
  ⟨h.below, h.size, h.tab, h.mb, h.own, Nat.le_trans h.olen hi, h.dom1, fun s hs => (h.dom2 s hs).elim .inl (fun x => .inr (hP s x)), fun s v hv => by obtain ⟨l, h1, h2, h3⟩ := h.elem s v hv; exact ⟨l, h1, Nat.le_trans h2 hi, h3⟩, h.anone, h.apart, h.st1, h.st2, h.rng, h.inj⟩

theorem kp_alloc (w : World) (o : Obj) : Kp (fun _ => False) w (w.alloc o) := ((Ev.refl w).alloc o).kp
theorem kp_drew (w : World) : Kp (fun _ => False) w w.drew := (Ev.refl w).drew.kp

/-- 'order = append(order, k)', k not yet in 'arrs'. -/
theorem BSt.order (h : BSt w wr start K G P f A St vo ord i) (hP : ∀ s, ¬ P s) (s : ByteArray) {w2 : World} {vo' : Value} (hg : wr.grownBy w2 vo.ownBlock) (hown : w2.ownsRow (w.heap.size + 5) 9 1 vo' (ord.length + 1) (ord.map Value.string ++ [.string s])) :
    BSt w w2 start K G (fun x => x = s) f A St vo' (ord ++ [s]) (i + 1) := by
  have hsz := h.size
  have k := kp_grown hg
  have hB : ∀ j, vo.ownBlock = some j → w.heap.size + 5 ≤ j := fun j hj => (own_bounds h.own j hj).1
  refine ⟨h.below.trans (k.below (by omega) (fun j hj => by have := hB j hj; omega)), Nat.le_trans h.size k.size, h.tab.kp k ?_ ?_ ?_ ?_, h.mb.of_block (k.block _ h.mb.lt (fun x => by have := hB _ x; omega)), by simpa using hown, by have := h.olen; simp; omega,
    fun s' hs' => by have := h.dom1 s' hs'; simp [this], fun s' hs' => ?_, fun s' v hv => ?_, h.anone, h.apart, h.st1, fun s' n hn => ?_, fun s' b hb => ⟨(h.rng s' b hb).1, Nat.lt_of_lt_of_le (h.rng s' b hb).2 k.size⟩, h.inj⟩
  · intro x; have := hB _ x; omega
  · intro x; have := hB _ x; omega
  · intro x; have := hB _ x; omega
  · intro x; have := hB _ x; omega
  · simp only [List.mem_append, List.mem_cons, List.not_mem_nil, or_false] at hs'
    rcases hs' with hs' | rfl
    · rcases h.dom2 s' hs' with h1 | h1
      · exact .inl h1
      · exact absurd h1 (hP s')
    · exact .inr rfl
  · obtain ⟨l, h1, h2, h3⟩ := h.elem s' v hv
    exact ⟨l, own_kp h1 k (fun j hj => own_ne h1 h.own (by decide) j hj), by omega, h3⟩
  · obtain ⟨b, h1, h2⟩ := h.st2 s' n hn
    exact ⟨b, h1, h2.kp k (own_start_ne h.own (by decide) h2)⟩

theorem ptr_inj {a b : Nat} (h : ptr a = ptr b) : a = b := by
  unfold ptr at h
  simpa using h

theorem tput_same (T : ByteArray → Option Nat) (s : ByteArray) (b : Nat) : tput T s b s = some b := by
  have := (bytes_beq s s).2 rfl
  simp [tput, this]
theorem beq_no {s s' : ByteArray} (h : s ≠ s') : (s == s') = false := by
  cases hs : (s == s')
  · rfl
  · exact absurd ((bytes_beq s s').1 hs) h
theorem tput_other (T : ByteArray → Option Nat) {s s' : ByteArray} (b : Nat) (h : s ≠ s') : tput T s b s' = T s' := by simp [tput, beq_no h]
theorem kput_same (T : ByteArray → Option Int) (s : ByteArray) (b : Int) : kput T s b s = some b := by
  have := (bytes_beq s s).2 rfl
  simp [kput, this]
theorem kput_other (T : ByteArray → Option Int) {s s' : ByteArray} (b : Int) (h : s ≠ s') : kput T s b s' = T s' := by simp [kput, beq_no h]

/-- What 'arrs[k]' reads: its list of blocks. -/
theorem BSt.look (h : BSt w wr start K G P f A St vo ord i) (s : ByteArray) : ∃ l : List Nat, wr.ownsRow (w.heap.size + 5) 28 1 ((f s).getD (.slice none 0 0)) l.length (l.map ptr) ∧ l.length ≤ i := by
  cases hf : f s with
  | none => exact ⟨[], World.ownsRow_nil _ _ _ _, Nat.zero_le _⟩
  | some v =>
    obtain ⟨l, h1, h2, _⟩ := h.elem s v hf
    exact ⟨l, h1, h2⟩

/-- 'arrs[k] = append(arrs[k], newTable(n))': wr: ahead of it; w3: behind the append; w4: behind the store. -/
theorem BSt.arr (h : BSt w wr start K G P f A St vo ord i) {s : ByteArray} (hP : ∀ x, P x → x = s) (hs : s ∈ ord) {n : Int} {l : List Nat} (hl : wr.ownsRow (w.heap.size + 5) 28 1 ((f s).getD (.slice none 0 0)) l.length (l.map ptr)) (hli : l.length ≤ i)
    {W2 w3 w4 : World} {v' : Value} (k12 : Kp (fun _ => False) wr W2) (hz2 : W2.heap.size = wr.heap.size + 5) (hst : StartBlk W2 (wr.heap.size + 3) n)
    (hg : W2.grownBy w3 ((f s).getD (.slice none 0 0)).ownBlock) (hown : w3.ownsRow (w.heap.size + 5) 28 1 v' (l.length + 1) (l.map ptr ++ [ptr (wr.heap.size + 3)])) (hat : v'.ownBlock = ((f s).getD (.slice none 0 0)).ownBlock ∨ v'.ownBlock = some W2.heap.size)
    (hm : MapAt w4 (w.heap.size + 4) (fput f s v')) (he : Ev (fun k => k = w.heap.size + 4) w3 w4) :
    BSt w w4 start K G (fun _ => False) (fput f s v') (tput A s (wr.heap.size + 3)) (kput St s n) vo ord (i + 1) := by
  have hsz := h.size
  have h2 := h.fresh k12
  have hl2 := own_kp hl k12 (fun _ _ f => f)
  have k23 := kp_grown hg
  have k34 := he.kp
  have hB : ∀ j, ((f s).getD (.slice none 0 0)).ownBlock = some j → w.heap.size + 5 ≤ j := fun j hj => (own_bounds hl j hj).1
  have hlt : ∀ j, ((f s).getD (.slice none 0 0)).ownBlock = some j → j < wr.heap.size := fun j hj => (own_bounds hl j hj).2
  have ksz := Nat.le_trans k23.size k34.size
  -- rows of other keys
  have hother : ∀ s' v, s' ≠ s → f s' = some v → ∀ j, v.ownBlock = some j → ((f s).getD (.slice none 0 0)).ownBlock ≠ some j := fun s' v hne hv j hj => by
    cases hf : f s with
    | none => simp [Value.ownBlock]
    | some v0 => exact h.apart s' s v v0 hv hf hne j hj
  have hrow : ∀ {v : Value} {e : TypeId} {m : Nat} {xs : List Value}, W2.ownsRow (w.heap.size + 5) e 1 v m xs → (∀ j, v.ownBlock = some j → ((f s).getD (.slice none 0 0)).ownBlock ≠ some j) → w4.ownsRow (w.heap.size + 5) e 1 v m xs := fun ho hn => by
    have h3 := own_kp ho k23 (fun j hj => hn j hj)
    exact own_kp h3 k34 (fun j hj e => by have := (own_bounds h3 j hj).1; omega)
  have hstart : ∀ {b : Nat} {m : Int}, StartBlk W2 b m → w.heap.size + 5 ≤ b → StartBlk w4 b m := fun hb hge => (hb.kp k23 (own_start_ne hl2 (by decide) hb)).kp k34 (fun e => by omega)
  have hfv : ∀ s', s' ≠ s → fput f s v' s' = f s' := fun s' hne => fput_other f v' (fun e => hne e.symm)
  have hA : ∀ s', s' ≠ s → tput A s (wr.heap.size + 3) s' = A s' := fun s' hne => tput_other A _ (fun e => hne e.symm)
  have hS : ∀ s', s' ≠ s → kput St s n s' = St s' := fun s' hne => kput_other St _ (fun e => hne e.symm)
  have e1 := fput_same f s v'
  have e2 := tput_same A s (wr.heap.size + 3)
  have e3 := kput_same St s n
  refine ⟨?_, by omega, ?_, hm, ?_, by have := h.olen; omega, fun s' hs' => ?_, fun s' hs' => ?_, fun s' v hv => ?_, fun s' hn => ?_, fun s1 s2 v1 v2 hv1 hv2 hne j hj => ?_, fun s' hn => ?_, fun s' m hn => ?_, fun s' b hb => ?_, fun s1 s2 b hb1 hb2 => ?_⟩
  · exact (h2.below.trans (k23.below (by omega) (fun j hj => by have := hB j hj; omega))).trans (k34.below (by have := k23.size; omega) (fun j hj => by omega))
  · refine (h2.tab.kp k23 ?_ ?_ ?_ ?_).kp k34 (by omega) (by omega) (by omega) (by omega)
    · intro x; have := hB _ x; omega
    · intro x; have := hB _ x; omega
    · intro x; have := hB _ x; omega
    · intro x; have := hB _ x; omega
  · exact hrow h2.own (fun j hj => own_ne h2.own hl2 (by decide) j hj)
  · by_cases e : s' = s
    · subst e; exact hs
    · rw [hfv s' e] at hs'; exact h.dom1 s' hs'
  · by_cases e : s' = s
    · subst e; left; rw [e1]; simp
    · rw [hfv s' e]
      rcases h.dom2 s' hs' with h' | h'
      · exact .inl h'
      · exact absurd (hP s' h') e
  · by_cases e : s' = s
    · subst e
      rw [e1] at hv
      cases hv
      refine ⟨l ++ [wr.heap.size + 3], ?_, by simp; omega, by rw [e2]; simp⟩
      have := own_kp hown k34 (fun j hj x => by have := (own_bounds hown j hj).1; omega)
      simpa using this
    · rw [hfv s' e] at hv
      obtain ⟨l', h1, h3, h4⟩ := h2.elem s' v hv
      exact ⟨l', hrow h1 (hother s' v e hv), by omega, by rw [hA s' e]; exact h4⟩
  · by_cases e : s' = s
    · subst e; rw [e1] at hn; cases hn
    · rw [hfv s' e] at hn; rw [hA s' e]; exact h.anone s' hn
  · by_cases a1 : s1 = s
    · subst a1
      have a2 : s2 ≠ s1 := fun x => hne x.symm
      rw [e1] at hv1
      cases hv1
      rw [hfv s2 a2] at hv2
      intro hj2
      rcases hat with hat | hat
      · exact hother s2 v2 a2 hv2 j hj2 (hat ▸ hj)
      · rw [hat] at hj
        cases hj
        obtain ⟨l', ho, _⟩ := h.elem s2 v2 hv2
        have := (own_bounds ho _ hj2).2
        omega
    · rw [hfv s1 a1] at hv1
      by_cases a2 : s2 = s
      · subst a2
        rw [e1] at hv2
        cases hv2
        intro hj2
        rcases hat with hat | hat
        · exact hother s1 v1 a1 hv1 j hj (hat ▸ hj2)
        · rw [hat] at hj2
          cases hj2
          obtain ⟨l', ho, _⟩ := h.elem s1 v1 hv1
          have := (own_bounds ho _ hj).2
          omega
      · rw [hfv s2 a2] at hv2
        exact h.apart s1 s2 v1 v2 hv1 hv2 hne j hj
  · by_cases e : s' = s
    · subst e; rw [e3] at hn; cases hn
    · rw [hS s' e] at hn; rw [hA s' e]; exact h.st1 s' hn
  · by_cases e : s' = s
    · subst e
      rw [e3] at hn
      cases hn
      exact ⟨_, e2, hstart hst (by omega)⟩
    · rw [hS s' e] at hn
      obtain ⟨b, h1, h3⟩ := h2.st2 s' m hn
      exact ⟨b, by rw [hA s' e]; exact h1, hstart h3 (h.rng s' b h1).1⟩
  · by_cases e : s' = s
    · subst e; rw [e2] at hb; cases hb; omega
    · rw [hA s' e] at hb
      have := h.rng s' b hb
      omega
  · by_cases a1 : s1 = s
    · subst a1
      rw [e2] at hb1
      cases hb1
      by_cases a2 : s2 = s1
      · exact a2.symm
      · rw [hA s2 a2] at hb2
        have := h.rng s2 _ hb2
        omega
    · rw [hA s1 a1] at hb1
      by_cases a2 : s2 = s
      · subst a2
        rw [e2] at hb2
        cases hb2
        have := h.rng s1 _ hb1
        omega
      · rw [hA s2 a2] at hb2
        exact h.inj s1 s2 b hb1 hb2

/-- 'arrs[k] = []*T{}' of a key that is not there. -/
theorem BSt.empty (h : BSt w wr start K G P f A St vo ord i) (hP : ∀ x, ¬ P x) {s : ByteArray} (hs : f s = none) {w1 : World} {v : Value} (hv : wr.ownsRow (w.heap.size + 5) 28 1 v 0 []) (hap : ∀ s' v' k, f s' = some v' → v'.ownBlock = some k → v.ownBlock ≠ some k)
    (hm : MapAt w1 (w.heap.size + 4) (fput f s v)) (he : Ev (fun k => k = w.heap.size + 4) wr w1) {w2 : World} (ka : Kp (fun _ => False) w1 w2) {w3 : World} {vo' : Value} (hg : w2.grownBy w3 vo.ownBlock) (hown : w3.ownsRow (w.heap.size + 5) 9 1 vo' (ord.length + 1) (ord.map Value.string ++ [.string s])) :
    BSt w w3 start K G (fun _ => False) (fput f s v) A St vo' (ord ++ [s]) (i + 1) := by
  have hsz := h.size
  have k1 := he.kp.trans ka
  have k2 := kp_grown hg
  have hB : ∀ j, vo.ownBlock = some j → w.heap.size + 5 ≤ j := fun j hj => (own_bounds h.own j hj).1
  have hown2 := own_kp h.own k1 (fun j hj e => by
    rcases e with e | e
    · have := hB j hj; omega
    · exact e)
  have ksz := Nat.le_trans k1.size k2.size
  have hfv : ∀ s', s' ≠ s → fput f s v s' = f s' := fun s' hne => fput_other f v (fun e => hne e.symm)
  have e1 := fput_same f s v
  have hrow : ∀ {u : Value} {m : Nat} {xs : List Value}, wr.ownsRow (w.heap.size + 5) 28 1 u m xs → w3.ownsRow (w.heap.size + 5) 28 1 u m xs := fun ho => by
    have h3 := own_kp ho k1 (fun j hj e => by
      rcases e with e | e
      · have := (own_bounds ho j hj).1; omega
      · exact e)
    exact own_kp h3 k2 (fun j hj => own_ne h3 hown2 (by decide) j hj)
  have hstart : ∀ {b : Nat} {m : Int}, StartBlk wr b m → w.heap.size + 5 ≤ b → StartBlk w3 b m := fun hb hge => by
    have h3 := hb.kp k1 (fun e => by
      rcases e with e | e
      · omega
      · exact e)
    exact h3.kp k2 (own_start_ne hown2 (by decide) h3)
  refine ⟨?_, by omega, ?_, ?_, by simpa using hown, by have := h.olen; simp; omega, fun s' hs' => ?_, fun s' hs' => ?_, fun s' u hu => ?_, fun s' hn => ?_, fun s1 s2 v1 v2 hv1 hv2 hne j hj => ?_, h.st1, fun s' m hn => ?_, fun s' b hb => ?_, h.inj⟩
  · refine (h.below.trans (k1.below (by omega) (fun j hj => ?_))).trans (k2.below (by have := k1.size; omega) (fun j hj => by have := hB j hj; omega))
    rcases hj with e | e
    · omega
    · exact e.elim
  · refine (h.tab.kp k1 ?_ ?_ ?_ ?_).kp k2 ?_ ?_ ?_ ?_
    · rintro (e | e)
      · omega
      · exact e
    · rintro (e | e)
      · omega
      · exact e
    · rintro (e | e)
      · omega
      · exact e
    · rintro (e | e)
      · omega
      · exact e
    · intro x; have := hB _ x; omega
    · intro x; have := hB _ x; omega
    · intro x; have := hB _ x; omega
    · intro x; have := hB _ x; omega
  · have m2 := hm.of_block (ka.block _ hm.lt (fun f => f))
    exact m2.of_block (k2.block _ m2.lt (fun x => by have := hB _ x; omega))
  · by_cases e : s' = s
    · subst e; simp
    · rw [hfv s' e] at hs'; have := h.dom1 s' hs'; simp [this]
  · by_cases e : s' = s
    · subst e; left; rw [e1]; simp
    · rw [hfv s' e]
      simp only [List.mem_append, List.mem_cons, List.not_mem_nil, or_false] at hs'
      rcases hs' with hs' | hs'
      · rcases h.dom2 s' hs' with h1 | h1
        · exact .inl h1
        · exact absurd h1 (hP s')
      · exact absurd hs' e
  · by_cases e : s' = s
    · subst e
      rw [e1] at hu
      cases hu
      exact ⟨[], by simpa using hrow hv, Nat.zero_le _, by simp [h.anone s' hs]⟩
    · rw [hfv s' e] at hu
      obtain ⟨l', h1, h3, h4⟩ := h.elem s' u hu
      exact ⟨l', hrow h1, by omega, h4⟩
  · by_cases e : s' = s
    · subst e; rw [e1] at hn; cases hn
    · rw [hfv s' e] at hn; exact h.anone s' hn
  · by_cases a1 : s1 = s
    · subst a1
      have a2 : s2 ≠ s1 := fun x => hne x.symm
      rw [e1] at hv1
      cases hv1
      rw [hfv s2 a2] at hv2
      intro hj2
      exact hap s2 v2 j hv2 hj2 hj
    · rw [hfv s1 a1] at hv1
      by_cases a2 : s2 = s
      · subst a2
        rw [e1] at hv2
        cases hv2
        exact hap s1 v1 j hv1 hj
      · rw [hfv s2 a2] at hv2
        exact h.apart s1 s2 v1 v2 hv1 hv2 hne j hj
  · obtain ⟨b, h1, h3⟩ := h.st2 s' m hn
    exact ⟨b, h1, hstart h3 (h.rng s' b h1).1⟩
  · have := h.rng s' b hb
    omega
end
end Go.Proofs.Qxb6600949a
