/-
  A map keyed by strings, told by a plain function ('MapAt'): its look-up, its store, its length; and how a world goes on where maps alone are written ('Ev').
-/
import Derived.WalkKit
import Derived.Maps.OwnSet
namespace Go.Proofs.Qxb6600949a
open Go.RowKit Go.MapKept
open Go.ChangeMaps (setBlock heap_setBlock_same heap_setBlock_other)

/-- Is k the string s? -/
def hit (s : ByteArray) (k : Value) : Bool := match k with | .string t => s == t | _ => false

theorem hit_iff {s : ByteArray} {k : Value} : hit s k = true ↔ k = .string s := by
  cases k <;> simp [hit, bytes_beq]
  exact eq_comm

/-- The first entry at s: its place and its value. -/
def getE : List MapEntry → ByteArray → Option (Nat × Value)
  | [], _ => none
  | e :: es, s => if hit s e.key then some (0, e.val) else (getE es s).map fun p => (p.1 + 1, p.2)

theorem findNow_get (s : ByteArray) : ∀ (l : List MapEntry) (i : Nat), (∀ x ∈ l, IsKey .string x.key) → Instr.findNow .string (.string s) l i = some ((getE l s).map fun p => (i + p.1, p.2))
  | [], _, _ => rfl
  | e :: es, i, h => by
    have ih := findNow_get s es (i + 1) (fun x hx => h x (by simp [hx]))
    have hk := h e (by simp)
    cases hek : e.key <;> rw [hek] at hk <;> simp [IsKey] at hk
    rename_i t
    unfold Instr.findNow getE
    rw [hek]
    cases hst : (s == t)
    · simp only [Instr.sameNow, hst, hit, Bool.false_eq_true, if_false, ih]
      cases getE es s with
      | none => rfl
      | some p => simp; omega
    · simp [Instr.sameNow, hst, hit]

theorem getE_push (l : List MapEntry) (e : MapEntry) (s : ByteArray) : (getE (l ++ [e]) s).map (·.2) = (((getE l s).map (·.2)).or (if hit s e.key then some e.val else none)) := by
  induction l with
  | nil => simp only [List.nil_append, getE]; split <;> simp
  | cons x l ih =>
    simp only [List.cons_append, getE]
    split
    · simp
    · simp only [Option.map_map]
      have e1 : ((fun x : Nat × Value => x.2) ∘ fun p : Nat × Value => (p.1 + 1, p.2)) = fun x => x.2 := rfl
      rw [e1]
      exact ih

theorem getE_key {l : List MapEntry} {s : ByteArray} {j : Nat} {v : Value} (h : getE l s = some (j, v)) : ∃ e, l[j]? = some e ∧ e.key = .string s := by
  induction l generalizing j with
  | nil => cases h
  | cons x l ih =>
    unfold getE at h
    split at h
    · rename_i hh
      cases h
      exact ⟨x, rfl, hit_iff.1 hh⟩
    · cases hg : getE l s with
      | none => rw [hg] at h; cases h
      | some p =>
        rw [hg] at h
        simp at h
        obtain ⟨rfl, rfl⟩ := h
        obtain ⟨e, he, hk⟩ := ih hg
        exact ⟨e, by simpa using he, hk⟩

theorem getE_modify {l : List MapEntry} {s : ByteArray} {j : Nat} {v0 : Value} (v : Value) (h : getE l s = some (j, v0)) (s' : ByteArray) :
    (getE (l.modify j (fun e => { e with key := .string s, val := v })) s').map (·.2) = if s == s' then some v else (getE l s').map (·.2) := by
  induction l generalizing j with
  | nil => cases h
  | cons x l ih =>
    unfold getE at h
    split at h
    · rename_i hh
      cases h
      simp only [List.modify_zero_cons, getE]
      cases hs : (s == s')
      · have h1 : hit s' (.string s) = false := by
          cases hx : hit s' (.string s)
          · rfl
          · have := hit_iff.1 hx
            cases this
            have := (bytes_beq s s).2 rfl
            rw [this] at hs; cases hs
        have h2 : hit s' x.key = false := by rw [hit_iff.1 hh]; exact h1
        simp [h1, h2]
      · have h1 : hit s' (.string s) = true := hit_iff.2 (by rw [(bytes_beq s s').1 hs])
        simp [h1]
    · rename_i hh
      cases hg : getE l s with
      | none => rw [hg] at h; cases h
      | some p =>
        rw [hg] at h
        simp at h
        obtain ⟨rfl, rfl⟩ := h
        have ih' := ih hg
        simp only [List.modify_succ_cons, getE]
        have e1 : ((fun x : Nat × Value => x.2) ∘ fun p : Nat × Value => (p.1 + 1, p.2)) = fun x => x.2 := rfl
        split
        · rename_i hx
          have : (s == s') = false := by
            cases hs : (s == s')
            · rfl
            · have := (bytes_beq s s').1 hs
              subst this
              exact absurd hx hh
          rw [this]
          simp
        · simp only [Option.map_map, e1]
          exact ih'

/-- BLOCK b IS A MAP KEYED BY STRINGS THAT HOLDS f. -/
def MapAt (w : World) (b : Nat) (f : ByteArray → Option Value) : Prop :=
  ∃ es clock, w.heap[b]? = some (.map es clock) ∧ (∀ x ∈ es.toList, IsKey .string x.key) ∧ ∀ s, (getE es.toList s).map (·.2) = f s

/-- One entry more. -/
def fput (f : ByteArray → Option Value) (s : ByteArray) (v : Value) : ByteArray → Option Value := fun s' => if s == s' then some v else f s'

theorem fput_same (f : ByteArray → Option Value) (s : ByteArray) (v : Value) : fput f s v s = some v := by
  have := (bytes_beq s s).2 rfl
  simp [fput, this]

theorem fput_other (f : ByteArray → Option Value) {s s' : ByteArray} (v : Value) (h : s ≠ s') : fput f s v s' = f s' := by
  have : (s == s') = false := by
    cases hs : (s == s')
    · rfl
    · exact absurd ((bytes_beq s s').1 hs) h
  simp [fput, this]

/-- HOW A WORLD GOES ON where nothing but map blocks of X is written and new blocks are made. -/
structure Ev (X : Nat → Prop) (w w' : World) : Prop where
  os : w'.os = w.os
  tape : w'.tape = w.tape
  output : w'.output = w.output
  size : w.heap.size ≤ w'.heap.size
  block : ∀ k, k < w.heap.size → ¬ X k → w'.heap[k]? = w.heap[k]?
  maps : ∀ k, k < w.heap.size → X k → ∃ es c, w.heap[k]? = some (.map es c)

theorem Ev.refl (w : World) : Ev (fun _ => False) w w := ⟨rfl, rfl, rfl, Nat.le_refl _, fun _ _ _ => rfl, fun _ _ h => h.elim⟩

theorem Ev.mono {X Y : Nat → Prop} {w w' : World} (h : Ev X w w') (hXY : ∀ k, X k → Y k) (hm : ∀ k, k < w.heap.size → Y k → ∃ es c, w.heap[k]? = some (.map es c)) : Ev Y w w' :=
  ⟨h.os, h.tape, h.output, h.size, fun k hk hn => h.block k hk (fun hx => hn (hXY k hx)), hm⟩

theorem Ev.trans {X Y : Nat → Prop} {a b c : World} (h : Ev X a b) (k : Ev Y b c) : Ev (fun n => X n ∨ Y n) a c := by
  refine ⟨k.os.trans h.os, k.tape.trans h.tape, k.output.trans h.output, Nat.le_trans h.size k.size, fun i hi hn => ?_, fun i hi hx => ?_⟩
  · rw [k.block i (Nat.lt_of_lt_of_le hi h.size) (fun y => hn (.inr y)), h.block i hi (fun x => hn (.inl x))]
  · by_cases hX : X i
    · exact h.maps i hi hX
    · rcases hx with hx | hy
      · exact absurd hx hX
      · obtain ⟨es, cl, he⟩ := k.maps i (Nat.lt_of_lt_of_le hi h.size) hy
        exact ⟨es, cl, by rw [← h.block i hi hX]; exact he⟩

theorem Ev.alloc {X : Nat → Prop} {a w : World} (h : Ev X a w) (o : Obj) : Ev X a (w.alloc o) :=
  ⟨h.os, h.tape, h.output, by have := h.size; simp; omega, fun k hk hn => by rw [Below.heap_alloc _ _ _ (Nat.lt_of_lt_of_le hk h.size)]; exact h.block k hk hn, h.maps⟩

theorem Ev.drew {X : Nat → Prop} {a w : World} (h : Ev X a w) : Ev X a w.drew := ⟨h.os, h.tape, h.output, h.size, h.block, h.maps⟩

theorem Ev.cell {X : Nat → Prop} {w w' : World} (h : Ev X w w') {a : Addr} {v : Value} (hc : w.cell? a = some v) : w'.cell? a = some v := by
  have hlt := World.block_lt_of_cell? _ _ hc
  by_cases hX : X a.block
  · obtain ⟨es, c, he⟩ := h.maps _ hlt hX
    simp [World.cell?, he] at hc
  · rw [World.cell?_of_block (w := w) (h.block _ hlt hX)]
    exact hc

theorem Ev.cells {X : Nat → Prop} {w w' : World} (h : Ev X w w') {b : Nat} {c : Array Value} {t : TypeId} {m : Nat × Nat} (hb : w.heap[b]? = some (.cells c t m)) : w'.heap[b]? = some (.cells c t m) := by
  have hlt := (Array.getElem?_eq_some_iff.1 hb).1
  by_cases hX : X b
  · obtain ⟨es, c, he⟩ := h.maps _ hlt hX
    rw [he] at hb
    cases hb
  · exact (h.block _ hlt hX).trans hb

theorem Ev.below {X : Nat → Prop} {w w' : World} (h : Ev X w w') {B : Nat} (hB : B ≤ w.heap.size) (hX : ∀ k, X k → B ≤ k) : Below B w w' :=
  ⟨h.os, h.tape, h.output, h.size, fun k hk => h.block k (by omega) (fun x => by have := hX k x; omega)⟩

theorem MapAt.lt {w : World} {b : Nat} {f : ByteArray → Option Value} (h : MapAt w b f) : b < w.heap.size := by
  obtain ⟨es, c, hb, _⟩ := h
  exact (Array.getElem?_eq_some_iff.1 hb).1

theorem MapAt.of_block {w w' : World} {b : Nat} {f : ByteArray → Option Value} (h : MapAt w b f) (e : w'.heap[b]? = w.heap[b]?) : MapAt w' b f := by
  obtain ⟨es, c, hb, r⟩ := h
  exact ⟨es, c, e.trans hb, r⟩

theorem MapAt.ev {X : Nat → Prop} {w w' : World} {b : Nat} {f : ByteArray → Option Value} (h : MapAt w b f) (e : Ev X w w') (hX : ¬ X b) : MapAt w' b f := h.of_block (e.block b h.lt hX)

theorem MapAt.alloc {w : World} {b : Nat} {f : ByteArray → Option Value} (h : MapAt w b f) (o : Obj) : MapAt (w.alloc o) b f := h.of_block (Below.heap_alloc _ _ _ h.lt)

theorem MapAt.congr {w : World} {b : Nat} {f g : ByteArray → Option Value} (h : MapAt w b f) (e : ∀ s, f s = g s) : MapAt w b g := by
  obtain ⟨es, c, hb, hk, hf⟩ := h
  exact ⟨es, c, hb, hk, fun s => (hf s).trans (e s)⟩

theorem mapAt_made (w : World) : MapAt (w.alloc (.map #[] 0)) w.heap.size (fun _ => none) :=
  ⟨#[], 0, (heap_alloc w _).1, by simp, fun _ => rfl⟩

theorem MapAt.one {w : World} {b : Nat} {f : ByteArray → Option Value} (h : MapAt w b f) : ∃ es c, w.heap[b]? = some (.map es c) := by
  obtain ⟨es, c, hb, _⟩ := h
  exact ⟨es, c, hb⟩

/-- A cell does not lie in a map's block. -/
theorem MapAt.ne_cell {w : World} {b : Nat} {f : ByteArray → Option Value} (h : MapAt w b f) {a : Addr} {v : Value} (hc : w.cell? a = some v) : a.block ≠ b := by
  obtain ⟨es, c, hb, _⟩ := h
  intro e
  subst e
  simp [World.cell?, hb] at hc

section
variable {P : Program} {w : World} {b : Nat} {f : ByteArray → Option Value} {t k e : TypeId} {z : Value}

theorem MapAt.look (h : MapAt w b f) (ht : P.underlying t = some (.map k e)) (hk : P.underlying k = some .string) (hz : (zeroValue e).run P w = .ok z w) (s : ByteArray) (ok : Bool) :
    (Instr.lookup t (.map (some b)) (.string s) ok).run P w = .ok (if ok then .tuple #[(f s).getD z, .bool (f s).isSome] else (f s).getD z) w := by
  obtain ⟨es, c, hb, hks, hf⟩ := h
  have hkey : IsKey .string (.string s) := by simp [IsKey]
  have hfind := findNow_get s es.toList 0 hks
  have hfs := hf s
  cases hg : getE es.toList s with
  | none =>
    rw [hg] at hfind hfs
    simp at hfs
    simp [Instr.lookup, run_underlying ht, MapKept.run_getObj_map hb, run_checkKey hk hkey, run_findKey hk hfind, Result.andThen, hz, ← hfs]
  | some p =>
    rw [hg] at hfind hfs
    simp at hfs
    simp [Instr.lookup, run_underlying ht, MapKept.run_getObj_map hb, run_checkKey hk hkey, run_findKey hk hfind, Result.andThen, ← hfs]

theorem isKey_string (s : ByteArray) : IsKey .string (.string s) := by simp [IsKey]

theorem MapAt.put (h : MapAt w b f) (ht : P.underlying t = some (.map k e)) (hk : P.underlying k = some .string) (s : ByteArray) (v : Value) :
    ∃ w', (Instr.mapUpdate t (.map (some b)) (.string s) v).run P w = .ok () w' ∧ MapAt w' b (fput f s v) ∧ Ev (fun n => n = b) w w' ∧ w'.heap.size = w.heap.size := by
  obtain ⟨es, c, hb, hks, hf⟩ := h
  have hkey := isKey_string s
  have hfind := findNow_get s es.toList 0 hks
  have hev : ∀ o, Ev (fun n => n = b) w (setBlock w b o) := fun o => ⟨rfl, rfl, rfl, by simp [setBlock], fun i _ hi => heap_setBlock_other hb _ hi, fun i _ hi => by subst hi; exact ⟨es, c, hb⟩⟩
  cases hg : getE es.toList s with
  | none =>
    rw [hg] at hfind
    refine ⟨setBlock w b (.map (es.push { key := .string s, val := v, born := c }) (c + 1)), ?_, ⟨_, _, heap_setBlock_same hb _, ?_, fun s' => ?_⟩, hev _, by simp [setBlock]⟩
    · simp [Instr.mapUpdate, run_underlying ht, MapKept.run_getObj_map hb, run_checkKey hk hkey, run_findKey hk hfind, MapKept.run_setObj_map _ hb, Result.andThen, setBlock]
    · intro x hx
      simp at hx
      rcases hx with hx | rfl
      · exact hks x (by simpa using hx)
      · exact hkey
    · rw [Array.toList_push, getE_push, hf s']
      unfold fput
      cases hs : (s == s')
      · have h1 : hit s' (.string s) = false := by
          cases hx : hit s' (.string s)
          · rfl
          · have := hit_iff.1 hx
            cases this
            have := (bytes_beq s s).2 rfl
            rw [this] at hs; cases hs
        simp [h1]
      · have e1 := (bytes_beq s s').1 hs
        subst e1
        have h1 : hit s (.string s) = true := hit_iff.2 rfl
        have h2 : f s = none := by rw [← hf s, hg]; rfl
        simp [h1, h2]
  | some p =>
    obtain ⟨j, v0⟩ := p
    obtain ⟨e0, he0, hk0⟩ := getE_key hg
    rw [hg] at hfind
    have hj : es[j]? = some e0 := by simpa using he0
    refine ⟨setBlock w b (.map (es.modify j fun e => { e with key := .string s, val := v }) c), ?_, ⟨_, _, heap_setBlock_same hb _, ?_, fun s' => ?_⟩, hev _, by simp [setBlock]⟩
    · simp [Instr.mapUpdate, run_underlying ht, MapKept.run_getObj_map hb, run_checkKey hk hkey, run_findKey hk hfind, hj, hk0, run_keyThatStays hkey, MapKept.run_setObj_map _ hb, Result.andThen, setBlock]
    · exact isKey_modify hks j _ (fun e he => by rw [hj] at he; cases he; exact hk0.symm)
    · rw [Array.toList_modify, getE_modify v hg, hf s']
      rfl

/-- 'len(m)' of a map that holds nothing. -/
theorem MapAt.lenNone (h : MapAt w b (fun _ => none)) (ht : P.underlying t = some (.map k e)) (ty : TypeId) : (Builtin.len_ #[t] ty #[.map (some b)]).run P w = .ok (.int .i64 0) w := by
  obtain ⟨es, c, hb, hks, hf⟩ := h
  have he : es.size = 0 := by
    cases hl : es.toList with
    | nil => have := congrArg List.length hl; simpa using this
    | cons x l =>
      have hk := hks x (by rw [hl]; simp)
      cases hx : x.key <;> rw [hx] at hk <;> simp [IsKey] at hk
      rename_i s
      have := hf s
      rw [hl] at this
      have hh : hit s x.key = true := hit_iff.2 hx
      simp [getE, hh] at this
  simp [Builtin.len_, run_underlying ht, MapKept.run_getObj_map hb, goInt, Result.andThen, he]

/-- 'm[k]', 'v, ok := m[k]' AT THE OPERATION. -/
theorem wpList_look {ops : Array Oper} {rest : List Oper} {o : Oper} {a : Act} {Q : Exit → Act → World → Prop} (hg : o.guard = none) (m x : Operand) (ok : Bool) (hop : o.op = Op.lookup t m x ok)
    (ht : P.underlying t = some (.map k e)) (hk : P.underlying k = some .string) (hz : (zeroValue e).run P w = .ok z w) (s : ByteArray) (hm : a.eval m = .map (some b)) (hx : a.eval x = .string s) (h : MapAt w b f)
    (v : Value) (hv : v = if ok then .tuple #[(f s).getD z, .bool (f s).isSome] else (f s).getD z)
    (hK : wpList P ops Q rest (a.put o.dst v) w) : wpList P ops Q (o :: rest) a w := by
  subst hv
  refine wpList_plain hg fun K' hK' => ?_
  have hrun := h.look ht hk hz s ok
  unfold Oper.wp
  simp [execOp, hop, hm, hx, hrun, Result.andThen]
  exact hK' _ _ hK

/-- 'm[k] = v' AT THE OPERATION. -/
theorem wpList_put {ops : Array Oper} {rest : List Oper} {o : Oper} {a : Act} {Q : Exit → Act → World → Prop} (hg : o.guard = none) (m x y : Operand) (hop : o.op = Op.mapUpdate t m x y)
    (ht : P.underlying t = some (.map k e)) (hk : P.underlying k = some .string) (s : ByteArray) (v : Value) (hm : a.eval m = .map (some b)) (hx : a.eval x = .string s) (hy : a.eval y = v) (h : MapAt w b f)
    (hK : ∀ w', MapAt w' b (fput f s v) → Ev (fun n => n = b) w w' → w'.heap.size = w.heap.size → wpList P ops Q rest (a.put o.dst undef) w') : wpList P ops Q (o :: rest) a w := by
  refine wpList_plain hg fun K' hK' => ?_
  obtain ⟨w', hrun, h1, h2, h3⟩ := h.put ht hk s v
  unfold Oper.wp
  simp [execOp, hop, hm, hx, hy, hrun, Result.andThen]
  exact hK' _ _ (hK w' h1 h2 h3)
end
end Go.Proofs.Qxb6600949a
