/-
  A table (tableLines) in memory ('Tab'), and the functions on one table.
-/
import Derived.Test.Qxb6600949aRows
import Derived.Test.Qxb6600949aMap
import Derived.WalkSpells
import Derived.WalkLawsBesides
import Derived.Deep.DeepMust
namespace Go.Proofs.Qxb6600949a
open Go.RowKit Go.MapKept

def ptr (b : Nat) : Value := .pointer (some ⟨b, 0, none⟩)

theorem zero3 (w : World) : (zeroValue 3).run Try.prog w = .ok (.int .i64 0) w := by kernel_rfl
theorem zero28 (w : World) : (zeroValue 28).run Try.prog w = .ok (.pointer none) w := by kernel_rfl
theorem zero37 (w : World) : (zeroValue 37).run Try.prog w = .ok (.slice none 0 0) w := by kernel_rfl

/-- What newTableLines lays: three maps and the struct. -/
def newW (w : World) (start : Int) : World :=
  (((w.alloc (.map #[] 0)).alloc (.map #[] 0)).alloc (.map #[] 0)).alloc (.cells #[.int .i64 start, .map (some w.heap.size), .map (some (w.heap.size + 1)), .map (some (w.heap.size + 2))] 53)

theorem newW_size (w : World) (start : Int) : (newW w start).heap.size = w.heap.size + 4 := by simp [newW]

theorem newW_ev (w : World) (start : Int) : Ev (fun _ => False) w (newW w start) := ((((Ev.refl w).alloc _).alloc _).alloc _).alloc _

theorem newW_cell (w : World) (start : Int) (i : Nat) : (newW w start).cell? ⟨w.heap.size + 3, i, none⟩ = #[.int .i64 start, .map (some w.heap.size), .map (some (w.heap.size + 1)), .map (some (w.heap.size + 2))][i]? :=
  World.cell?_alloc_at _ _ _ _ (by simp)

theorem Ev.cblk {X : Nat → Prop} {w w' : World} (h : Ev X w w') {b : Nat} (hb : ∃ c, w.heap[b]? = some (.cells c 53 (0, 0))) : ∃ c, w'.heap[b]? = some (.cells c 53 (0, 0)) := by
  obtain ⟨c, hc⟩ := hb
  exact ⟨c, h.cells hc⟩

theorem newW_blk (w : World) (n : Int) : (newW w n).heap[w.heap.size + 3]? = some (.cells #[.int .i64 n, .map (some w.heap.size), .map (some (w.heap.size + 1)), .map (some (w.heap.size + 2))] 53 (0, 0)) := by
  have := (heap_alloc (((w.alloc (.map #[] 0)).alloc (.map #[] 0)).alloc (.map #[] 0)) (.cells #[.int .i64 n, .map (some w.heap.size), .map (some (w.heap.size + 1)), .map (some (w.heap.size + 2))] 53)).1
  simpa [newW] using this

/-- A TABLE: the struct in block tb, its maps in km, tm, am; K, T, F: what they hold. -/
structure Tab (w : World) (tb km tm am : Nat) (start : Int) (K : ByteArray → Option Int) (T : ByteArray → Option Nat) (F : ByteArray → Option Value) : Prop where
  c0 : w.cell? ⟨tb, 0, none⟩ = some (.int .i64 start)
  c1 : w.cell? ⟨tb, 1, none⟩ = some (.map (some km))
  c2 : w.cell? ⟨tb, 2, none⟩ = some (.map (some tm))
  c3 : w.cell? ⟨tb, 3, none⟩ = some (.map (some am))
  mkey : MapAt w km (fun s => (K s).map (Value.int .i64))
  mt : MapAt w tm (fun s => (T s).map ptr)
  ma : MapAt w am F
  ne : km ≠ tm ∧ km ≠ am ∧ tm ≠ am
  blk : ∃ c, w.heap[tb]? = some (.cells c 53 (0, 0))

theorem Tab.ev {X : Nat → Prop} {w w' : World} {tb km tm am : Nat} {start : Int} {K : ByteArray → Option Int} {T : ByteArray → Option Nat} {F : ByteArray → Option Value} (h : Tab w tb km tm am start K T F) (e : Ev X w w')
    (h1 : ¬ X km) (h2 : ¬ X tm) (h3 : ¬ X am) : Tab w' tb km tm am start K T F :=
  ⟨e.cell h.c0, e.cell h.c1, e.cell h.c2, e.cell h.c3, h.mkey.ev e h1, h.mt.ev e h2, h.ma.ev e h3, h.ne, e.cblk h.blk⟩

theorem newW_tab (w : World) (start : Int) : Tab (newW w start) (w.heap.size + 3) w.heap.size (w.heap.size + 1) (w.heap.size + 2) start (fun _ => none) (fun _ => none) (fun _ => none) := by
  refine ⟨by rw [newW_cell]; rfl, by rw [newW_cell]; rfl, by rw [newW_cell]; rfl, by rw [newW_cell]; rfl, ?_, ?_, ?_, ⟨by omega, by omega, by omega⟩, ⟨_, newW_blk w start⟩⟩
  · exact (((mapAt_made w).alloc _).alloc _).alloc _
  · have := ((mapAt_made (w.alloc (.map #[] 0))).alloc (.map #[] 0)).alloc (.cells #[.int .i64 start, .map (some w.heap.size), .map (some (w.heap.size + 1)), .map (some (w.heap.size + 2))] 53)
    simpa [newW] using this
  · have := (mapAt_made ((w.alloc (.map #[] 0)).alloc (.map #[] 0))).alloc (.cells #[.int .i64 start, .map (some w.heap.size), .map (some (w.heap.size + 1)), .map (some (w.heap.size + 2))] 53)
    simpa [newW] using this

set_option maxHeartbeats 400000 in
theorem new_any (start : Int) (w : World) : Calls Try.prog 26 #[.int .i64 start] w fun e w' => e = .returned (ptr (w.heap.size + 3)) ∧ newW w start = w' := by
  have hmm := @run_makeMap Try.prog
  go_enter Try.func26, Try.ntmps26
  go_wp2
  go_ret
  exact ⟨rfl, rfl⟩

set_option maxHeartbeats 400000 in
theorem znew_any (start : Int) (w : World) : Calls Try.prog 20 #[.int .i64 start] w fun e w' => e = .returned (ptr (w.heap.size + 3)) ∧ newW w start = w' := by
  go_enter Try.func20, Try.ntmps20
  go_wp2_with (go_at_call 26; refine (new_any _ _).mono ?_; rintro e w' ⟨rfl, rfl⟩)
  go_ret
  exact ⟨rfl, rfl⟩

set_option maxHeartbeats 400000 in
theorem start_any (tb : Nat) (n : Int) (w : World) (h : w.cell? ⟨tb, 0, none⟩ = some (.int .i64 n)) : Calls Try.prog 12 #[ptr tb] w fun e w' => e = .returned (.int .i64 n) ∧ w = w' := by
  unfold ptr
  go_enter Try.func12, Try.ntmps12
  go_wp2
  go_ret
  exact ⟨rfl, rfl⟩

/-- The line of a key. -/
def lineOf (start : Int) (K : ByteArray → Option Int) (s : ByteArray) : Int := (K s).getD start

set_option maxHeartbeats 400000 in
theorem line_any {w : World} {tb km tm am : Nat} {start : Int} {K : ByteArray → Option Int} {T : ByteArray → Option Nat} {F : ByteArray → Option Value} (h : Tab w tb km tm am start K T F) (s : ByteArray) :
    Calls Try.prog 25 #[ptr tb, .string s] w fun e w' => e = .returned (.int .i64 (lineOf start K s)) ∧ w = w' := by
  unfold ptr lineOf
  have c0 := h.c0
  have c1 := h.c1
  have hl := h.mkey.look Try.underlying32 Try.underlying9 (zero3 w) s true
  cases hK : K s with
  | none =>
    simp only [hK, Option.map_none, Option.getD_none, Option.isSome_none, if_true] at hl
    go_enter Try.func25, Try.ntmps25
    go_wp2
    go_ret
    exact ⟨rfl, rfl⟩
  | some n =>
    simp only [hK, Option.map_some, Option.getD_some, Option.isSome_some, if_true] at hl
    go_enter Try.func25, Try.ntmps25
    go_wp2
    go_ret
    exact ⟨rfl, rfl⟩
set_option maxHeartbeats 400000 in
theorem zline_any {w : World} {tb km tm am : Nat} {start : Int} {K : ByteArray → Option Int} {T : ByteArray → Option Nat} {F : ByteArray → Option Value} (h : Tab w tb km tm am start K T F) (s : ByteArray) :
    Calls Try.prog 16 #[ptr tb, .string s] w fun e w' => e = .returned (.int .i64 (lineOf start K s)) ∧ w = w' := by
  go_enter Try.func16, Try.ntmps16
  go_wp2_with (go_at_call 25; refine (line_any h s).mono ?_; rintro e w' ⟨rfl, rfl⟩)
  go_ret
  exact ⟨rfl, rfl⟩

set_option maxHeartbeats 400000 in
theorem has_any {w : World} {tb km tm am : Nat} {start : Int} {K : ByteArray → Option Int} {T : ByteArray → Option Nat} {F : ByteArray → Option Value} (h : Tab w tb km tm am start K T F) (s : ByteArray) :
    Calls Try.prog 17 #[ptr tb, .string s] w fun e w' => e = .returned (.bool (T s).isSome) ∧ w = w' := by
  unfold ptr
  have c2 := h.c2
  have hl := h.mt.look Try.underlying34 Try.underlying9 (zero28 w) s true
  simp only [if_true, Option.isSome_map] at hl
  go_enter Try.func17, Try.ntmps17
  go_wp2
  go_ret
  exact ⟨rfl, rfl⟩

/-- One key more. -/
def kput (K : ByteArray → Option Int) (s : ByteArray) (n : Int) : ByteArray → Option Int := fun s' => if s == s' then some n else K s'
/-- One sub-table more. -/
def tput (T : ByteArray → Option Nat) (s : ByteArray) (b : Nat) : ByteArray → Option Nat := fun s' => if s == s' then some b else T s'

theorem kput_fput (K : ByteArray → Option Int) (s : ByteArray) (n : Int) (s' : ByteArray) : fput (fun s => (K s).map (Value.int .i64)) s (.int .i64 n) s' = (kput K s n s').map (Value.int .i64) := by
  unfold fput kput; split <;> rfl
theorem tput_fput (T : ByteArray → Option Nat) (s : ByteArray) (b : Nat) (s' : ByteArray) : fput (fun s => (T s).map ptr) s (ptr b) s' = (tput T s b s').map ptr := by
  unfold fput tput; split <;> rfl

theorem Tab.setKey {w w' : World} {tb km tm am : Nat} {start : Int} {K : ByteArray → Option Int} {T : ByteArray → Option Nat} {F : ByteArray → Option Value} (h : Tab w tb km tm am start K T F) {s : ByteArray} {n : Int}
    (hm : MapAt w' km (fput (fun s => (K s).map (Value.int .i64)) s (.int .i64 n))) (e : Ev (fun k => k = km) w w') : Tab w' tb km tm am start (kput K s n) T F :=
  ⟨e.cell h.c0, e.cell h.c1, e.cell h.c2, e.cell h.c3, hm.congr (kput_fput K s n), h.mt.ev e (fun x => h.ne.1 x.symm), h.ma.ev e (fun x => h.ne.2.1 x.symm), h.ne, e.cblk h.blk⟩

theorem Tab.setTable {w w' : World} {tb km tm am : Nat} {start : Int} {K : ByteArray → Option Int} {T : ByteArray → Option Nat} {F : ByteArray → Option Value} (h : Tab w tb km tm am start K T F) {s : ByteArray} {b : Nat}
    (hm : MapAt w' tm (fput (fun s => (T s).map ptr) s (ptr b))) (e : Ev (fun k => k = tm) w w') : Tab w' tb km tm am start K (tput T s b) F :=
  ⟨e.cell h.c0, e.cell h.c1, e.cell h.c2, e.cell h.c3, h.mkey.ev e h.ne.1, hm.congr (tput_fput T s b), h.ma.ev e (fun x => h.ne.2.2 x.symm), h.ne, e.cblk h.blk⟩

theorem Tab.setArr {w w' : World} {tb km tm am : Nat} {start : Int} {K : ByteArray → Option Int} {T : ByteArray → Option Nat} {F : ByteArray → Option Value} (h : Tab w tb km tm am start K T F) {s : ByteArray} {v : Value}
    (hm : MapAt w' am (fput F s v)) (e : Ev (fun k => k = am) w w') : Tab w' tb km tm am start K T (fput F s v) :=
  ⟨e.cell h.c0, e.cell h.c1, e.cell h.c2, e.cell h.c3, h.mkey.ev e h.ne.2.1, h.mt.ev e h.ne.2.2, hm, h.ne, e.cblk h.blk⟩

set_option maxHeartbeats 400000 in
theorem setKey_any {w : World} {tb km tm am : Nat} {start : Int} {K : ByteArray → Option Int} {T : ByteArray → Option Nat} {F : ByteArray → Option Value} (h : Tab w tb km tm am start K T F) (s : ByteArray) (n : Int) :
    Calls Try.prog 21 #[ptr tb, .string s, .int .i64 n] w fun e w' => e = .returned (.tuple #[]) ∧ Tab w' tb km tm am start (kput K s n) T F ∧ Ev (fun k => k = km) w w' ∧ w'.heap.size = w.heap.size := by
  unfold ptr
  have c1 := h.c1
  go_enter Try.func21, Try.ntmps21
  go_wp2_with (at_mapUpdate; go_must (refine wpList_put rfl (.tmp 9) (.tmp 10) (.tmp 11) rfl Try.underlying32 Try.underlying9 s (.int .i64 n) rfl rfl rfl h.mkey ?_; intro w1 hm he hs))
  go_end0
  exact ⟨rfl, h.setKey hm he, he, hs⟩

set_option maxHeartbeats 400000 in
theorem setArr_any {w : World} {tb km tm am : Nat} {start : Int} {K : ByteArray → Option Int} {T : ByteArray → Option Nat} {F : ByteArray → Option Value} (h : Tab w tb km tm am start K T F) (s : ByteArray) (v : Value) :
    Calls Try.prog 22 #[ptr tb, .string s, v] w fun e w' => e = .returned (.tuple #[]) ∧ Tab w' tb km tm am start K T (fput F s v) ∧ Ev (fun k => k = am) w w' ∧ w'.heap.size = w.heap.size := by
  unfold ptr
  have c3 := h.c3
  go_enter Try.func22, Try.ntmps22
  go_wp2_with (at_mapUpdate; go_must (refine wpList_put rfl (.tmp 9) (.tmp 10) (.tmp 11) rfl Try.underlying29 Try.underlying9 s v rfl rfl rfl h.ma ?_; intro w1 hm he hs))
  go_end0
  exact ⟨rfl, h.setArr hm he, he, hs⟩

set_option maxHeartbeats 1000000 in
theorem empty_any {w : World} {tb km tm am : Nat} {start : Int} (h : Tab w tb km tm am start (fun _ => none) (fun _ => none) (fun _ => none)) :
    Calls Try.prog 13 #[ptr tb] w fun e w' => e = .returned (.bool true) ∧ w = w' := by
  unfold ptr
  have c1 := h.c1
  have c2 := h.c2
  have c3 := h.c3
  have l1 := fun ty => h.mkey.lenNone (P := Try.prog) Try.underlying32 ty
  have l2 := fun ty => h.mt.lenNone (P := Try.prog) Try.underlying34 ty
  have l3 := fun ty => h.ma.lenNone (P := Try.prog) Try.underlying29 ty
  go_enter Try.func13, Try.ntmps13
  go_wp2
  go_ret
  exact ⟨rfl, rfl⟩
end Go.Proofs.Qxb6600949a
