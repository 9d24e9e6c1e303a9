/-
  zzB1BuildTable, walked: its four loops.
-/
import Derived.Test.Qxb6600949aBst
import Derived.Deep.RegionWith
import Derived.Deep.RegionHeld3
import Derived.Deep.AppendLies
import Derived.Deep.DrawnRows
import Derived.Deep.Cut
import Derived.Deep.CutRange
import Derived.Deep.DeepCutAuto
namespace Go.Proofs.Qxb6600949a
open Go.RowKit Go.MapKept

/-- The seeded lines after r seeds. -/
def seedK (S : Nat → ByteArray) (Z : Nat → Int) : Nat → ByteArray → Option Int
  | 0 => fun _ => none
  | r + 1 => kput (seedK S Z r) (S r) (Z r)

structure Seeded (w wr : World) (start : Int) (K : ByteArray → Option Int) : Prop where
  below : Below w.heap.size w wr
  size : wr.heap.size = w.heap.size + 4
  tab : Tab wr (w.heap.size + 3) w.heap.size (w.heap.size + 1) (w.heap.size + 2) start K (fun _ => none) (fun _ => none)

theorem seeded_start (w : World) (start : Int) : Seeded w (newW w start) start (fun _ => none) :=
  ⟨(newW_ev w start).below (Nat.le_refl _) (fun _ f => f.elim), newW_size w start, newW_tab w start⟩

theorem Tab.drew {w : World} {tb km tm am : Nat} {start : Int} {K : ByteArray → Option Int} {T : ByteArray → Option Nat} {F : ByteArray → Option Value} (h : Tab w tb km tm am start K T F) : Tab w.drew tb km tm am start K T F :=
  h.ev (Ev.refl w).drew (fun f => f) (fun f => f) (fun f => f)

theorem seeded_step {w wr w' : World} {start : Int} {K K' : ByteArray → Option Int} (h : Seeded w wr start K) (hT : Tab w' (w.heap.size + 3) w.heap.size (w.heap.size + 1) (w.heap.size + 2) start K' (fun _ => none) (fun _ => none))
    (hE : Ev (fun k => k = w.heap.size) wr.drew w') (hZ : w'.heap.size = wr.drew.heap.size) : Seeded w w' start K' :=
  ⟨(h.below.drew).trans (hE.below (B := w.heap.size) (by show _ ≤ wr.heap.size; rw [h.size]; omega) (fun k hk => by omega)), hZ.trans h.size, hT⟩

theorem znew_ptr (start : Int) (w : World) : Calls Try.prog 20 #[.int .i64 start] w fun e w' => e = .returned (.pointer (some ⟨w.heap.size + 3, 0, none⟩)) ∧ newW w start = w' := znew_any start w

theorem app_cell {B : Nat} {W2 w3 : World} {row : Option Nat} (hg : W2.grownBy w3 row) (hB : ∀ j, row = some j → B + 5 ≤ j) (hz : B + 5 ≤ W2.heap.size) {a : Addr} {v : Value} (ha : a.block < B + 5) (hc : W2.cell? a = some v) : w3.cell? a = some v := by
  have := ((kp_grown hg).below hz hB).cell (p := a) ha
  rw [this]; exact hc
theorem app_map {B : Nat} {W2 w3 : World} {row : Option Nat} (hg : W2.grownBy w3 row) (hB : ∀ j, row = some j → B + 5 ≤ j) (hz : B + 5 ≤ W2.heap.size) {b : Nat} {f : ByteArray → Option Value} (hb : b < B + 5) (hm : MapAt W2 b f) : MapAt w3 b f :=
  hm.of_block (((kp_grown hg).below hz hB).block b hb)

/-- The arrays of a built table: their last elements (A) and those' starts (St). -/
structure Arrs (w : World) (lo : Nat) (F : ByteArray → Option Value) (A : ByteArray → Option Nat) (St : ByteArray → Option Int) : Prop where
  last : ∀ s, LastIn w (F s) (A s)
  st1 : ∀ s, St s = none → A s = none
  st2 : ∀ s n, St s = some n → ∃ b, A s = some b ∧ StartBlk w b n
  rng : ∀ s b, A s = some b → lo ≤ b ∧ b < w.heap.size
  inj : ∀ s s' b, A s = some b → A s' = some b → s = s'

theorem Arrs.ev {X : Nat → Prop} {w w' : World} {lo : Nat} {F : ByteArray → Option Value} {A : ByteArray → Option Nat} {St : ByteArray → Option Int} (h : Arrs w lo F A St) (e : Ev X w w') : Arrs w' lo F A St :=
  ⟨fun s => (h.last s).ev e, h.st1, fun s n hn => by obtain ⟨b, h1, h2⟩ := h.st2 s n hn; exact ⟨b, h1, h2.ev e⟩, fun s b hb => ⟨(h.rng s b hb).1, Nat.lt_of_lt_of_le (h.rng s b hb).2 e.size⟩, h.inj⟩

theorem own_last {w : World} {base : Nat} {v : Value} {l : List Nat} (h : w.ownsRow base 28 1 v l.length (l.map ptr)) (hl : l.length ≤ 1000000) : LastIn w (some v) l.getLast? := by
  rcases List.eq_nil_or_concat l with rfl | ⟨l', b, rfl⟩
  · rcases h.2 with ⟨rfl, _⟩ | ⟨g, cap, cur, rfl, _⟩
    · exact .inr ⟨none, 0, rfl⟩
    · exact .inr ⟨_, _, rfl⟩
  · simp only [List.concat_eq_append] at h hl ⊢
    simp only [List.length_append, List.length_cons, List.length_nil] at hl
    rcases h.2 with ⟨_, h0⟩ | ⟨g, cap, cur, rfl, _, hb, _, _, _, ht⟩
    · simp at h0
    · have hlast : (l' ++ [b]).getLast? = some b := by simp
      rw [hlast]
      refine ⟨g, l'.length, cap, by simp, by omega, ?_⟩
      have hx : ((l' ++ [b]).map ptr)[l'.length]? = some (ptr b) := by simp
      rw [← ht, List.getElem?_take] at hx
      split at hx
      · simpa [World.cell?, hb] using hx
      · cases hx

theorem BSt.arrs {w wr : World} {start : Int} {K : ByteArray → Option Int} {G : ByteArray → Option Value} {P : ByteArray → Prop} {f : ByteArray → Option Value} {A : ByteArray → Option Nat} {St : ByteArray → Option Int} {vo : Value} {ord : List ByteArray} {i : Nat}
    (h : BSt w wr start K G P f A St vo ord i) (hi : i ≤ 1000000) : Arrs wr (w.heap.size + 5) f A St :=
  ⟨fun s => by
    cases hf : f s with
    | none => rw [h.anone s hf]; exact .inl rfl
    | some v =>
      obtain ⟨l, h1, h2, h3⟩ := h.elem s v hf
      rw [← h3]
      exact own_last h1 (by omega), h.st1, h.st2, h.rng, h.inj⟩

/-- The arrays of t after the keys l of 'order' are set. -/
def gOf (f : ByteArray → Option Value) (l : List ByteArray) : ByteArray → Option Value := l.foldl (fun g x => fput g x ((f x).getD (.slice none 0 0))) (fun _ => none)

theorem gOf_snoc (f : ByteArray → Option Value) (l : List ByteArray) (x : ByteArray) : gOf f (l ++ [x]) = fput (gOf f l) x ((f x).getD (.slice none 0 0)) := by simp [gOf, List.foldl_append]

theorem gOf_eq (f : ByteArray → Option Value) (s : ByteArray) : ∀ (l : List ByteArray) (g : ByteArray → Option Value), (∀ x, x ∈ l → f x ≠ none) →
    (s ∈ l → l.foldl (fun g x => fput g x ((f x).getD (.slice none 0 0))) g s = f s) ∧ (s ∉ l → l.foldl (fun g x => fput g x ((f x).getD (.slice none 0 0))) g s = g s)
  | [], g, _ => ⟨fun h => by simp at h, fun _ => rfl⟩
  | x :: l, g, hl => by
    obtain ⟨i1, i2⟩ := gOf_eq f s l (fput g x ((f x).getD (.slice none 0 0))) (fun y hy => hl y (by simp [hy]))
    simp only [List.foldl_cons]
    by_cases hm : s ∈ l
    · exact ⟨fun _ => i1 hm, fun hn => absurd (by simp [hm]) hn⟩
    · rw [i2 hm]
      by_cases e : x = s
      · subst e
        rw [fput_same]
        refine ⟨fun _ => ?_, fun hn => absurd (by simp) hn⟩
        cases hf : f x with
        | none => exact absurd hf (hl x (by simp))
        | some v => rfl
      · rw [fput_other _ _ e]
        have e' : ¬ s = x := fun h => e h.symm
        exact ⟨fun hh => absurd hh (by simp [e', hm]), fun _ => rfl⟩

theorem gOf_full {f : ByteArray → Option Value} {ord : List ByteArray} (h1 : ∀ s, f s ≠ none → s ∈ ord) (h2 : ∀ s, s ∈ ord → f s ≠ none) (s : ByteArray) : gOf f ord s = f s := by
  obtain ⟨a, b⟩ := gOf_eq f s ord (fun _ => none) h2
  unfold gOf
  by_cases hm : s ∈ ord
  · exact a hm
  · rw [b hm]
    cases hf : f s with
    | none => rfl
    | some v => exact absurd (h1 s (by rw [hf]; simp)) hm

theorem own_strs {w : World} {base n : Nat} {v : Value} {xs : List Value} (h : w.ownsRow base 9 1 v n xs) : ∃ ao cap g, v = .slice ao n cap ∧ (0 < n → ao = some ⟨g, 0, none⟩) ∧ ∀ i u, xs[i]? = some u → w.cell? ⟨g, i, none⟩ = some u := by
  rcases h.2 with ⟨rfl, rfl⟩ | ⟨g, cap, cur, rfl, _, hb, _, _, _, ht⟩
  · have : xs = [] := List.eq_nil_of_length_eq_zero (by simpa using h.1)
    subst this
    exact ⟨none, 0, 0, rfl, fun h => absurd h (Nat.lt_irrefl _), fun i u hu => by simp at hu⟩
  · refine ⟨_, cap, g, rfl, fun _ => rfl, fun i u hu => ?_⟩
    rw [← ht, List.getElem?_take] at hu
    split at hu
    · simpa [World.cell?, hb] using hu
    · cases hu

/-- WHAT zzB1BuildTable LEAVES. -/
def BuildPost (w : World) (start : Int) (K St : ByteArray → Option Int) (e : Ending) (w' : World) : Prop :=
  ∃ F A, e = .returned (.tuple #[ptr (w.heap.size + 3), .map (some (w.heap.size + 4))]) ∧ Below w.heap.size w w' ∧ w.heap.size + 5 ≤ w'.heap.size ∧
    Tab w' (w.heap.size + 3) w.heap.size (w.heap.size + 1) (w.heap.size + 2) start K (fun _ => none) F ∧ MapAt w' (w.heap.size + 4) F ∧ Arrs w' (w.heap.size + 5) F A St

theorem Tab.congrF {w : World} {tb km tm am : Nat} {start : Int} {K : ByteArray → Option Int} {T : ByteArray → Option Nat} {F F' : ByteArray → Option Value} (h : Tab w tb km tm am start K T F) (e : ∀ s, F s = F' s) : Tab w tb km tm am start K T F' :=
  ⟨h.c0, h.c1, h.c2, h.c3, h.mkey, h.mt, h.ma.congr e, h.ne, h.blk⟩

theorem build_mk {w wr wx : World} {start : Int} {K : ByteArray → Option Int} {G : ByteArray → Option Value} {f : ByteArray → Option Value} {A : ByteArray → Option Nat} {St : ByteArray → Option Int} {vo : Value} {ord : List ByteArray} {i : Nat}
    (h : BSt w wr start K G (fun _ => False) f A St vo ord i) (hi : i ≤ 1000000) (e : Ev (fun k => k = w.heap.size + 2) wr wx) (ht : Tab wx (w.heap.size + 3) w.heap.size (w.heap.size + 1) (w.heap.size + 2) start K (fun _ => none) (gOf f ord)) :
    BuildPost w start K St (.returned (.tuple #[ptr (w.heap.size + 3), .map (some (w.heap.size + 4))])) wx := by
  have hsz := h.size
  refine ⟨f, A, rfl, h.below.trans (e.below (B := w.heap.size) (by omega) (fun k hk => by omega)), Nat.le_trans h.size e.size, ht.congrF (gOf_full h.dom1 (fun s hs => ?_)), h.mb.ev e (by omega), (h.arrs hi).ev e⟩
  rcases h.dom2 s hs with h1 | h1
  · exact h1
  · exact h1.elim

theorem bst_start {w wr : World} {start : Int} {K : ByteArray → Option Int} (h : Seeded w wr start K) :
    BSt w (wr.alloc (.map #[] 0)) start K (fun _ => none) (fun _ => False) (fun _ => none) (fun _ => none) (fun _ => none) (.slice none 0 0) [] 0 := by
  have hm := mapAt_made wr
  rw [h.size] at hm
  exact ⟨h.below.alloc (by rw [h.size]; omega) _, by simp [h.size], h.tab.ev ((Ev.refl wr).alloc _) (fun f => f) (fun f => f) (fun f => f), hm, World.ownsRow_nil _ _ _ _, Nat.le_refl _, fun s hs => absurd rfl hs, fun s hs => by simp at hs, fun s v hv => by (cases hv),
    fun _ _ => rfl, fun s s' v v' hv => by (cases hv), fun _ _ => rfl, fun s n hn => by (cases hn), fun s b hb => by (cases hb), fun s s' b hb => by (cases hb)⟩

set_option maxHeartbeats 2000000 in
set_option maxRecDepth 100000 in
theorem build_any {w : World} (start : Int) {a1 a2 a3 a4 a5 : Option Addr} {b1 o1 l1 b2 o2 l2 b3 o3 l3 b4 o4 l4 b5 o5 l5 : Nat} {S1 S3 S5 : Nat → ByteArray} {Z2 Z4 : Nat → Int}
    (h1 : StrsIn w a1 b1 o1 l1 S1) (h2 : IntsIn w a2 b2 o2 l2 Z2) (h3 : StrsIn w a3 b3 o3 l3 S3) (h4 : IntsIn w a4 b4 o4 l4 Z4) (h5 : StrsIn w a5 b5 o5 l5 S5)
    (g1 : l1 ≤ 65536) (g2 : l2 ≤ 65536) (g3 : l3 ≤ 65536) (g4 : l4 ≤ 65536) (g5 : l5 ≤ 65536) (c1 c2 c3 c4 c5 : Nat) :
    Calls Try.prog 9 #[.int .i64 start, .slice a1 l1 c1, .slice a2 l2 c2, .slice a3 l3 c3, .slice a4 l4 c4, .slice a5 l5 c5] w fun e w' => BuildPost w start (seedK S1 Z2 (min l1 l2)) (seedK S3 Z4 (min l3 l4)) e w' := by
  go_enter Try.func9, Try.ntmps9
  go_wp2_with fail
  refine (znew_any start w).mono ?_
  rintro e w' ⟨rfl, rfl⟩
  have hS0 := seeded_start w start
  go_wp2_with fail
  refine (min_any l1 l2 _).mono ?_
  rintro e w' ⟨rfl, rfl⟩
  go_wp2_with fail
  obtain ⟨n, hn⟩ : ∃ n, n = min l1 l2 := ⟨_, rfl⟩
  rw [← hn]
  have hn1 : n ≤ l1 := by omega
  have hn2 : n ≤ l2 := by omega
  have HN : Hid (n = min l1 l2) := hn
  clear hn
  go_loopg [16] n (fun gh i wr => ∃ r : Nat, r ≤ n ∧ gh = n - r ∧ i = .int .i64 r ∧ Seeded w wr start (seedK S1 Z2 r))
  case atStart => exact ⟨0, Nat.zero_le _, rfl, rfl, hS0⟩
  case round =>
    obtain ⟨r, hr, rfl, rfl, hO⟩ := hrel
    by_cases hrG : r < n
    · obtain rfl := h1.addr (by omega)
      obtain rfl := h2.addr (by omega)
      have hrz : (r : Int) < (n : Int) := by omega
      have hrz1 : (r : Int) < (l1 : Int) := by omega
      have hrz2 : (r : Int) < (l2 : Int) := by omega
      have q1 := cell_keep hO.below (h1.cell r (by omega))
      have q2 := cell_keep hO.below (h2.cell r (by omega))
      have ht := hO.tab.drew
      go_wp2_with fail
      go_region_with (go_at_call 21; refine (setKey_any ht (S1 r) (Z2 r)).mono ?_; rintro e w' ⟨rfl, hT, hE, hZ⟩)
      all_goals
        go_wp2_with fail
        go_roundg (n - (r + 1))
        case measure => go_light; omega
        case rel => go_light; exact ⟨r + 1, by omega, rfl, by go_num, seeded_step hO hT hE hZ⟩
    · have hmm := @run_makeMap Try.prog
      have hO4 := hO.size
      go_wp2_with fail
      refine (min_any l3 l4 _).mono ?_
      rintro e w' ⟨rfl, rfl⟩
      go_wp2_with fail
      obtain ⟨m, hm⟩ : ∃ m, m = min l3 l4 := ⟨_, rfl⟩
      rw [← hm]
      have hm3 : m ≤ l3 := by omega
      have hm4 : m ≤ l4 := by omega
      have HM : Hid (m = min l3 l4) := hm
      have HR : Hid (r = n) := by show r = n; omega
      clear hm
      obtain ⟨i9, hi9, hy0, hy1, hy2⟩ := info_parts Try.info9
      obtain ⟨i8, hi8, hx0, hx1, hx2⟩ := info_parts Try.info28
      have hB0 := bst_start hO
      clear hO hmm hO4
      go_loopg [18, 20] m (fun gh vo i wx => ∃ (q : Nat) (f : ByteArray → Option Value) (A : ByteArray → Option Nat) (ord : List ByteArray), q ≤ m ∧ gh = m - q ∧ i = .int .i64 q ∧ BSt w wx start (seedK S1 Z2 r) (fun _ => none) (fun _ => False) f A (seedK S3 Z4 q) vo ord (2 * q))
      case atStart => exact ⟨0, _, _, _, Nat.zero_le _, rfl, rfl, hB0⟩
      case round =>
        obtain ⟨q, f, A, ord, hq, rfl, rfl, hB⟩ := hrel
        clear hB0
        by_cases hqm : q < m
        · obtain rfl := h3.addr (by omega)
          obtain rfl := h4.addr (by omega)
          have hqz : (q : Int) < (m : Int) := by omega
          have hqz3 : (q : Int) < (l3 : Int) := by omega
          have hqz4 : (q : Int) < (l4 : Int) := by omega
          have q3 := cell_keep hB.below (h3.cell q (by omega))
          have hl := hB.mb.look Try.underlying29 Try.underlying9 (zero37 wr) (S3 q) true
          go_upto_if 73 with fail
          go_cut [18, 22, 23] (fun s18 _s22 _s23 wx => ∃ ord', S3 q ∈ ord' ∧ BSt w wx start (seedK S1 Z2 r) (fun _ => none) (fun x => x = S3 q) f A (seedK S3 Z4 q) s18 ord' (2 * q + 1))
          case first =>
            have hol := hB.olen
            have hsz := hB.size
            cases hf : f (S3 q) with
            | none =>
              simp only [hf] at hl
              go_wp2_with (at_builtin; go_must (refine wpList_append_own _ rfl (.tmp 74) (.tmp 76) 22 rfl (w.heap.size + 5) 9 i9 (.string ByteArray.empty) 1 16 Try.underlying22 hi9 hy0 hy1 hy2 rfl (by decide) _ _ _ rfl (hB.own.alloc _) ⟨wr.heap.size, 0, none⟩ 1 1 [.string (S3 q)] rfl rfl ?c1 ?c2 ?c3 ?c4 ?c5 ?c6))
              case c1 =>
                intro j u hj
                match j, hj with
                | 0, hj => simp at hj; subst hj; exact (World.cell?_alloc_at _ _ _ _ rfl).trans rfl
              case c2 => intro u hu; simp at hu; subst hu; rfl
              case c3 => unfold maxLen; omega
              case c4 => omega
              case c5 => simp; omega
              case c6 =>
                intro v' w2 hown' hgrow _
                have hB2 := (hB.fresh (kp_alloc wr _)).order (fun _ f => f) (S3 q) hgrow hown'
                clear hown' hgrow
                go_wp2_with fail
                go_meet
                go_light
                exact ⟨_, by simp, hB2⟩
            | some v =>
              simp only [hf] at hl
              go_wp2_with fail
              go_meet
              go_light
              exact ⟨ord, hB.dom1 _ (by rw [hf]; simp), hB.weaken (fun _ f => f.elim) (by omega)⟩
          case rest =>
            obtain ⟨ord', hmem, hB2⟩ := hcut
            clear hB hl q3
            obtain ⟨l, hrow, hlen⟩ := hB2.look (S3 q)
            have hsz := hB2.size
            have hN := newW_size wc.drew (Z4 q)
            have hN' : (newW wc.drew (Z4 q)).heap.size = wc.heap.size + 4 := hN
            have evN := (Ev.refl wc).drew.trans (newW_ev wc.drew (Z4 q))
            have kc := cell_keep hB2.below (h4.cell q (by omega))
            have kc0 : wc.drew.cell? ⟨b4, o4 + q, none⟩ = some (.int .i64 (Z4 q)) := kc
            have kc1 : (newW wc.drew (Z4 q)).cell? ⟨b4, o4 + q, none⟩ = some (.int .i64 (Z4 q)) := evN.cell kc
            have kc2 : ∀ o, ((newW wc.drew (Z4 q)).alloc o).cell? ⟨b4, o4 + q, none⟩ = some (.int .i64 (Z4 q)) := fun o => (evN.alloc o).cell kc
            have mb1 : MapAt (newW wc.drew (Z4 q)) (w.heap.size + 4) f := hB2.mb.ev evN (by rintro (x | x) <;> exact x)
            have lk0 := (hB2.mb.ev (Ev.refl wc).drew (fun x => x)).look Try.underlying29 Try.underlying9 (zero37 wc.drew) (S3 q) false
            have lk1 := mb1.look Try.underlying29 Try.underlying9 (zero37 (newW wc.drew (Z4 q))) (S3 q) false
            have lk2 := fun o => (mb1.alloc o).look Try.underlying29 Try.underlying9 (zero37 ((newW wc.drew (Z4 q)).alloc o)) (S3 q) false
            simp only [Bool.false_eq_true, if_false] at lk0 lk1 lk2
            have hge : ∀ j, ((f (S3 q)).getD (.slice none 0 0)).ownBlock = some j → w.heap.size + 5 ≤ j := fun j hj => (own_bounds hrow j hj).1
            have hz2 : w.heap.size + 5 ≤ ((newW wc.drew (Z4 q)).alloc (.cells #[ptr (wc.heap.size + 3)] 28)).heap.size := by simp; omega
            have hb4 : b4 < w.heap.size + 5 := by have := World.block_lt_of_cell? _ _ (h4.cell q (by omega)); simp at this; omega
            have hblk : ((newW wc.drew (Z4 q)).alloc (.cells #[ptr (wc.heap.size + 3)] 28)).heap[wc.heap.size + 4]? = some (.cells #[ptr (wc.heap.size + 3)] 28 (0, 0)) := by
              rw [← hN']; exact (heap_alloc _ _).1
            go_wp2_with fail
            go_region_held3 (fun w' => w'.cell? ⟨b4, o4 + q, none⟩ = some (.int .i64 (Z4 q)))
              (first | assumption | exact kc2 _)
              (first
                | (go_at_call 20; refine (znew_ptr _ _).mono ?_; rintro e w' ⟨rfl, rfl⟩)
                | (refine step_append_lies _ (by rfl) _ _ _ (by rfl) (w.heap.size + 5) 28 i8 _ 1 8 Try.underlying37 hi8 hx0 hx1 hx2 rfl (by omega) ((f (S3 q)).getD (.slice none 0 0)) l.length (l.map ptr) (by rfl) (own_kp hrow ((evN.alloc _).kp) (by rintro j _ (x | x) <;> exact x))
                    ⟨wc.heap.size + 4, 0, none⟩ 1 1 [ptr (wc.heap.size + 3)] (by rfl) (by rfl) (World.news_of_block (cs := #[ptr (wc.heap.size + 3)]) (t := 28) (fr := (0, 0)) hblk) (by simp [Value.oneCell', ptr]) (by omega) (by unfold maxLen; omega) (by omega) (by simp; omega) (wc.heap.size + 5) (by simp; omega) ?_; intro g cap w3 hown1 hgrow hat hlt; have kc3 := app_cell hgrow hge hz2 hb4 (kc2 _); obtain ⟨w4, hrun4, hm4, he4, hz4⟩ := (app_map hgrow hge hz2 (by omega) (mb1.alloc _)).put (P := Try.prog) Try.underlying29 Try.underlying9 (S3 q) (.slice (some ⟨g, 0, none⟩) (l.length + 1) cap); have kc4 := he4.cell kc3))
            all_goals
              have hB3 := hB2.arr (n := Z4 q) (fun _ x => x) hmem hrow hlen (W2 := (newW wc.drew (Z4 q)).alloc (.cells #[ptr (wc.heap.size + 3)] 28)) ((evN.alloc _).kp.weak) (by simp; omega) ((newW_start wc.drew (Z4 q)).kp (kp_alloc _ _) (fun x => x)) hgrow hown1 (by rcases hat with x | x
                                                                                                                                                                                                                                                                            · exact .inl x.symm
                                                                                                                                                                                                                                                                            · exact .inr (by rw [x]; simp [Value.ownBlock]; omega)) hm4 he4
              go_wp2_with fail
              go_roundg (m - (q + 1))
              case measure => go_light; omega
              case rel => go_light; exact ⟨q + 1, _, _, ord', by omega, rfl, by go_num, hB3.weaken (fun _ x => x) (by omega)⟩
        · have hqd : decide (q < m) = false := by simp; omega
          obtain rfl : m = q := by omega
          go_wp2_with fail
          go_loopg [18, 24] l5 (fun gh vo i wx => ∃ (q : Nat) (f : ByteArray → Option Value) (ord : List ByteArray), q ≤ l5 ∧ gh = l5 - q ∧ i = .int .i64 q ∧ BSt w wx start (seedK S1 Z2 r) (fun _ => none) (fun _ => False) f A (seedK S3 Z4 m) vo ord (2 * m + q))
          case atStart => exact ⟨0, f, ord, Nat.zero_le _, rfl, rfl, hB⟩
          case round =>
            clear hB
            obtain ⟨q, f, ord, hq5, rfl, rfl, hB⟩ := hrel
            by_cases hq : q < l5
            · obtain rfl := h5.addr (by omega)
              have hqz : (q : Int) < (l5 : Int) := by omega
              have q5 := cell_keep hB.below (h5.cell q hq)
              have hl := hB.mb.look Try.underlying29 Try.underlying9 (zero37 wr) (S5 q) true
              have hol := hB.olen
              have hsz := hB.size
              cases hf : f (S5 q) with
              | some v =>
                simp only [hf, Option.getD_some, Option.isSome_some, if_true] at hl
                go_wp2_with fail
                go_roundg (l5 - (q + 1))
                case measure => go_light; omega
                case rel => go_light; exact ⟨q + 1, f, ord, by omega, rfl, by go_num, hB.weaken (fun _ x => x) (by omega)⟩
              | none =>
                simp only [hf, Option.getD_none, Option.isSome_none, if_true] at hl
                go_upto_region 24 with fail
                have ve : (wr.alloc (.cells #[] 28)).ownsRow (w.heap.size + 5) 28 1 (.slice (some ⟨wr.heap.size, 0, none⟩) 0 0) 0 [] := ⟨rfl, .inr ⟨wr.heap.size, 0, #[], rfl, hsz, (heap_alloc wr _).1, Nat.le_refl _, Nat.zero_le _, rfl, rfl⟩⟩
                go_wp2_with (first
                  | (at_mapUpdate; go_must (refine wpList_put rfl (.tmp 108) (.tmp 109) (.tmp 110) rfl Try.underlying29 Try.underlying9 (S5 q) (.slice (some ⟨wr.heap.size, 0, none⟩) 0 0) rfl rfl rfl (hB.mb.alloc _) ?_; intro w1 hm1 he1 hs1))
                  | (at_builtin; go_must (refine wpList_append_own _ rfl (.tmp 111) (.tmp 113) 22 rfl (w.heap.size + 5) 9 i9 (.string ByteArray.empty) 1 16 Try.underlying22 hi9 hy0 hy1 hy2 rfl (by decide) _ _ _ rfl ((own_kp (own_kp hB.own (kp_alloc wr _) (fun _ _ x => x)) he1.kp (fun j hj x => by have := (own_bounds hB.own j hj).1; omega)).alloc _) ⟨wr.heap.size + 1, 0, none⟩ 1 1 [.string (S5 q)] rfl rfl ?c1 ?c2 ?c3 ?c4 ?c5 ?c6)))
                case c1 =>
                  intro j u hj
                  match j, hj with
                  | 0, hj => simp at hj; subst hj; exact (World.cell?_alloc_at _ _ _ _ (by rw [hs1]; simp)).trans rfl
                case c2 => intro u hu; simp at hu; subst hu; rfl
                case c3 => unfold maxLen; omega
                case c4 => omega
                case c5 => simp; rw [hs1]; simp; omega
                case c6 =>
                  intro v' w2 hown' hgrow _
                  have hB2 := (hB.fresh (kp_alloc wr (.cells #[] 28))).empty (fun _ x => x) hf ve (fun s' v' k hv hk x => by
                    obtain ⟨l, ho, _⟩ := hB.elem s' v' hv
                    have := (own_bounds ho k hk).2
                    simp [Value.ownBlock] at x
                    omega) hm1 he1 (kp_alloc w1 _) hgrow hown'
                  clear hown' hgrow hB hl q5 ve hm1 he1
                  go_wp2_with fail
                  go_roundg (l5 - (q + 1))
                  case measure => go_light; omega
                  case rel => go_light; exact ⟨q + 1, _, _, by omega, rfl, by go_num, hB2⟩
            · have hqd5 : decide (q < l5) = false := by simp; omega
              obtain ⟨wo, hwo⟩ : ∃ wo : World, wo = wr := ⟨_, rfl⟩
              subst hwo
              obtain ⟨ao, co, g, hvo, hao, hcs⟩ := own_strs hB.own
              have hol := hB.olen
              subst hvo
              go_wp2_with fail
              go_loopg [28] ord.length (fun gh i wx => ∃ (p : Nat), p ≤ ord.length ∧ gh = ord.length - p ∧ i = .int .i64 p ∧ Ev (fun k => k = w.heap.size + 2) wo wx ∧ Tab wx (w.heap.size + 3) w.heap.size (w.heap.size + 1) (w.heap.size + 2) start (seedK S1 Z2 r) (fun _ => none) (gOf f (ord.take p)))
              case atStart => exact ⟨0, Nat.zero_le _, rfl, rfl, (Ev.refl _).mono (fun _ x => x.elim) (fun k _ hk => by subst hk; exact hB.tab.ma.one), hB.tab⟩
              case round =>
                obtain ⟨p, hp, rfl, rfl, hE, hT⟩ := hrel
                by_cases hpl : p < ord.length
                · obtain rfl := hao (by omega)
                  have hpz : (p : Int) < (ord.length : Int) := by omega
                  have kc := hE.cell (hcs p (.string ord[p]) (by simp [hpl]))
                  have kcd : wr.drew.cell? ⟨g, p, none⟩ = some (.string ord[p]) := kc
                  have lk := ((hB.mb.ev hE (by omega)).ev (Ev.refl wr).drew (fun x => x)).look Try.underlying29 Try.underlying9 (zero37 wr.drew) ord[p] false
                  simp only [Bool.false_eq_true, if_false] at lk
                  have hTd := hT.drew
                  generalize hx : ord[p] = x at *
                  have HX : Hid (ord[p] = x) := hx
                  clear hx
                  go_wp2_with fail
                  go_region_held3 (fun w' => w'.cell? ⟨g, p, none⟩ = some (.string x))
                    (first | assumption)
                    (first | (go_at_call 22; refine (setArr_any hTd _ _).mono ?_; rintro e w' ⟨rfl, hT2, hE2, hZ2⟩; have kc3 := hE2.cell kcd))
                  all_goals
                    go_wp2_with fail
                    go_roundg (ord.length - (p + 1))
                    case measure => go_light; omega
                    case rel =>
                      go_light
                      refine ⟨p + 1, by omega, rfl, by go_num, (hE.drew.trans hE2).mono (fun k hk => hk.elim id id) (fun k _ hk => by subst hk; exact hB.tab.ma.one), ?_⟩
                      rw [List.take_succ_eq_append_getElem hpl, gOf_snoc, HX.out]
                      exact hT2
                · have hpe : p = ord.length := by omega
                  rw [hpe, List.take_length] at hT
                  go_wp2_with fail
                  go_ret2
                  rw [← HN.out, ← HM.out, ← HR.out]
                  exact build_mk hB (by omega) hE hT
end Go.Proofs.Qxb6600949a
