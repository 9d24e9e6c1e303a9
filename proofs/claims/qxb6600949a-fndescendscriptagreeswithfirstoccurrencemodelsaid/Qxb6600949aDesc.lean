/-
  (*tableLines).descend, walked: the last element of the key's array; or its sub-table; or a new one.
-/
import Derived.Test.Qxb6600949aTab
namespace Go.Proofs.Qxb6600949a
open Go.RowKit Go.MapKept

/-- The last element of an array of tables, if there is one. -/
def LastIn (w : World) (v : Option Value) (r : Option Nat) : Prop :=
  match r with
  | none => v = none ∨ ∃ a c, v = some (.slice a 0 c)
  | some b => ∃ g n cap, v = some (.slice (some ⟨g, 0, none⟩) (n + 1) cap) ∧ n ≤ 1000000 ∧ w.cell? ⟨g, n, none⟩ = some (ptr b)

theorem LastIn.ev {X : Nat → Prop} {w w' : World} {v : Option Value} {r : Option Nat} (h : LastIn w v r) (e : Ev X w w') : LastIn w' v r := by
  cases r with
  | none => exact h
  | some b =>
    obtain ⟨g, n, cap, h1, h2, h3⟩ := h
    exact ⟨g, n, cap, h1, h2, e.cell h3⟩

/-- The table that a descent gives; nb: the block of a new one. -/
def dRes (a t : Option Nat) (nb : Nat) : Nat := match a with | some b => b | none => t.getD nb
/-- The sub-tables behind it. -/
def dT (a : Option Nat) (T : ByteArray → Option Nat) (s : ByteArray) (nb : Nat) : ByteArray → Option Nat := if a.isNone && (T s).isNone then tput T s nb else T
/-- The lines behind it. -/
def dK (a : Option Nat) (K : ByteArray → Option Int) (T : ByteArray → Option Nat) (s : ByteArray) (line : Int) : ByteArray → Option Int := if a.isNone && (T s).isNone && (K s).isNone then kput K s line else K

/-- What a descent leaves. -/
structure DescPost (w : World) (tb km tm am : Nat) (start : Int) (K : ByteArray → Option Int) (T : ByteArray → Option Nat) (F : ByteArray → Option Value) (a : Option Nat) (s : ByteArray) (line : Int) (e : Ending) (w' : World) : Prop where
  ret : e = .returned (ptr (dRes a (T s) (w.heap.size + 3)))
  tab : Tab w' tb km tm am start (dK a K T s line) (dT a T s (w.heap.size + 3)) F
  ev : Ev (fun k => k = km ∨ k = tm) w w'
  fresh : a = none → T s = none → w.heap.size + 4 ≤ w'.heap.size ∧ Tab w' (w.heap.size + 3) w.heap.size (w.heap.size + 1) (w.heap.size + 2) line (fun _ => none) (fun _ => none) (fun _ => none)
  same : a.isSome = true ∨ (T s).isSome = true → w' = w

theorem Tab.evRefl {w : World} {tb km tm am : Nat} {start : Int} {K : ByteArray → Option Int} {T : ByteArray → Option Nat} {F : ByteArray → Option Value} (h : Tab w tb km tm am start K T F) : Ev (fun k => k = km ∨ k = tm) w w :=
  (Ev.refl w).mono (fun _ f => f.elim) (fun k _ hk => (by
    rcases hk with rfl | rfl
    · exact h.mkey.one
    · exact h.mt.one))

theorem desc_old {w : World} {tb km tm am : Nat} {start : Int} {K : ByteArray → Option Int} {T : ByteArray → Option Nat} {F : ByteArray → Option Value} (h : Tab w tb km tm am start K T F) {a : Option Nat} {s : ByteArray} {line : Int} {b : Nat}
    (hb : a = some b ∨ (a = none ∧ T s = some b)) : DescPost w tb km tm am start K T F a s line (.returned (ptr b)) w := by
  rcases hb with rfl | ⟨rfl, hT⟩
  · refine ⟨by simp [dRes], by simpa [dK, dT] using h, h.evRefl, fun h => (by cases h), fun _ => rfl⟩
  · refine ⟨by simp [dRes, hT], by simpa [dK, dT, hT] using h, h.evRefl, fun _ h => (by rw [hT] at h; cases h), fun _ => rfl⟩

theorem desc_new {w w1 w2 : World} {tb km tm am : Nat} {start : Int} {K : ByteArray → Option Int} {T : ByteArray → Option Nat} {F : ByteArray → Option Value} (h : Tab w tb km tm am start K T F) {s : ByteArray} {line : Int} (hT : T s = none) (hK : K s = none)
    (e0 : Ev (fun _ => False) w (newW w line)) (e1 : Ev (fun k => k = tm) (newW w line) w1) (e2 : Ev (fun k => k = km) w1 w2) (ht : Tab w2 tb km tm am start (kput K s line) (tput T s (w.heap.size + 3)) F)
    (hN : Tab w2 (w.heap.size + 3) w.heap.size (w.heap.size + 1) (w.heap.size + 2) line (fun _ => none) (fun _ => none) (fun _ => none)) (hs : w.heap.size + 4 ≤ w2.heap.size) :
    DescPost w tb km tm am start K T F none s line (.returned (ptr (w.heap.size + 3))) w2 := by
  refine ⟨by simp [dRes, hT], by simpa [dK, dT, hT, hK] using ht, ((e0.trans e1).trans e2).mono (fun k hk => ?_) (fun k _ hk => ?_), fun _ _ => ⟨hs, hN⟩, fun h => by simp [hT] at h⟩
  · rcases hk with (hk | hk) | hk
    · exact hk.elim
    · exact .inr hk
    · exact .inl hk
  · rcases hk with rfl | rfl
    · exact h.mkey.one
    · exact h.mt.one

theorem desc_kept {w w1 : World} {tb km tm am : Nat} {start : Int} {K : ByteArray → Option Int} {T : ByteArray → Option Nat} {F : ByteArray → Option Value} (h : Tab w tb km tm am start K T F) {s : ByteArray} {line m : Int} (hT : T s = none) (hK : K s = some m)
    (e0 : Ev (fun _ => False) w (newW w line)) (e1 : Ev (fun k => k = tm) (newW w line) w1) (ht : Tab w1 tb km tm am start K (tput T s (w.heap.size + 3)) F)
    (hN : Tab w1 (w.heap.size + 3) w.heap.size (w.heap.size + 1) (w.heap.size + 2) line (fun _ => none) (fun _ => none) (fun _ => none)) (hs : w.heap.size + 4 ≤ w1.heap.size) :
    DescPost w tb km tm am start K T F none s line (.returned (ptr (w.heap.size + 3))) w1 := by
  refine ⟨by simp [dRes, hT], by simpa [dK, dT, hT, hK] using ht, (e0.trans e1).mono (fun k hk => ?_) (fun k _ hk => ?_), fun _ _ => ⟨hs, hN⟩, fun h => by simp [hT] at h⟩
  · rcases hk with hk | hk
    · exact hk.elim
    · exact .inr hk
  · rcases hk with rfl | rfl
    · exact h.mkey.one
    · exact h.mt.one

set_option maxHeartbeats 1000000 in
theorem desc_any {w : World} {tb km tm am : Nat} {start : Int} {K : ByteArray → Option Int} {T : ByteArray → Option Nat} {F : ByteArray → Option Value} (h : Tab w tb km tm am start K T F) {a : Option Nat} (s : ByteArray) (line : Int) (hA : LastIn w (F s) a) :
    Calls Try.prog 23 #[ptr tb, .string s, .int .i64 line] w fun e w' => DescPost w tb km tm am start K T F a s line e w' := by
  have c1 := h.c1
  have c2 := h.c2
  have c3 := h.c3
  cases a with
  | some b =>
    obtain ⟨g, n, cap, hF, hn, hc⟩ := hA
    have hl := h.ma.look Try.underlying29 Try.underlying9 (zero37 w) s false
    simp only [hF, Option.getD_some, Bool.false_eq_true, if_false] at hl
    have h' := h
    unfold ptr at hc ⊢
    go_enter Try.func23, Try.ntmps23
    go_wp2
    go_ret
    exact desc_old h' (.inl rfl)
  | none =>
    obtain ⟨ao, co, hl⟩ : ∃ ao co, (Instr.lookup 29 (.map (some am)) (.string s) false).run Try.prog w = .ok (.slice ao 0 co) w := by
      have hl := h.ma.look Try.underlying29 Try.underlying9 (zero37 w) s false
      rcases hA with hF | ⟨ao, co, hF⟩
      · exact ⟨none, 0, by simpa [hF] using hl⟩
      · exact ⟨ao, co, by simpa [hF] using hl⟩
    have hl2 := h.mt.look Try.underlying34 Try.underlying9 (zero28 w) s true
    cases hT : T s with
    | some b =>
      simp only [hT, Option.map_some, Option.getD_some, Option.isSome_some, if_true] at hl2
      have h' := h
      unfold ptr at hl2 ⊢
      go_enter Try.func23, Try.ntmps23
      go_wp2
      go_ret
      exact desc_old h' (.inr ⟨rfl, hT⟩)
    | none =>
      simp only [hT, Option.map_none, Option.getD_none, Option.isSome_none, if_true] at hl2
      have h1 : Tab (newW w line) tb km tm am start K T F := h.ev (newW_ev w line) (fun f => f) (fun f => f) (fun f => f)
      have hN := newW_tab w line
      have hz := newW_size w line
      have l1 := h.mkey.lt
      have l2 := h.mt.lt
      cases hK : K s with
      | none =>
        unfold ptr
        go_enter Try.func23, Try.ntmps23
        go_wp2_with fail
        refine (new_any line w).mono ?_
        rintro e w' ⟨rfl, rfl⟩
        have d2 := h1.c2
        go_wp2_with (at_mapUpdate; go_must (refine wpList_put rfl (.tmp 44) (.tmp 45) (.tmp 46) rfl Try.underlying34 Try.underlying9 s (ptr (w.heap.size + 3)) rfl rfl rfl h1.mt ?_))
        intro w1 hm1 he1 hs1
        have h2 := h1.setTable hm1 he1
        have hN1 := hN.ev he1 (by omega) (by omega) (by omega)
        have d1 := h2.c1
        have hl3 := h2.mkey.look Try.underlying32 Try.underlying9 (zero3 w1) s true
        simp only [hK, Option.map_none, Option.getD_none, Option.isSome_none, if_true] at hl3
        clear hm1 d2
        go_wp2_with (at_mapUpdate; go_must (refine wpList_put rfl (.tmp 61) (.tmp 62) (.tmp 63) rfl Try.underlying32 Try.underlying9 s (.int .i64 line) rfl rfl rfl h2.mkey ?_))
        intro w2 hm2 he2 hs2
        have h3 := h2.setKey hm2 he2
        have hN2 := hN1.ev he2 (by omega) (by omega) (by omega)
        clear hm2 hl3 d1
        go_wp2_with fail
        go_ret
        exact desc_new h hT hK (newW_ev w line) he1 he2 h3 hN2 (by omega)
      | some m =>
        unfold ptr
        go_enter Try.func23, Try.ntmps23
        go_wp2_with fail
        refine (new_any line w).mono ?_
        rintro e w' ⟨rfl, rfl⟩
        have d2 := h1.c2
        go_wp2_with (at_mapUpdate; go_must (refine wpList_put rfl (.tmp 44) (.tmp 45) (.tmp 46) rfl Try.underlying34 Try.underlying9 s (ptr (w.heap.size + 3)) rfl rfl rfl h1.mt ?_))
        intro w1 hm1 he1 hs1
        have h2 := h1.setTable hm1 he1
        have hN1 := hN.ev he1 (by omega) (by omega) (by omega)
        have d1 := h2.c1
        have hl3 := h2.mkey.look Try.underlying32 Try.underlying9 (zero3 w1) s true
        simp only [hK, Option.map_some, Option.getD_some, Option.isSome_some, if_true] at hl3
        clear hm1 d2
        go_wp2_with fail
        go_ret
        exact desc_kept h hT hK (newW_ev w line) he1 h2 hN1 (by omega)

set_option maxHeartbeats 400000 in
theorem zdesc_any {w : World} {tb km tm am : Nat} {start : Int} {K : ByteArray → Option Int} {T : ByteArray → Option Nat} {F : ByteArray → Option Value} (h : Tab w tb km tm am start K T F) {a : Option Nat} (s : ByteArray) (line : Int) (hA : LastIn w (F s) a) :
    Calls Try.prog 11 #[ptr tb, .string s, .int .i64 line] w fun e w' => DescPost w tb km tm am start K T F a s line e w' := by
  go_enter Try.func11, Try.ntmps11
  go_wp2_with (go_at_call 23; refine (desc_any h s line hA).mono ?_; rintro e w' ⟨rfl, h1, h2, h3, h4⟩)
  go_ret
  exact ⟨rfl, h1, h2, h3, h4⟩
end Go.Proofs.Qxb6600949a
