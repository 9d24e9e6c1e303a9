/-
  FnDescendScriptAgreesWithFirstOccurrenceModel, walked: it returns true.
-/
import Derived.Test.Qxb6600949aScr
import Derived.Test.Qxb6600949aCommute
namespace Go.Proofs.Qxb6600949a
open Go.RowKit Go.MapKept

theorem Ev.above {X : Nat → Prop} {w0 w w' : World} (h : Ev (fun _ => False) w0 w) (k : Ev X w w') (hX : ∀ x, X x → w0.heap.size ≤ x) : Ev (fun _ => False) w0 w' :=
  below_ev ((ev_below h).trans (k.below h.size hX))

/-- What lay in memory lies there yet. -/
def Kc (w w' : World) : Prop := ∀ a v, w.cell? a = some v → w'.cell? a = some v
theorem Kc.refl (w : World) : Kc w w := fun _ _ h => h
theorem Kc.ev {X : Nat → Prop} {w w1 w2 : World} (h : Kc w w1) (e : Ev X w1 w2) : Kc w w2 := fun a v hv => e.cell (h a v hv)
theorem StrsIn.kc {w w' : World} {a : Option Addr} {b o len : Nat} {S : Nat → ByteArray} (h : StrsIn w a b o len S) (e : Kc w w') : StrsIn w' a b o len S := ⟨h.lmax, h.addr, fun i hi => e _ _ (h.cell i hi), h.smax⟩
theorem IntsIn.kc {w w' : World} {a : Option Addr} {b o len : Nat} {Z : Nat → Int} (h : IntsIn w a b o len Z) (e : Kc w w') : IntsIn w' a b o len Z := ⟨h.lmax, h.addr, fun i hi => e _ _ (h.cell i hi)⟩

/-- Inside the loops that fill a map of the model: b: its block. -/
structure Fills (w0 wr : World) (b : Nat) (K : ByteArray → Option Int) : Prop where
  ev : Ev (fun _ => False) w0 wr
  size : wr.heap.size = b + 1
  map : MapAt wr b (fun s => (K s).map (Value.int .i64))

theorem fills_start {w0 w : World} (e : Ev (fun _ => False) w0 w) : Fills w0 (w.alloc (.map #[] 0)) w.heap.size (fun _ => none) := ⟨e.fls ((Ev.refl w).alloc _), by simp, mapAt_made w⟩
theorem Fills.step {w0 wr w' : World} {b : Nat} {K : ByteArray → Option Int} (h : Fills w0 wr b K) (hb : w0.heap.size ≤ b) {s : ByteArray} {n : Int} (hm : MapAt w' b (fput (fun s => (K s).map (Value.int .i64)) s (.int .i64 n))) (e : Ev (fun x => x = b) wr.drew w') (hz : w'.heap.size = wr.drew.heap.size) : Fills w0 w' b (kput K s n) :=
  ⟨(h.ev.fls (Ev.refl wr).drew).above e (fun x hx => by omega), hz.trans h.size, hm.congr (kput_fput K s n)⟩

theorem script_mk {w w7 w8 wr : World} {C : Nat} {start : Int} {K0 St : ByteArray → Option Int} {F : ByteArray → Option Value} {A : ByteArray → Option Nat} (hC : C = w8.heap.size) (E : Ev (fun _ => False) w w7) (b : Below w7.heap.size w7 w8) (z : w7.heap.size + 5 ≤ w8.heap.size)
    (t : Tab w8 (w7.heap.size + 3) w7.heap.size (w7.heap.size + 1) (w7.heap.size + 2) start K0 (fun _ => none) F) (m : MapAt w8 (w7.heap.size + 4) F) (a : Arrs w8 (w7.heap.size + 5) F A St) (f : Fills w8 wr (C + 1) St) (k : MapAt wr C (fun s => (K0 s).map (Value.int .i64))) :
    Scr w ((wr.alloc (.map #[] 0)).alloc (.map #[] 0)) w7.heap.size C start K0 St F A (fun _ => none) (fun _ => none) := by
  have h1 := (mapAt_made wr).alloc (.map #[] 0)
  have h2 := mapAt_made (wr.alloc (.map #[] 0))
  have hz := f.size
  have hz2 : (wr.alloc (.map #[] 0)).heap.size = wr.heap.size + 1 := by simp
  rw [hz2, hz] at h2
  rw [hz] at h1
  subst hC
  exact scr_start E b z t m a (f.ev.fls (((Ev.refl wr).alloc _).alloc _)) ((k.alloc _).alloc _) ((f.map.alloc _).alloc _) h1 h2

set_option maxHeartbeats 4000000 in
set_option maxRecDepth 100000 in
theorem script_any {w : World} (start : Int) {a1 a2 a3 a4 a5 a6 a7 : Option Addr} {b1 o1 l1 b2 o2 l2 b3 o3 l3 b4 o4 l4 b5 o5 l5 b6 o6 l6 b7 o7 l7 : Nat} {S1 S3 S5 S6 : Nat → ByteArray} {Z2 Z4 Z7 : Nat → Int}
    (h1 : StrsIn w a1 b1 o1 l1 S1) (h2 : IntsIn w a2 b2 o2 l2 Z2) (h3 : StrsIn w a3 b3 o3 l3 S3) (h4 : IntsIn w a4 b4 o4 l4 Z4) (h5 : StrsIn w a5 b5 o5 l5 S5) (h6 : StrsIn w a6 b6 o6 l6 S6) (h7 : IntsIn w a7 b7 o7 l7 Z7) (c1 c2 c3 c4 c5 c6 c7 : Nat) :
    Calls Try.prog 3 #[.int .i64 start, .slice a1 l1 c1, .slice a2 l2 c2, .slice a3 l3 c3, .slice a4 l4 c4, .slice a5 l5 c5, .slice a6 l6 c6, .slice a7 l7 c7] w fun e w' => LawPost w e w' := by
  go_enter Try.func3, Try.ntmps3
  go_wp2_with fail
  refine (bytes5_any start h1 c1 h2.lmax c2 h3 c3 h4.lmax c4 h5 c5 h6 c6 h7.lmax c7).mono ?_
  rintro e w' ⟨b, rfl, rfl⟩
  cases b
  · go_wp2_with fail
    go_ret
    exact law_mk (Below.refl _ _)
  go_wp2_with fail
  refine (tb_any h1 h2.lmax h3 h4.lmax h5 h6 h7.lmax c1 c2 c3 c4 c5 c6 c7 _).mono ?_
  rintro e w' ⟨b, rfl, rfl, hb⟩
  cases b
  case true =>
    go_wp2_with fail
    go_ret
    exact law_mk (Below.refl _ _)
  obtain ⟨g1, g2, g3, g4, g5, g6, g7⟩ := hb rfl
  clear hb
  have E0 := Ev.refl w
  go_wp2_with fail
  refine (cs_any h1 g1 c1).mono ?_
  rintro e w1 ⟨oa1, oc1, rfl, BB, u1⟩
  obtain ⟨d1, p1, t1⟩ : ∃ d p, StrsIn w1 oa1 d p l1 S1 := ⟨_, _, u1⟩
  clear u1
  have h2 := h2.later BB
  have h3 := h3.later BB
  have h4 := h4.later BB
  have h5 := h5.later BB
  have h6 := h6.later BB
  have h7 := h7.later BB
  have E1 := E0.fls (below_ev BB)
  clear h1 E0 BB
  go_wp2_with fail
  refine (ci_any h2 g2 c2).mono ?_
  rintro e w2 ⟨oa2, oc2, rfl, BB, u2⟩
  obtain ⟨d2, p2, t2⟩ : ∃ d p, IntsIn w2 oa2 d p l2 Z2 := ⟨_, _, u2⟩
  clear u2
  have t1 := t1.later BB
  have h3 := h3.later BB
  have h4 := h4.later BB
  have h5 := h5.later BB
  have h6 := h6.later BB
  have h7 := h7.later BB
  have E2 := E1.fls (below_ev BB)
  clear h2 E1 BB
  go_wp2_with fail
  refine (cs_any h3 g3 c3).mono ?_
  rintro e w3 ⟨oa3, oc3, rfl, BB, u3⟩
  obtain ⟨d3, p3, t3⟩ : ∃ d p, StrsIn w3 oa3 d p l3 S3 := ⟨_, _, u3⟩
  clear u3
  have t1 := t1.later BB
  have t2 := t2.later BB
  have h4 := h4.later BB
  have h5 := h5.later BB
  have h6 := h6.later BB
  have h7 := h7.later BB
  have E3 := E2.fls (below_ev BB)
  clear h3 E2 BB
  go_wp2_with fail
  refine (ci_any h4 g4 c4).mono ?_
  rintro e w4 ⟨oa4, oc4, rfl, BB, u4⟩
  obtain ⟨d4, p4, t4⟩ : ∃ d p, IntsIn w4 oa4 d p l4 Z4 := ⟨_, _, u4⟩
  clear u4
  have t1 := t1.later BB
  have t2 := t2.later BB
  have t3 := t3.later BB
  have h5 := h5.later BB
  have h6 := h6.later BB
  have h7 := h7.later BB
  have E4 := E3.fls (below_ev BB)
  clear h4 E3 BB
  go_wp2_with fail
  refine (cs_any h5 g5 c5).mono ?_
  rintro e w5 ⟨oa5, oc5, rfl, BB, u5⟩
  obtain ⟨d5, p5, t5⟩ : ∃ d p, StrsIn w5 oa5 d p l5 S5 := ⟨_, _, u5⟩
  clear u5
  have t1 := t1.later BB
  have t2 := t2.later BB
  have t3 := t3.later BB
  have t4 := t4.later BB
  have h6 := h6.later BB
  have h7 := h7.later BB
  have E5 := E4.fls (below_ev BB)
  clear h5 E4 BB
  go_wp2_with fail
  refine (cs_any h6 g6 c6).mono ?_
  rintro e w6 ⟨oa6, oc6, rfl, BB, u6⟩
  obtain ⟨d6, p6, t6⟩ : ∃ d p, StrsIn w6 oa6 d p l6 S6 := ⟨_, _, u6⟩
  clear u6
  have t1 := t1.later BB
  have t2 := t2.later BB
  have t3 := t3.later BB
  have t4 := t4.later BB
  have t5 := t5.later BB
  have h7 := h7.later BB
  have E6 := E5.fls (below_ev BB)
  clear h6 E5 BB
  go_wp2_with fail
  refine (ci_any h7 g7 c7).mono ?_
  rintro e w7 ⟨oa7, oc7, rfl, BB, u7⟩
  obtain ⟨d7, p7, t7⟩ : ∃ d p, IntsIn w7 oa7 d p l7 Z7 := ⟨_, _, u7⟩
  clear u7
  have t1 := t1.later BB
  have t2 := t2.later BB
  have t3 := t3.later BB
  have t4 := t4.later BB
  have t5 := t5.later BB
  have t6 := t6.later BB
  have E7 := E6.fls (below_ev BB)
  clear h7 E6 BB
  go_wp2_with fail
  refine (build_any start t1 t2 t3 t4 t5 g1 g2 g3 g4 g5 oc1 oc2 oc3 oc4 oc5).mono ?_
  rintro e w8 ⟨F, A, rfl, B8, z8, T8, N8, A8⟩
  have V8 := below_ev B8
  have hmm := @run_makeMap Try.prog
  unfold ptr
  go_wp2_with fail
  refine (min_any l1 l2 _).mono ?_
  rintro e w' ⟨rfl, rfl⟩
  go_wp2_with fail
  obtain ⟨n, hn⟩ : ∃ n, n = min l1 l2 := ⟨_, rfl⟩
  rw [← hn] at T8
  rw [← hn]
  have hn1 : n ≤ l1 := by omega
  have hn2 : n ≤ l2 := by omega
  clear hn
  obtain ⟨m, hm⟩ : ∃ m, m = min l3 l4 := ⟨_, rfl⟩
  rw [← hm] at A8
  have hm3 : m ≤ l3 := by omega
  have hm4 : m ≤ l4 := by omega
  have HM : Hid (m = min l3 l4) := hm
  clear hm
  obtain ⟨C, hC⟩ : ∃ C, C = w8.heap.size := ⟨_, rfl⟩
  rw [← hC]
  have f0 := fills_start (Ev.refl w8)
  rw [← hC] at f0
  have HC : Hid (C = w8.heap.size) := hC
  clear hC hmm
  go_loopg [21] n (fun gh i wr => ∃ r : Nat, r ≤ n ∧ gh = n - r ∧ i = .int .i64 r ∧ Fills w8 wr C (seedK S1 Z2 r))
  case atStart => exact ⟨0, Nat.zero_le _, rfl, rfl, f0⟩
  case round =>
    obtain ⟨r, hr, rfl, rfl, hO⟩ := hrel
    clear f0
    by_cases hrG : r < n
    · obtain rfl := t1.addr (by omega)
      obtain rfl := t2.addr (by omega)
      have hrz : (r : Int) < (n : Int) := by omega
      have hrz1 : (r : Int) < (l1 : Int) := by omega
      have hrz2 : (r : Int) < (l2 : Int) := by omega
      have V := V8.fls hO.ev
      have q1 := V.cell (t1.cell r (by omega))
      have q2 := V.cell (t2.cell r (by omega))
      obtain ⟨wp, hrun, hmp, hep, hzp⟩ := (hO.map.ev (Ev.refl wr).drew (fun x => x)).put (P := Try.prog) Try.underlying32 Try.underlying9 (S1 r) (.int .i64 (Z2 r))
      have hO2 := hO.step (by have := HC.out; omega) hmp hep hzp
      clear hmp hep hzp hO V
      go_wp2_with fail
      go_region
      all_goals
        go_wp2_with fail
        go_roundg (n - (r + 1))
        case measure => go_light; omega
        case rel => go_light; exact ⟨r + 1, by omega, rfl, by go_num, hO2⟩
    · have hmm := @run_makeMap Try.prog
      have hO4 := hO.size
      obtain rfl : r = n := by omega
      go_wp2_with fail
      refine (min_any l3 l4 _).mono ?_
      rintro e w' ⟨rfl, rfl⟩
      go_wp2_with fail
      rw [← HM.out]
      have f1 := fills_start hO.ev
      have k1 := hO.map.alloc (.map #[] 0)
      rw [hO4] at f1
      clear hmm hO4
      go_loopg [24] m (fun gh i wx => ∃ q : Nat, q ≤ m ∧ gh = m - q ∧ i = .int .i64 q ∧ Fills w8 wx (C + 1) (seedK S3 Z4 q) ∧ MapAt wx C (fun s => (seedK S1 Z2 r s).map (Value.int .i64)))
      case atStart => exact ⟨0, Nat.zero_le _, rfl, rfl, f1, k1⟩
      case round =>
        obtain ⟨q, hq, rfl, rfl, hP, hQ⟩ := hrel
        clear f1 k1 hO
        by_cases hqm : q < m
        · obtain rfl := t3.addr (by omega)
          obtain rfl := t4.addr (by omega)
          have hqz : (q : Int) < (m : Int) := by omega
          have hqz3 : (q : Int) < (l3 : Int) := by omega
          have hqz4 : (q : Int) < (l4 : Int) := by omega
          have V := V8.fls hP.ev
          have q3 := V.cell (t3.cell q (by omega))
          have q4 := V.cell (t4.cell q (by omega))
          obtain ⟨wp, hrun, hmp, hep, hzp⟩ := (hP.map.ev (Ev.refl wr).drew (fun x => x)).put (P := Try.prog) Try.underlying32 Try.underlying9 (S3 q) (.int .i64 (Z4 q))
          have hP2 := hP.step (by have := HC.out; omega) hmp hep hzp
          have hQ2 := (hQ.ev (Ev.refl wr).drew (fun x => x)).ev hep (by omega)
          clear hmp hep hzp hP hQ V
          go_wp2_with fail
          go_region
          all_goals
            go_wp2_with fail
            go_roundg (m - (q + 1))
            case measure => go_light; omega
            case rel => go_light; exact ⟨q + 1, by omega, rfl, by go_num, hP2, hQ2⟩
        · have hmm := @run_makeMap Try.prog
          have hP4 := hP.size
          obtain rfl : q = m := by omega
          go_wp2_with fail
          refine (min_any l6 l7 _).mono ?_
          rintro e w' ⟨rfl, rfl⟩
          go_wp2_with fail
          obtain ⟨c, hc⟩ : ∃ c, c = min l6 l7 := ⟨_, rfl⟩
          rw [← hc]
          have hc6 : c ≤ l6 := by omega
          have hc7 : c ≤ l7 := by omega
          clear hc hmm
          have hS0 := script_mk HC.out E7 B8 z8 T8 N8 A8 hP hQ
          have V9 := V8.fls (hP.ev.fls (((Ev.refl wr).alloc (.map #[] 0)).alloc (.map #[] 0)))
          clear hP hQ T8 N8 A8 B8 V8 E7 hP4
          generalize w7.heap.size = B at *
          have t1 := t1.ev V9
          have t3 := t3.ev V9
          have t5 := t5.ev V9
          have t6 := t6.ev V9
          have t7 := t7.ev V9
          clear t2 t4 V9
          obtain ⟨wm, hwm⟩ : ∃ wm, wm = (wr.alloc (.map #[] 0)).alloc (.map #[] 0) := ⟨_, rfl⟩
          rw [← hwm] at hS0 t1 t3 t5 t6 t7
          rw [← hwm]
          clear hwm
          go_loopg [28] c (fun gh i wx => ∃ (j : Nat) (T : ByteArray → Option Nat) (M : ByteArray → Option Int), j ≤ c ∧ gh = c - j ∧ i = .int .i64 j ∧ Kc wm wx ∧ Scr w wx B C start (seedK S1 Z2 r) (seedK S3 Z4 q) F A T M)
          case atStart => exact ⟨0, _, _, Nat.zero_le _, rfl, rfl, Kc.refl _, hS0⟩
          case round =>
            obtain ⟨j, T, M, hj, rfl, rfl, hk, hS⟩ := hrel
            clear hS0
            by_cases hjc : j < c
            · obtain rfl := t6.addr (by omega)
              obtain rfl := t7.addr (by omega)
              have hjz : (j : Int) < (c : Int) := by omega
              have hjz6 : (j : Int) < (l6 : Int) := by omega
              have hjz7 : (j : Int) < (l7 : Int) := by omega
              have q6 := hk _ _ (t6.cell j (by omega))
              have q7 := hk _ _ (t7.cell j (by omega))
              go_wp2_with fail
              refine (zdesc_any hS.tab (S6 j) (Z7 j) (hS.arrs.last _)).mono ?_
              rintro e wd D
              cases hs : seedK S3 Z4 q (S6 j) with
              | some ls =>
                obtain ⟨b, g, p, cap, rfl, hwd, hblk, hne, hF, hp, hcell⟩ := hS.byArray hs D
                subst hwd
                have e1 := ptr_eq_other hblk hS.tab.start hne
                have e2 := ptr_neq_same wd b
                have lk1 := hS.last.look Try.underlying32 Try.underlying9 (zero3 wd) (S6 j) true
                have lk2 := hS.arr.look Try.underlying29 Try.underlying9 (zero37 wd) (S6 j) false
                simp only [hs, Option.map_some, Option.getD_some, Option.isSome_some, if_true] at lk1
                simp only [hF, Option.getD_some, Bool.false_eq_true, if_false] at lk2
                clear D
                go_wp2_with fail
                refine (start_any b ls _ hblk.cell).mono ?_
                rintro e w' ⟨rfl, rfl⟩
                go_wp2_with fail
                go_roundg (c - (j + 1))
                case measure => go_light; omega
                case rel => go_light; exact ⟨j + 1, T, M, by omega, rfl, by go_num, hk, hS⟩
              | none =>
                cases hp : T (S6 j) with
                | some p =>
                  obtain ⟨n0, rfl, hwd, hblk, hne, hM⟩ := hS.byMade hs hp D
                  subst hwd
                  have e1 := ptr_eq_other hblk hS.tab.start hne
                  have e2 := fun x => ptr_neq_same x p
                  have lk1 := hS.last.look Try.underlying32 Try.underlying9 (zero3 wd) (S6 j) true
                  have lk2 := hS.made.look Try.underlying34 Try.underlying9 (zero28 wd) (S6 j) true
                  have lk3 := fun x => (hS.at_.ev ((Ev.refl wd).drewN x) (fun f => f)).look Try.underlying32 Try.underlying9 (zero3 (wd.drewN x)) (S6 j) false
                  simp only [hs, Option.map_none, Option.getD_none, Option.isSome_none, if_true] at lk1
                  simp only [hp, Option.map_some, Option.getD_some, Option.isSome_some, if_true] at lk2
                  simp only [hM, Option.map_some, Option.getD_some, Bool.false_eq_true, if_false] at lk3
                  unfold ptr at lk2
                  clear D
                  go_wp2_with fail
                  go_quiet (first | (go_at_call 12; exact quiet_sym (start_any p n0 _ (hblk.ev ((Ev.refl wd).drewN _)).cell)))
                  go_wp2_with fail
                  go_roundg (c - (j + 1))
                  case measure => go_light; omega
                  case rel => go_light; exact ⟨j + 1, T, M, by omega, rfl, by go_num, hk.ev ((Ev.refl wd).drewN _), hS.same ((Ev.refl wd).drewN _)⟩
                | none =>
                  obtain ⟨rfl, hM, hne, hev, ht, hN⟩ := hS.fresh hs hp D
                  have hBC := hS.hC
                  have e1 := ptr_eq_other hN.start ht.start hne
                  have lk1 := (hS.last.ev hev (by omega)).look Try.underlying32 Try.underlying9 (zero3 wd) (S6 j) true
                  have lk2 := (hS.made.ev hev (by omega)).look Try.underlying34 Try.underlying9 (zero28 wd) (S6 j) true
                  simp only [hs, Option.map_none, Option.getD_none, Option.isSome_none, if_true] at lk1
                  simp only [hp, Option.map_none, Option.getD_none, Option.isSome_none, if_true] at lk2
                  clear D
                  go_wp2_with fail
                  refine (start_any _ _ _ hN.c0).mono ?_
                  rintro e w' ⟨rfl, rfl⟩
                  go_wp2_with fail
                  refine (empty_any hN).mono ?_
                  rintro e w' ⟨rfl, rfl⟩
                  clear e1 lk1 lk2
                  go_wp2_with (at_mapUpdate; go_must (refine wpList_put rfl (.tmp 201) (.tmp 202) (.tmp 203) rfl Try.underlying34 Try.underlying9 (S6 j) (ptr (wr.heap.size + 3)) rfl rfl rfl (hS.made.ev hev (by omega)) ?_))
                  intro w1' hm1 he1 hs1
                  go_wp2_with (at_mapUpdate; go_must (refine wpList_put rfl (.tmp 204) (.tmp 205) (.tmp 206) rfl Try.underlying32 Try.underlying9 (S6 j) (.int .i64 (Z7 j)) rfl rfl rfl ((hS.at_.ev hev (by omega)).ev he1 (by omega)) ?_))
                  intro w2' hm2 he2 hs2
                  have hS2 := hS.step hev ht hN hm1 he1 hm2 he2
                  have hk2 := ((hk.ev hev).ev he1).ev he2
                  clear hS hm1 hm2 hk
                  go_wp2_with fail
                  go_roundg (c - (j + 1))
                  case measure => go_light; omega
                  case rel => go_light; exact ⟨j + 1, _, _, by omega, rfl, by go_num, hk2, hS2⟩
            · have hjd : decide ((j : Int) < (c : Int)) = false := by simp; omega
              have G := hS.agrees
              go_wp2_with fail
              refine (start_any _ _ _ hS.tab.c0).mono ?_
              rintro e w' ⟨rfl, rfl⟩
              go_wp2_with fail
              refine (keys_any G (t6.kc hk) g6 oc6).mono ?_
              rintro e w' ⟨rfl, rfl⟩
              go_wp2_with fail
              refine (keys_any G (t1.kc hk) g1 oc1).mono ?_
              rintro e w' ⟨rfl, rfl⟩
              go_wp2_with fail
              refine (keys_any G (t3.kc hk) g3 oc3).mono ?_
              rintro e w' ⟨rfl, rfl⟩
              go_wp2_with fail
              refine (keys_any G (t5.kc hk) g5 oc5).mono ?_
              rintro e w' ⟨rfl, rfl⟩
              go_wp2_with fail
              go_ret
              exact law_mk hS.below
end Go.Proofs.Qxb6600949a
