/-
  FnDescendDistinctKeysCommute, walked: it returns true.
-/
import Derived.Test.Qxb6600949aCom
import Derived.Test.Qxb6600949aBig
import Derived.Test.Qxb6600949aBytes
namespace Go.Proofs.Qxb6600949a
open Go.RowKit Go.MapKept

def LawPost (w : World) (e : Ending) (w' : World) : Prop := e = .returned (.bool true) ∧ Below w.heap.size w w'
theorem law_mk {w w' : World} (h : Below w.heap.size w w') : LawPost w (.returned (.bool true)) w' := ⟨rfl, h⟩

theorem desc_below {km tm lo : Nat} {w w' : World} (h : Ev (fun k => k = km ∨ k = tm) w w') (h1 : lo ≤ km) (h2 : lo ≤ tm) (hw : lo ≤ w.heap.size) : Below lo w w' :=
  h.below hw (fun k hk => by rcases hk with rfl | rfl <;> assumption)

set_option maxHeartbeats 4000000 in
set_option maxRecDepth 100000 in
theorem commute_any {w : World} (start : Int) {a1 a2 a3 a4 a5 : Option Addr} {b1 o1 l1 b2 o2 l2 b3 o3 l3 b4 o4 l4 b5 o5 l5 : Nat} {S1 S3 S5 : Nat → ByteArray} {Z2 Z4 : Nat → Int}
    (h1 : StrsIn w a1 b1 o1 l1 S1) (h2 : IntsIn w a2 b2 o2 l2 Z2) (h3 : StrsIn w a3 b3 o3 l3 S3) (h4 : IntsIn w a4 b4 o4 l4 Z4) (h5 : StrsIn w a5 b5 o5 l5 S5) (c1 c2 c3 c4 c5 : Nat)
    (k1 : ByteArray) (m1 : k1.size ≤ 9223372036854775807) (n1 : Int) (k2 : ByteArray) (m2 : k2.size ≤ 9223372036854775807) (n2 : Int) :
    Calls Try.prog 4 #[.int .i64 start, .slice a1 l1 c1, .slice a2 l2 c2, .slice a3 l3 c3, .slice a4 l4 c4, .slice a5 l5 c5, .string k1, .int .i64 n1, .string k2, .int .i64 n2] w fun e w' => LawPost w e w' := by
  go_enter Try.func4, Try.ntmps4
  go_wp2_with fail
  refine (bytes15_any start h1 c1 h2.lmax c2 h3 c3 h4.lmax c4 h5 c5 k1 m1 n1 k2 m2 n2).mono ?_
  rintro e w' ⟨b, rfl, rfl⟩
  cases b
  · go_wp2_with fail
    go_ret
    exact law_mk (Below.refl _ _)
  cases f1 : decide ((1048576 : Int) < (k1.size : Int))
  case true =>
    go_wp2_with fail
    go_ret
    exact law_mk (Below.refl _ _)
  cases f2 : decide ((1048576 : Int) < (k2.size : Int))
  case true =>
    go_wp2_with fail
    go_ret
    exact law_mk (Below.refl _ _)
  go_wp2_with fail
  refine (tb_any h1 h2.lmax h3 h4.lmax h5 (strs_nil w) (Nat.zero_le _) c1 c2 c3 c4 c5 0 0 _).mono ?_
  rintro e w' ⟨b, rfl, rfl, hb⟩
  cases b
  case true =>
    go_wp2_with fail
    go_ret
    exact law_mk (Below.refl _ _)
  obtain ⟨g1, g2, g3, g4, g5, _, _⟩ := hb rfl
  clear f1 f2 hb
  cases hk : (k1.toList == k2.toList)
  case true =>
    go_wp2_with fail
    go_ret
    exact law_mk (Below.refl _ _)
  have HK : Hid (k1 ≠ k2) := fun e => by
    rw [e] at hk
    simp at hk
  go_wp2_with fail
  refine (cs_any h1 g1 c1).mono ?_
  rintro e w1 ⟨oa1, oc1, rfl, B1, t1⟩
  have h2 := h2.later B1
  have h3 := h3.later B1
  have h4 := h4.later B1
  have h5 := h5.later B1
  clear h1 hk
  have E1 := below_ev B1
  go_wp2_with fail
  refine (ci_any h2 g2 c2).mono ?_
  rintro e w2 ⟨oa2, oc2, rfl, B2, t2⟩
  have t1 := t1.later B2
  have h3 := h3.later B2
  have h4 := h4.later B2
  have h5 := h5.later B2
  have E2 := E1.fls (below_ev B2)
  clear h2 E1 B1 B2
  go_wp2_with fail
  refine (cs_any h3 g3 c3).mono ?_
  rintro e w3 ⟨oa3, oc3, rfl, B3, t3⟩
  have t1 := t1.later B3
  have t2 := t2.later B3
  have h4 := h4.later B3
  have h5 := h5.later B3
  have E3 := E2.fls (below_ev B3)
  clear h3 E2 B3
  go_wp2_with fail
  refine (ci_any h4 g4 c4).mono ?_
  rintro e w4 ⟨oa4, oc4, rfl, B4, t4⟩
  have t1 := t1.later B4
  have t2 := t2.later B4
  have t3 := t3.later B4
  have h5 := h5.later B4
  have E4 := E3.fls (below_ev B4)
  clear h4 E3 B4
  go_wp2_with fail
  refine (cs_any h5 g5 c5).mono ?_
  rintro e w5 ⟨oa5, oc5, rfl, B5, t5⟩
  have t1 := t1.later B5
  have t2 := t2.later B5
  have t3 := t3.later B5
  have t4 := t4.later B5
  have E5 := E4.fls (below_ev B5)
  clear h5 E4 B5
  go_wp2_with fail
  obtain ⟨K, St, bd⟩ : ∃ K St, ∀ w', Ev (fun _ => False) w5 w' → Calls Try.prog 9 #[.int .i64 start, .slice oa1 l1 oc1, .slice oa2 l2 oc2, .slice oa3 l3 oc3, .slice oa4 l4 oc4, .slice oa5 l5 oc5] w' fun e w'' => BuildPost w' start K St e w'' :=
    ⟨_, _, fun w' hE => build_any start (t1.ev hE) (t2.ev hE) (t3.ev hE) (t4.ev hE) (t5.ev hE) g1 g2 g3 g4 g5 oc1 oc2 oc3 oc4 oc5⟩
  refine (bd w5 (Ev.refl _)).mono ?_
  rintro e w6 ⟨F, A, rfl, B6, z6, T6, _, A6⟩
  have V6 := below_ev B6
  go_wp2_with fail
  refine (bd w6 V6).mono ?_
  rintro e w7 ⟨F', A', rfl, B7, z7, U7, _, C7⟩
  have V7 := V6.fls (below_ev B7)
  have T7 := T6.ev (below_ev B7) (fun f => f) (fun f => f) (fun f => f)
  have A7 := A6.ev (below_ev B7)
  have t1 := t1.ev V7
  have t3 := t3.ev V7
  have t5 := t5.ev V7
  have E7 := E5.fls V7
  clear B6 B7 V6 V7 T6 A6 bd t2 t4
  have hsz := E7.size
  have hs5 := E5.size
  clear E5
  generalize hB : w5.heap.size = B at *
  generalize hC : w6.heap.size = C at *
  go_wp2_with fail
  refine (zdesc_any T7 k1 n1 (A7.last k1)).mono ?_
  rintro e w8 D1
  obtain ⟨r1, hr1⟩ : ∃ r, e = .returned (ptr r) := ⟨_, D1.ret⟩
  subst hr1
  go_wp2_with fail
  refine (zdesc_any D1.tab k2 n2 ((A7.ev D1.ev).last k2)).mono ?_
  rintro e w9 D2
  obtain ⟨r2, hr2⟩ : ∃ r, e = .returned (ptr r) := ⟨_, D2.ret⟩
  subst hr2
  have U9 := (U7.ev D1.ev (by omega) (by omega) (by omega)).ev D2.ev (by omega) (by omega) (by omega)
  have C9 := (C7.ev D1.ev).ev D2.ev
  go_wp2_with fail
  refine (zdesc_any U9 k2 n2 (C9.last k2)).mono ?_
  rintro e w10 D3
  obtain ⟨q2, hq2⟩ : ∃ r, e = .returned (ptr r) := ⟨_, D3.ret⟩
  subst hq2
  go_wp2_with fail
  refine (zdesc_any D3.tab k1 n1 ((C9.ev D3.ev).last k1)).mono ?_
  rintro e w11 D4
  obtain ⟨q1, hq1⟩ : ∃ r, e = .returned (ptr r) := ⟨_, D4.ret⟩
  subst hq1
  have E8 : Below w.heap.size w w11 := ((((ev_below E7).trans (desc_below D1.ev (by omega) (by omega) (by omega))).trans (desc_below D2.ev (by omega) (by omega) (by have := D1.ev.size; omega))).trans (desc_below D3.ev (by omega) (by omega) (by have := D1.ev.size; have := D2.ev.size; omega))).trans
    (desc_below D4.ev (by omega) (by omega) (by have := D1.ev.size; have := D2.ev.size; have := D3.ev.size; omega))
  have t1 := (((t1.ev D1.ev).ev D2.ev).ev D3.ev).ev D4.ev
  have t3 := (((t3.ev D1.ev).ev D2.ev).ev D3.ev).ev D4.ev
  have t5 := (((t5.ev D1.ev).ev D2.ev).ev D3.ev).ev D4.ev
  obtain ⟨r1', r2', q1', q2', x1, x2, L, H, i1, i2, i3, i4, CM⟩ := com_full HK.out z6 A7 C7 D1 D2 D3 D4
  obtain rfl : r1 = r1' := ptr_inj (by injection i1)
  obtain rfl : r2 = r2' := ptr_inj (by injection i2)
  obtain rfl : q2 = q2' := ptr_inj (by injection i3)
  obtain rfl : q1 = q1' := ptr_inj (by injection i4)
  clear i1 i2 i3 i4 D1 D2 D3 D4 U9 C9 U7 C7 T7 A7 E7
  have M := CM w11 (Ev.refl _)
  have p1 := M.e1
  have p2 := M.e2
  unfold ptr
  go_wp2_with fail
  refine (M.s1).mono ?_
  rintro e w' ⟨rfl, rfl⟩
  go_wp2_with fail
  refine (M.s3).mono ?_
  rintro e w' ⟨rfl, rfl⟩
  go_wp2_with fail
  refine (M.s2).mono ?_
  rintro e w' ⟨rfl, rfl⟩
  go_wp2_with fail
  refine (M.s4).mono ?_
  rintro e w' ⟨rfl, rfl⟩
  go_wp2_with fail
  refine (M.st).mono ?_
  rintro e w' ⟨rfl, rfl⟩
  go_wp2_with fail
  refine (M.su).mono ?_
  rintro e w' ⟨rfl, rfl⟩
  go_wp2_with fail
  refine (M.al.l1 k1).mono ?_
  rintro e w' ⟨rfl, rfl⟩
  go_wp2_with fail
  refine (M.al.l1 k2).mono ?_
  rintro e w' ⟨rfl, rfl⟩
  go_wp2_with fail
  refine (M.al.h1 k1).mono ?_
  rintro e w' ⟨rfl, rfl⟩
  go_wp2_with fail
  refine (M.al.h1 k2).mono ?_
  rintro e w' ⟨rfl, rfl⟩
  go_wp2_with fail
  refine (M.al.l2 k1).mono ?_
  rintro e w' ⟨rfl, rfl⟩
  go_wp2_with fail
  refine (M.al.l2 k2).mono ?_
  rintro e w' ⟨rfl, rfl⟩
  go_wp2_with fail
  refine (M.al.h2 k1).mono ?_
  rintro e w' ⟨rfl, rfl⟩
  go_wp2_with fail
  refine (M.al.h2 k2).mono ?_
  rintro e w' ⟨rfl, rfl⟩
  go_wp2_with fail
  clear p1 p2 M
  have G0 := Ev.refl w11
  refine (same_any (fun v hv => (CM v (G0.fls hv)).al) (t1.ev G0) g1 oc1).mono ?_
  rintro e v1 ⟨rfl, F1⟩
  have G1 := G0.fls F1
  go_wp2_with fail
  refine (same_any (fun v hv => (CM v (G1.fls hv)).al) (t3.ev G1) g3 oc3).mono ?_
  rintro e v2 ⟨rfl, F2⟩
  have G2 := G1.fls F2
  go_wp2_with fail
  refine (same_any (fun v hv => (CM v (G2.fls hv)).al) (t5.ev G2) g5 oc5).mono ?_
  rintro e v3 ⟨rfl, F3⟩
  have G3 := G2.fls F3
  have M := CM v3 G3
  have p1 := ptr_neq_same v3 r1
  have p2 := ptr_neq_same v3 r2
  have p3 := ptr_neq_same v3 q1
  have p4 := ptr_neq_same v3 q2
  go_wp2_with fail
  refine (M.d1 n2).mono ?_
  rintro e w' ⟨rfl, rfl⟩
  go_wp2_with fail
  refine (M.d2 n1).mono ?_
  rintro e w' ⟨rfl, rfl⟩
  go_wp2_with fail
  refine (M.d3 n2).mono ?_
  rintro e w' ⟨rfl, rfl⟩
  go_wp2_with fail
  refine (M.d4 n1).mono ?_
  rintro e w' ⟨rfl, rfl⟩
  go_wp2_with fail
  refine (M.al.l1 k1).mono ?_
  rintro e w' ⟨rfl, rfl⟩
  go_wp2_with fail
  refine (M.al.l1 k2).mono ?_
  rintro e w' ⟨rfl, rfl⟩
  go_wp2_with fail
  refine (M.al.l2 k1).mono ?_
  rintro e w' ⟨rfl, rfl⟩
  go_wp2_with fail
  refine (M.al.l2 k2).mono ?_
  rintro e w' ⟨rfl, rfl⟩
  go_wp2_with fail
  refine (M.al.h1 k1).mono ?_
  rintro e w' ⟨rfl, rfl⟩
  go_wp2_with fail
  refine (M.al.h1 k2).mono ?_
  rintro e w' ⟨rfl, rfl⟩
  go_wp2_with fail
  refine (M.al.h2 k1).mono ?_
  rintro e w' ⟨rfl, rfl⟩
  go_wp2_with fail
  refine (M.al.h2 k2).mono ?_
  rintro e w' ⟨rfl, rfl⟩
  go_wp2_with fail
  refine (M.s1).mono ?_
  rintro e w' ⟨rfl, rfl⟩
  go_wp2_with fail
  refine (M.s3).mono ?_
  rintro e w' ⟨rfl, rfl⟩
  go_wp2_with fail
  refine (M.s2).mono ?_
  rintro e w' ⟨rfl, rfl⟩
  go_wp2_with fail
  refine (M.s4).mono ?_
  rintro e w' ⟨rfl, rfl⟩
  go_wp2_with fail
  clear p1 p2 p3 p4 M
  refine (same_any (fun v hv => (CM v (G3.fls hv)).al) (t1.ev G3) g1 oc1).mono ?_
  rintro e v4 ⟨rfl, F4⟩
  have G4 := G3.fls F4
  go_wp2_with fail
  refine (same_any (fun v hv => (CM v (G4.fls hv)).al) (t3.ev G4) g3 oc3).mono ?_
  rintro e v5 ⟨rfl, F5⟩
  have G5 := G4.fls F5
  go_wp2_with fail
  refine (same_any (fun v hv => (CM v (G5.fls hv)).al) (t5.ev G5) g5 oc5).mono ?_
  rintro e v6 ⟨rfl, F6⟩
  have G6 := G5.fls F6
  go_wp2_with fail
  go_ret
  exact law_mk (E8.trans ((ev_below G6).mono E8.size))
end Go.Proofs.Qxb6600949a
