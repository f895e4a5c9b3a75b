/-
  FnLayout (the statement: for every list of pieces, every time and every zone the call returns true, and its arguments read afterwards as they did), part 37 of 41. In this part: The walk of package time: a time is read by a layout: what is handed back. The walk of package time: a time is read by a layout: what stands behind the loop, as a whole. The walk of package time: a time is read by a layout: the place of the time; the whole of what stands behind the loop. The walk of package time: a time is read by a layout: 'parse' as a whole. The walks of ParseInLocation, and of the package impl's Parse. The walk of the statement's own use of the reader.
-/
import Derived.KernelRfl
import Derived.Test.YtndhiemagankeaaGreatDoorG11
import Derived.Test.YtndhiemagankeaaGreatDoorG15
import Derived.Test.YtndhiemagankeaaGreatDoorG24
import Derived.Test.YtndhiemagankeaaGreatDoorG34
import Derived.Test.YtndhiemagankeaaGreatDoorG35
import Derived.Test.YtndhiemagankeaaGreatDoorG36
/- The walk of package time: a time is read by a layout: what is handed back. -/
namespace Go.Proofs.YtndhiemagankeaaGreatDoor
open Go.RowKit
set_option linter.unusedVariables false
set_option linter.unusedSimpArgs false
attribute [local simp] bs_size bs_toList bs_append bs_data bs_extract
/-- The numbers of a time that is to be made. -/
structure VB (v : V69) : Prop where
  y0 : 0 ≤ v.y
  y1 : v.y ≤ 9999
  m0 : 1 ≤ v.m
  m1 : v.m ≤ 12
  d0 : 1 ≤ v.d
  d1 : v.d ≤ 31
  h0 : 0 ≤ v.h
  h1 : v.h ≤ 23
  i0 : 0 ≤ v.mi
  i1 : v.mi ≤ 59
  s0 : 0 ≤ v.s
  s1 : v.s ≤ 59
  n0 : 0 ≤ v.ns
  n1 : v.ns ≤ 999999999
def vext (v : V69) (off : Int) : Int := extOf v.y v.m v.d v.h v.mi v.s off
/-- What 'parse' leaves: a time, and no error. -/
def Fin69 (ns ext : Int) (lo : Value) (a : Act) (w : World) : Prop :=
  a.defers = [] ∧ (results Tryz.f69 a.tmps).run Tryz.prog w = .ok (.tuple #[tv ns ext lo, .nilIface]) w
theorem VB.date {v : V69} (h : VB v) (lv : Value) (z : Zn) (w : World) (z0 : -86399 ≤ z.off) (z1 : z.off ≤ 86399) (H : LocAt w lv z) :
    Calls Tryz.prog 53 #[.int .i64 v.y, .int .i64 v.m, .int .i64 v.d, .int .i64 v.h, .int .i64 v.mi, .int .i64 v.s, .int .i64 v.ns, lv] w fun e w' => (∃ lo, e = .returned (tv v.ns (vext v z.off) lo) ∧ TimeLoc w' lo z) ∧ Below w.heap.size w w' :=
  Date_c v.y v.m v.d v.h v.mi v.s v.ns lv z w h.y0 h.y1 h.m0 h.m1 h.d0 h.d1 h.h0 h.h1 h.i0 h.i1 h.s0 h.s1 h.n0 h.n1 z0 z1 H
theorem TAt.set1 {w : World} {b : Nat} {nano ext : Int} {lo : Value} (h : TAt w b nano ext lo) (e2 : Int) : TAt (w.setCell ⟨b, 1, none⟩ (.int .i64 e2)) b nano e2 lo :=
  CAt.of_TAt.1 ((CAt.of_TAt.2 h).set 1 (.int .i64 e2) (by simp))
theorem TAt.set2 {w : World} {b : Nat} {nano ext : Int} {lo : Value} (h : TAt w b nano ext lo) (l2 : Value) : TAt (w.setCell ⟨b, 2, none⟩ l2) b nano ext l2 :=
  CAt.of_TAt.1 ((CAt.of_TAt.2 h).set 2 l2 (by simp))
theorem below_set (w : World) (b i : Nat) (v : Value) : Below b w (w.setCell ⟨b, i, none⟩ v) :=
  (Below.refl b w).setCell (p := ⟨b, i, none⟩) (Nat.le_refl _) v
theorem addSec_k {w : World} {b : Nat} {nano ext : Int} {lo : Value} (d : Int) (n0 : 0 ≤ nano) (n1 : nano ≤ 999999999) (h : TAt w b nano ext lo) (e0 : -1000000000000 ≤ ext) (e1 : ext ≤ 1000000000000) (d0 : -1000000000 ≤ d) (d1 : d ≤ 1000000000) :
    Calls Tryz.prog 92 #[.pointer (some ⟨b, 0, none⟩), .int .i64 d] w fun e w' => e = .returned (.tuple #[]) ∧ TAt w' b nano (ext + d) lo ∧ Below b w w' := by
  refine (addSec_c b nano ext lo w n0 n1 d h e0 e1 d0 d1).mono ?_
  rintro e w' ⟨rfl, rfl⟩
  exact ⟨rfl, h.set1 _, below_set _ _ _ _⟩
theorem setLoc_k {w0 w : World} {b : Nat} {nano ext : Int} {lo v : Value} {z : Zn} (n0 : 0 ≤ nano) (n1 : nano ≤ 999999999) (H : LocAt w0 v z) (hb : Below w0.heap.size w0 w) (hlt : w0.heap.size ≤ b) (h : TAt w b nano ext lo) :
    Calls Tryz.prog 83 #[.pointer (some ⟨b, 0, none⟩), v] w fun e w' => e = .returned (.tuple #[]) ∧ ∃ l2, TAt w' b nano ext l2 ∧ TimeLoc w' l2 z ∧ Below b w w' := by
  rcases H with ⟨rfl, H⟩ | H
  · refine (setLoc_utc b nano ext lo w n0 n1 v h (H.below hb)).mono ?_
    rintro e w' ⟨rfl, rfl⟩
    exact ⟨rfl, _, h.set2 _, .inl ⟨rfl, rfl⟩, below_set _ _ _ _⟩
  · refine (setLoc_fix b nano ext lo w n0 n1 v z h (H.below hb)).mono ?_
    rintro e w' ⟨rfl, rfl⟩
    exact ⟨rfl, _, h.set2 _, .inr (H.below (hb.trans ((below_set _ _ _ _).mono hlt))), below_set _ _ _ _⟩
theorem VB.ext {v : V69} (h : VB v) : -900000000000 ≤ vext v 0 ∧ vext v 0 ≤ 900000000000 := by
  obtain ⟨r0, r1⟩ := absDay_rng v.y v.m v.d h.y0 h.y1 h.m0 h.m1 h.d0 h.d1
  obtain ⟨y0, y1, m0, m1, d0, d1, h0, h1, i0, i1, s0, s1, n0, n1⟩ := h
  unfold vext extOf
  omega
theorem FixAt.set2 {w : World} {lo : Value} {z : Zn} {B : Nat} {k : Int} {t : Value} (h : FixAt w lo z) (hB : w.cell? ⟨B, 0, none⟩ = some (.int .u64 k)) : FixAt (w.setCell ⟨B, 2, none⟩ t) lo z := by
  obtain ⟨b, g, rfl, h1, h1', h2, h3, h4, h5, h6, h7, h8, h9⟩ := h
  have n1 : b ≠ B := by rintro rfl; rw [h2] at hB; simp at hB
  have n2 : g ≠ B := by rintro rfl; rw [h7] at hB; simp at hB
  have hc : ∀ c o, c ≠ B → (w.setCell ⟨B, 2, none⟩ t).cell? ⟨c, o, none⟩ = w.cell? ⟨c, o, none⟩ := fun c o hn => by
    rw [World.cell?_setCell_other (h := by intro e; exact hn (by simpa using (congrArg Addr.block e).symm))]
  exact ⟨b, g, rfl, by simpa using h1, by simpa using h1', by rw [hc _ _ n1]; exact h2, by rw [hc _ _ n1]; exact h3, by rw [hc _ _ n1]; exact h4, by rw [hc _ _ n1]; exact h5, by rw [hc _ _ n1]; exact h6, by rw [hc _ _ n2]; exact h7, by rw [hc _ _ n2]; exact h8, by rw [hc _ _ n2]; exact h9⟩
theorem setLoc_f {w : World} {b : Nat} {nano ext : Int} {lo v : Value} {z : Zn} (n0 : 0 ≤ nano) (n1 : nano ≤ 999999999) (H : FixAt w v z) (h : TAt w b nano ext lo) :
    Calls Tryz.prog 83 #[.pointer (some ⟨b, 0, none⟩), v] w fun e w' => e = .returned (.tuple #[]) ∧ ∃ l2, TAt w' b nano ext l2 ∧ TimeLoc w' l2 z ∧ Below b w w' := by
  refine (setLoc_fix b nano ext lo w n0 n1 v z h H).mono ?_
  rintro e w' ⟨rfl, rfl⟩
  exact ⟨rfl, _, h.set2 _, .inr (H.set2 h.c0), below_set _ _ _ _⟩
set_option maxRecDepth 100000 in
set_option maxHeartbeats 1000000 in
theorem last69 (v : V69) (hv : VB v) (w : World) (a : Act) (hA : At69 v a) (hT : TAt w v.p 0 0 (.pointer none)) (z : Zn) (z0 : -86399 ≤ z.off) (z1 : z.off ≤ 86399) (H : LocAt w v.loc z) (Q : Exit → Act → World → Prop) (hK : ∀ a2 w2 lo, Fin69 v.ns (vext v z.off) lo a2 w2 → TimeLoc w2 lo z → Below v.p w w2 → Q .ret a2 w2) :
    (tl69 6).wp Tryz.prog Q a w := by
  obtain ⟨u, rfl⟩ := hA.open
  have HD : Hid (∀ w', Below w.heap.size w w' → Calls Tryz.prog 53 #[.int .i64 v.y, .int .i64 v.m, .int .i64 v.d, .int .i64 v.h, .int .i64 v.mi, .int .i64 v.s, .int .i64 v.ns, v.loc] w' fun e w'' => (∃ lo, e = .returned (tv v.ns (vext v z.off) lo) ∧ TimeLoc w'' lo z) ∧ Below w'.heap.size w' w'') := fun w' hb => hv.date v.loc z w' z0 z1 (H.below hb)
  obtain ⟨x, HX⟩ : ∃ x, Hid (x = vext v z.off) := ⟨_, Lib.hid rfl⟩
  rw [← HX.out] at hK HD
  clear HX
  have HK := Lib.hid hK
  have hlt := hT.lt
  have hc0 := hT.c0
  have hc1 := hT.c1
  have hc2 := hT.c2
  have hf0 := hT.f0
  have hf1 := hT.f1
  have hf2 := hT.f2
  have HT := Lib.hid hT
  clear hK hA hv hT
  obtain ⟨lay, val, loc, p, am, pm, y, m, d, yd, h, mi, s, ns, z, zo, zn⟩ := v
  simp only at *
  unfold fr69
  conv => arg 2; whnf
  go_wp2_with (first
    | (guard_target =~ Code.wp _ (Code.region _ _ true) _ _ _; go_quiet (fail))
    | (go_at_call 53; refine (HD.out _ (by first | exact Below.refl _ _ | exact below_drewN _ _)).mono ?_; rintro e w1 ⟨⟨lo, rfl, hl⟩, hb⟩; obtain ⟨lp, rfl⟩ := hl.ptr; have HL := Lib.hid hl; have hbw : Below w.heap.size w w1 := (by first | exact hb | exact below_next (below_drewN _ _) hb); obtain ⟨lt1, q0, q1, q2, g0, g1, g2⟩ := HT.out.below hbw; have HBW := Lib.hid hbw; clear hl hb hbw; unfold tv))
  all_goals exact HK.out _ _ _ ⟨rfl, by simp [results, Tryz.results69, go_sem, tv, q0, q1, q2]⟩ (HL.out.far3 q0) ((((HBW.out.mono (B' := p) (by omega)).setCell (p := ⟨p, 0, none⟩) (Nat.le_refl _) _).setCell (p := ⟨p, 1, none⟩) (Nat.le_refl _) _).setCell (p := ⟨p, 2, none⟩) (Nat.le_refl _) _)
set_option maxRecDepth 100000 in
set_option maxHeartbeats 1000000 in
theorem retz69 (v : V69) (hv : VB v) (w : World) (a : Act) (hA : At69 v a) (hT : TAt w v.p 0 0 (.pointer none)) (zb : Nat) (hz : v.z = .pointer (some ⟨zb, 0, none⟩)) (H : UtcAt w v.z) (Q : Exit → Act → World → Prop) (hK : ∀ a2 w2 lo, Fin69 v.ns (vext v 0) lo a2 w2 → TimeLoc w2 lo utcZ → Below v.p w w2 → Q .ret a2 w2) :
    (st69 3).wp Tryz.prog Q a w := by
  obtain ⟨u, rfl⟩ := hA.open
  rw [hz] at H
  have HD : Hid (∀ w', Below w.heap.size w w' → Calls Tryz.prog 53 #[.int .i64 v.y, .int .i64 v.m, .int .i64 v.d, .int .i64 v.h, .int .i64 v.mi, .int .i64 v.s, .int .i64 v.ns, .pointer (some ⟨zb, 0, none⟩)] w' fun e w'' => (∃ lo, e = .returned (tv v.ns (vext v 0) lo) ∧ TimeLoc w'' lo utcZ) ∧ Below w'.heap.size w' w'') := fun w' hb => hv.date _ utcZ w' (by decide) (by decide) (.inl ⟨rfl, H.below hb⟩)
  obtain ⟨x, HX⟩ : ∃ x, Hid (x = vext v 0) := ⟨_, Lib.hid rfl⟩
  rw [← HX.out] at hK HD
  clear HX
  have HK := Lib.hid hK
  have hlt := hT.lt
  have hc0 := hT.c0
  have hc1 := hT.c1
  have hc2 := hT.c2
  have hf0 := hT.f0
  have hf1 := hT.f1
  have hf2 := hT.f2
  have HT := Lib.hid hT
  clear hK hA hv hT
  obtain ⟨lay, val, loc, p, am, pm, y, m, d, yd, h, mi, s, ns, z, zo, zn⟩ := v
  simp only at *
  subst hz
  unfold fr69
  conv => arg 2; whnf
  go_wp2_with (first
    | (guard_target =~ Code.wp _ (Code.region _ _ true) _ _ _; go_quiet (fail))
    | (go_at_call 53; refine (HD.out _ (by first | exact Below.refl _ _ | exact below_drewN _ _)).mono ?_; rintro e w1 ⟨⟨lo, rfl, hl⟩, hb⟩; obtain ⟨lp, rfl⟩ := hl.ptr; have HL := Lib.hid hl; have hbw : Below w.heap.size w w1 := (by first | exact hb | exact below_next (below_drewN _ _) hb); obtain ⟨lt1, q0, q1, q2, g0, g1, g2⟩ := HT.out.below hbw; have HBW := Lib.hid hbw; clear hl hb hbw; unfold tv))
  all_goals exact HK.out _ _ _ ⟨rfl, by simp [results, Tryz.results69, go_sem, tv, q0, q1, q2]⟩ (HL.out.far3 q0) ((((HBW.out.mono (B' := p) (by omega)).setCell (p := ⟨p, 0, none⟩) (Nat.le_refl _) _).setCell (p := ⟨p, 1, none⟩) (Nat.le_refl _) _).setCell (p := ⟨p, 2, none⟩) (Nat.le_refl _) _)
set_option maxRecDepth 100000 in
set_option maxHeartbeats 1000000 in
theorem reto69_A1 (v : V69) (hv : VB v) (w : World) (a : Act) (hA : At69 v a) (hT : TAt w v.p 0 0 (.pointer none)) (zz : Zn) (hzo : v.zo ≠ -1) (o0 : -86399 ≤ v.zo) (o1 : v.zo ≤ 86399) (H : LocAt w v.loc zz) (hoff : zz.off = v.zo) (hzn : v.zn = []) (Q : Exit → Act → World → Prop) (hK : ∀ a2 w2 lo nm, Fin69 v.ns (vext v v.zo) lo a2 w2 → TimeLoc w2 lo { name := nm, off := v.zo } → Below v.p w w2 → Q .ret a2 w2) :
    (st69 4).wp Tryz.prog Q a w := by
  obtain ⟨u, rfl⟩ := hA.open
  have HD : Hid (∀ zv w', UtcAt w' zv → Calls Tryz.prog 53 #[.int .i64 v.y, .int .i64 v.m, .int .i64 v.d, .int .i64 v.h, .int .i64 v.mi, .int .i64 v.s, .int .i64 v.ns, zv] w' fun e w'' => (∃ lo, e = .returned (tv v.ns (vext v 0) lo) ∧ TimeLoc w'' lo utcZ) ∧ Below w'.heap.size w' w'') := fun zv w' hz => hv.date zv utcZ w' (by decide) (by decide) (.inl ⟨rfl, hz⟩)
  obtain ⟨x, HX⟩ : ∃ x, Hid (x = vext v 0) := ⟨_, Lib.hid rfl⟩
  have hx2 : vext v v.zo = x + -v.zo := by rw [HX.out]; unfold vext extOf; omega
  rw [hx2] at hK
  rw [← HX.out] at HD
  have hxe := hv.ext
  rw [← HX.out] at hxe
  obtain ⟨hx0, hx1⟩ := hxe
  clear HX hx2
  have HK := Lib.hid hK
  have n0 := hv.n0
  have n1 := hv.n1
  have hlt := hT.lt
  have hc0 := hT.c0
  have hc1 := hT.c1
  have hc2 := hT.c2
  have hf0 := hT.f0
  have hf1 := hT.f1
  have hf2 := hT.f2
  have HT := Lib.hid hT
  have H := Lib.hid H
  clear hK hA hv hT
  obtain ⟨lay, val, loc, p, am, pm, y, m, d, yd, h, mi, s, ns, z, zo, zn⟩ := v
  simp only at *
  subst hoff hzn
  unfold fr69
  conv => arg 2; whnf
  go_wp2_with (first
    | (guard_target =~ Code.wp _ (Code.region _ _ true) _ _ _; go_quiet (fail))
    | (go_at_call 70; refine (utc_c _).mono ?_; rintro e w1 ⟨⟨zv, rfl, hzv⟩, hb⟩; have HZ := Lib.hid hzv; have HB1 := Lib.hid hb; clear hzv hb)
    | (go_at_call 53; refine (HD.out _ _ HZ.out).mono ?_; rintro e w2 ⟨⟨lo, rfl, hl⟩, hb⟩; obtain ⟨lp, rfl⟩ := hl.ptr; have HL := Lib.hid hl; have HB2 := Lib.hid (below_next HB1.out hb); clear hl hb; unfold tv)
    | (go_at_call 92; refine (addSec_k _ n0 n1 (TAt.new _ _ _ _) (by omega) (by omega) (by omega) (by omega)).mono ?_; rintro e w3 ⟨rfl, ht3, hb3⟩; have HB3 : Hid (Below w.heap.size w w3) := Lib.hid (below_next HB2.out ((below_new _ _).trans hb3)); have HT3 := Lib.hid ht3; obtain ⟨_, r0, r1, r2, _, _, _⟩ := ht3; clear hb3)
    | (go_at_call 93; refine (unixSec_c _ _ _ _ _ n0 n1 (by omega) (by omega) HT3.out).mono ?_; rintro e w4 ⟨rfl, rfl⟩)
    | (go_at_call 81; refine (lookup_c2 _ _ _ _ (H.out.below HB3.out) (by omega) (by omega)).mono ?_; rintro e w4 ⟨rfl, rfl⟩; unfold zoneTuple)
    | (go_at_call 83; refine (setLoc_k n0 n1 H.out HB3.out (by have := HB2.out.size; omega) HT3.out).mono ?_; rintro e w6 ⟨rfl, l2, ht6, hl6, hb6⟩; obtain ⟨lq, rfl⟩ := hl6.ptr; have HL6 := Lib.hid hl6; obtain ⟨_, t0, t1, t2, _, _, _⟩ := ht6; have HB6 : Hid (Below w.heap.size w w6) := Lib.hid (HB3.out.trans (hb6.mono (by have := HB2.out.size; omega))); obtain ⟨_, q0, q1, q2, g0, g1, g2⟩ := HT.out.below HB6.out; clear hl6 hb6))
  all_goals first
    | exact HK.out _ _ _ _ ⟨rfl, by simp [results, Tryz.results69, go_sem, tv, q0, q1, q2]⟩ (HL6.out.far3 q0) ((((HB6.out.mono (B' := p) (by omega)).setCell (p := ⟨p, 0, none⟩) (Nat.le_refl _) _).setCell (p := ⟨p, 1, none⟩) (Nat.le_refl _) _).setCell (p := ⟨p, 2, none⟩) (Nat.le_refl _) _)
set_option maxRecDepth 100000 in
set_option maxHeartbeats 1000000 in
theorem reto69_A2 (v : V69) (hv : VB v) (w : World) (a : Act) (hA : At69 v a) (hT : TAt w v.p 0 0 (.pointer none)) (zz : Zn) (hzo : v.zo ≠ -1) (o0 : -86399 ≤ v.zo) (o1 : v.zo ≤ 86399) (H : LocAt w v.loc zz) (hoff : zz.off = v.zo) (zc : UInt8) (zt : Bytes) (hnm : zz.name = zc :: zt) (hzn : v.zn = zc :: zt) (Q : Exit → Act → World → Prop) (hK : ∀ a2 w2 lo nm, Fin69 v.ns (vext v v.zo) lo a2 w2 → TimeLoc w2 lo { name := nm, off := v.zo } → Below v.p w w2 → Q .ret a2 w2) :
    (st69 4).wp Tryz.prog Q a w := by
  obtain ⟨u, rfl⟩ := hA.open
  have HD : Hid (∀ zv w', UtcAt w' zv → Calls Tryz.prog 53 #[.int .i64 v.y, .int .i64 v.m, .int .i64 v.d, .int .i64 v.h, .int .i64 v.mi, .int .i64 v.s, .int .i64 v.ns, zv] w' fun e w'' => (∃ lo, e = .returned (tv v.ns (vext v 0) lo) ∧ TimeLoc w'' lo utcZ) ∧ Below w'.heap.size w' w'') := fun zv w' hz => hv.date zv utcZ w' (by decide) (by decide) (.inl ⟨rfl, hz⟩)
  obtain ⟨x, HX⟩ : ∃ x, Hid (x = vext v 0) := ⟨_, Lib.hid rfl⟩
  have hx2 : vext v v.zo = x + -v.zo := by rw [HX.out]; unfold vext extOf; omega
  rw [hx2] at hK
  rw [← HX.out] at HD
  have hxe := hv.ext
  rw [← HX.out] at hxe
  obtain ⟨hx0, hx1⟩ := hxe
  clear HX hx2
  have HK := Lib.hid hK
  have n0 := hv.n0
  have n1 := hv.n1
  have hlt := hT.lt
  have hc0 := hT.c0
  have hc1 := hT.c1
  have hc2 := hT.c2
  have hf0 := hT.f0
  have hf1 := hT.f1
  have hf2 := hT.f2
  have HT := Lib.hid hT
  have H := Lib.hid H
  clear hK hA hv hT
  obtain ⟨lay, val, loc, p, am, pm, y, m, d, yd, h, mi, s, ns, z, zo, zn⟩ := v
  simp only at *
  obtain ⟨zname, zoff⟩ := zz
  simp only at hnm hoff
  subst hoff hzn hnm
  unfold fr69
  conv => arg 2; whnf
  go_wp2_with (first
    | (guard_target =~ Code.wp _ (Code.region _ _ true) _ _ _; go_quiet (fail))
    | (go_at_call 70; refine (utc_c _).mono ?_; rintro e w1 ⟨⟨zv, rfl, hzv⟩, hb⟩; have HZ := Lib.hid hzv; have HB1 := Lib.hid hb; clear hzv hb)
    | (go_at_call 53; refine (HD.out _ _ HZ.out).mono ?_; rintro e w2 ⟨⟨lo, rfl, hl⟩, hb⟩; obtain ⟨lp, rfl⟩ := hl.ptr; have HL := Lib.hid hl; have HB2 := Lib.hid (below_next HB1.out hb); clear hl hb; unfold tv)
    | (go_at_call 92; refine (addSec_k _ n0 n1 (TAt.new _ _ _ _) (by omega) (by omega) (by omega) (by omega)).mono ?_; rintro e w3 ⟨rfl, ht3, hb3⟩; have HB3 : Hid (Below w.heap.size w w3) := Lib.hid (below_next HB2.out ((below_new _ _).trans hb3)); have HT3 := Lib.hid ht3; obtain ⟨_, r0, r1, r2, _, _, _⟩ := ht3; clear hb3)
    | (go_at_call 93; refine (unixSec_c _ _ _ _ _ n0 n1 (by omega) (by omega) HT3.out).mono ?_; rintro e w4 ⟨rfl, rfl⟩)
    | (go_at_call 81; refine (lookup_c2 _ _ _ _ (H.out.below HB3.out) (by omega) (by omega)).mono ?_; rintro e w4 ⟨rfl, rfl⟩; unfold zoneTuple)
    | (go_at_call 83; refine (setLoc_k n0 n1 H.out HB3.out (by have := HB2.out.size; omega) HT3.out).mono ?_; rintro e w6 ⟨rfl, l2, ht6, hl6, hb6⟩; obtain ⟨lq, rfl⟩ := hl6.ptr; have HL6 := Lib.hid hl6; obtain ⟨_, t0, t1, t2, _, _, _⟩ := ht6; have HB6 : Hid (Below w.heap.size w w6) := Lib.hid (HB3.out.trans (hb6.mono (by have := HB2.out.size; omega))); obtain ⟨_, q0, q1, q2, g0, g1, g2⟩ := HT.out.below HB6.out; clear hl6 hb6))
  all_goals first
    | exact HK.out _ _ _ _ ⟨rfl, by simp [results, Tryz.results69, go_sem, tv, q0, q1, q2]⟩ (HL6.out.far3 q0) ((((HB6.out.mono (B' := p) (by omega)).setCell (p := ⟨p, 0, none⟩) (Nat.le_refl _) _).setCell (p := ⟨p, 1, none⟩) (Nat.le_refl _) _).setCell (p := ⟨p, 2, none⟩) (Nat.le_refl _) _)
set_option maxRecDepth 100000 in
set_option maxHeartbeats 1000000 in
theorem reto69_B1 (v : V69) (hv : VB v) (w : World) (a : Act) (hA : At69 v a) (hT : TAt w v.p 0 0 (.pointer none)) (zz : Zn) (hzo : v.zo ≠ -1) (o0 : -86399 ≤ v.zo) (o1 : v.zo ≤ 86399) (H : LocAt w v.loc zz) (hoff : zz.off = v.zo) (zc : UInt8) (zt : Bytes) (hzn : v.zn = zc :: zt) (hnm : (zz.name == zc :: zt) = false) (Q : Exit → Act → World → Prop) (hK : ∀ a2 w2 lo nm, Fin69 v.ns (vext v v.zo) lo a2 w2 → TimeLoc w2 lo { name := nm, off := v.zo } → Below v.p w w2 → Q .ret a2 w2) :
    (st69 4).wp Tryz.prog Q a w := by
  obtain ⟨u, rfl⟩ := hA.open
  have HD : Hid (∀ zv w', UtcAt w' zv → Calls Tryz.prog 53 #[.int .i64 v.y, .int .i64 v.m, .int .i64 v.d, .int .i64 v.h, .int .i64 v.mi, .int .i64 v.s, .int .i64 v.ns, zv] w' fun e w'' => (∃ lo, e = .returned (tv v.ns (vext v 0) lo) ∧ TimeLoc w'' lo utcZ) ∧ Below w'.heap.size w' w'') := fun zv w' hz => hv.date zv utcZ w' (by decide) (by decide) (.inl ⟨rfl, hz⟩)
  obtain ⟨x, HX⟩ : ∃ x, Hid (x = vext v 0) := ⟨_, Lib.hid rfl⟩
  have hx2 : vext v v.zo = x + -v.zo := by rw [HX.out]; unfold vext extOf; omega
  rw [hx2] at hK
  rw [← HX.out] at HD
  have hxe := hv.ext
  rw [← HX.out] at hxe
  obtain ⟨hx0, hx1⟩ := hxe
  clear HX hx2
  have HK := Lib.hid hK
  have n0 := hv.n0
  have n1 := hv.n1
  have hlt := hT.lt
  have hc0 := hT.c0
  have hc1 := hT.c1
  have hc2 := hT.c2
  have hf0 := hT.f0
  have hf1 := hT.f1
  have hf2 := hT.f2
  have HT := Lib.hid hT
  have H := Lib.hid H
  clear hK hA hv hT
  obtain ⟨lay, val, loc, p, am, pm, y, m, d, yd, h, mi, s, ns, z, zo, zn⟩ := v
  simp only at *
  subst hoff hzn
  unfold fr69
  conv => arg 2; whnf
  go_wp2_with (first
    | (guard_target =~ Code.wp _ (Code.region _ _ true) _ _ _; go_quiet (fail))
    | (go_at_call 70; refine (utc_c _).mono ?_; rintro e w1 ⟨⟨zv, rfl, hzv⟩, hb⟩; have HZ := Lib.hid hzv; have HB1 := Lib.hid hb; clear hzv hb)
    | (go_at_call 53; refine (HD.out _ _ HZ.out).mono ?_; rintro e w2 ⟨⟨lo, rfl, hl⟩, hb⟩; obtain ⟨lp, rfl⟩ := hl.ptr; have HL := Lib.hid hl; have HB2 := Lib.hid (below_next HB1.out hb); clear hl hb; unfold tv)
    | (go_at_call 92; refine (addSec_k _ n0 n1 (TAt.new _ _ _ _) (by omega) (by omega) (by omega) (by omega)).mono ?_; rintro e w3 ⟨rfl, ht3, hb3⟩; have HB3 : Hid (Below w.heap.size w w3) := Lib.hid (below_next HB2.out ((below_new _ _).trans hb3)); have HT3 := Lib.hid ht3; obtain ⟨_, r0, r1, r2, _, _, _⟩ := ht3; clear hb3)
    | (go_at_call 93; refine (unixSec_c _ _ _ _ _ n0 n1 (by omega) (by omega) HT3.out).mono ?_; rintro e w4 ⟨rfl, rfl⟩)
    | (go_at_call 81; refine (lookup_c2 _ _ _ _ (H.out.below HB3.out) (by omega) (by omega)).mono ?_; rintro e w4 ⟨rfl, rfl⟩; unfold zoneTuple)
    | (go_at_call 71; refine (FixedZone_c ⟨zc :: zt, zz.off⟩ _).mono ?_; rintro e w5 ⟨⟨fv, rfl, hf⟩, hb⟩; have HF := Lib.hid hf; have HT5 := Lib.hid (HT3.out.below hb); have HB5 := Lib.hid (below_next HB3.out hb); clear hf hb)
    | (go_at_call 83; refine (setLoc_f n0 n1 HF.out HT5.out).mono ?_; rintro e w6 ⟨rfl, l2, ht6, hl6, hb6⟩; obtain ⟨lq, rfl⟩ := hl6.ptr; have HL6 := Lib.hid hl6; obtain ⟨_, t0, t1, t2, _, _, _⟩ := ht6; have HB6 : Hid (Below w.heap.size w w6) := Lib.hid (HB5.out.trans (hb6.mono (by have := HB2.out.size; omega))); obtain ⟨_, q0, q1, q2, g0, g1, g2⟩ := HT.out.below HB6.out; clear hl6 hb6))
  all_goals first
    | exact HK.out _ _ _ _ ⟨rfl, by simp [results, Tryz.results69, go_sem, tv, q0, q1, q2]⟩ (HL6.out.far3 q0) ((((HB6.out.mono (B' := p) (by omega)).setCell (p := ⟨p, 0, none⟩) (Nat.le_refl _) _).setCell (p := ⟨p, 1, none⟩) (Nat.le_refl _) _).setCell (p := ⟨p, 2, none⟩) (Nat.le_refl _) _)
set_option maxRecDepth 100000 in
set_option maxHeartbeats 1000000 in
theorem reto69_B2 (v : V69) (hv : VB v) (w : World) (a : Act) (hA : At69 v a) (hT : TAt w v.p 0 0 (.pointer none)) (zz : Zn) (hzo : v.zo ≠ -1) (o0 : -86399 ≤ v.zo) (o1 : v.zo ≤ 86399) (H : LocAt w v.loc zz) (hoff : (zz.off == v.zo) = false) (Q : Exit → Act → World → Prop) (hK : ∀ a2 w2 lo nm, Fin69 v.ns (vext v v.zo) lo a2 w2 → TimeLoc w2 lo { name := nm, off := v.zo } → Below v.p w w2 → Q .ret a2 w2) :
    (st69 4).wp Tryz.prog Q a w := by
  obtain ⟨u, rfl⟩ := hA.open
  have HD : Hid (∀ zv w', UtcAt w' zv → Calls Tryz.prog 53 #[.int .i64 v.y, .int .i64 v.m, .int .i64 v.d, .int .i64 v.h, .int .i64 v.mi, .int .i64 v.s, .int .i64 v.ns, zv] w' fun e w'' => (∃ lo, e = .returned (tv v.ns (vext v 0) lo) ∧ TimeLoc w'' lo utcZ) ∧ Below w'.heap.size w' w'') := fun zv w' hz => hv.date zv utcZ w' (by decide) (by decide) (.inl ⟨rfl, hz⟩)
  obtain ⟨x, HX⟩ : ∃ x, Hid (x = vext v 0) := ⟨_, Lib.hid rfl⟩
  have hx2 : vext v v.zo = x + -v.zo := by rw [HX.out]; unfold vext extOf; omega
  rw [hx2] at hK
  rw [← HX.out] at HD
  have hxe := hv.ext
  rw [← HX.out] at hxe
  obtain ⟨hx0, hx1⟩ := hxe
  clear HX hx2
  have HK := Lib.hid hK
  have n0 := hv.n0
  have n1 := hv.n1
  have hlt := hT.lt
  have hc0 := hT.c0
  have hc1 := hT.c1
  have hc2 := hT.c2
  have hf0 := hT.f0
  have hf1 := hT.f1
  have hf2 := hT.f2
  have HT := Lib.hid hT
  have H := Lib.hid H
  clear hK hA hv hT
  obtain ⟨lay, val, loc, p, am, pm, y, m, d, yd, h, mi, s, ns, z, zo, zn⟩ := v
  simp only at *
  unfold fr69
  conv => arg 2; whnf
  go_wp2_with (first
    | (guard_target =~ Code.wp _ (Code.region _ _ true) _ _ _; go_quiet (fail))
    | (go_at_call 70; refine (utc_c _).mono ?_; rintro e w1 ⟨⟨zv, rfl, hzv⟩, hb⟩; have HZ := Lib.hid hzv; have HB1 := Lib.hid hb; clear hzv hb)
    | (go_at_call 53; refine (HD.out _ _ HZ.out).mono ?_; rintro e w2 ⟨⟨lo, rfl, hl⟩, hb⟩; obtain ⟨lp, rfl⟩ := hl.ptr; have HL := Lib.hid hl; have HB2 := Lib.hid (below_next HB1.out hb); clear hl hb; unfold tv)
    | (go_at_call 92; refine (addSec_k _ n0 n1 (TAt.new _ _ _ _) (by omega) (by omega) (by omega) (by omega)).mono ?_; rintro e w3 ⟨rfl, ht3, hb3⟩; have HB3 : Hid (Below w.heap.size w w3) := Lib.hid (below_next HB2.out ((below_new _ _).trans hb3)); have HT3 := Lib.hid ht3; obtain ⟨_, r0, r1, r2, _, _, _⟩ := ht3; clear hb3)
    | (go_at_call 93; refine (unixSec_c _ _ _ _ _ n0 n1 (by omega) (by omega) HT3.out).mono ?_; rintro e w4 ⟨rfl, rfl⟩)
    | (go_at_call 81; refine (lookup_c2 _ _ _ _ (H.out.below HB3.out) (by omega) (by omega)).mono ?_; rintro e w4 ⟨rfl, rfl⟩; unfold zoneTuple)
    | (go_at_call 71; refine (FixedZone_c ⟨zn, zo⟩ _).mono ?_; rintro e w5 ⟨⟨fv, rfl, hf⟩, hb⟩; have HF := Lib.hid hf; have HT5 := Lib.hid (HT3.out.below hb); have HB5 := Lib.hid (below_next HB3.out hb); clear hf hb)
    | (go_at_call 83; refine (setLoc_f n0 n1 HF.out HT5.out).mono ?_; rintro e w6 ⟨rfl, l2, ht6, hl6, hb6⟩; obtain ⟨lq, rfl⟩ := hl6.ptr; have HL6 := Lib.hid hl6; obtain ⟨_, t0, t1, t2, _, _, _⟩ := ht6; have HB6 : Hid (Below w.heap.size w w6) := Lib.hid (HB5.out.trans (hb6.mono (by have := HB2.out.size; omega))); obtain ⟨_, q0, q1, q2, g0, g1, g2⟩ := HT.out.below HB6.out; clear hl6 hb6))
  all_goals first
    | exact HK.out _ _ _ _ ⟨rfl, by simp [results, Tryz.results69, go_sem, tv, q0, q1, q2]⟩ (HL6.out.far3 q0) ((((HB6.out.mono (B' := p) (by omega)).setCell (p := ⟨p, 0, none⟩) (Nat.le_refl _) _).setCell (p := ⟨p, 1, none⟩) (Nat.le_refl _) _).setCell (p := ⟨p, 2, none⟩) (Nat.le_refl _) _)
set_option maxRecDepth 100000 in
set_option maxHeartbeats 1000000 in
theorem reta69_h (v : V69) (hv : VB v) (w : World) (a : Act) (hA : At69 v a) (hT : TAt w v.p 0 0 (.pointer none)) (zz : Zn) (na nb nc : UInt8) (hzn : v.zn = [na, nb, nc]) (hnm : zz.name = [na, nb, nc]) (zz0 : -86399 ≤ zz.off) (zz1 : zz.off ≤ 86399) (H : FixAt w v.loc zz) (Q : Exit → Act → World → Prop) (hK : ∀ a2 w2 lo, Fin69 v.ns (vext v zz.off) lo a2 w2 → TimeLoc w2 lo zz → Below v.p w w2 → Q .ret a2 w2) :
    (st69 5).wp Tryz.prog Q a w := by
  obtain ⟨u, rfl⟩ := hA.open
  have HD : Hid (∀ zv w', UtcAt w' zv → Calls Tryz.prog 53 #[.int .i64 v.y, .int .i64 v.m, .int .i64 v.d, .int .i64 v.h, .int .i64 v.mi, .int .i64 v.s, .int .i64 v.ns, zv] w' fun e w'' => (∃ lo, e = .returned (tv v.ns (vext v 0) lo) ∧ TimeLoc w'' lo utcZ) ∧ Below w'.heap.size w' w'') := fun zv w' hz => hv.date zv utcZ w' (by decide) (by decide) (.inl ⟨rfl, hz⟩)
  obtain ⟨x, HX⟩ : ∃ x, Hid (x = vext v 0) := ⟨_, Lib.hid rfl⟩
  have hx2 : vext v zz.off = x + -zz.off := by rw [HX.out]; unfold vext extOf; omega
  rw [hx2] at hK
  rw [← HX.out] at HD
  have hxe := hv.ext
  rw [← HX.out] at hxe
  obtain ⟨hx0, hx1⟩ := hxe
  clear HX hx2
  have HK := Lib.hid hK
  have n0 := hv.n0
  have n1 := hv.n1
  have hlt := hT.lt
  have hc0 := hT.c0
  have hc1 := hT.c1
  have hc2 := hT.c2
  have hf0 := hT.f0
  have hf1 := hT.f1
  have hf2 := hT.f2
  have HT := Lib.hid hT
  obtain ⟨zname, zoff⟩ := zz
  have HFX := Lib.hid H
  clear H
  clear hK hA hv hT
  obtain ⟨lay, val, loc, p, am, pm, y, m, d, yd, h, mi, s, ns, z, zo, zn⟩ := v
  simp only at *
  subst hnm hzn
  unfold fr69
  conv => arg 2; whnf
  go_wp2_with (first
    | (guard_target =~ Code.wp _ (Code.region _ _ true) _ _ _; go_quiet (fail))
    | (go_at_call 70; refine (utc_c _).mono ?_; rintro e w1 ⟨⟨zv, rfl, hzv⟩, hb⟩; have HZ := Lib.hid hzv; have HB1 := Lib.hid hb; clear hzv hb)
    | (go_at_call 53; refine (HD.out _ _ HZ.out).mono ?_; rintro e w2 ⟨⟨lo, rfl, hl⟩, hb⟩; obtain ⟨lp, rfl⟩ := hl.ptr; have HL := Lib.hid hl; have HB2 := Lib.hid (below_next HB1.out hb); clear hl hb; unfold tv)
    | (go_at_call 93; refine (unixSec_c _ _ _ _ _ n0 n1 (by omega) (by omega) (TAt.new _ _ _ _)).mono ?_; rintro e w4 ⟨rfl, rfl⟩)
    | (go_at_call 111; refine (lookupName_hit _ ⟨[na, nb, nc], zoff⟩ _ _ (HFX.out.below (below_next HB2.out (below_new _ _))) (by assumption) (by assumption) (by omega) (by omega)).mono ?_; rintro e w4 ⟨rfl, rfl⟩)
    | (go_at_call 92; refine (addSec_k _ n0 n1 (TAt.new _ _ _ _) (by omega) (by omega) (by omega) (by omega)).mono ?_; rintro e w3 ⟨rfl, ht3, hb3⟩; have HB3 : Hid (Below w.heap.size w w3) := Lib.hid (below_next HB2.out ((below_new _ _).trans hb3)); have HT3 := Lib.hid ht3; obtain ⟨_, r0, r1, r2, _, _, _⟩ := ht3; clear hb3)
    | (go_at_call 83; refine (setLoc_k n0 n1 (.inr HFX.out) HB3.out (by have := HB2.out.size; omega) HT3.out).mono ?_; rintro e w6 ⟨rfl, l2, ht6, hl6, hb6⟩; obtain ⟨lq, rfl⟩ := hl6.ptr; have HL6 := Lib.hid hl6; obtain ⟨_, t0, t1, t2, _, _, _⟩ := ht6; have HB6 : Hid (Below w.heap.size w w6) := Lib.hid (HB3.out.trans (hb6.mono (by have := HB2.out.size; omega))); obtain ⟨_, q0, q1, q2, g0, g1, g2⟩ := HT.out.below HB6.out; clear hl6 hb6))
  all_goals first
    | exact HK.out _ _ _ ⟨rfl, by simp [results, Tryz.results69, go_sem, tv, q0, q1, q2]⟩ (HL6.out.far3 q0) ((((HB6.out.mono (B' := p) (by omega)).setCell (p := ⟨p, 0, none⟩) (Nat.le_refl _) _).setCell (p := ⟨p, 1, none⟩) (Nat.le_refl _) _).setCell (p := ⟨p, 2, none⟩) (Nat.le_refl _) _)
set_option maxRecDepth 100000 in
set_option maxHeartbeats 1000000 in
theorem reta69_m (v : V69) (hv : VB v) (w : World) (a : Act) (hA : At69 v a) (hT : TAt w v.p 0 0 (.pointer none)) (zz : Zn) (na nb nc : UInt8) (hzn : v.zn = [na, nb, nc]) (hnm : (zz.name == [na, nb, nc]) = false) (H : LocAt w v.loc zz) (Q : Exit → Act → World → Prop) (hK : ∀ a2 w2 lo, Fin69 v.ns (vext v 0) lo a2 w2 → TimeLoc w2 lo { name := v.zn, off := 0 } → Below v.p w w2 → Q .ret a2 w2) :
    (st69 5).wp Tryz.prog Q a w := by
  obtain ⟨u, rfl⟩ := hA.open
  have HD : Hid (∀ zv w', UtcAt w' zv → Calls Tryz.prog 53 #[.int .i64 v.y, .int .i64 v.m, .int .i64 v.d, .int .i64 v.h, .int .i64 v.mi, .int .i64 v.s, .int .i64 v.ns, zv] w' fun e w'' => (∃ lo, e = .returned (tv v.ns (vext v 0) lo) ∧ TimeLoc w'' lo utcZ) ∧ Below w'.heap.size w' w'') := fun zv w' hz => hv.date zv utcZ w' (by decide) (by decide) (.inl ⟨rfl, hz⟩)
  obtain ⟨x, HX⟩ : ∃ x, Hid (x = vext v 0) := ⟨_, Lib.hid rfl⟩
  rw [← HX.out] at hK
  rw [← HX.out] at HD
  have hxe := hv.ext
  rw [← HX.out] at hxe
  obtain ⟨hx0, hx1⟩ := hxe
  clear HX
  have HK := Lib.hid hK
  have n0 := hv.n0
  have n1 := hv.n1
  have hlt := hT.lt
  have hc0 := hT.c0
  have hc1 := hT.c1
  have hc2 := hT.c2
  have hf0 := hT.f0
  have hf1 := hT.f1
  have hf2 := hT.f2
  have HT := Lib.hid hT
  have H := Lib.hid H
  clear hK hA hv hT
  obtain ⟨lay, val, loc, p, am, pm, y, m, d, yd, h, mi, s, ns, z, zo, zn⟩ := v
  simp only at *
  subst hzn
  unfold fr69
  conv => arg 2; whnf
  go_wp2_with (first
    | (guard_target =~ Code.wp _ (Code.region _ _ true) _ _ _; go_quiet (fail))
    | (go_at_call 70; refine (utc_c _).mono ?_; rintro e w1 ⟨⟨zv, rfl, hzv⟩, hb⟩; have HZ := Lib.hid hzv; have HB1 := Lib.hid hb; clear hzv hb)
    | (go_at_call 53; refine (HD.out _ _ HZ.out).mono ?_; rintro e w2 ⟨⟨lo, rfl, hl⟩, hb⟩; obtain ⟨lp, rfl⟩ := hl.ptr; have HL := Lib.hid hl; have HB2 := Lib.hid (below_next HB1.out hb); clear hl hb; unfold tv)
    | (go_at_call 93; refine (unixSec_c _ _ _ _ _ n0 n1 (by omega) (by omega) (TAt.new _ _ _ _)).mono ?_; rintro e w4 ⟨rfl, rfl⟩)
    | (go_at_call 111; refine (lookupName_no _ zz _ _ _ (H.out.below (below_next HB2.out (below_new _ _))) hnm).mono ?_; rintro e w4 ⟨rfl, rfl⟩)
    | (go_at_call 71; refine (FixedZone_c ⟨[na, nb, nc], 0⟩ _).mono ?_; rintro e w5 ⟨⟨fv, rfl, hf⟩, hb⟩; have HF := Lib.hid hf; have HT5 := Lib.hid ((TAt.new _ _ _ _).below hb); have HB5 := Lib.hid (below_next (below_next HB2.out (below_new _ _)) hb); clear hf hb)
    | (go_at_call 83; refine (setLoc_f n0 n1 HF.out HT5.out).mono ?_; rintro e w6 ⟨rfl, l2, ht6, hl6, hb6⟩; obtain ⟨lq, rfl⟩ := hl6.ptr; have HL6 := Lib.hid hl6; obtain ⟨_, t0, t1, t2, _, _, _⟩ := ht6; have HB6 : Hid (Below w.heap.size w w6) := Lib.hid (HB5.out.trans (hb6.mono (by have := HB2.out.size; omega))); obtain ⟨_, q0, q1, q2, g0, g1, g2⟩ := HT.out.below HB6.out; clear hl6 hb6))
  all_goals first
    | exact HK.out _ _ _ ⟨rfl, by simp [results, Tryz.results69, go_sem, tv, q0, q1, q2]⟩ (HL6.out.far3 q0) ((((HB6.out.mono (B' := p) (by omega)).setCell (p := ⟨p, 0, none⟩) (Nat.le_refl _) _).setCell (p := ⟨p, 1, none⟩) (Nat.le_refl _) _).setCell (p := ⟨p, 2, none⟩) (Nat.le_refl _) _)
end Go.Proofs.YtndhiemagankeaaGreatDoor
/- The walk of package time: a time is read by a layout: what stands behind the loop, as a whole. -/
namespace Go.Proofs.YtndhiemagankeaaGreatDoor
open Go.RowKit
set_option linter.unusedVariables false
set_option linter.unusedSimpArgs false
/-- What 'Readable' says of the pieces. -/
structure Rd (ps : List Pc) (c : Civ) : Prop where
  half : anyK ps 15 16 = true → hasK ps 21 = true
  pm : hasK ps 21 = true → anyK ps 14 16 = true
  yday : anyK ps 12 13 = true → anyK ps 1 2 = true
  year : hasK ps 2 = true → 1969 ≤ c.year ∧ c.year ≤ 2068
  abb : hasK ps 32 = true → abbreviated c.zone = true
  fit : fits ps c = true
theorem Rd.of {ps : List Pc} {c : Civ} (h : readable ps c = true) : Rd ps c := by
  unfold readable at h
  simp only [Bool.and_eq_true, Bool.not_eq_true', Bool.or_eq_false_iff, Bool.and_eq_false_iff, Bool.not_eq_false'] at h
  obtain ⟨⟨h1, h2⟩, h3, h4, h5, h6⟩ := h
  refine ⟨fun e => ?_, fun e => ?_, fun e => ?_, fun e => ?_, fun e => ?_, h6⟩
  · rcases h1 with h | h
    · rw [h] at e; exact absurd e (by decide)
    · exact h
  · rcases h2 with h | h
    · rw [h] at e; exact absurd e (by decide)
    · exact h
  · rcases h3 with h | h
    · rw [h] at e; exact absurd e (by decide)
    · exact h
  · rcases h4 with h | h
    · rw [h] at e; exact absurd e (by decide)
    · simpa [within] using h
  · rcases h5 with h | h
    · rw [h] at e; exact absurd e (by decide)
    · exact h
theorem told_hour {ps : List Pc} {c : Civ} {z : Zn} : (told ps c z).hour = if anyK ps 14 16 = true then c.hour else 0 := rfl
theorem halves69 (ps : List Pc) (c : Civ) (z : Zn) (hc : CivB c) (hr : Rd ps c) (v : V69) (w : World) (a : Act) (hA : At69 v a) (hSt : St ps c v w) (K : Act → World → Prop) (Qx : Exit → Act → World → Prop)
    (hK : ∀ a2 n, At69 { v with h := (told ps c z).hour } a2 → K a2 (w.drewN n)) : (st69 0).wp Tryz.prog (Exit.then K Qx) a w := by
  have h0 := hc.h0
  have h1 := hc.h1
  have hself : v.h = (told ps c z).hour → ∀ a2 n, At69 v a2 → K a2 (w.drewN n) := by
    intro e a2 n hA2
    refine hK a2 n ?_
    rw [← e]
    exact hA2
  have hpm := hSt.pm
  have ham := hSt.am
  cases h21 : hasK ps 21 with
  | false =>
    rw [h21, Bool.false_and] at hpm ham
    refine half69_e v hpm ham w a hA K Qx (hself ?_)
    rw [told_hour]
    rcases hSt.h with ⟨e1, e2⟩ | ⟨e1, e2, e3⟩ | ⟨e1, e2⟩
    · rw [e2, e1, if_pos rfl]
    · have := hr.half e2
      rw [h21] at this
      exact absurd this (by decide)
    · rw [e2, e1, if_neg (by decide)]
  | true =>
    rw [h21, Bool.true_and] at hpm ham
    have h14 := hr.pm h21
    have ht : (told ps c z).hour = c.hour := by rw [told_hour, if_pos h14]
    have hv : v.h = c.hour ∨ v.h = hour12 c.hour := by
      rcases hSt.h with ⟨e1, e2⟩ | ⟨e1, e2, e3⟩ | ⟨e1, e2⟩
      · exact .inl e1
      · exact .inr e1
      · rw [h14] at e2
        exact absurd e2 (by decide)
    rw [ht] at hself hK
    by_cases h12 : 12 ≤ c.hour
    · have hpm : v.pm = true := by rw [hpm]; simpa using h12
      have ham : v.am = false := by rw [ham]; simp; omega
      rcases hv with e | e
      · exact half69_b v hpm (by omega) ham w a hA K Qx (hself e)
      · unfold hour12 at e
        by_cases hm : c.hour % 12 = 0
        · rw [if_pos hm] at e
          exact half69_b v hpm (by omega) ham w a hA K Qx (hself (by omega))
        · rw [if_neg hm] at e
          refine half69_a v hpm (by omega) (by omega) w a hA K Qx fun a2 n hA2 => hK a2 n ?_
          rw [show c.hour = v.h + 12 by omega]
          exact hA2
    · have hpm : v.pm = false := by rw [hpm]; simp; omega
      have ham : v.am = true := by rw [ham]; simp; omega
      rcases hv with e | e
      · exact half69_d v hpm ham (by omega) w a hA K Qx (hself e)
      · unfold hour12 at e
        by_cases hm : c.hour % 12 = 0
        · rw [if_pos hm] at e
          refine half69_c v hpm ham e w a hA K Qx fun a2 n hA2 => hK a2 n ?_
          rw [show c.hour = 0 by omega]
          exact hA2
        · rw [if_neg hm] at e
          exact half69_d v hpm ham (by omega) w a hA K Qx (hself (by omega))
theorem told_month {ps : List Pc} {c : Civ} {z : Zn} : (told ps c z).month = if (anyK ps 3 6 || anyK ps 12 13) = true then c.month else 1 := rfl
theorem told_mday {ps : List Pc} {c : Civ} {z : Zn} : (told ps c z).day = if (anyK ps 9 11 || anyK ps 12 13) = true then c.day else 1 := rfl
theorem ydays69 (ps : List Pc) (c : Civ) (z : Zn) (hc : CivB c) (hr : Rd ps c) (v : V69) (w : World) (a : Act) (hA : At69 v a) (hy : v.y = if anyK ps 1 2 = true then c.year else 0) (hm : v.m = if anyK ps 3 6 = true then c.month else -1) (hd : v.d = if anyK ps 9 11 = true then c.day else -1)
    (hyd : v.yd = if anyK ps 12 13 = true then yearDay c.year c.month c.day else -1) (K : Act → World → Prop) (Qx : Exit → Act → World → Prop)
    (hK : ∀ a2 n x, At69 { v with yd := x, m := (told ps c z).month, d := (told ps c z).day } a2 → K a2 (w.drewN n)) : (st69 1).wp Tryz.prog (Exit.then K Qx) a w := by
  have m0 := hc.m0
  have m1 := hc.m1
  have d0 := hc.d0
  have d1 := hc.d1
  cases h12 : anyK ps 12 13 with
  | false =>
    rw [h12, if_neg (by decide)] at hyd
    have tm : (told ps c z).month = if anyK ps 3 6 = true then c.month else 1 := by rw [told_month, h12, Bool.or_false]
    have td : (told ps c z).day = if anyK ps 9 11 = true then c.day else 1 := by rw [told_mday, h12, Bool.or_false]
    by_cases h3 : anyK ps 3 6 = true
    · rw [if_pos h3] at hm tm
      by_cases h9 : anyK ps 9 11 = true
      · rw [if_pos h9] at hd td
        refine noyday69_d v hyd (by omega) (by omega) w a hA K Qx fun a2 n hA2 => hK a2 n v.yd ?_
        rw [tm, td, ← hm, ← hd]
        exact hA2
      · rw [if_neg h9] at hd td
        refine noyday69_c v hyd (by omega) hd w a hA K Qx fun a2 n hA2 => hK a2 n v.yd ?_
        rw [tm, td, ← hm]
        exact hA2
    · rw [if_neg h3] at hm tm
      by_cases h9 : anyK ps 9 11 = true
      · rw [if_pos h9] at hd td
        refine noyday69_b v hyd hm (by omega) w a hA K Qx fun a2 n hA2 => hK a2 n v.yd ?_
        rw [tm, td, ← hd]
        exact hA2
      · rw [if_neg h9] at hd td
        refine noyday69_a v hyd hm hd w a hA K Qx fun a2 n hA2 => hK a2 n v.yd ?_
        rw [tm, td]
        exact hA2
  | true =>
    rw [h12, if_pos rfl] at hyd
    rw [hr.yday h12, if_pos rfl] at hy
    have tm : (told ps c z).month = c.month := by rw [told_month, h12, Bool.or_true, if_pos rfl]
    have td : (told ps c z).day = c.day := by rw [told_mday, h12, Bool.or_true, if_pos rfl]
    have hm : v.m = -1 ∨ v.m = c.month := by rw [hm]; split; exact .inr rfl; exact .inl rfl
    have hd : v.d = -1 ∨ v.d = c.day := by rw [hd]; split; exact .inr rfl; exact .inl rfl
    rw [tm, td] at hK
    have y0 : 0 ≤ v.y := by rw [hy]; exact hc.y0
    have y1 : v.y ≤ 9999 := by rw [hy]; exact hc.y1
    have HF : ∀ e w, 1 ≤ e → e ≤ 13 → Calls Tryz.prog 110 #[.int .i64 e] w fun r w' => r = .returned (.int .i64 (dbf e)) ∧ w' = w := fun e w a b => daysBefore_c e w a b
    rcases yearDay_dbf c.year c.month c.day m0 m1 d0 d1 with ⟨l1, l2, l3, l4⟩ | ⟨hdd, hcase⟩
    · refine yday69_60 v (by rw [hyd, l4]) (by rw [hy]; exact l1) y0 y1 (by omega) (by omega) w a hA K Qx fun a2 n hA2 => hK a2 n v.yd ?_
      rw [l2, l3]
      exact hA2
    · obtain ⟨x0, x1, hx⟩ := month_law c.month c.day (dbf c.month + c.day) m0 m1 d0 hdd rfl
      generalize hxx : dbf c.month + c.day = x at *
      have fin : ∀ M : Int, c.month = M → c.day = x - dbf M := by intro M e; rw [← e]; omega
      have bnd : ∀ M : Int, c.month = M → 0 ≤ dbf M ∧ dbf M ≤ 400 := by
        intro M e
        rw [← e]
        unfold dbf
        split <;> omega
      rcases hx with ⟨hB, hM⟩ | ⟨hB, hM⟩
      · have hD := fin _ hM
        obtain ⟨b0, b1⟩ := bnd _ hM
        rw [hM] at hm
        rw [hD] at hd
        have hfin : ∀ a2 n, At69 { v with yd := x, m := (x - 1) / 31 + 1 + 1, d := x - dbf ((x - 1) / 31 + 1 + 1) } a2 → K a2 (w.drewN n) := by
          intro a2 n hA2
          refine hK a2 n x ?_
          rw [hD, hM]
          exact hA2
        rcases hcase with ⟨l1, l2, l3⟩ | ⟨l1, l2, l3⟩ | ⟨l1, l3⟩
        · exact yday69_Au v x dbf (by rw [hyd, l3]) x0 x1 (by rw [hy]; exact l1) l2 y0 y1 HF hB b0 b1 hm hd w a hA K Qx hfin
        · exact yday69_Bu v x dbf (by rw [hyd, l3]) x0 x1 (by rw [hy]; exact l1) l2 y0 y1 HF hB b0 b1 hm hd w a hA K Qx hfin
        · exact yday69_Cu v x dbf (by rw [hyd, l3]) x0 x1 (by rw [hy]; exact l1) y0 y1 HF hB b0 b1 hm hd w a hA K Qx hfin
      · have hD := fin _ hM
        obtain ⟨b0, b1⟩ := bnd _ hM
        rw [hM] at hm
        rw [hD] at hd
        have hfin : ∀ a2 n, At69 { v with yd := x, m := (x - 1) / 31 + 1, d := x - dbf ((x - 1) / 31 + 1) } a2 → K a2 (w.drewN n) := by
          intro a2 n hA2
          refine hK a2 n x ?_
          rw [hD, hM]
          exact hA2
        rcases hcase with ⟨l1, l2, l3⟩ | ⟨l1, l2, l3⟩ | ⟨l1, l3⟩
        · exact yday69_Al v x dbf (by rw [hyd, l3]) x0 x1 (by rw [hy]; exact l1) l2 y0 y1 HF hB b0 b1 hm hd w a hA K Qx hfin
        · exact yday69_Bl v x dbf (by rw [hyd, l3]) x0 x1 (by rw [hy]; exact l1) l2 y0 y1 HF hB b0 b1 hm hd w a hA K Qx hfin
        · exact yday69_Cl v x dbf (by rw [hyd, l3]) x0 x1 (by rw [hy]; exact l1) y0 y1 HF hB b0 b1 hm hd w a hA K Qx hfin
end Go.Proofs.YtndhiemagankeaaGreatDoor
/- The walk of package time: a time is read by a layout: the place of the time; the whole of what stands behind the loop. -/
namespace Go.Proofs.YtndhiemagankeaaGreatDoor
open Go.RowKit
set_option linter.unusedVariables false
set_option linter.unusedSimpArgs false
theorem told_zone {ps : List Pc} {c : Civ} {z : Zn} : (told ps c z).zone = if anyK ps 22 31 = true then { name := [], off := c.zone.off } else if (hasK ps 32 && !(c.zone.name == z.name)) = true then { name := c.zone.name, off := 0 } else z := rfl
theorem told_utc {ps : List Pc} {c : Civ} {z : Zn} (hc : CivB c) (hz : ZnB z) (h : ps.any (zU c) = true) : (told ps c z).zone.off = 0 ∧ ((told ps c z).zone.name = [] ∨ utcB = (told ps c z).zone.name) := by
  have hcz := znB hc.z
  obtain ⟨p, hp, hu⟩ := List.any_eq_true.1 h
  rw [told_zone]
  unfold zU at hu
  rw [Bool.or_eq_true, Bool.and_eq_true, Bool.and_eq_true] at hu
  rcases hu with ⟨h1, h2⟩ | ⟨h1, h2⟩
  · have h22 : anyK ps 22 31 = true := by
      refine List.any_eq_true.2 ⟨p, hp, ?_⟩
      simp [isISO, within] at h1 ⊢
      omega
    rw [if_pos h22]
    exact ⟨by simpa using h2, .inl rfl⟩
  · have hn : c.zone.name = utcB := by simpa using h2
    have ho := hcz.utc hn
    have h32 : hasK ps 32 = true := List.any_eq_true.2 ⟨p, hp, h1⟩
    by_cases h22 : anyK ps 22 31 = true
    · rw [if_pos h22]
      exact ⟨ho, .inl rfl⟩
    · rw [if_neg h22, h32, Bool.true_and]
      by_cases he : (c.zone.name == z.name) = true
      · have he' : c.zone.name = z.name := by simpa using he
        rw [he, if_neg (by decide)]
        refine ⟨hz.utc (by rw [← he', hn]), .inr (by rw [← he', hn])⟩
      · have he' : (c.zone.name == z.name) = false := by simpa using he
        rw [he', if_pos (by decide)]
        exact ⟨rfl, .inr hn.symm⟩
theorem draws_p {w w2 : World} {p n : Nat} (hp : p < w.heap.size) (h : Below p (w.drewN n) w2) : Below p w w2 :=
  ((below_drewN w n).mono (by omega)).trans h
theorem places69 (ps : List Pc) (c : Civ) (z : Zn) (hc : CivB c) (hzb : ZnB z) (hr : Rd ps c) (v : V69) (hv : VB v) (w : World) (a : Act) (hA : At69 v a) (hT : TAt w v.p 0 0 (.pointer none)) (H : LocAt w v.loc z)
    (hz : (ps.any (zU c) = true ∧ UtcAt w v.z) ∨ (ps.any (zU c) = false ∧ v.z = .pointer none)) (hzo : v.zo = if ps.any (zN c) = true then c.zone.off else -1) (hzn : v.zn = if ps.any (zA c) = true then c.zone.name else []) (Q : Exit → Act → World → Prop)
    (hK : ∀ a2 w2 lo nm, ((told ps c z).zone.name = [] ∨ nm = (told ps c z).zone.name) → Fin69 v.ns (vext v (told ps c z).zone.off) lo a2 w2 → TimeLoc w2 lo { name := nm, off := (told ps c z).zone.off } → Below v.p w w2 → Q .ret a2 w2) :
    (tl69 3).wp Tryz.prog Q a w := by
  have hcz := znB hc.z
  have hplt := hT.lt
  rw [tl69_3]
  refine wp_seq ?_
  rcases hz with ⟨hu, hz⟩ | ⟨hu, hz⟩
  · obtain ⟨t1, t2⟩ := told_utc hc hzb hu
    rw [t1] at hK
    have hz2 := hz
    obtain ⟨zb, hzv, -⟩ := hz
    exact retz69 v hv w a hA hT zb hzv hz2 _ fun a2 w2 lo hF hL hB => hK a2 w2 lo utcB t2 hF hL hB
  · refine zpass69 v hz w a hA _ _ fun a2 n hA2 => ?_
    have hT2 := hT.below (below_drewN w n)
    have H2 := H.below (below_drewN w n)
    have hK2 : ∀ a2 w2 lo nm, ((told ps c z).zone.name = [] ∨ nm = (told ps c z).zone.name) → Fin69 v.ns (vext v (told ps c z).zone.off) lo a2 w2 → TimeLoc w2 lo { name := nm, off := (told ps c z).zone.off } → Below v.p (w.drewN n) w2 → Q .ret a2 w2 :=
      fun a2 w2 lo nm h1 h2 h3 h4 => hK a2 w2 lo nm h1 h2 h3 (draws_p hplt h4)
    clear hK hT H hA
    generalize w.drewN n = w' at *
    have hplt2 := hT2.lt
    rw [tl69_4]
    refine wp_seq ?_
    by_cases hn : ps.any (zN c) = true
    · rw [if_pos hn] at hzo
      have h22 : anyK ps 22 31 = true := by
        obtain ⟨p, hp, hp2⟩ := List.any_eq_true.1 hn
        refine List.any_eq_true.2 ⟨p, hp, ?_⟩
        unfold zN at hp2
        rw [Bool.and_eq_true] at hp2
        exact hp2.1
      have tz : (told ps c z).zone = { name := [], off := c.zone.off } := by rw [told_zone, if_pos h22]
      rw [tz] at hK2
      have hno : v.zo ≠ -1 := by rw [hzo]; have := hcz.far; omega
      have o0 : -86399 ≤ v.zo := by rw [hzo]; exact hcz.o0
      have o1 : v.zo ≤ 86399 := by rw [hzo]; exact hcz.o1
      have hfin : ∀ a2 w2 lo nm, Fin69 v.ns (vext v v.zo) lo a2 w2 → TimeLoc w2 lo { name := nm, off := v.zo } → Below v.p w' w2 → (Exit.then ((tl69 5).wp Tryz.prog Q) Q) .ret a2 w2 := by
        intro a2 w2 lo nm hF hL hB
        rw [hzo] at hF hL
        exact hK2 a2 w2 lo nm (.inl rfl) hF hL hB
      by_cases hoff : z.off = v.zo
      · cases hzv : v.zn with
        | nil => exact reto69_A1 v hv w' a2 hA2 hT2 z hno o0 o1 H2 hoff hzv _ hfin
        | cons zc zt =>
          by_cases hnm : z.name = zc :: zt
          · exact reto69_A2 v hv w' a2 hA2 hT2 z hno o0 o1 H2 hoff zc zt hnm hzv _ hfin
          · exact reto69_B1 v hv w' a2 hA2 hT2 z hno o0 o1 H2 hoff zc zt hzv (by simpa using hnm) _ hfin
      · exact reto69_B2 v hv w' a2 hA2 hT2 z hno o0 o1 H2 (by simpa using hoff) _ hfin
    · rw [if_neg hn] at hzo
      have hn' : ps.any (zN c) = false := by simpa using hn
      have h22 : anyK ps 22 31 = false := by
        rw [anyK, List.any_eq_false]
        intro p hp hp2
        have h1 := List.any_eq_false.1 hu p hp
        have h2 := List.any_eq_false.1 hn' p hp
        unfold zU at h1
        unfold zN isZone at h2
        rw [hp2] at h2
        cases hi : (isISO p.kind && c.zone.off == 0) with
        | true => rw [hi] at h1; simp at h1
        | false => rw [hi] at h2; simp at h2
      refine opass69 v hzo w' a2 hA2 _ _ fun a3 n3 hA3 => ?_
      have hT3 := hT2.below (below_drewN w' n3)
      have H3 := H2.below (below_drewN w' n3)
      have hK3 : ∀ a2 w2 lo nm, ((told ps c z).zone.name = [] ∨ nm = (told ps c z).zone.name) → Fin69 v.ns (vext v (told ps c z).zone.off) lo a2 w2 → TimeLoc w2 lo { name := nm, off := (told ps c z).zone.off } → Below v.p (w'.drewN n3) w2 → Q .ret a2 w2 :=
        fun a2 w2 lo nm h1 h2 h3 h4 => hK2 a2 w2 lo nm h1 h2 h3 (draws_p hplt2 h4)
      clear hK2 hT2 H2 hA2
      generalize w'.drewN n3 = w'' at *
      have hplt3 := hT3.lt
      rw [tl69_5]
      refine wp_seq ?_
      by_cases hza : ps.any (zA c) = true
      · rw [if_pos hza] at hzn
        obtain ⟨p, hp, hp2⟩ := List.any_eq_true.1 hza
        unfold zA at hp2
        rw [Bool.and_eq_true] at hp2
        have h32 : hasK ps 32 = true := List.any_eq_true.2 ⟨p, hp, hp2.1⟩
        have hnu : (c.zone.name == utcB) = false := by simpa using hp2.2
        have hab := hr.abb h32
        unfold abbreviated at hab
        rw [Bool.and_eq_true, Bool.and_eq_true, Bool.and_eq_true] at hab
        obtain ⟨-, -, hlen, -⟩ := hab
        obtain ⟨na, nb, nc, hxyz⟩ : ∃ na nb nc, c.zone.name = [na, nb, nc] := by
          have hlen : c.zone.name.length = 3 := by simpa using hlen
          match c.zone.name, hlen with
          | [x, y, z], _ => exact ⟨x, y, z, rfl⟩
        rw [hxyz] at hzn
        by_cases he : c.zone.name = z.name
        · have tz : (told ps c z).zone = z := by
            rw [told_zone, h22, if_neg (by decide), h32, he]
            simp
          rw [tz] at hK3
          have HF : FixAt w'' v.loc z := by
            rcases H3 with ⟨hu, -⟩ | h
            · exfalso
              rw [he, hu] at hnu
              exact absurd hnu (by decide)
            · exact h
          exact reta69_h v hv w'' a3 hA3 hT3 z na nb nc hzn (by rw [← he, hxyz]) hzb.o0 hzb.o1 HF _ fun a2 w2 lo hF hL hB => hK3 a2 w2 lo z.name (.inr rfl) hF hL hB
        · have tz : (told ps c z).zone = { name := c.zone.name, off := 0 } := by
            rw [told_zone, h22, if_neg (by decide), h32]
            simp [he]
          rw [tz, hxyz] at hK3
          refine reta69_m v hv w'' a3 hA3 hT3 z na nb nc hzn (by rw [← hxyz, beq_eq_false_iff_ne]; exact fun e => he e.symm) H3 _ fun a2 w2 lo hF hL hB => ?_
          rw [hzn] at hL
          exact hK3 a2 w2 lo [na, nb, nc] (.inr rfl) hF hL hB
      · rw [if_neg hza] at hzn
        have hza' : ps.any (zA c) = false := by simpa using hza
        have h32 : hasK ps 32 = false := by
          rw [hasK, List.any_eq_false]
          intro p hp hp2
          have h1 := List.any_eq_false.1 hu p hp
          have h2 := List.any_eq_false.1 hza' p hp
          unfold zU at h1
          unfold zA at h2
          rw [hp2] at h1 h2
          cases hi : (c.zone.name == utcB) with
          | true => rw [hi] at h1; simp at h1
          | false => rw [hi] at h2; simp at h2
        have tz : (told ps c z).zone = z := by
          rw [told_zone, h22, if_neg (by decide), h32]
          simp
        rw [tz] at hK3
        refine apass69 v hzn w'' a3 hA3 _ _ fun a4 n4 hA4 => ?_
        exact last69 v hv (w''.drewN n4) a4 hA4 (hT3.below (below_drewN _ _)) z hzb.o0 hzb.o1 (H3.below (below_drewN _ _)) Q fun a2 w2 lo hF hL hB => hK3 a2 w2 lo z.name (.inr rfl) hF hL (draws_p hplt3 hB)
/-- What 'parse' hands back for what is told. -/
def toldAs (ps : List Pc) (c : Civ) (z : Zn) (nm : Bytes) : Civ := { told ps c z with zone := { name := nm, off := (told ps c z).zone.off } }
theorem tail69 (ps : List Pc) (c : Civ) (z : Zn) (hc : CivB c) (hzb : ZnB z) (hr : Rd ps c) (v : V69) (w : World) (a : Act) (hA : At69 v a) (hT : TAt w v.p 0 0 (.pointer none)) (H : LocAt w v.loc z) (hSt : St ps c v w) (Q : Exit → Act → World → Prop)
    (hK : ∀ a2 w2 lo nm, ((told ps c z).zone.name = [] ∨ nm = (told ps c z).zone.name) → Fin69 (told ps c z).nano (cext (toldAs ps c z nm)) lo a2 w2 → TimeLoc w2 lo (toldAs ps c z nm).zone → Below v.p w w2 → Q .ret a2 w2) :
    (hand69 0).wp Tryz.prog Q a w := by
  have hplt := hT.lt
  have hw := told_w ps c z [] hc hzb
  show (tl69 0).wp Tryz.prog Q a w
  rw [tl69_0]
  refine wp_seq (halves69 ps c z hc hr v w a hA hSt _ _ fun a1 n1 hA1 => ?_)
  show (tl69 1).wp Tryz.prog Q a1 _
  rw [tl69_1]
  refine wp_seq (ydays69 ps c z hc hr _ _ a1 hA1 hSt.y hSt.m hSt.d hSt.yd _ _ fun a2 n2 x hA2 => ?_)
  show (tl69 2).wp Tryz.prog Q a2 _
  rw [tl69_2]
  have hy : v.y = (told ps c z).year := hSt.y
  have hmi : v.mi = (told ps c z).minute := hSt.mi
  have hs : v.s = (told ps c z).second := hSt.s
  have hns : v.ns = (told ps c z).nano := hSt.ns
  have hd31 : (told ps c z).day ≤ 31 := by
    have h1 := hw.d1
    have h2 := days_bd' (told ps c z).year (told ps c z).month
    simp only at h1
    omega
  have hvb : VB { v with h := (told ps c z).hour, yd := x, m := (told ps c z).month, d := (told ps c z).day } := by
    refine ⟨?_, ?_, hw.m0, hw.m1, hw.d0, hd31, hw.h0, hw.h1, ?_, ?_, ?_, ?_, ?_, ?_⟩
    · show 0 ≤ v.y; rw [hy]; exact hw.y0
    · show v.y ≤ 9999; rw [hy]; exact hw.y1
    · show 0 ≤ v.mi; rw [hmi]; exact hw.n0
    · show v.mi ≤ 59; rw [hmi]; exact hw.n1
    · show 0 ≤ v.s; rw [hs]; exact hw.s0
    · show v.s ≤ 59; rw [hs]; exact hw.s1
    · show 0 ≤ v.ns; rw [hns]; exact hw.f0
    · show v.ns ≤ 999999999; rw [hns]; exact hw.f1
  refine wp_seq (check69 _ hvb.m0 hvb.m1 hvb.d0 (by show (told ps c z).day ≤ days v.y (told ps c z).month; rw [hy]; exact hw.d1) hvb.y0 hvb.y1 _ a2 hA2 _ _ fun a3 n3 hA3 => ?_)
  show (tl69 3).wp Tryz.prog Q a3 _
  have hbw : Below w.heap.size w (((w.drewN n1).drewN n2).drewN n3) := below_dN (below_dN (below_drewN w n1) n2) n3
  have hplt3 : v.p < (((w.drewN n1).drewN n2).drewN n3).heap.size := Nat.lt_of_lt_of_le hplt hbw.size
  refine places69 ps c z hc hzb hr _ hvb _ a3 hA3 (hT.below hbw) (H.below hbw) ?_ hSt.zo hSt.zn Q fun a4 w4 lo nm h1 h2 h3 h4 => ?_
  · rcases hSt.z with ⟨e1, e2⟩ | e
    · exact .inl ⟨e1, e2.below hbw⟩
    · exact .inr e
  · refine hK a4 w4 lo nm h1 ?_ h3 (((hbw.mono (by omega)).trans h4))
    have he : vext { v with h := (told ps c z).hour, yd := x, m := (told ps c z).month, d := (told ps c z).day } (told ps c z).zone.off = cext (toldAs ps c z nm) := by
      unfold vext cext toldAs
      simp only
      rw [hy, hmi, hs]
    rw [he] at h2
    rw [← hns]
    exact h2
end Go.Proofs.YtndhiemagankeaaGreatDoor
/- The walk of package time: a time is read by a layout: 'parse' as a whole. -/
namespace Go.Proofs.YtndhiemagankeaaGreatDoor
open Go.RowKit
set_option linter.unusedVariables false
set_option linter.unusedSimpArgs false
attribute [local simp] bs_size bs_toList bs_append bs_data bs_extract
set_option maxRecDepth 100000 in
set_option maxHeartbeats 4000000 in
theorem parse_c (ps : List Pc) (c : Civ) (z : Zn) (hc : CivB c) (hzb : ZnB z) (hps : Rdb ps c) (hr : Rd ps c) (loc : Value) (w : World) (hs : StdAt w) (H : LocAt w loc z) :
    Calls Tryz.prog 69 #[S (layout ps), S (writtenAll ps c), loc, loc] w fun e w' => (∃ nm lo, e = .returned (.tuple #[ctv (toldAs ps c z nm) lo, .nilIface]) ∧ TimeLoc w' lo (toldAs ps c z nm).zone ∧ ((told ps c z).zone.name = [] ∨ nm = (told ps c z).zone.name)) ∧ Below w.heap.size w w' := by
  obtain ⟨w0, HW0⟩ : ∃ w0, Hid (w0 = w.alloc (.cells #[.int .u64 0, .int .i64 0, .pointer none] 51)) := ⟨_, Lib.hid rfl⟩
  have hta : TAt w0 w.heap.size 0 0 (.pointer none) := by rw [HW0.out]; exact TAt.new w 0 0 _
  have hb0 : Below w.heap.size w w0 := by rw [HW0.out]; exact below_new _ _
  have hs0 : StdAt w0 := hs.below hb0
  have H0 : LocAt w0 loc z := H.below hb0
  have HR := Lib.hid (fun (Q : Exit → Act → World → Prop) hQ a w1 h => round_lp69 c hc ps hps loc w.heap.size w0 hs0 Q hQ a w1 h)
  have HT := Lib.hid (fun v w1 a (hA : At69 v a) hT H hSt Q hK => tail69 ps c z hc hzb hr v w1 a hA hT H hSt Q hK)
  have HTA := Lib.hid hta
  have HB0 := Lib.hid hb0
  have HL0 := Lib.hid H0
  clear hta hb0 hs0 hs H0 H hps hr
  go_enter Tryz.func69, Tryz.ntmps69
  go_wp2_with fail
  rename_i K hK
  rw [← HW0.out]
  refine wp_loop (Lp69 c ps loc w.heap.size w0) (fun a' _ => match a'.tmps.getD 0 undef with | .string s => s.size | _ => 0) ?_ (fun a' w' h => ?_)
  rotate_left
  · refine HR.out _ ?_ a' w' h
    rintro a3 w3 ⟨v, hA, e1, e2, hSt, hB⟩
    refine blk_same (then_no (hK _ _ ?_))
    have hT3 : TAt w3 v.p 0 0 (.pointer none) := by rw [e2]; exact HTA.out.below hB
    have HL3 : LocAt w3 v.loc z := by rw [e1]; exact HL0.out.below hB
    refine HT.out v w3 a3 hA hT3 HL3 hSt _ ?_
    intro a4 w4 lo nm hn hF hL hB4
    rw [e2] at hB4
    have hbw : Below w.heap.size w w4 := (HB0.out.trans (hB.mono HB0.out.size)).trans hB4
    exact bodyPost_ret hF.2 hF.1 ⟨⟨nm, lo, rfl, hL, hn⟩, hbw⟩
  · refine ⟨⟨_, _, _, _, _, _, _, _, _, _, _, _, _, _, _, _, _⟩, [], ps, rfl, ⟨rfl, rfl, rfl, rfl, rfl, rfl, rfl, rfl, rfl, rfl, rfl, rfl, rfl, rfl, rfl, rfl, rfl, rfl, rfl, rfl, rfl, rfl⟩, rfl, rfl, rfl, rfl, ?_, Below.refl _ _⟩
    have hcut : cut c.nano 0 = 0 := cut_zero hc.f0 hc.f1
    exact ⟨rfl, rfl, rfl, rfl, rfl, rfl, .inr (.inr ⟨rfl, rfl⟩), rfl, rfl, hcut.symm, .inr ⟨rfl, rfl⟩, rfl, rfl⟩
end Go.Proofs.YtndhiemagankeaaGreatDoor
/- The walks of ParseInLocation, and of the package impl's Parse. -/
namespace Go.Proofs.YtndhiemagankeaaGreatDoor
open Go.RowKit
set_option linter.unusedVariables false
set_option linter.unusedSimpArgs false
attribute [local simp] bs_size bs_toList bs_append bs_data bs_extract
/-- What reading a time by a layout leaves. -/
def Read (ps : List Pc) (c : Civ) (z : Zn) (e : Ending) (w' : World) : Prop :=
  ∃ nm lo, e = .returned (.tuple #[ctv (toldAs ps c z nm) lo, .nilIface]) ∧ TimeLoc w' lo (toldAs ps c z nm).zone ∧ ((told ps c z).zone.name = [] ∨ nm = (told ps c z).zone.name)
set_option maxRecDepth 100000 in
set_option maxHeartbeats 1000000 in
theorem inLocation_c (ps : List Pc) (c : Civ) (z : Zn) (hc : CivB c) (hzb : ZnB z) (hps : Rdb ps c) (hr : Rd ps c) (loc : Value) (w : World) (hs : StdAt w) (H : LocAt w loc z) :
    Calls Tryz.prog 38 #[S (layout ps), S (writtenAll ps c), loc] w fun e w' => Read ps c z e w' ∧ Below w.heap.size w w' := by
  obtain ⟨r1, r2⟩ := not_rfc ps hps.suf.all
  unfold rfcA at r1
  unfold rfcB at r2
  have HP : Hid (∀ w1, Below w.heap.size w w1 → Calls Tryz.prog 69 #[S (layout ps), S (writtenAll ps c), loc, loc] w1 fun e w' => Read ps c z e w' ∧ Below w1.heap.size w1 w') := fun w1 hb => parse_c ps c z hc hzb hps hr loc w1 (hs.below hb) (H.below hb)
  clear hs H hps hr hc hzb
  generalize layout ps = lay at *
  generalize writtenAll ps c = val at *
  go_enter Tryz.func38, Tryz.ntmps38
  go_wp2_with (go_at_call 69; refine (HP.out _ (below_new _ _)).mono ?_; rintro e w1 ⟨⟨nm, lo, rfl, hl, hn⟩, hb⟩; obtain ⟨lp, rfl⟩ := hl.ptr; have HL := Lib.hid hl; have HN := Lib.hid hn; obtain ⟨lt1, q0, q1, q2, g0, g1, g2⟩ := (TAt.new w 0 0 (.pointer none)).below hb; have HB := Lib.hid (below_next (below_new _ _) hb); clear hl hn hb; unfold ctv tv; obtain ⟨x, HX⟩ : ∃ x, Hid (x = cext (toldAs ps c z nm)) := ⟨_, Lib.hid rfl⟩; rw [← HX.out])
  refine bodyPost_ret (v := .tuple #[ctv (toldAs ps c z nm) (.pointer lp), .nilIface]) ?_ rfl ⟨⟨nm, _, rfl, HL.out.far3 q0, HN.out⟩, ?_⟩
  · unfold ctv tv
    rw [← HX.out]
    simp [results, Tryz.results38, go_sem, q0, q1, q2]
  · exact ((HB.out.setCell (p := ⟨w.heap.size, 0, none⟩) (Nat.le_refl _) _).setCell (p := ⟨w.heap.size, 1, none⟩) (Nat.le_refl _) _).setCell (p := ⟨w.heap.size, 2, none⟩) (Nat.le_refl _) _
theorem CAt.cells10 {w : World} {b : Nat} {v0 v1 v2 v3 v4 v5 v6 v7 v8 v9 : Value} (h : CAt w b [v0, v1, v2, v3, v4, v5, v6, v7, v8, v9]) :
    (w.cell? ⟨b, 0, none⟩ = some v0 ∧ w.cell? ⟨b, 1, none⟩ = some v1 ∧ w.cell? ⟨b, 2, none⟩ = some v2 ∧ w.cell? ⟨b, 3, none⟩ = some v3 ∧ w.cell? ⟨b, 4, none⟩ = some v4 ∧ w.cell? ⟨b, 5, none⟩ = some v5 ∧ w.cell? ⟨b, 6, none⟩ = some v6 ∧ w.cell? ⟨b, 7, none⟩ = some v7 ∧ w.cell? ⟨b, 8, none⟩ = some v8 ∧ w.cell? ⟨b, 9, none⟩ = some v9) ∧ (w.frozen? ⟨b, 0, none⟩ = false ∧ w.frozen? ⟨b, 1, none⟩ = false ∧ w.frozen? ⟨b, 2, none⟩ = false ∧ w.frozen? ⟨b, 3, none⟩ = false ∧ w.frozen? ⟨b, 4, none⟩ = false ∧ w.frozen? ⟨b, 5, none⟩ = false ∧ w.frozen? ⟨b, 6, none⟩ = false ∧ w.frozen? ⟨b, 7, none⟩ = false ∧ w.frozen? ⟨b, 8, none⟩ = false ∧ w.frozen? ⟨b, 9, none⟩ = false) :=
  ⟨⟨(h.2 0 (by simp)).1, (h.2 1 (by simp)).1, (h.2 2 (by simp)).1, (h.2 3 (by simp)).1, (h.2 4 (by simp)).1, (h.2 5 (by simp)).1, (h.2 6 (by simp)).1, (h.2 7 (by simp)).1, (h.2 8 (by simp)).1, (h.2 9 (by simp)).1⟩, ⟨(h.2 0 (by simp)).2, (h.2 1 (by simp)).2, (h.2 2 (by simp)).2, (h.2 3 (by simp)).2, (h.2 4 (by simp)).2, (h.2 5 (by simp)).2, (h.2 6 (by simp)).2, (h.2 7 (by simp)).2, (h.2 8 (by simp)).2, (h.2 9 (by simp)).2⟩⟩
def parsedVal (c : Civ) : Value := .agg #[.int .i64 c.year, .int .i64 c.month, .int .i64 c.day, .int .i64 c.hour, .int .i64 c.minute, .int .i64 c.second, .int .i64 c.nano, S c.zone.name, .int .i64 c.zone.off, .bool true]
set_option maxRecDepth 100000 in
set_option maxHeartbeats 1000000 in
theorem implParse_c (ps : List Pc) (c : Civ) (z : Zn) (hc : CivB c) (hzb : ZnB z) (hps : Rdb ps c) (hr : Rd ps c) (w : World) (hs : StdAt w) :
    Calls Tryz.prog 17 #[S (layout ps), S (writtenAll ps c), z.val] w fun e w' => (∃ nm, e = .returned (parsedVal (toldAs ps c z nm)) ∧ ((told ps c z).zone.name = [] ∨ nm = (told ps c z).zone.name)) ∧ Below w.heap.size w w' := by
  have HPL : Hid (∀ w, Calls Tryz.prog 39 #[z.val] w fun e w' => (∃ v, e = .returned v ∧ LocAt w' v z) ∧ Below w.heap.size w w') := fun w => place_c z w hzb.utc
  have HIL : Hid (∀ loc w1, LocAt w1 loc z → Below w.heap.size w w1 → Calls Tryz.prog 38 #[S (layout ps), S (writtenAll ps c), loc] w1 fun e w' => Read ps c z e w' ∧ Below w1.heap.size w1 w') := fun loc w1 hl hb =>
    inLocation_c ps c z hc hzb hps hr loc w1 (hs.below hb) hl
  have HCV : Hid (∀ nm lo w1, TimeLoc w1 lo (toldAs ps c z nm).zone → Calls Tryz.prog 40 #[ctv (toldAs ps c z nm) lo] w1 fun e w' => e = .returned (toldAs ps c z nm).val ∧ Below w1.heap.size w1 w') := fun nm lo w1 hl =>
    civil_c (toldAs ps c z nm) lo w1 (told_w ps c z nm hc hzb) hl
  clear hs hc hzb hps hr
  generalize layout ps = lay at *
  generalize writtenAll ps c = val at *
  unfold Zn.val at HPL ⊢
  obtain ⟨w0, HW0⟩ : ∃ w0, Hid (w0 = (w.alloc (.cells #[S z.name, .int .i64 z.off] 24)).alloc (.cells #[.int .i64 0, .int .i64 0, .int .i64 0, .int .i64 0, .int .i64 0, .int .i64 0, .int .i64 0, .string ⟨#[]⟩, .int .i64 0, .bool false] 36)) := ⟨_, Lib.hid rfl⟩
  have R0 : CAt w0 (w.heap.size + 1) [.int .i64 0, .int .i64 0, .int .i64 0, .int .i64 0, .int .i64 0, .int .i64 0, .int .i64 0, .string ⟨#[]⟩, .int .i64 0, .bool false] := by
    rw [HW0.out]
    have := CAt.new (w.alloc (.cells #[S z.name, .int .i64 z.off] 24)) [.int .i64 0, .int .i64 0, .int .i64 0, .int .i64 0, .int .i64 0, .int .i64 0, .int .i64 0, .string ⟨#[]⟩, .int .i64 0, .bool false] 36
    rwa [World.size_alloc] at this
  have Z0 : CAt w0 w.heap.size [S z.name, .int .i64 z.off] := by
    rw [HW0.out]
    exact (CAt.new w [S z.name, .int .i64 z.off] 24).below (below_new _ _)
  have B0 : Below w.heap.size w w0 := by rw [HW0.out]; exact below_next (below_new _ _) (below_new _ _)
  have z0 := (Z0.2 0 (by simp)).1
  have z1 := (Z0.2 1 (by simp)).1
  simp only [List.getElem_cons_zero, List.getElem_cons_succ] at z0 z1
  have HB0 := Lib.hid B0
  have HR0 := Lib.hid R0
  clear R0 Z0 B0
  go_enter Tryz.func17, Tryz.ntmps17
  go_upto_region 1 with fail
  rw [← HW0.out]
  go_upto_region 2 with (first
    | (go_at_call 39; refine (HPL.out _).mono ?_; rintro e w1 ⟨⟨v, rfl, hl⟩, hb⟩; have HL := Lib.hid hl; have HR1 := Lib.hid (HR0.out.below hb); have HB1 := Lib.hid (below_next HB0.out hb); clear hl hb)
    | (go_at_call 38; refine (HIL.out _ _ HL.out HB1.out).mono ?_; rintro e w2 ⟨⟨nm, lo, rfl, hl, hn⟩, hb⟩; obtain ⟨lp, rfl⟩ := hl.ptr; have HTL := Lib.hid hl; have HN := Lib.hid hn; have HR2 := Lib.hid (HR1.out.below hb); have HB2 := Lib.hid (below_next HB1.out hb); clear hl hn hb; have HC := Lib.hid (HCV.out nm (.pointer lp)); unfold ctv tv at HC ⊢; unfold Civ.val at HC; obtain ⟨x, HX⟩ : ∃ x, Hid (x = cext (toldAs ps c z nm)) := ⟨_, Lib.hid rfl⟩; rw [← HX.out] at HC ⊢; obtain ⟨tc, HTC⟩ : ∃ tc, Hid (tc = toldAs ps c z nm) := ⟨_, Lib.hid rfl⟩; rw [← HTC.out] at HC HTL ⊢))
  have HSC : Hid (∀ (x : World) (p : Addr) (u : Value), w.heap.size ≤ p.block → Below w.heap.size w x → Below w.heap.size w (x.setCell p u)) := fun x p u hp h => h.setCell hp u
  go_wp2_with (go_at_call 40; refine (HC.out _ (HTL.out.below (below_new _ _))).mono ?_; rintro e w3 ⟨rfl, hb⟩; have R3 := HR2.out.below (below_next (below_new _ _) hb); have HB3 := Lib.hid (below_next (below_next HB2.out (below_new _ _)) hb); have hl3 : w.heap.size + 1 < w3.heap.size := R3.1; obtain ⟨⟨r0, r1, r2, r3, r4, r5, r6, r7, r8, r9⟩, ⟨k0, k1, k2, k3, k4, k5, k6, k7, k8, k9⟩⟩ := R3.cells10; clear R3 hb)
  refine bodyPost_ret (v := parsedVal tc) ?_ rfl ⟨⟨nm, by rw [HTC.out], HN.out⟩, ?_⟩
  · simp [results, Tryz.results17, go_sem, parsedVal, r0, r1, r2, r3, r4, r5, r6, r7, r8, r9]
  · repeat (with_reducible refine HSC.out _ _ _ (by simp) ?_)
    exact HB3.out
end Go.Proofs.YtndhiemagankeaaGreatDoor
/- The walk of the statement's own use of the reader. -/
namespace Go.Proofs.YtndhiemagankeaaGreatDoor
open Go.RowKit
set_option linter.unusedVariables false
set_option linter.unusedSimpArgs false
attribute [local simp] bs_size bs_toList bs_append bs_data bs_extract
theorem Rdb.of {ps : List Pc} {c : Civ} (h : piecesOk ps = true) (hr : Rd ps c) (hl : (layout ps).length ≤ 1000000000) : Rdb ps c := by
  have hs := SufOk.of ps h
  simp only [piecesOk, Bool.and_eq_true, decide_eq_true_eq] at h
  exact ⟨hs, h.2.2.2.1, h.2.2.2.2, hl, hr.year, hr.abb, hr.fit⟩
def rdPs : List Pc := [⟨1, [], 0, false⟩]
def rdC : Civ := { year := 2009, month := 1, day := 1, hour := 0, minute := 0, second := 0, nano := 0, zone := utcZ }
theorem rdC_ok : CivB rdC := by
  exact ⟨show (0 : Int) ≤ 2009 by decide, show (2009 : Int) ≤ 9999 by decide, show (1 : Int) ≤ 1 by decide, show (1 : Int) ≤ 12 by decide, show (1 : Int) ≤ 1 by decide, show (1 : Int) ≤ days 2009 1 by decide, show (0 : Int) ≤ 0 by decide, show (0 : Int) ≤ 23 by decide,
    show (0 : Int) ≤ 0 by decide, show (0 : Int) ≤ 59 by decide, show (0 : Int) ≤ 0 by decide, show (0 : Int) ≤ 59 by decide, show (0 : Int) ≤ 0 by decide, show (0 : Int) ≤ 999999999 by decide, show zoneOk utcZ = true by decide⟩
theorem rd_text : writtenAll rdPs rdC = [50, 48, 48, 57] := by
  have e1 : digits 2009 4 = [50, 48, 48, 57] := by rw [digits_four 2009 (by omega) (by omega)]; rfl
  simp [writtenAll, rdPs, written, rdC, e1]
theorem field_civil (a0 a1 a2 a3 a4 a5 a6 a7 a8 a9 : Value) (w : World) : (Instr.field 36 (.agg #[a0, a1, a2, a3, a4, a5, a6, a7, a8, a9]) 0).run Tryz.prog w = .ok (.agg #[a0, a1, a2, a3, a4, a5, a6, a7, a8]) w := by kernel_rfl
theorem field_ok (a0 a1 a2 a3 a4 a5 a6 a7 a8 a9 : Value) (w : World) : (Instr.field 36 (.agg #[a0, a1, a2, a3, a4, a5, a6, a7, a8, a9]) 1).run Tryz.prog w = .ok a9 w := by kernel_rfl
theorem field_year (a0 a1 a2 a3 a4 a5 a6 a7 a8 : Value) (w : World) : (Instr.field 26 (.agg #[a0, a1, a2, a3, a4, a5, a6, a7, a8]) 0).run Tryz.prog w = .ok a0 w := by kernel_rfl
set_option maxRecDepth 100000 in
set_option maxHeartbeats 1000000 in
theorem reads_c (w : World) (hs : StdAt w) : Calls Tryz.prog 11 #[] w fun e w' => e = .returned (.bool true) ∧ Below w.heap.size w w' := by
  have hr : Rd rdPs rdC := Rd.of (by decide)
  have HP : Hid (Calls Tryz.prog 17 #[S (layout rdPs), S (writtenAll rdPs rdC), utcZ.val] w fun e w' => (∃ nm, e = .returned (parsedVal (toldAs rdPs rdC utcZ nm)) ∧ ((told rdPs rdC utcZ).zone.name = [] ∨ nm = (told rdPs rdC utcZ).zone.name)) ∧ Below w.heap.size w w') :=
    implParse_c rdPs rdC utcZ rdC_ok (znB (by decide)) (Rdb.of (by decide) hr (by decide)) hr w hs
  rw [rd_text] at HP
  have hfc := field_civil
  have hfy := field_year
  have hyr : ∀ nm, (toldAs rdPs rdC utcZ nm).year = 2009 := fun _ => rfl
  clear hs hr
  go_enter Tryz.func11, Tryz.ntmps11
  go_wp2_with (go_at_call 17; refine HP.out.mono ?_; rintro e w1 ⟨⟨nm, rfl, -⟩, hb⟩; have HB := Lib.hid hb; clear hb; unfold parsedVal)
  go_ret
  exact ⟨by simp, HB.out⟩
end Go.Proofs.YtndhiemagankeaaGreatDoor
