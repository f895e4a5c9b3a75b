/-
  FnLayout (the statement: for every list of pieces, every time and every zone the call returns true, and its arguments read afterwards as they did), part 34 of 41. In this part: The walk of package time: a time is read by a layout: days of the year. The plain law: days of the year, seconds, halves and fractions are read back. The plain law: offsets and abbreviations are read back. The plain law: every element is read back. The walk of package time: a time is read by a layout: each round of the loop, and the loop. The walk of package time: a time is read by a layout: halves of the day behind the loop. The walk of package time: a time is read by a layout: days of the year behind the loop. The walk of package time: a time is read by a layout: the day is looked at; what the places turn to.
-/
import Derived.LoopN
import Derived.KernelRfl
import Derived.Test.YtndhiemagankeaaGreatDoorG08
import Derived.Test.YtndhiemagankeaaGreatDoorG26
import Derived.Test.YtndhiemagankeaaGreatDoorG27
import Derived.Test.YtndhiemagankeaaGreatDoorG28
import Derived.Test.YtndhiemagankeaaGreatDoorG29
import Derived.Test.YtndhiemagankeaaGreatDoorG30
import Derived.Test.YtndhiemagankeaaGreatDoorG31
import Derived.Test.YtndhiemagankeaaGreatDoorG33
/- The walk of package time: a time is read by a layout: days of the year. -/
namespace Go.Proofs.YtndhiemagankeaaGreatDoor
open Go.RowKit
set_option linter.unusedSimpArgs false
set_option linter.unusedVariables false
attribute [local simp] bs_size bs_toList bs_append bs_data bs_extract
set_option maxRecDepth 100000 in
set_option maxHeartbeats 1000000 in
theorem hand69_12a (v : V69) (x : Int) (rest : Bytes) (c : UInt8) (t : Bytes) (hv0 : v.val = c :: t) (hc : c.toNat ≠ 32) (hg : Getn 105 false v.val x rest) (hmx : v.val.length ≤ 1099511627776) : Hand69 11 522 522 v { v with val := rest, yd := x } := by
  intro w u Q hK
  obtain ⟨lay, val, loc, p, am, pm, y, m, d, yd, h, mi, s, ns, z, zo, zn⟩ := v
  simp only at hv0 hg hmx
  have hix0 : ∀ h : 0 < (bs val).size, (bs val)[0]'h = c := fun h => by rw [bs_get]; simp only [hv0]; rfl
  have hll0 : 1 ≤ val.length := by rw [hv0]; simp
  have hcb := c.toNat_lt
  have HR : Hid (rest = rest) := Lib.hid rfl
  have HR2 := HR
  have HG := Lib.hid hg
  unfold Getn at HG
  clear hg hv0
  have HK := Lib.hid hK
  have HB : Hid (Below w.heap.size w w) := Lib.hid (Below.refl _ _)
  clear hK
  unfold fr69t
  conv => arg 2; whnf
  go_wp2_with (first
    | (guard_target =~ Code.wp _ (Code.region _ _ true) _ _ _; go_quiet (fail))
    | (go_at_call 105; refine (HG.out _).mono ?_; rintro e w1 ⟨rfl, k, rfl⟩; have HB := Lib.hid (below_dN HB.out k)))
  refine wp_loop_rounds 3 ?_
  rw [rounds_succ]
  go_wp2_with (first
    | (guard_target =~ Code.wp _ (Code.region _ _ true) _ _ _; go_quiet (fail))
    | (go_at_call 105; refine (HG.out _).mono ?_; rintro e w1 ⟨rfl, k, rfl⟩; have HB := Lib.hid (below_dN HB.out k)))
  rw [rounds_succ]
  go_wp2_with (first
    | (guard_target =~ Code.wp _ (Code.region _ _ true) _ _ _; go_quiet (fail))
    | (go_at_call 105; refine (HG.out _).mono ?_; rintro e w1 ⟨rfl, k, rfl⟩; have HB := Lib.hid (below_dN HB.out k)))
  rw [rounds_succ]
  go_wp2_with (first
    | (guard_target =~ Code.wp _ (Code.region _ _ true) _ _ _; go_quiet (fail))
    | (go_at_call 105; refine (HG.out _).mono ?_; rintro e w1 ⟨rfl, k, rfl⟩; have HB := Lib.hid (below_dN HB.out k)))
  all_goals first | exact HK.out _ _ ⟨rfl, rfl, rfl, (by first | rfl | exact congrArg S HR.out | exact congrArg S HR2.out), rfl, rfl, rfl, rfl, rfl, rfl, rfl, rfl, rfl, rfl, rfl, rfl, rfl, rfl, rfl, rfl, rfl, rfl, rfl⟩ HB.out | exact HK.out _ _ ⟨rfl, rfl, rfl, (by first | rfl | exact congrArg S HR.out | exact congrArg S HR2.out), rfl, rfl, rfl, rfl, rfl, rfl, rfl, rfl, rfl, rfl, rfl, rfl, rfl, rfl, rfl, rfl, rfl, rfl, rfl⟩ (below_dN HB.out _) | exact HK.out _ _ ⟨rfl, rfl, rfl, (by first | rfl | exact congrArg S HR.out | exact congrArg S HR2.out), rfl, rfl, rfl, rfl, rfl, rfl, rfl, rfl, rfl, rfl, rfl, rfl, rfl, rfl, rfl, rfl, rfl, rfl, rfl⟩ (below_drewN _ _)
set_option maxRecDepth 100000 in
set_option maxHeartbeats 1000000 in
theorem hand69_12b (v : V69) (x : Int) (l1 rest : Bytes) (hv0 : v.val = 32 :: l1) (c : UInt8) (t : Bytes) (hv1 : l1 = c :: t) (hc : c.toNat ≠ 32) (hg : Getn 105 false l1 x rest) (hmx : v.val.length ≤ 1099511627776) : Hand69 11 522 522 v { v with val := rest, yd := x } := by
  intro w u Q hK
  obtain ⟨lay, val, loc, p, am, pm, y, m, d, yd, h, mi, s, ns, z, zo, zn⟩ := v
  simp only at hv0 hmx
  have hix0 : ∀ h : 0 < (bs val).size, (bs val)[0]'h = 32 := fun h => by rw [bs_get]; simp only [hv0]; rfl
  have hll0 : 1 ≤ val.length := by rw [hv0]; simp
  have HV0 : Hid (List.take (val.length - 1) (List.tail val) = l1) := by show _ = _; rw [hv0]; simp
  have hix1 : ∀ h : 0 < (bs l1).size, (bs l1)[0]'h = c := fun h => by rw [bs_get]; simp only [hv1]; rfl
  have hll1 : 1 ≤ l1.length := by rw [hv1]; simp
  have hmx1 : l1.length ≤ 1099511627776 := by rw [hv0] at hmx; simp at hmx; omega
  have hcb := c.toNat_lt
  have HR : Hid (rest = rest) := Lib.hid rfl
  have HR2 := HR
  have HG := Lib.hid hg
  unfold Getn at HG
  clear hg hv0 hv1
  have HK := Lib.hid hK
  have HB : Hid (Below w.heap.size w w) := Lib.hid (Below.refl _ _)
  clear hK
  unfold fr69t
  conv => arg 2; whnf
  go_wp2_with (first
    | (guard_target =~ Code.wp _ (Code.region _ _ true) _ _ _; go_quiet (fail))
    | (go_at_call 105; refine (HG.out _).mono ?_; rintro e w1 ⟨rfl, k, rfl⟩; have HB := Lib.hid (below_dN HB.out k)))
  refine wp_loop_rounds 3 ?_
  rw [rounds_succ]
  go_wp2_with (first
    | (guard_target =~ Code.wp _ (Code.region _ _ true) _ _ _; go_quiet (fail))
    | (go_at_call 105; refine (HG.out _).mono ?_; rintro e w1 ⟨rfl, k, rfl⟩; have HB := Lib.hid (below_dN HB.out k)))
  try rw [HV0.out]
  rw [rounds_succ]
  go_wp2_with (first
    | (guard_target =~ Code.wp _ (Code.region _ _ true) _ _ _; go_quiet (fail))
    | (go_at_call 105; refine (HG.out _).mono ?_; rintro e w1 ⟨rfl, k, rfl⟩; have HB := Lib.hid (below_dN HB.out k)))
  rw [rounds_succ]
  go_wp2_with (first
    | (guard_target =~ Code.wp _ (Code.region _ _ true) _ _ _; go_quiet (fail))
    | (go_at_call 105; refine (HG.out _).mono ?_; rintro e w1 ⟨rfl, k, rfl⟩; have HB := Lib.hid (below_dN HB.out k)))
  all_goals first | exact HK.out _ _ ⟨rfl, rfl, rfl, (by first | rfl | exact congrArg S HR.out | exact congrArg S HR2.out), rfl, rfl, rfl, rfl, rfl, rfl, rfl, rfl, rfl, rfl, rfl, rfl, rfl, rfl, rfl, rfl, rfl, rfl, rfl⟩ HB.out | exact HK.out _ _ ⟨rfl, rfl, rfl, (by first | rfl | exact congrArg S HR.out | exact congrArg S HR2.out), rfl, rfl, rfl, rfl, rfl, rfl, rfl, rfl, rfl, rfl, rfl, rfl, rfl, rfl, rfl, rfl, rfl, rfl, rfl⟩ (below_dN HB.out _) | exact HK.out _ _ ⟨rfl, rfl, rfl, (by first | rfl | exact congrArg S HR.out | exact congrArg S HR2.out), rfl, rfl, rfl, rfl, rfl, rfl, rfl, rfl, rfl, rfl, rfl, rfl, rfl, rfl, rfl, rfl, rfl, rfl, rfl⟩ (below_drewN _ _)
set_option maxRecDepth 100000 in
set_option maxHeartbeats 1000000 in
theorem hand69_12c (v : V69) (x : Int) (l1 l2 rest : Bytes) (hv0 : v.val = 32 :: l1) (hv1 : l1 = 32 :: l2) (c : UInt8) (t : Bytes) (hv2 : l2 = c :: t) (hc : c.toNat ≠ 32) (hg : Getn 105 false l2 x rest) (hmx : v.val.length ≤ 1099511627776) : Hand69 11 522 522 v { v with val := rest, yd := x } := by
  intro w u Q hK
  obtain ⟨lay, val, loc, p, am, pm, y, m, d, yd, h, mi, s, ns, z, zo, zn⟩ := v
  simp only at hv0 hmx
  have hix0 : ∀ h : 0 < (bs val).size, (bs val)[0]'h = 32 := fun h => by rw [bs_get]; simp only [hv0]; rfl
  have hll0 : 1 ≤ val.length := by rw [hv0]; simp
  have HV0 : Hid (List.take (val.length - 1) (List.tail val) = l1) := by show _ = _; rw [hv0]; simp
  have hix1 : ∀ h : 0 < (bs l1).size, (bs l1)[0]'h = 32 := fun h => by rw [bs_get]; simp only [hv1]; rfl
  have hll1 : 1 ≤ l1.length := by rw [hv1]; simp
  have HV1 : Hid (List.take (l1.length - 1) (List.tail l1) = l2) := by show _ = _; rw [hv1]; simp
  have hix2 : ∀ h : 0 < (bs l2).size, (bs l2)[0]'h = c := fun h => by rw [bs_get]; simp only [hv2]; rfl
  have hll2 : 1 ≤ l2.length := by rw [hv2]; simp
  have hmx1 : l1.length ≤ 1099511627776 := by rw [hv0] at hmx; simp at hmx; omega
  have hmx2 : l2.length ≤ 1099511627776 := by rw [hv1] at hmx1; simp at hmx1; omega
  have hcb := c.toNat_lt
  have HR : Hid (rest = rest) := Lib.hid rfl
  have HR2 := HR
  have HG := Lib.hid hg
  unfold Getn at HG
  clear hg hv0 hv1 hv2
  have HK := Lib.hid hK
  have HB : Hid (Below w.heap.size w w) := Lib.hid (Below.refl _ _)
  clear hK
  unfold fr69t
  conv => arg 2; whnf
  go_wp2_with (first
    | (guard_target =~ Code.wp _ (Code.region _ _ true) _ _ _; go_quiet (fail))
    | (go_at_call 105; refine (HG.out _).mono ?_; rintro e w1 ⟨rfl, k, rfl⟩; have HB := Lib.hid (below_dN HB.out k)))
  refine wp_loop_rounds 3 ?_
  rw [rounds_succ]
  go_wp2_with (first
    | (guard_target =~ Code.wp _ (Code.region _ _ true) _ _ _; go_quiet (fail))
    | (go_at_call 105; refine (HG.out _).mono ?_; rintro e w1 ⟨rfl, k, rfl⟩; have HB := Lib.hid (below_dN HB.out k)))
  try rw [HV0.out]
  rw [rounds_succ]
  go_wp2_with (first
    | (guard_target =~ Code.wp _ (Code.region _ _ true) _ _ _; go_quiet (fail))
    | (go_at_call 105; refine (HG.out _).mono ?_; rintro e w1 ⟨rfl, k, rfl⟩; have HB := Lib.hid (below_dN HB.out k)))
  try rw [HV1.out]
  rw [rounds_succ]
  go_wp2_with (first
    | (guard_target =~ Code.wp _ (Code.region _ _ true) _ _ _; go_quiet (fail))
    | (go_at_call 105; refine (HG.out _).mono ?_; rintro e w1 ⟨rfl, k, rfl⟩; have HB := Lib.hid (below_dN HB.out k)))
  all_goals first | exact HK.out _ _ ⟨rfl, rfl, rfl, (by first | rfl | exact congrArg S HR.out | exact congrArg S HR2.out), rfl, rfl, rfl, rfl, rfl, rfl, rfl, rfl, rfl, rfl, rfl, rfl, rfl, rfl, rfl, rfl, rfl, rfl, rfl⟩ HB.out | exact HK.out _ _ ⟨rfl, rfl, rfl, (by first | rfl | exact congrArg S HR.out | exact congrArg S HR2.out), rfl, rfl, rfl, rfl, rfl, rfl, rfl, rfl, rfl, rfl, rfl, rfl, rfl, rfl, rfl, rfl, rfl, rfl, rfl⟩ (below_dN HB.out _) | exact HK.out _ _ ⟨rfl, rfl, rfl, (by first | rfl | exact congrArg S HR.out | exact congrArg S HR2.out), rfl, rfl, rfl, rfl, rfl, rfl, rfl, rfl, rfl, rfl, rfl, rfl, rfl, rfl, rfl, rfl, rfl, rfl, rfl⟩ (below_drewN _ _)
set_option maxRecDepth 100000 in
set_option maxHeartbeats 1000000 in
theorem hand69_13 (v : V69) (x : Int) (rest : Bytes) (c : UInt8) (t : Bytes) (hv0 : v.val = c :: t) (hc : c.toNat ≠ 32) (hg : Getn 105 true v.val x rest) (hmx : v.val.length ≤ 1099511627776) : Hand69 11 523 523 v { v with val := rest, yd := x } := by
  intro w u Q hK
  obtain ⟨lay, val, loc, p, am, pm, y, m, d, yd, h, mi, s, ns, z, zo, zn⟩ := v
  simp only at hv0 hg hmx
  have hix0 : ∀ h : 0 < (bs val).size, (bs val)[0]'h = c := fun h => by rw [bs_get]; simp only [hv0]; rfl
  have hll0 : 1 ≤ val.length := by rw [hv0]; simp
  have hcb := c.toNat_lt
  have HR : Hid (rest = rest) := Lib.hid rfl
  have HR2 := HR
  have HG := Lib.hid hg
  unfold Getn at HG
  clear hg hv0
  have HK := Lib.hid hK
  have HB : Hid (Below w.heap.size w w) := Lib.hid (Below.refl _ _)
  clear hK
  unfold fr69t
  conv => arg 2; whnf
  go_wp2_with (first
    | (guard_target =~ Code.wp _ (Code.region _ _ true) _ _ _; go_quiet (fail))
    | (go_at_call 105; refine (HG.out _).mono ?_; rintro e w1 ⟨rfl, k, rfl⟩; have HB := Lib.hid (below_dN HB.out k)))
  refine wp_loop_rounds 3 ?_
  rw [rounds_succ]
  go_wp2_with (first
    | (guard_target =~ Code.wp _ (Code.region _ _ true) _ _ _; go_quiet (fail))
    | (go_at_call 105; refine (HG.out _).mono ?_; rintro e w1 ⟨rfl, k, rfl⟩; have HB := Lib.hid (below_dN HB.out k)))
  rw [rounds_succ]
  go_wp2_with (first
    | (guard_target =~ Code.wp _ (Code.region _ _ true) _ _ _; go_quiet (fail))
    | (go_at_call 105; refine (HG.out _).mono ?_; rintro e w1 ⟨rfl, k, rfl⟩; have HB := Lib.hid (below_dN HB.out k)))
  rw [rounds_succ]
  go_wp2_with (first
    | (guard_target =~ Code.wp _ (Code.region _ _ true) _ _ _; go_quiet (fail))
    | (go_at_call 105; refine (HG.out _).mono ?_; rintro e w1 ⟨rfl, k, rfl⟩; have HB := Lib.hid (below_dN HB.out k)))
  all_goals first | exact HK.out _ _ ⟨rfl, rfl, rfl, (by first | rfl | exact congrArg S HR.out | exact congrArg S HR2.out), rfl, rfl, rfl, rfl, rfl, rfl, rfl, rfl, rfl, rfl, rfl, rfl, rfl, rfl, rfl, rfl, rfl, rfl, rfl⟩ HB.out | exact HK.out _ _ ⟨rfl, rfl, rfl, (by first | rfl | exact congrArg S HR.out | exact congrArg S HR2.out), rfl, rfl, rfl, rfl, rfl, rfl, rfl, rfl, rfl, rfl, rfl, rfl, rfl, rfl, rfl, rfl, rfl, rfl, rfl⟩ (below_dN HB.out _) | exact HK.out _ _ ⟨rfl, rfl, rfl, (by first | rfl | exact congrArg S HR.out | exact congrArg S HR2.out), rfl, rfl, rfl, rfl, rfl, rfl, rfl, rfl, rfl, rfl, rfl, rfl, rfl, rfl, rfl, rfl, rfl, rfl, rfl⟩ (below_drewN _ _)
set_option maxRecDepth 100000 in
set_option maxHeartbeats 4000000 in
theorem chain69R_12 (v : V69) (R : V69 → World → Prop) (hh : Hand69R 11 522 522 v R) : Par69R 522 522 v R := by
  intro w u K Qx hs hK
  have HH : Hid (∀ (a : Act) (Q : Exit → Act → World → Prop), At69t v 522 522 a → (∀ v2 a2 w2, At69n v2 a2 → Below w.heap.size w w2 → R v2 w2 → Q (.exit 2) a2 w2) → (hand69 11).wp Tryz.prog Q a w) := by
    show ∀ a Q, _
    intro a Q hA hq
    obtain ⟨u, rfl⟩ := hA.open
    exact hh w u Q hs hq
  obtain ⟨lay, val, loc, p, am, pm, y, m, d, yd, h, mi, s, ns, z, zo, zn⟩ := v
  have HK := Lib.hid hK
  clear hK hh hs
  unfold fr69t
  conv => arg 2; whnf
  repeat' (first
    | (guard_target =~ Code.wp _ (Code.seq _ (Code.exit 2)) _ _ _; refine HH.out _ _ ⟨rfl, rfl, rfl, rfl, rfl, rfl, rfl, rfl, rfl, rfl, rfl, rfl, rfl, rfl, rfl, rfl, rfl, rfl, rfl, rfl, rfl, rfl, rfl, rfl, rfl⟩ ?_; intro v2 a2 w2 hA2 hB2 hR2; have HA2 := Lib.hid hA2; have HB2 := Lib.hid hB2; have HR2 := Lib.hid hR2; clear hA2 hB2 hR2)
    | (guard_target =~ K _ _; exact HK.out _ _ _ HA2.out HB2.out HR2.out)
    | (guard_target =~ Exit.then _ _ _ _ _; first | refine then_ex ?_ | refine then_no ?_)
    | (guard_target =~ Exit.inBlock _ _ _ _ _; first | refine blk_same ?_ | refine blk_ne (by decide) ?_ | refine blk_no ?_)
    | go_guarded
    | go_skip
    | go_step
    | go_upon
    | go_back
    | go_simp)
set_option maxRecDepth 100000 in
set_option maxHeartbeats 4000000 in
theorem chain69R_13 (v : V69) (R : V69 → World → Prop) (hh : Hand69R 11 523 523 v R) : Par69R 523 523 v R := by
  intro w u K Qx hs hK
  have HH : Hid (∀ (a : Act) (Q : Exit → Act → World → Prop), At69t v 523 523 a → (∀ v2 a2 w2, At69n v2 a2 → Below w.heap.size w w2 → R v2 w2 → Q (.exit 2) a2 w2) → (hand69 11).wp Tryz.prog Q a w) := by
    show ∀ a Q, _
    intro a Q hA hq
    obtain ⟨u, rfl⟩ := hA.open
    exact hh w u Q hs hq
  obtain ⟨lay, val, loc, p, am, pm, y, m, d, yd, h, mi, s, ns, z, zo, zn⟩ := v
  have HK := Lib.hid hK
  clear hK hh hs
  unfold fr69t
  conv => arg 2; whnf
  repeat' (first
    | (guard_target =~ Code.wp _ (Code.seq _ (Code.exit 2)) _ _ _; refine HH.out _ _ ⟨rfl, rfl, rfl, rfl, rfl, rfl, rfl, rfl, rfl, rfl, rfl, rfl, rfl, rfl, rfl, rfl, rfl, rfl, rfl, rfl, rfl, rfl, rfl, rfl, rfl⟩ ?_; intro v2 a2 w2 hA2 hB2 hR2; have HA2 := Lib.hid hA2; have HB2 := Lib.hid hB2; have HR2 := Lib.hid hR2; clear hA2 hB2 hR2)
    | (guard_target =~ K _ _; exact HK.out _ _ _ HA2.out HB2.out HR2.out)
    | (guard_target =~ Exit.then _ _ _ _ _; first | refine then_ex ?_ | refine then_no ?_)
    | (guard_target =~ Exit.inBlock _ _ _ _ _; first | refine blk_same ?_ | refine blk_ne (by decide) ?_ | refine blk_no ?_)
    | go_guarded
    | go_skip
    | go_step
    | go_upon
    | go_back
    | go_simp)
end Go.Proofs.YtndhiemagankeaaGreatDoor
/- The plain law: days of the year, seconds, halves and fractions are read back. -/
namespace Go.Proofs.YtndhiemagankeaaGreatDoor
open Go.RowKit
set_option linter.unusedVariables false
set_option linter.unusedSimpArgs false
theorem Hand69R.mono {k : Nat} {std code : Int} {v : V69} {R R2 : V69 → World → Prop} (h : Hand69R k std code v R) (hR : ∀ v2 w, R v2 w → R2 v2 w) : Hand69R k std code v R2 :=
  fun w u Q hs hQ => h w u Q hs fun v2 a2 w2 hA hB hr => hQ v2 a2 w2 hA hB (hR v2 w2 hr)
theorem yearDay_bd6 {c : Civ} (hc : CivB c) : 1 ≤ yearDay c.year c.month c.day ∧ yearDay c.year c.month c.day ≤ 366 := by
  have h1 := hc.m0
  have h2 := hc.m1
  have h3 := hc.d0
  have h4 := hc.d1
  obtain ⟨r1, r2, r3, r4, r5⟩ := march_of c.year c.month c.day hc.m0 hc.m1 hc.d0 hc.d1
  have hj := yearDay_bd c.year c.month c.day h1 h2 h3 (by have := days_bd' c.year c.month; omega)
  refine ⟨hj.1, ?_⟩
  rw [yearDay_law c.year c.month c.day hc.m0 hc.m1]
  by_cases h : c.month < 3
  · rw [if_pos h]
    omega
  · rw [if_neg h]
    split <;> omega
theorem getn_yday (x : Int) (rest : Bytes) (h0 : 0 ≤ x) (h1 : x ≤ 999) (hr : rest.length ≤ 1099511627776) (hd : digitAt rest 0 = false) : Getn 105 false (digits x 1 ++ rest) x rest := by
  intro w
  obtain ⟨d1, d2⟩ := digits_law x 1 h0
  have hl := dec_len_pow 2 x h0 (by simp; omega)
  have hl2 : (digits x 1).length = (dec x).length := by unfold digits padB; simp; omega
  have := getnum3_c (digits x 1) rest false w d1 (by omega) (by omega) (.inr ⟨rfl, hd⟩) hr
  rw [d2] at this
  exact this
theorem getn_yday3 (x : Int) (rest : Bytes) (h0 : 0 ≤ x) (h1 : x ≤ 999) (hr : rest.length ≤ 1099511627776) : Getn 105 true (digits x 3 ++ rest) x rest := by
  intro w
  obtain ⟨d1, d2⟩ := digits_law x 3 h0
  have hl := digits_length 3 x h0 (by decide) (by simp; omega)
  have := getnum3_c (digits x 3) rest true w d1 (by omega) (by omega) (.inl hl) hr
  rw [d2] at this
  exact this
theorem elem_12 (c : Civ) (hc : CivB c) (t : Bytes) (n : Int) (b : Bool) (rest : Bytes) (v : V69) (hmx : v.val.length ≤ 1000000000) (hd : digitAt rest 0 = false) (hval : v.val = digits (yearDay c.year c.month c.day) 1 ++ rest ∨ v.val = 32 :: (digits (yearDay c.year c.month c.day) 1 ++ rest) ∨ v.val = 32 :: 32 :: (digits (yearDay c.year c.month c.day) 1 ++ rest)) :
    Par69R 522 522 v (fun v2 w => Step ⟨12, t, n, b⟩ c rest v v2 w) := by
  have hr : rest.length ≤ 1000000000 := by rcases hval with h | h | h <;> rw [h] at hmx <;> simp at hmx <;> omega
  obtain ⟨y0, y1⟩ := yearDay_bd6 hc
  have hg := getn_yday (yearDay c.year c.month c.day) rest (by omega) (by omega) (by omega) hd
  obtain ⟨ch, s, hh, hch⟩ := digits1_head (yearDay c.year c.month c.day) (by omega) 0 rest
  have hcn : ch.toNat ≠ 32 := by have := (isD_iff ch).1 hch; omega
  refine chain69R_12 v _ ?_
  rcases hval with h | h | h
  · rw [← h] at hg
    exact (hand69_12a v _ rest ch s (h.trans hh) hcn hg (by omega)).r fun w => by constructor <;> first | rfl | exact .inr (.inr ⟨rfl, rfl⟩) | exact .inr ⟨rfl, rfl⟩ | (simp [within, isFraction]; done) | (simp [within, isFraction]; omega)
  · exact (hand69_12b v _ _ rest h ch s hh hcn hg (by omega)).r fun w => by constructor <;> first | rfl | exact .inr (.inr ⟨rfl, rfl⟩) | exact .inr ⟨rfl, rfl⟩ | (simp [within, isFraction]; done) | (simp [within, isFraction]; omega)
  · exact (hand69_12c v _ _ _ rest h rfl ch s hh hcn hg (by omega)).r fun w => by constructor <;> first | rfl | exact .inr (.inr ⟨rfl, rfl⟩) | exact .inr ⟨rfl, rfl⟩ | (simp [within, isFraction]; done) | (simp [within, isFraction]; omega)
theorem elem_13 (c : Civ) (hc : CivB c) (t : Bytes) (n : Int) (b : Bool) (rest : Bytes) (v : V69) (hmx : v.val.length ≤ 1000000000) (hval : v.val = digits (yearDay c.year c.month c.day) 3 ++ rest) : Par69R 523 523 v (fun v2 w => Step ⟨13, t, n, b⟩ c rest v v2 w) := by
  have hr : rest.length ≤ 1000000000 := by rw [hval] at hmx; simp at hmx; omega
  obtain ⟨y0, y1⟩ := yearDay_bd6 hc
  have hg := getn_yday3 (yearDay c.year c.month c.day) rest (by omega) (by omega) (by omega)
  obtain ⟨ch, s, hh, hch⟩ := digits1_head (yearDay c.year c.month c.day) (by omega) 2 rest
  have hcn : ch.toNat ≠ 32 := by have := (isD_iff ch).1 hch; omega
  rw [← hval] at hg
  exact chain69R_13 v _ ((hand69_13 v _ rest ch s (hval.trans hh) hcn hg (by omega)).r fun w => by constructor <;> first | rfl | exact .inr (.inr ⟨rfl, rfl⟩) | exact .inr ⟨rfl, rfl⟩ | (simp [within, isFraction]; done) | (simp [within, isFraction]; omega))
/-- What stands behind seconds, as the reader looks at it. -/
def SecAt (lay rest : Bytes) : Prop := Quiet rest ∨ ∃ m d t, rest = m :: d :: t ∧ (m == 46 || m == 44) = true ∧ isD d = true ∧
  ∃ std2 t2 r2, (bits .and .i64 std2 65535 = 34 ∨ bits .and .i64 std2 65535 = 35) ∧ ∀ w, StdAt w → Calls Tryz.prog 94 #[S lay] w fun e w' => e = .returned (.tuple #[S t2, .int .i64 std2, S r2]) ∧ ∃ n, w' = w.drewN n
theorem SecAt.digit {lay rest : Bytes} (h : SecAt lay rest) : digitAt rest 0 = false := by
  rcases h with h | ⟨m, d, t, rfl, hm, -⟩
  · exact h.digit
  · have : isD m = false := by
      simp at hm
      rcases hm with rfl | rfl <;> decide
    simpa [digitAt] using this
theorem elem_19 (c : Civ) (hc : CivB c) (t : Bytes) (n : Int) (b : Bool) (rest : Bytes) (v : V69) (hmx : v.val.length ≤ 1000000000) (hq : SecAt v.lay rest) (hval : v.val = digits c.second 1 ++ rest) : Par69R 1041 1041 v (fun v2 w => Step ⟨19, t, n, b⟩ c rest v v2 w) := by
  have hr : rest.length ≤ 1000000000 := by rw [hval] at hmx; simp at hmx; omega
  have hb0 := hc.s0
  have hb1 := hc.s1
  have hg : Getn 102 false v.val c.second rest := by rw [hval]; exact getn_free c.second rest (by omega) (by omega) (by omega) hq.digit
  refine chain69R_19 v _ ?_
  rcases hq with hq | ⟨m, d, s, hrs, hm, hd, std2, t2, r2, h2, hn⟩
  · rcases hq with hq | ⟨ch, s, hrs, -, hch⟩
    · exact (hand69_19a v c.second rest hg (by omega) (by omega) (by omega) (by rw [hq]; decide)).r fun w => by constructor <;> first | rfl | exact .inr (.inr ⟨rfl, rfl⟩) | exact .inr ⟨rfl, rfl⟩ | (simp [within, isFraction]; done) | (simp [within, isFraction]; omega)
    · exact (hand69_19b v c.second rest hg (by omega) (by omega) (by omega) ch s hrs hch).r fun w => by constructor <;> first | rfl | exact .inr (.inr ⟨rfl, rfl⟩) | exact .inr ⟨rfl, rfl⟩ | (simp [within, isFraction]; done) | (simp [within, isFraction]; omega)
  · rcases h2 with h2 | h2
    · exact (hand69_19c v c.second rest hg (by omega) (by omega) (by omega) m d s hrs hm hd std2 t2 r2 h2 hn).mono fun v2 w e => by subst e; constructor <;> first | rfl | exact .inr (.inr ⟨rfl, rfl⟩) | exact .inr ⟨rfl, rfl⟩ | (simp [within, isFraction]; done) | (simp [within, isFraction]; omega)
    · exact (hand69_19d v c.second rest hg (by omega) (by omega) (by omega) m d s hrs hm hd std2 t2 r2 h2 hn).mono fun v2 w e => by subst e; constructor <;> first | rfl | exact .inr (.inr ⟨rfl, rfl⟩) | exact .inr ⟨rfl, rfl⟩ | (simp [within, isFraction]; done) | (simp [within, isFraction]; omega)
theorem elem_20 (c : Civ) (hc : CivB c) (t : Bytes) (n : Int) (b : Bool) (rest : Bytes) (v : V69) (hmx : v.val.length ≤ 1000000000) (hq : SecAt v.lay rest) (hval : v.val = digits c.second 2 ++ rest) : Par69R 1042 1042 v (fun v2 w => Step ⟨20, t, n, b⟩ c rest v v2 w) := by
  have hr : rest.length ≤ 1000000000 := by rw [hval] at hmx; simp at hmx; omega
  have hb0 := hc.s0
  have hb1 := hc.s1
  have hg : Getn 102 true v.val c.second rest := by rw [hval]; exact getn_two c.second rest true (by omega) (by omega) (by omega)
  refine chain69R_20 v _ ?_
  rcases hq with hq | ⟨m, d, s, hrs, hm, hd, std2, t2, r2, h2, hn⟩
  · rcases hq with hq | ⟨ch, s, hrs, -, hch⟩
    · exact (hand69_20a v c.second rest hg (by omega) (by omega) (by omega) (by rw [hq]; decide)).r fun w => by constructor <;> first | rfl | exact .inr (.inr ⟨rfl, rfl⟩) | exact .inr ⟨rfl, rfl⟩ | (simp [within, isFraction]; done) | (simp [within, isFraction]; omega)
    · exact (hand69_20b v c.second rest hg (by omega) (by omega) (by omega) ch s hrs hch).r fun w => by constructor <;> first | rfl | exact .inr (.inr ⟨rfl, rfl⟩) | exact .inr ⟨rfl, rfl⟩ | (simp [within, isFraction]; done) | (simp [within, isFraction]; omega)
  · rcases h2 with h2 | h2
    · exact (hand69_20c v c.second rest hg (by omega) (by omega) (by omega) m d s hrs hm hd std2 t2 r2 h2 hn).mono fun v2 w e => by subst e; constructor <;> first | rfl | exact .inr (.inr ⟨rfl, rfl⟩) | exact .inr ⟨rfl, rfl⟩ | (simp [within, isFraction]; done) | (simp [within, isFraction]; omega)
    · exact (hand69_20d v c.second rest hg (by omega) (by omega) (by omega) m d s hrs hm hd std2 t2 r2 h2 hn).mono fun v2 w e => by subst e; constructor <;> first | rfl | exact .inr (.inr ⟨rfl, rfl⟩) | exact .inr ⟨rfl, rfl⟩ | (simp [within, isFraction]; done) | (simp [within, isFraction]; omega)
theorem elem_21 (c : Civ) (hc : CivB c) (t : Bytes) (n : Int) (b : Bool) (rest : Bytes) (v : V69) (hmx : v.val.length ≤ 1000000000) (hval : v.val = halfB c.hour ++ rest) : Par69R 1045 1045 v (fun v2 w => Step ⟨21, t, n, b⟩ c rest v v2 w) := by
  unfold halfB at hval
  by_cases h : 12 ≤ c.hour
  · rw [if_pos h] at hval
    exact (par69_21p v rest hval (by omega)).r fun w => by
      have e1 : decide (c.hour < 12) = false := by simp; omega
      have e2 : decide (12 ≤ c.hour) = true := by simp; omega
      constructor <;> first | rfl | exact .inr (.inr ⟨rfl, rfl⟩) | exact .inr ⟨rfl, rfl⟩ | (rw [e1]; simp) | (rw [e2]; simp)
  · rw [if_neg h] at hval
    exact (par69_21a v rest hval (by omega)).r fun w => by
      have e1 : decide (c.hour < 12) = true := by simp; omega
      have e2 : decide (12 ≤ c.hour) = false := by simp; omega
      constructor <;> first | rfl | exact .inr (.inr ⟨rfl, rfl⟩) | exact .inr ⟨rfl, rfl⟩ | (rw [e1]; simp) | (rw [e2]; simp)
theorem elem_33 (c : Civ) (hc : CivB c) (t : Bytes) (n : Int) (b : Bool) (rest : Bytes) (v : V69) (hmx : v.val.length ≤ 1000000000) (n0 : 1 ≤ n) (n9 : n ≤ 9) (hval : v.val = fraction c.nano n.toNat b ++ rest) : Par69R (fstd 34 n.toNat b) 34 v (fun v2 w => Step ⟨33, t, n, b⟩ c rest v v2 w) := by
  have hr : rest.length ≤ 1000000000 := by rw [hval] at hmx; simp at hmx; omega
  obtain ⟨m, ds, e1, e2, e3, e4, e5⟩ := fraction_parts c.nano n.toNat b hc.f0 hc.f1 (by omega) (by omega)
  rw [e1] at hval
  refine (par69_33 v n.toNat b (cut c.nano n.toNat) (m :: ds) rest (by omega) (by omega) hval (by simp; omega) (by omega) ?_).r fun w => by constructor <;> first | rfl | exact .inl ⟨rfl, rfl⟩ | exact .inr ⟨rfl, rfl⟩ | (simp [within, isFraction]; done)
  intro w
  have := parseNanoseconds_c m ds rest (1 + (n.toNat : Int)) w e2 e4 (by omega) (by omega) (by omega) (by omega)
  rw [e5] at this
  rw [hval]
  exact this
theorem elem_34 (c : Civ) (hc : CivB c) (t : Bytes) (n : Int) (b : Bool) (rest : Bytes) (v : V69) (hmx : v.val.length ≤ 1000000000) (n0 : 1 ≤ n) (n9 : n ≤ 9) (hq : Quiet rest) (hval : v.val = trimmed c.nano n.toNat b ++ rest) : Par69R (fstd 35 n.toNat b) 35 v (fun v2 w => Step ⟨34, t, n, b⟩ c rest v v2 w) := by
  have hr : rest.length ≤ 1000000000 := by rw [hval] at hmx; simp at hmx; omega
  refine chain69R_34 v (fstd 35 n.toNat b) _ ?_
  rcases trimmed_parts c.nano n.toNat b hc.f0 hc.f1 (by omega) with ⟨e1, e2⟩ | ⟨m, d, ds, e1, e2, e3, e4, e5⟩
  · rw [e1] at hval
    have hval : v.val = rest := hval
    have hfin : ∀ w, Step ⟨34, t, n, b⟩ c rest v { v with val := rest } w := fun w => by constructor <;> first | rfl | exact .inr (.inl ⟨rfl, rfl, e2⟩) | exact .inr ⟨rfl, rfl⟩ | (simp [within, isFraction]; done)
    rcases hq with hq | ⟨ch, s, hrs, -, hch⟩
    · exact (hand69_34a v n.toNat b rest (by omega) hval (by rw [hq]; decide)).r hfin
    · exact (hand69_34b v n.toNat b rest (by omega) hval ch s hrs hch).r hfin
  · rw [e1] at hval
    refine (hand69_34c v n.toNat b m d ds rest hval e2 e4 e3 hq.digit (by omega)).r fun w => ?_
    rw [e5]
    constructor <;> first | rfl | exact .inl ⟨rfl, rfl⟩ | exact .inr ⟨rfl, rfl⟩ | (simp [within, isFraction]; done)
end Go.Proofs.YtndhiemagankeaaGreatDoor
/- The plain law: offsets and abbreviations are read back. -/
namespace Go.Proofs.YtndhiemagankeaaGreatDoor
open Go.RowKit
set_option linter.unusedVariables false
set_option linter.unusedSimpArgs false
theorem offset_neg (off a : Int) (h : off < 0) (ha : a = -off) (m s c : Bool) : offsetText off m s c = 45 :: (digits (a / 3600) 2 ++ ((if m = true then (if c = true then [58] else []) ++ digits (a / 60 % 60) 2 else []) ++ (if s = true then (if c = true then [58] else []) ++ digits (a % 60) 2 else []))) := by
  subst ha
  unfold offsetText
  simp only [if_pos h]
  simp
theorem offset_pos (off : Int) (h : ¬ off < 0) (m s c : Bool) : offsetText off m s c = 43 :: (digits (off / 3600) 2 ++ ((if m = true then (if c = true then [58] else []) ++ digits (off / 60 % 60) 2 else []) ++ (if s = true then (if c = true then [58] else []) ++ digits (off % 60) 2 else []))) := by
  unfold offsetText
  simp only [if_neg h]
  simp
theorem two_at (x : Int) (h0 : 0 ≤ x) (h1 : x ≤ 99) : ∃ d0 d1, digits x 2 = [d0, d1] ∧ Getn 102 true [d0, d1] x [] := by
  have hg := getn_two x [] true h0 h1 (by simp)
  rw [List.append_nil] at hg
  have e := digits_two x h0 (by omega)
  rw [e] at hg
  exact ⟨_, _, e, hg⟩
theorem zero_at : Getn 102 true [48, 48] 0 [] := by
  obtain ⟨d0, d1, e, hg⟩ := two_at 0 (by omega) (by omega)
  have : digits 0 2 = [48, 48] := by rw [digits_two 0 (by omega) (by omega)]; decide
  rw [this] at e
  rw [e]
  exact hg
theorem elem_22 (c : Civ) (hc : CivB c) (t : Bytes) (n : Int) (b : Bool) (rest : Bytes) (v : V69) (hmx : v.val.length ≤ 1000000000) (hf : (60 : Int) ∣ c.zone.off) (hval : v.val = offsetText c.zone.off true false false ++ rest) : Par69R 29 29 v (fun v2 w => Step ⟨22, t, n, b⟩ c rest v v2 w) := by
  have o0 := (znB hc.z).o0
  have o1 := (znB hc.z).o1
  have hU : zU c ⟨22, t, n, b⟩ = false := by simp [zU, isISO, within]
  have hN : zN c ⟨22, t, n, b⟩ = true := by simp [zN, isZone, isISO, within]
  by_cases hs : c.zone.off < 0
  · obtain ⟨a, ha⟩ : ∃ a, a = -c.zone.off := ⟨_, rfl⟩
    obtain ⟨h0, h1, e1, H1⟩ := two_at (a / 3600) (by omega) (by omega)
    obtain ⟨m0, m1, e2, H2⟩ := two_at (a / 60 % 60) (by omega) (by omega)
    have hv : v.val = 45 :: h0 :: h1 :: m0 :: m1 :: rest := by rw [hval, offset_neg _ a hs ha, e1, e2]; rfl
    have hoff : -(((a / 3600) * 60 + a / 60 % 60) * 60 + 0) = c.zone.off := by omega
    refine chain69R_22 v _ ((hand69_22n v h0 h1 m0 m1 rest hv (by omega) (a / 3600) (a / 60 % 60) 0 H1 H2 zero_at (by omega) (by omega) (by omega) (by omega) (by omega) (by omega)).r fun w => ?_)
    refine ⟨rfl, rfl, rfl, rfl, by simp, by simp, rfl, rfl, rfl, rfl, rfl, rfl, rfl, .inr (.inr ⟨rfl, rfl⟩), .inr ⟨hU, rfl⟩, ?_, rfl⟩
    rw [hN, if_pos rfl]
    exact hoff
  · obtain ⟨h0, h1, e1, H1⟩ := two_at (c.zone.off / 3600) (by omega) (by omega)
    obtain ⟨m0, m1, e2, H2⟩ := two_at (c.zone.off / 60 % 60) (by omega) (by omega)
    have hv : v.val = 43 :: h0 :: h1 :: m0 :: m1 :: rest := by rw [hval, offset_pos _ hs, e1, e2]; rfl
    have hoff : ((c.zone.off / 3600) * 60 + c.zone.off / 60 % 60) * 60 + 0 = c.zone.off := by omega
    refine chain69R_22 v _ ((hand69_22p v h0 h1 m0 m1 rest hv (by omega) (c.zone.off / 3600) (c.zone.off / 60 % 60) 0 H1 H2 zero_at (by omega) (by omega) (by omega) (by omega) (by omega) (by omega)).r fun w => ?_)
    refine ⟨rfl, rfl, rfl, rfl, by simp, by simp, rfl, rfl, rfl, rfl, rfl, rfl, rfl, .inr (.inr ⟨rfl, rfl⟩), .inr ⟨hU, rfl⟩, ?_, rfl⟩
    rw [hN, if_pos rfl]
    exact hoff
theorem elem_23 (c : Civ) (hc : CivB c) (t : Bytes) (n : Int) (b : Bool) (rest : Bytes) (v : V69) (hmx : v.val.length ≤ 1000000000) (hf : (60 : Int) ∣ c.zone.off) (hval : v.val = offsetText c.zone.off true false true ++ rest) : Par69R 32 32 v (fun v2 w => Step ⟨23, t, n, b⟩ c rest v v2 w) := by
  have o0 := (znB hc.z).o0
  have o1 := (znB hc.z).o1
  have hU : zU c ⟨23, t, n, b⟩ = false := by simp [zU, isISO, within]
  have hN : zN c ⟨23, t, n, b⟩ = true := by simp [zN, isZone, isISO, within]
  by_cases hs : c.zone.off < 0
  · obtain ⟨a, ha⟩ : ∃ a, a = -c.zone.off := ⟨_, rfl⟩
    obtain ⟨h0, h1, e1, H1⟩ := two_at (a / 3600) (by omega) (by omega)
    obtain ⟨m0, m1, e2, H2⟩ := two_at (a / 60 % 60) (by omega) (by omega)
    have hv : v.val = 45 :: h0 :: h1 :: 58 :: m0 :: m1 :: rest := by rw [hval, offset_neg _ a hs ha, e1, e2]; rfl
    have hoff : -(((a / 3600) * 60 + a / 60 % 60) * 60 + 0) = c.zone.off := by omega
    refine chain69R_23 v _ ((hand69_23n v h0 h1 m0 m1 rest hv (by omega) (a / 3600) (a / 60 % 60) 0 H1 H2 zero_at (by omega) (by omega) (by omega) (by omega) (by omega) (by omega)).r fun w => ?_)
    refine ⟨rfl, rfl, rfl, rfl, by simp, by simp, rfl, rfl, rfl, rfl, rfl, rfl, rfl, .inr (.inr ⟨rfl, rfl⟩), .inr ⟨hU, rfl⟩, ?_, rfl⟩
    rw [hN, if_pos rfl]
    exact hoff
  · obtain ⟨h0, h1, e1, H1⟩ := two_at (c.zone.off / 3600) (by omega) (by omega)
    obtain ⟨m0, m1, e2, H2⟩ := two_at (c.zone.off / 60 % 60) (by omega) (by omega)
    have hv : v.val = 43 :: h0 :: h1 :: 58 :: m0 :: m1 :: rest := by rw [hval, offset_pos _ hs, e1, e2]; rfl
    have hoff : ((c.zone.off / 3600) * 60 + c.zone.off / 60 % 60) * 60 + 0 = c.zone.off := by omega
    refine chain69R_23 v _ ((hand69_23p v h0 h1 m0 m1 rest hv (by omega) (c.zone.off / 3600) (c.zone.off / 60 % 60) 0 H1 H2 zero_at (by omega) (by omega) (by omega) (by omega) (by omega) (by omega)).r fun w => ?_)
    refine ⟨rfl, rfl, rfl, rfl, by simp, by simp, rfl, rfl, rfl, rfl, rfl, rfl, rfl, .inr (.inr ⟨rfl, rfl⟩), .inr ⟨hU, rfl⟩, ?_, rfl⟩
    rw [hN, if_pos rfl]
    exact hoff
theorem elem_24 (c : Civ) (hc : CivB c) (t : Bytes) (n : Int) (b : Bool) (rest : Bytes) (v : V69) (hmx : v.val.length ≤ 1000000000) (hf : (3600 : Int) ∣ c.zone.off) (hval : v.val = offsetText c.zone.off false false false ++ rest) : Par69R 31 31 v (fun v2 w => Step ⟨24, t, n, b⟩ c rest v v2 w) := by
  have o0 := (znB hc.z).o0
  have o1 := (znB hc.z).o1
  have hU : zU c ⟨24, t, n, b⟩ = false := by simp [zU, isISO, within]
  have hN : zN c ⟨24, t, n, b⟩ = true := by simp [zN, isZone, isISO, within]
  by_cases hs : c.zone.off < 0
  · obtain ⟨a, ha⟩ : ∃ a, a = -c.zone.off := ⟨_, rfl⟩
    obtain ⟨h0, h1, e1, H1⟩ := two_at (a / 3600) (by omega) (by omega)
    have hv : v.val = 45 :: h0 :: h1 :: rest := by rw [hval, offset_neg _ a hs ha, e1]; rfl
    have hoff : -(((a / 3600) * 60 + 0) * 60 + 0) = c.zone.off := by omega
    refine chain69R_24 v _ ((hand69_24n v h0 h1 rest hv (by omega) (a / 3600) 0 H1 zero_at (by omega) (by omega) (by omega) (by omega)).r fun w => ?_)
    refine ⟨rfl, rfl, rfl, rfl, by simp, by simp, rfl, rfl, rfl, rfl, rfl, rfl, rfl, .inr (.inr ⟨rfl, rfl⟩), .inr ⟨hU, rfl⟩, ?_, rfl⟩
    rw [hN, if_pos rfl]
    exact hoff
  · obtain ⟨h0, h1, e1, H1⟩ := two_at (c.zone.off / 3600) (by omega) (by omega)
    have hv : v.val = 43 :: h0 :: h1 :: rest := by rw [hval, offset_pos _ hs, e1]; rfl
    have hoff : ((c.zone.off / 3600) * 60 + 0) * 60 + 0 = c.zone.off := by omega
    refine chain69R_24 v _ ((hand69_24p v h0 h1 rest hv (by omega) (c.zone.off / 3600) 0 H1 zero_at (by omega) (by omega) (by omega) (by omega)).r fun w => ?_)
    refine ⟨rfl, rfl, rfl, rfl, by simp, by simp, rfl, rfl, rfl, rfl, rfl, rfl, rfl, .inr (.inr ⟨rfl, rfl⟩), .inr ⟨hU, rfl⟩, ?_, rfl⟩
    rw [hN, if_pos rfl]
    exact hoff
theorem elem_25 (c : Civ) (hc : CivB c) (t : Bytes) (n : Int) (b : Bool) (rest : Bytes) (v : V69) (hmx : v.val.length ≤ 1000000000) (hval : v.val = offsetText c.zone.off true true false ++ rest) : Par69R 30 30 v (fun v2 w => Step ⟨25, t, n, b⟩ c rest v v2 w) := by
  have o0 := (znB hc.z).o0
  have o1 := (znB hc.z).o1
  have hU : zU c ⟨25, t, n, b⟩ = false := by simp [zU, isISO, within]
  have hN : zN c ⟨25, t, n, b⟩ = true := by simp [zN, isZone, isISO, within]
  by_cases hs : c.zone.off < 0
  · obtain ⟨a, ha⟩ : ∃ a, a = -c.zone.off := ⟨_, rfl⟩
    obtain ⟨h0, h1, e1, H1⟩ := two_at (a / 3600) (by omega) (by omega)
    obtain ⟨m0, m1, e2, H2⟩ := two_at (a / 60 % 60) (by omega) (by omega)
    obtain ⟨s0, s1, e3, H3⟩ := two_at (a % 60) (by omega) (by omega)
    have hv : v.val = 45 :: h0 :: h1 :: m0 :: m1 :: s0 :: s1 :: rest := by rw [hval, offset_neg _ a hs ha, e1, e2, e3]; rfl
    have hoff : -(((a / 3600) * 60 + a / 60 % 60) * 60 + a % 60) = c.zone.off := by omega
    refine chain69R_25 v _ ((hand69_25n v h0 h1 m0 m1 s0 s1 rest hv (by omega) (a / 3600) (a / 60 % 60) (a % 60) H1 H2 H3 (by omega) (by omega) (by omega) (by omega) (by omega) (by omega)).r fun w => ?_)
    refine ⟨rfl, rfl, rfl, rfl, by simp, by simp, rfl, rfl, rfl, rfl, rfl, rfl, rfl, .inr (.inr ⟨rfl, rfl⟩), .inr ⟨hU, rfl⟩, ?_, rfl⟩
    rw [hN, if_pos rfl]
    exact hoff
  · obtain ⟨h0, h1, e1, H1⟩ := two_at (c.zone.off / 3600) (by omega) (by omega)
    obtain ⟨m0, m1, e2, H2⟩ := two_at (c.zone.off / 60 % 60) (by omega) (by omega)
    obtain ⟨s0, s1, e3, H3⟩ := two_at (c.zone.off % 60) (by omega) (by omega)
    have hv : v.val = 43 :: h0 :: h1 :: m0 :: m1 :: s0 :: s1 :: rest := by rw [hval, offset_pos _ hs, e1, e2, e3]; rfl
    have hoff : ((c.zone.off / 3600) * 60 + c.zone.off / 60 % 60) * 60 + c.zone.off % 60 = c.zone.off := by omega
    refine chain69R_25 v _ ((hand69_25p v h0 h1 m0 m1 s0 s1 rest hv (by omega) (c.zone.off / 3600) (c.zone.off / 60 % 60) (c.zone.off % 60) H1 H2 H3 (by omega) (by omega) (by omega) (by omega) (by omega) (by omega)).r fun w => ?_)
    refine ⟨rfl, rfl, rfl, rfl, by simp, by simp, rfl, rfl, rfl, rfl, rfl, rfl, rfl, .inr (.inr ⟨rfl, rfl⟩), .inr ⟨hU, rfl⟩, ?_, rfl⟩
    rw [hN, if_pos rfl]
    exact hoff
theorem elem_26 (c : Civ) (hc : CivB c) (t : Bytes) (n : Int) (b : Bool) (rest : Bytes) (v : V69) (hmx : v.val.length ≤ 1000000000) (hval : v.val = offsetText c.zone.off true true true ++ rest) : Par69R 33 33 v (fun v2 w => Step ⟨26, t, n, b⟩ c rest v v2 w) := by
  have o0 := (znB hc.z).o0
  have o1 := (znB hc.z).o1
  have hU : zU c ⟨26, t, n, b⟩ = false := by simp [zU, isISO, within]
  have hN : zN c ⟨26, t, n, b⟩ = true := by simp [zN, isZone, isISO, within]
  by_cases hs : c.zone.off < 0
  · obtain ⟨a, ha⟩ : ∃ a, a = -c.zone.off := ⟨_, rfl⟩
    obtain ⟨h0, h1, e1, H1⟩ := two_at (a / 3600) (by omega) (by omega)
    obtain ⟨m0, m1, e2, H2⟩ := two_at (a / 60 % 60) (by omega) (by omega)
    obtain ⟨s0, s1, e3, H3⟩ := two_at (a % 60) (by omega) (by omega)
    have hv : v.val = 45 :: h0 :: h1 :: 58 :: m0 :: m1 :: 58 :: s0 :: s1 :: rest := by rw [hval, offset_neg _ a hs ha, e1, e2, e3]; rfl
    have hoff : -(((a / 3600) * 60 + a / 60 % 60) * 60 + a % 60) = c.zone.off := by omega
    refine chain69R_26 v _ ((hand69_26n v h0 h1 m0 m1 s0 s1 rest hv (by omega) (a / 3600) (a / 60 % 60) (a % 60) H1 H2 H3 (by omega) (by omega) (by omega) (by omega) (by omega) (by omega)).r fun w => ?_)
    refine ⟨rfl, rfl, rfl, rfl, by simp, by simp, rfl, rfl, rfl, rfl, rfl, rfl, rfl, .inr (.inr ⟨rfl, rfl⟩), .inr ⟨hU, rfl⟩, ?_, rfl⟩
    rw [hN, if_pos rfl]
    exact hoff
  · obtain ⟨h0, h1, e1, H1⟩ := two_at (c.zone.off / 3600) (by omega) (by omega)
    obtain ⟨m0, m1, e2, H2⟩ := two_at (c.zone.off / 60 % 60) (by omega) (by omega)
    obtain ⟨s0, s1, e3, H3⟩ := two_at (c.zone.off % 60) (by omega) (by omega)
    have hv : v.val = 43 :: h0 :: h1 :: 58 :: m0 :: m1 :: 58 :: s0 :: s1 :: rest := by rw [hval, offset_pos _ hs, e1, e2, e3]; rfl
    have hoff : ((c.zone.off / 3600) * 60 + c.zone.off / 60 % 60) * 60 + c.zone.off % 60 = c.zone.off := by omega
    refine chain69R_26 v _ ((hand69_26p v h0 h1 m0 m1 s0 s1 rest hv (by omega) (c.zone.off / 3600) (c.zone.off / 60 % 60) (c.zone.off % 60) H1 H2 H3 (by omega) (by omega) (by omega) (by omega) (by omega) (by omega)).r fun w => ?_)
    refine ⟨rfl, rfl, rfl, rfl, by simp, by simp, rfl, rfl, rfl, rfl, rfl, rfl, rfl, .inr (.inr ⟨rfl, rfl⟩), .inr ⟨hU, rfl⟩, ?_, rfl⟩
    rw [hN, if_pos rfl]
    exact hoff
theorem elem_27 (c : Civ) (hc : CivB c) (t : Bytes) (n : Int) (b : Bool) (rest : Bytes) (v : V69) (hmx : v.val.length ≤ 1000000000) (hz : c.zone.off ≠ 0) (hf : (60 : Int) ∣ c.zone.off) (hval : v.val = offsetText c.zone.off true false false ++ rest) : Par69R 24 24 v (fun v2 w => Step ⟨27, t, n, b⟩ c rest v v2 w) := by
  have o0 := (znB hc.z).o0
  have o1 := (znB hc.z).o1
  have hU : zU c ⟨27, t, n, b⟩ = false := by simp [zU, isISO, within, hz]
  have hN : zN c ⟨27, t, n, b⟩ = true := by simp [zN, isZone, isISO, within, hz]
  by_cases hs : c.zone.off < 0
  · obtain ⟨a, ha⟩ : ∃ a, a = -c.zone.off := ⟨_, rfl⟩
    obtain ⟨h0, h1, e1, H1⟩ := two_at (a / 3600) (by omega) (by omega)
    obtain ⟨m0, m1, e2, H2⟩ := two_at (a / 60 % 60) (by omega) (by omega)
    have hv : v.val = 45 :: h0 :: h1 :: m0 :: m1 :: rest := by rw [hval, offset_neg _ a hs ha, e1, e2]; rfl
    have hoff : -(((a / 3600) * 60 + a / 60 % 60) * 60 + 0) = c.zone.off := by omega
    refine chain69R_27n v _ _ hv (by decide) (by omega) _ ((hand69_27n v h0 h1 m0 m1 rest hv (by omega) (a / 3600) (a / 60 % 60) 0 H1 H2 zero_at (by omega) (by omega) (by omega) (by omega) (by omega) (by omega)).r fun w => ?_)
    refine ⟨rfl, rfl, rfl, rfl, by simp, by simp, rfl, rfl, rfl, rfl, rfl, rfl, rfl, .inr (.inr ⟨rfl, rfl⟩), .inr ⟨hU, rfl⟩, ?_, rfl⟩
    rw [hN, if_pos rfl]
    exact hoff
  · obtain ⟨h0, h1, e1, H1⟩ := two_at (c.zone.off / 3600) (by omega) (by omega)
    obtain ⟨m0, m1, e2, H2⟩ := two_at (c.zone.off / 60 % 60) (by omega) (by omega)
    have hv : v.val = 43 :: h0 :: h1 :: m0 :: m1 :: rest := by rw [hval, offset_pos _ hs, e1, e2]; rfl
    have hoff : ((c.zone.off / 3600) * 60 + c.zone.off / 60 % 60) * 60 + 0 = c.zone.off := by omega
    refine chain69R_27n v _ _ hv (by decide) (by omega) _ ((hand69_27p v h0 h1 m0 m1 rest hv (by omega) (c.zone.off / 3600) (c.zone.off / 60 % 60) 0 H1 H2 zero_at (by omega) (by omega) (by omega) (by omega) (by omega) (by omega)).r fun w => ?_)
    refine ⟨rfl, rfl, rfl, rfl, by simp, by simp, rfl, rfl, rfl, rfl, rfl, rfl, rfl, .inr (.inr ⟨rfl, rfl⟩), .inr ⟨hU, rfl⟩, ?_, rfl⟩
    rw [hN, if_pos rfl]
    exact hoff
theorem elem_28 (c : Civ) (hc : CivB c) (t : Bytes) (n : Int) (b : Bool) (rest : Bytes) (v : V69) (hmx : v.val.length ≤ 1000000000) (hz : c.zone.off ≠ 0) (hf : (60 : Int) ∣ c.zone.off) (hval : v.val = offsetText c.zone.off true false true ++ rest) : Par69R 27 27 v (fun v2 w => Step ⟨28, t, n, b⟩ c rest v v2 w) := by
  have o0 := (znB hc.z).o0
  have o1 := (znB hc.z).o1
  have hU : zU c ⟨28, t, n, b⟩ = false := by simp [zU, isISO, within, hz]
  have hN : zN c ⟨28, t, n, b⟩ = true := by simp [zN, isZone, isISO, within, hz]
  by_cases hs : c.zone.off < 0
  · obtain ⟨a, ha⟩ : ∃ a, a = -c.zone.off := ⟨_, rfl⟩
    obtain ⟨h0, h1, e1, H1⟩ := two_at (a / 3600) (by omega) (by omega)
    obtain ⟨m0, m1, e2, H2⟩ := two_at (a / 60 % 60) (by omega) (by omega)
    have hv : v.val = 45 :: h0 :: h1 :: 58 :: m0 :: m1 :: rest := by rw [hval, offset_neg _ a hs ha, e1, e2]; rfl
    have hoff : -(((a / 3600) * 60 + a / 60 % 60) * 60 + 0) = c.zone.off := by omega
    refine chain69R_28n v _ _ hv (by decide) (by omega) _ ((hand69_28n v h0 h1 m0 m1 rest hv (by omega) (a / 3600) (a / 60 % 60) 0 H1 H2 zero_at (by omega) (by omega) (by omega) (by omega) (by omega) (by omega)).r fun w => ?_)
    refine ⟨rfl, rfl, rfl, rfl, by simp, by simp, rfl, rfl, rfl, rfl, rfl, rfl, rfl, .inr (.inr ⟨rfl, rfl⟩), .inr ⟨hU, rfl⟩, ?_, rfl⟩
    rw [hN, if_pos rfl]
    exact hoff
  · obtain ⟨h0, h1, e1, H1⟩ := two_at (c.zone.off / 3600) (by omega) (by omega)
    obtain ⟨m0, m1, e2, H2⟩ := two_at (c.zone.off / 60 % 60) (by omega) (by omega)
    have hv : v.val = 43 :: h0 :: h1 :: 58 :: m0 :: m1 :: rest := by rw [hval, offset_pos _ hs, e1, e2]; rfl
    have hoff : ((c.zone.off / 3600) * 60 + c.zone.off / 60 % 60) * 60 + 0 = c.zone.off := by omega
    refine chain69R_28n v _ _ hv (by decide) (by omega) _ ((hand69_28p v h0 h1 m0 m1 rest hv (by omega) (c.zone.off / 3600) (c.zone.off / 60 % 60) 0 H1 H2 zero_at (by omega) (by omega) (by omega) (by omega) (by omega) (by omega)).r fun w => ?_)
    refine ⟨rfl, rfl, rfl, rfl, by simp, by simp, rfl, rfl, rfl, rfl, rfl, rfl, rfl, .inr (.inr ⟨rfl, rfl⟩), .inr ⟨hU, rfl⟩, ?_, rfl⟩
    rw [hN, if_pos rfl]
    exact hoff
theorem elem_29 (c : Civ) (hc : CivB c) (t : Bytes) (n : Int) (b : Bool) (rest : Bytes) (v : V69) (hmx : v.val.length ≤ 1000000000) (hz : c.zone.off ≠ 0) (hf : (3600 : Int) ∣ c.zone.off) (hval : v.val = offsetText c.zone.off false false false ++ rest) : Par69R 26 26 v (fun v2 w => Step ⟨29, t, n, b⟩ c rest v v2 w) := by
  have o0 := (znB hc.z).o0
  have o1 := (znB hc.z).o1
  have hU : zU c ⟨29, t, n, b⟩ = false := by simp [zU, isISO, within, hz]
  have hN : zN c ⟨29, t, n, b⟩ = true := by simp [zN, isZone, isISO, within, hz]
  by_cases hs : c.zone.off < 0
  · obtain ⟨a, ha⟩ : ∃ a, a = -c.zone.off := ⟨_, rfl⟩
    obtain ⟨h0, h1, e1, H1⟩ := two_at (a / 3600) (by omega) (by omega)
    have hv : v.val = 45 :: h0 :: h1 :: rest := by rw [hval, offset_neg _ a hs ha, e1]; rfl
    have hoff : -(((a / 3600) * 60 + 0) * 60 + 0) = c.zone.off := by omega
    refine chain69R_29n v _ _ hv (by decide) (by omega) _ ((hand69_29n v h0 h1 rest hv (by omega) (a / 3600) 0 H1 zero_at (by omega) (by omega) (by omega) (by omega)).r fun w => ?_)
    refine ⟨rfl, rfl, rfl, rfl, by simp, by simp, rfl, rfl, rfl, rfl, rfl, rfl, rfl, .inr (.inr ⟨rfl, rfl⟩), .inr ⟨hU, rfl⟩, ?_, rfl⟩
    rw [hN, if_pos rfl]
    exact hoff
  · obtain ⟨h0, h1, e1, H1⟩ := two_at (c.zone.off / 3600) (by omega) (by omega)
    have hv : v.val = 43 :: h0 :: h1 :: rest := by rw [hval, offset_pos _ hs, e1]; rfl
    have hoff : ((c.zone.off / 3600) * 60 + 0) * 60 + 0 = c.zone.off := by omega
    refine chain69R_29n v _ _ hv (by decide) (by omega) _ ((hand69_29p v h0 h1 rest hv (by omega) (c.zone.off / 3600) 0 H1 zero_at (by omega) (by omega) (by omega) (by omega)).r fun w => ?_)
    refine ⟨rfl, rfl, rfl, rfl, by simp, by simp, rfl, rfl, rfl, rfl, rfl, rfl, rfl, .inr (.inr ⟨rfl, rfl⟩), .inr ⟨hU, rfl⟩, ?_, rfl⟩
    rw [hN, if_pos rfl]
    exact hoff
theorem elem_30 (c : Civ) (hc : CivB c) (t : Bytes) (n : Int) (b : Bool) (rest : Bytes) (v : V69) (hmx : v.val.length ≤ 1000000000) (hz : c.zone.off ≠ 0) (hval : v.val = offsetText c.zone.off true true false ++ rest) : Par69R 25 25 v (fun v2 w => Step ⟨30, t, n, b⟩ c rest v v2 w) := by
  have o0 := (znB hc.z).o0
  have o1 := (znB hc.z).o1
  have hU : zU c ⟨30, t, n, b⟩ = false := by simp [zU, isISO, within, hz]
  have hN : zN c ⟨30, t, n, b⟩ = true := by simp [zN, isZone, isISO, within, hz]
  by_cases hs : c.zone.off < 0
  · obtain ⟨a, ha⟩ : ∃ a, a = -c.zone.off := ⟨_, rfl⟩
    obtain ⟨h0, h1, e1, H1⟩ := two_at (a / 3600) (by omega) (by omega)
    obtain ⟨m0, m1, e2, H2⟩ := two_at (a / 60 % 60) (by omega) (by omega)
    obtain ⟨s0, s1, e3, H3⟩ := two_at (a % 60) (by omega) (by omega)
    have hv : v.val = 45 :: h0 :: h1 :: m0 :: m1 :: s0 :: s1 :: rest := by rw [hval, offset_neg _ a hs ha, e1, e2, e3]; rfl
    have hoff : -(((a / 3600) * 60 + a / 60 % 60) * 60 + a % 60) = c.zone.off := by omega
    refine chain69R_30n v _ _ hv (by decide) (by omega) _ ((hand69_30n v h0 h1 m0 m1 s0 s1 rest hv (by omega) (a / 3600) (a / 60 % 60) (a % 60) H1 H2 H3 (by omega) (by omega) (by omega) (by omega) (by omega) (by omega)).r fun w => ?_)
    refine ⟨rfl, rfl, rfl, rfl, by simp, by simp, rfl, rfl, rfl, rfl, rfl, rfl, rfl, .inr (.inr ⟨rfl, rfl⟩), .inr ⟨hU, rfl⟩, ?_, rfl⟩
    rw [hN, if_pos rfl]
    exact hoff
  · obtain ⟨h0, h1, e1, H1⟩ := two_at (c.zone.off / 3600) (by omega) (by omega)
    obtain ⟨m0, m1, e2, H2⟩ := two_at (c.zone.off / 60 % 60) (by omega) (by omega)
    obtain ⟨s0, s1, e3, H3⟩ := two_at (c.zone.off % 60) (by omega) (by omega)
    have hv : v.val = 43 :: h0 :: h1 :: m0 :: m1 :: s0 :: s1 :: rest := by rw [hval, offset_pos _ hs, e1, e2, e3]; rfl
    have hoff : ((c.zone.off / 3600) * 60 + c.zone.off / 60 % 60) * 60 + c.zone.off % 60 = c.zone.off := by omega
    refine chain69R_30n v _ _ hv (by decide) (by omega) _ ((hand69_30p v h0 h1 m0 m1 s0 s1 rest hv (by omega) (c.zone.off / 3600) (c.zone.off / 60 % 60) (c.zone.off % 60) H1 H2 H3 (by omega) (by omega) (by omega) (by omega) (by omega) (by omega)).r fun w => ?_)
    refine ⟨rfl, rfl, rfl, rfl, by simp, by simp, rfl, rfl, rfl, rfl, rfl, rfl, rfl, .inr (.inr ⟨rfl, rfl⟩), .inr ⟨hU, rfl⟩, ?_, rfl⟩
    rw [hN, if_pos rfl]
    exact hoff
theorem elem_31 (c : Civ) (hc : CivB c) (t : Bytes) (n : Int) (b : Bool) (rest : Bytes) (v : V69) (hmx : v.val.length ≤ 1000000000) (hz : c.zone.off ≠ 0) (hval : v.val = offsetText c.zone.off true true true ++ rest) : Par69R 28 28 v (fun v2 w => Step ⟨31, t, n, b⟩ c rest v v2 w) := by
  have o0 := (znB hc.z).o0
  have o1 := (znB hc.z).o1
  have hU : zU c ⟨31, t, n, b⟩ = false := by simp [zU, isISO, within, hz]
  have hN : zN c ⟨31, t, n, b⟩ = true := by simp [zN, isZone, isISO, within, hz]
  by_cases hs : c.zone.off < 0
  · obtain ⟨a, ha⟩ : ∃ a, a = -c.zone.off := ⟨_, rfl⟩
    obtain ⟨h0, h1, e1, H1⟩ := two_at (a / 3600) (by omega) (by omega)
    obtain ⟨m0, m1, e2, H2⟩ := two_at (a / 60 % 60) (by omega) (by omega)
    obtain ⟨s0, s1, e3, H3⟩ := two_at (a % 60) (by omega) (by omega)
    have hv : v.val = 45 :: h0 :: h1 :: 58 :: m0 :: m1 :: 58 :: s0 :: s1 :: rest := by rw [hval, offset_neg _ a hs ha, e1, e2, e3]; rfl
    have hoff : -(((a / 3600) * 60 + a / 60 % 60) * 60 + a % 60) = c.zone.off := by omega
    refine chain69R_31n v _ _ hv (by decide) (by omega) _ ((hand69_31n v h0 h1 m0 m1 s0 s1 rest hv (by omega) (a / 3600) (a / 60 % 60) (a % 60) H1 H2 H3 (by omega) (by omega) (by omega) (by omega) (by omega) (by omega)).r fun w => ?_)
    refine ⟨rfl, rfl, rfl, rfl, by simp, by simp, rfl, rfl, rfl, rfl, rfl, rfl, rfl, .inr (.inr ⟨rfl, rfl⟩), .inr ⟨hU, rfl⟩, ?_, rfl⟩
    rw [hN, if_pos rfl]
    exact hoff
  · obtain ⟨h0, h1, e1, H1⟩ := two_at (c.zone.off / 3600) (by omega) (by omega)
    obtain ⟨m0, m1, e2, H2⟩ := two_at (c.zone.off / 60 % 60) (by omega) (by omega)
    obtain ⟨s0, s1, e3, H3⟩ := two_at (c.zone.off % 60) (by omega) (by omega)
    have hv : v.val = 43 :: h0 :: h1 :: 58 :: m0 :: m1 :: 58 :: s0 :: s1 :: rest := by rw [hval, offset_pos _ hs, e1, e2, e3]; rfl
    have hoff : ((c.zone.off / 3600) * 60 + c.zone.off / 60 % 60) * 60 + c.zone.off % 60 = c.zone.off := by omega
    refine chain69R_31n v _ _ hv (by decide) (by omega) _ ((hand69_31p v h0 h1 m0 m1 s0 s1 rest hv (by omega) (c.zone.off / 3600) (c.zone.off / 60 % 60) (c.zone.off % 60) H1 H2 H3 (by omega) (by omega) (by omega) (by omega) (by omega) (by omega)).r fun w => ?_)
    refine ⟨rfl, rfl, rfl, rfl, by simp, by simp, rfl, rfl, rfl, rfl, rfl, rfl, rfl, .inr (.inr ⟨rfl, rfl⟩), .inr ⟨hU, rfl⟩, ?_, rfl⟩
    rw [hN, if_pos rfl]
    exact hoff
theorem elem_27z (c : Civ) (hc : CivB c) (t : Bytes) (n : Int) (b : Bool) (rest : Bytes) (v : V69) (hmx : v.val.length ≤ 1000000000) (hz : c.zone.off = 0) (hval : v.val = [90] ++ rest) : Par69R 24 24 v (fun v2 w => Step ⟨27, t, n, b⟩ c rest v v2 w) := by
  have hU : zU c ⟨27, t, n, b⟩ = true := by simp [zU, isISO, within, hz]
  have hN : zN c ⟨27, t, n, b⟩ = false := by simp [zN, isZone, isISO, within, hz]
  refine chain69R_27z v _ ((hand69_18z v 24 rest hval (by omega)).mono fun v2 w e => ?_)
  obtain ⟨zv, rfl, hzv⟩ := e
  refine ⟨rfl, rfl, rfl, rfl, by simp, by simp, rfl, rfl, rfl, rfl, rfl, rfl, rfl, .inr (.inr ⟨rfl, rfl⟩), .inl ⟨hU, hzv⟩, ?_, rfl⟩
  rw [hN]
  rfl
theorem elem_28z (c : Civ) (hc : CivB c) (t : Bytes) (n : Int) (b : Bool) (rest : Bytes) (v : V69) (hmx : v.val.length ≤ 1000000000) (hz : c.zone.off = 0) (hval : v.val = [90] ++ rest) : Par69R 27 27 v (fun v2 w => Step ⟨28, t, n, b⟩ c rest v v2 w) := by
  have hU : zU c ⟨28, t, n, b⟩ = true := by simp [zU, isISO, within, hz]
  have hN : zN c ⟨28, t, n, b⟩ = false := by simp [zN, isZone, isISO, within, hz]
  refine chain69R_28z v _ ((hand69_18z v 27 rest hval (by omega)).mono fun v2 w e => ?_)
  obtain ⟨zv, rfl, hzv⟩ := e
  refine ⟨rfl, rfl, rfl, rfl, by simp, by simp, rfl, rfl, rfl, rfl, rfl, rfl, rfl, .inr (.inr ⟨rfl, rfl⟩), .inl ⟨hU, hzv⟩, ?_, rfl⟩
  rw [hN]
  rfl
theorem elem_29z (c : Civ) (hc : CivB c) (t : Bytes) (n : Int) (b : Bool) (rest : Bytes) (v : V69) (hmx : v.val.length ≤ 1000000000) (hz : c.zone.off = 0) (hval : v.val = [90] ++ rest) : Par69R 26 26 v (fun v2 w => Step ⟨29, t, n, b⟩ c rest v v2 w) := by
  have hU : zU c ⟨29, t, n, b⟩ = true := by simp [zU, isISO, within, hz]
  have hN : zN c ⟨29, t, n, b⟩ = false := by simp [zN, isZone, isISO, within, hz]
  refine chain69R_29z v _ ((hand69_18z v 26 rest hval (by omega)).mono fun v2 w e => ?_)
  obtain ⟨zv, rfl, hzv⟩ := e
  refine ⟨rfl, rfl, rfl, rfl, by simp, by simp, rfl, rfl, rfl, rfl, rfl, rfl, rfl, .inr (.inr ⟨rfl, rfl⟩), .inl ⟨hU, hzv⟩, ?_, rfl⟩
  rw [hN]
  rfl
theorem elem_30z (c : Civ) (hc : CivB c) (t : Bytes) (n : Int) (b : Bool) (rest : Bytes) (v : V69) (hmx : v.val.length ≤ 1000000000) (hz : c.zone.off = 0) (hval : v.val = [90] ++ rest) : Par69R 25 25 v (fun v2 w => Step ⟨30, t, n, b⟩ c rest v v2 w) := by
  have hU : zU c ⟨30, t, n, b⟩ = true := by simp [zU, isISO, within, hz]
  have hN : zN c ⟨30, t, n, b⟩ = false := by simp [zN, isZone, isISO, within, hz]
  refine chain69R_30z v _ ((hand69_18z v 25 rest hval (by omega)).mono fun v2 w e => ?_)
  obtain ⟨zv, rfl, hzv⟩ := e
  refine ⟨rfl, rfl, rfl, rfl, by simp, by simp, rfl, rfl, rfl, rfl, rfl, rfl, rfl, .inr (.inr ⟨rfl, rfl⟩), .inl ⟨hU, hzv⟩, ?_, rfl⟩
  rw [hN]
  rfl
theorem elem_31z (c : Civ) (hc : CivB c) (t : Bytes) (n : Int) (b : Bool) (rest : Bytes) (v : V69) (hmx : v.val.length ≤ 1000000000) (hz : c.zone.off = 0) (hval : v.val = [90] ++ rest) : Par69R 28 28 v (fun v2 w => Step ⟨31, t, n, b⟩ c rest v v2 w) := by
  have hU : zU c ⟨31, t, n, b⟩ = true := by simp [zU, isISO, within, hz]
  have hN : zN c ⟨31, t, n, b⟩ = false := by simp [zN, isZone, isISO, within, hz]
  refine chain69R_31z v _ ((hand69_18z v 28 rest hval (by omega)).mono fun v2 w e => ?_)
  obtain ⟨zv, rfl, hzv⟩ := e
  refine ⟨rfl, rfl, rfl, rfl, by simp, by simp, rfl, rfl, rfl, rfl, rfl, rfl, rfl, .inr (.inr ⟨rfl, rfl⟩), .inl ⟨hU, hzv⟩, ?_, rfl⟩
  rw [hN]
  rfl
theorem elem_32 (c : Civ) (hc : CivB c) (t : Bytes) (n : Int) (b : Bool) (rest : Bytes) (v : V69) (hmx : v.val.length ≤ 1000000000) (ha : abbreviated c.zone = true) (hup : upFirst rest = false) (hval : v.val = c.zone.name ++ rest) : Par69R 23 23 v (fun v2 w => Step ⟨32, t, n, b⟩ c rest v v2 w) := by
  have hr : rest.length ≤ 1000000000 := by rw [hval] at hmx; simp at hmx; omega
  unfold abbreviated at ha
  rw [Bool.and_eq_true, Bool.and_eq_true, Bool.and_eq_true] at ha
  obtain ⟨hall, -, hlen, hgmt⟩ := ha
  obtain ⟨x, y, z, hxyz⟩ : ∃ x y z, c.zone.name = [x, y, z] := by
    have hlen : c.zone.name.length = 3 := by simpa using hlen
    match c.zone.name, hlen with
    | [x, y, z], _ => exact ⟨x, y, z, rfl⟩
  rw [hxyz] at hall hgmt hval
  have hg : ([x, y, z] == gmtB) = false := by simpa using hgmt
  simp at hall
  by_cases hu : ([x, y, z] == utcB) = true
  · have hu' : [x, y, z] = utcB := by simpa using hu
    have hU : zU c ⟨32, t, n, b⟩ = true := by
      simp only [zU]
      rw [hxyz, hu']
      simp [isISO, within]
    have hA : zA c ⟨32, t, n, b⟩ = false := by
      simp only [zA]
      rw [hxyz, hu']
      simp
    rw [hu'] at hval
    refine chain69R_32 v _ ((hand69_32u v rest hval (by omega)).mono fun v2 w e => ?_)
    obtain ⟨zv, rfl, hzv⟩ := e
    refine ⟨rfl, rfl, rfl, rfl, by simp, by simp, rfl, rfl, rfl, rfl, rfl, rfl, rfl, .inr (.inr ⟨rfl, rfl⟩), .inl ⟨hU, hzv⟩, rfl, ?_⟩
    rw [hA]
    rfl
  · have hu' : ([x, y, z] == utcB) = false := by simpa using hu
    have hU : zU c ⟨32, t, n, b⟩ = false := by
      simp only [zU]
      rw [hxyz, hu']
      simp [isISO, within]
    have hA : zA c ⟨32, t, n, b⟩ = true := by
      simp only [zA]
      rw [hxyz, hu']
      simp
    refine (par69_32 v x y z rest hval (by omega) hu' ?_).r fun w => ?_
    · intro w
      rw [hval]
      exact parseTimeZone_c x y z rest w hall.1 hall.2.1 hall.2.2 hg hup (by omega)
    · refine ⟨rfl, rfl, rfl, rfl, by simp, by simp, rfl, rfl, rfl, rfl, rfl, rfl, rfl, .inr (.inr ⟨rfl, rfl⟩), .inr ⟨hU, rfl⟩, rfl, ?_⟩
      rw [hA, if_pos rfl, hxyz]
end Go.Proofs.YtndhiemagankeaaGreatDoor
/- The plain law: every element is read back. -/
namespace Go.Proofs.YtndhiemagankeaaGreatDoor
open Go.RowKit
set_option linter.unusedVariables false
set_option linter.unusedSimpArgs false
theorem unspace_ne {ch : UInt8} (h : ch ≠ 32) (t : Bytes) : unspace (ch :: t) = ch :: t := by
  unfold unspace
  rw [List.dropWhile_cons]
  simp [h]
theorem behind_ne {s : Bytes} {ch : UInt8} {t : Bytes} (hs : s = ch :: t) (h : ch ≠ 32) (T : Bytes) : behind T s = s := by
  unfold behind
  split
  · rw [hs, unspace_ne h]
  · rfl
theorem behind_nil (s : Bytes) : behind [] s = s := rfl
theorem behind_sp (T s : Bytes) : behind T (32 :: s) = 32 :: s ∨ behind T (32 :: s) = unspace s := by
  unfold behind
  split
  · exact .inr (unspace_cons s)
  · exact .inl rfl
theorem isD_ne {ch : UInt8} (h : isD ch = true) : ch ≠ 32 := by
  rintro rfl
  exact absurd h (by decide)
theorem behind_digits (x : Int) (h0 : 0 ≤ x) (w : Nat) (rest T : Bytes) : behind T (digits x (w + 1) ++ rest) = digits x (w + 1) ++ rest := by
  obtain ⟨ch, t, h, hd⟩ := digits1_head x h0 w rest
  exact behind_ne h (isD_ne hd) T
theorem unspace_digits (x : Int) (h0 : 0 ≤ x) (w : Nat) (rest : Bytes) : unspace (digits x (w + 1) ++ rest) = digits x (w + 1) ++ rest := by
  obtain ⟨ch, t, h, hd⟩ := digits1_head x h0 w rest
  rw [h, unspace_ne (isD_ne hd)]
theorem names_head (l : List Bytes) (hl : l = monthNames ∨ l = dayNames ∨ l = short monthNames ∨ l = short dayNames) (k : Nat) (hk : k < l.length) : ∃ ch t, l.getD k [] = ch :: t ∧ ch ≠ 32 := by
  have h : ∀ l : List Bytes, (l.all fun s => match s with | [] => false | ch :: _ => ch != 32) = true → ∀ k, k < l.length → ∃ ch t, l.getD k [] = ch :: t ∧ ch ≠ 32 := by
    intro l hl k hk
    have := List.all_eq_true.1 hl l[k] (List.getElem_mem hk)
    rw [List.getD_eq_getElem?_getD, List.getElem?_eq_getElem hk]
    show ∃ ch t, l[k] = ch :: t ∧ ch ≠ 32
    cases hs : l[k] with
    | nil => rw [hs] at this; simp at this
    | cons ch t => rw [hs] at this; exact ⟨ch, t, rfl, by simpa using this⟩
  rcases hl with rfl | rfl | rfl | rfl
  · exact h _ (by decide) k hk
  · exact h _ (by decide) k hk
  · exact h _ (by decide) k hk
  · exact h _ (by decide) k hk
theorem behind_name (l : List Bytes) (hl : l = monthNames ∨ l = dayNames ∨ l = short monthNames ∨ l = short dayNames) (k : Nat) (hk : k < l.length) (rest T : Bytes) : behind T (l.getD k [] ++ rest) = l.getD k [] ++ rest := by
  obtain ⟨ch, t, h, hne⟩ := names_head l hl k hk
  exact behind_ne (s := l.getD k [] ++ rest) (ch := ch) (t := t ++ rest) (by rw [h]; rfl) hne T
theorem blank2_law (d : Int) (h0 : 0 ≤ d) (h1 : d ≤ 99) (rest T : Bytes) : behind T (blank d 2 ++ rest) = digits d 1 ++ rest ∨ behind T (blank d 2 ++ rest) = 32 :: (digits d 1 ++ rest) := by
  rw [(blank2 d h0 h1).out, digits_01]
  split
  · show behind T (32 :: (digits d 1 ++ rest)) = _ ∨ behind T (32 :: (digits d 1 ++ rest)) = _
    rcases behind_sp T (digits d 1 ++ rest) with e | e <;> rw [e]
    · exact .inr rfl
    · exact .inl (unspace_digits d h0 0 rest)
  · exact .inl (behind_digits d h0 0 rest T)
theorem blank3_law (d : Int) (h0 : 0 ≤ d) (h1 : d ≤ 999) (rest T : Bytes) : behind T (blank d 3 ++ rest) = digits d 1 ++ rest ∨ behind T (blank d 3 ++ rest) = 32 :: (digits d 1 ++ rest) ∨ behind T (blank d 3 ++ rest) = 32 :: 32 :: (digits d 1 ++ rest) := by
  rw [(blank3 d h0 h1).out, digits_01]
  split
  · split
    · show behind T (32 :: (32 :: (digits d 1 ++ rest))) = _ ∨ behind T (32 :: (32 :: (digits d 1 ++ rest))) = _ ∨ behind T (32 :: (32 :: (digits d 1 ++ rest))) = _
      rcases behind_sp T (32 :: (digits d 1 ++ rest)) with e | e <;> rw [e]
      · exact .inr (.inr rfl)
      · rw [unspace_cons]
        exact .inl (unspace_digits d h0 0 rest)
    · show behind T (32 :: (digits d 1 ++ rest)) = _ ∨ behind T (32 :: (digits d 1 ++ rest)) = _ ∨ behind T (32 :: (digits d 1 ++ rest)) = _
      rcases behind_sp T (digits d 1 ++ rest) with e | e <;> rw [e]
      · exact .inr (.inl rfl)
      · exact .inl (unspace_digits d h0 0 rest)
  · exact .inl (behind_digits d h0 0 rest T)
theorem behind_offset (off : Int) (m s cc : Bool) (rest T : Bytes) : behind T (offsetText off m s cc ++ rest) = offsetText off m s cc ++ rest := by
  have h : ∃ ch t, offsetText off m s cc = ch :: t ∧ ch ≠ 32 := by
    unfold offsetText
    by_cases ho : off < 0
    · simp [ho]
    · simp [ho]
  obtain ⟨ch, t, h, hne⟩ := h
  exact behind_ne (s := offsetText off m s cc ++ rest) (ch := ch) (t := t ++ rest) (by rw [h]; rfl) hne T
theorem behind_half (h : Int) (rest T : Bytes) : behind T (halfB h ++ rest) = halfB h ++ rest := by
  unfold halfB
  split
  · exact behind_ne rfl (by decide) T
  · exact behind_ne rfl (by decide) T
theorem behind_abb {z : Zn} (ha : abbreviated z = true) (rest T : Bytes) : behind T (z.name ++ rest) = z.name ++ rest := by
  unfold abbreviated at ha
  rw [Bool.and_eq_true, Bool.and_eq_true, Bool.and_eq_true] at ha
  obtain ⟨hall, -, hlen, -⟩ := ha
  cases hn : z.name with
  | nil => rw [hn] at hlen; simp at hlen
  | cons ch t =>
    rw [hn] at hall
    simp at hall
    refine behind_ne (s := ch :: t ++ rest) (ch := ch) (t := t ++ rest) rfl ?_ T
    rintro rfl
    exact absurd hall.1 (by decide)
def codeOf (p : Pc) : Int := if p.kind = 33 then 34 else if p.kind = 34 then 35 else stds.getD p.kind.toNat 0
theorem std_bits (p : Pc) (hp : pieceOk p = true) (h0 : p.kind ≠ 0) : bits .and .i64 (stdOf p) 65535 = codeOf p ∧ (stdOf p == 0) = false := by
  obtain ⟨k1, k2⟩ := kinds_of hp h0
  obtain ⟨k, t, n, b⟩ := p
  simp only at k1 k2 h0
  by_cases h33 : k = 33
  · subst h33
    simp [pieceOk, isFraction, within] at hp
    refine ⟨fstd_code 34 n.toNat b (.inl rfl) (by omega) (by omega), ?_⟩
    show (fstd 34 n.toNat b == 0) = false
    unfold fstd
    simp
    split <;> omega
  by_cases h34 : k = 34
  · subst h34
    simp [pieceOk, isFraction, within] at hp
    refine ⟨fstd_code 35 n.toNat b (.inr rfl) (by omega) (by omega), ?_⟩
    show (fstd 35 n.toNat b == 0) = false
    unfold fstd
    simp
    split <;> omega
  have hs : stdOf ⟨k, t, n, b⟩ = stds.getD k.toNat 0 := by simp only [stdOf, if_neg h33, if_neg h34]
  have hc : codeOf ⟨k, t, n, b⟩ = stds.getD k.toNat 0 := by simp only [codeOf, if_neg h33, if_neg h34]
  rw [hs, hc]
  clear hs hc hp h0
  have : k = 1 ∨ k = 2 ∨ k = 3 ∨ k = 4 ∨ k = 5 ∨ k = 6 ∨ k = 7 ∨ k = 8 ∨ k = 9 ∨ k = 10 ∨ k = 11 ∨ k = 12 ∨ k = 13 ∨ k = 14 ∨ k = 15 ∨ k = 16 ∨ k = 17 ∨ k = 18 ∨ k = 19 ∨ k = 20 ∨ k = 21 ∨ k = 22 ∨ k = 23 ∨ k = 24 ∨ k = 25 ∨ k = 26 ∨ k = 27 ∨ k = 28 ∨ k = 29 ∨ k = 30 ∨ k = 31 ∨ k = 32 := by omega
  rcases this with rfl | rfl | rfl | rfl | rfl | rfl | rfl | rfl | rfl | rfl | rfl | rfl | rfl | rfl | rfl | rfl | rfl | rfl | rfl | rfl | rfl | rfl | rfl | rfl | rfl | rfl | rfl | rfl | rfl | rfl | rfl | rfl
  all_goals exact ⟨by decide +kernel, by decide⟩
theorem dvd_of_tmod {a : Int} {k : Int} (h : (a.tmod k == 0) = true) : k ∣ a := Int.dvd_of_tmod_eq_zero (by simpa using h)
theorem elem69 (p : Pc) (r : List Pc) (c : Civ) (T : Bytes) (hs : SufOk (p :: r)) (h0 : p.kind ≠ 0) (hc : CivB c) (hy : p.kind = 2 → 1969 ≤ c.year ∧ c.year ≤ 2068) (ha : p.kind = 32 → abbreviated c.zone = true) (hf : fitsP c.zone.off p = true) (hT : isFraction p.kind = true → T = []) (v : V69) (hval : v.val = behind T (written p c ++ writtenAll r c)) (hmx : v.val.length ≤ 1000000000) (hsec : isSecond p.kind = true → SecAt v.lay (writtenAll r c)) :
    Par69R (stdOf p) (codeOf p) v (fun v2 w2 => Step p c (writtenAll r c) v v2 w2) := by
  have hp := hs.all p (by simp)
  obtain ⟨k1, k2⟩ := kinds_of hp h0
  have hq : isSecond p.kind = false → Quiet (writtenAll r c) := fun h => q_nonsec hs h0 h c
  have hup : p.kind = 32 → upFirst (writtenAll r c) = false := fun h => up_32 hs h c
  generalize writtenAll r c = rest at *
  have hn : isFraction p.kind = true → 1 ≤ p.n ∧ p.n ≤ 9 := by
    intro h
    unfold pieceOk at hp
    rw [if_neg h0, if_pos h] at hp
    simp [within] at hp
    exact hp.2
  clear hs hp
  obtain ⟨k, t, n, b⟩ := p
  simp only at k1 k2 h0 hy ha hT hsec hq hup hn
  have hz := znB hc.z
  have hy0 := hc.y0
  have hb1 := hc.m0
  have hb2 := hc.m1
  have hb3 := hc.d0
  have hb4 := hc.d1
  have hb5 := days_bd' c.year c.month
  have hb6 := hc.h0
  have hb7 := hc.n0
  have hb8 := hc.s0
  have hb9 := hour12_bd c.hour
  obtain ⟨hw0, hw1⟩ := weekday_bd c.year c.month c.day
  obtain ⟨hyd0, hyd1⟩ := yearDay_bd6 hc
  have : k = 1 ∨ k = 2 ∨ k = 3 ∨ k = 4 ∨ k = 5 ∨ k = 6 ∨ k = 7 ∨ k = 8 ∨ k = 9 ∨ k = 10 ∨ k = 11 ∨ k = 12 ∨ k = 13 ∨ k = 14 ∨ k = 15 ∨ k = 16 ∨ k = 17 ∨ k = 18 ∨ k = 19 ∨ k = 20 ∨ k = 21 ∨ k = 22 ∨ k = 23 ∨ k = 24 ∨ k = 25 ∨ k = 26 ∨ k = 27 ∨ k = 28 ∨ k = 29 ∨ k = 30 ∨ k = 31 ∨ k = 32 ∨ k = 33 ∨ k = 34 := by omega
  rcases this with rfl | rfl | rfl | rfl | rfl | rfl | rfl | rfl | rfl | rfl | rfl | rfl | rfl | rfl | rfl | rfl | rfl | rfl | rfl | rfl | rfl | rfl | rfl | rfl | rfl | rfl | rfl | rfl | rfl | rfl | rfl | rfl | rfl | rfl
  · exact elem_1 c hc t n b rest v hmx (by rw [hval]; exact behind_digits c.year (by omega) 3 rest T)
  · exact elem_2 c hc t n b rest v hmx (hy rfl) (by rw [hval]; exact behind_digits (c.year % 100) (by omega) 1 rest T)
  · exact elem_3 c hc t n b rest v hmx (by rw [hval]; exact behind_name monthNames (.inl rfl) (c.month - 1).toNat (by have : monthNames.length = 12 := rfl; omega) rest T)
  · exact elem_4 c hc t n b rest v hmx (by rw [hval]; show behind T ((monthName c.month).take 3 ++ rest) = _; unfold monthName; rw [← short_getD]; exact behind_name (short monthNames) (.inr (.inr (.inl rfl))) (c.month - 1).toNat (by have : (short monthNames).length = 12 := rfl; omega) rest T)
  · exact elem_5 c hc t n b rest v hmx (by rw [hval]; exact behind_digits c.month (by omega) 1 rest T)
  · exact elem_6 c hc t n b rest v hmx ((hq (by decide)).digit) (by rw [hval]; exact behind_digits c.month (by omega) 0 rest T)
  · exact elem_7 c hc t n b rest v hmx (by rw [hval]; exact behind_name dayNames (.inr (.inl rfl)) (weekday c.year c.month c.day).toNat (by have : dayNames.length = 7 := rfl; omega) rest T)
  · exact elem_8 c hc t n b rest v hmx (by rw [hval]; show behind T ((dayName (weekday c.year c.month c.day)).take 3 ++ rest) = _; unfold dayName; rw [← short_getD]; exact behind_name (short dayNames) (.inr (.inr (.inr rfl))) (weekday c.year c.month c.day).toNat (by have : (short dayNames).length = 7 := rfl; omega) rest T)
  · exact elem_9 c hc t n b rest v hmx ((hq (by decide)).digit) (by rw [hval]; exact behind_digits c.day (by omega) 0 rest T)
  · exact elem_10 c hc t n b rest v hmx ((hq (by decide)).digit) (by rw [hval]; exact blank2_law c.day (by omega) (by omega) rest T)
  · exact elem_11 c hc t n b rest v hmx (by rw [hval]; exact behind_digits c.day (by omega) 1 rest T)
  · exact elem_12 c hc t n b rest v hmx ((hq (by decide)).digit) (by rw [hval]; exact blank3_law (yearDay c.year c.month c.day) (by omega) (by omega) rest T)
  · exact elem_13 c hc t n b rest v hmx (by rw [hval]; exact behind_digits (yearDay c.year c.month c.day) (by omega) 2 rest T)
  · exact elem_14 c hc t n b rest v hmx (by rw [hval]; exact behind_digits c.hour (by omega) 1 rest T)
  · exact elem_15 c hc t n b rest v hmx ((hq (by decide)).digit) (by rw [hval]; exact behind_digits (hour12 c.hour) (by omega) 0 rest T)
  · exact elem_16 c hc t n b rest v hmx (by rw [hval]; exact behind_digits (hour12 c.hour) (by omega) 1 rest T)
  · exact elem_17 c hc t n b rest v hmx ((hq (by decide)).digit) (by rw [hval]; exact behind_digits c.minute (by omega) 0 rest T)
  · exact elem_18 c hc t n b rest v hmx (by rw [hval]; exact behind_digits c.minute (by omega) 1 rest T)
  · exact elem_19 c hc t n b rest v hmx (hsec (by decide)) (by rw [hval]; exact behind_digits c.second (by omega) 0 rest T)
  · exact elem_20 c hc t n b rest v hmx (hsec (by decide)) (by rw [hval]; exact behind_digits c.second (by omega) 1 rest T)
  · exact elem_21 c hc t n b rest v hmx (by rw [hval]; exact behind_half c.hour rest T)
  · exact elem_22 c hc t n b rest v hmx (dvd_of_tmod hf) (by rw [hval]; exact behind_offset c.zone.off true false false rest T)
  · exact elem_23 c hc t n b rest v hmx (dvd_of_tmod hf) (by rw [hval]; exact behind_offset c.zone.off true false true rest T)
  · exact elem_24 c hc t n b rest v hmx (dvd_of_tmod hf) (by rw [hval]; exact behind_offset c.zone.off false false false rest T)
  · exact elem_25 c hc t n b rest v hmx (by rw [hval]; exact behind_offset c.zone.off true true false rest T)
  · exact elem_26 c hc t n b rest v hmx (by rw [hval]; exact behind_offset c.zone.off true true true rest T)
  · have hw : written ⟨27, t, n, b⟩ c = if c.zone.off = 0 then [90] else offsetText c.zone.off true false false := written_iso (p := ⟨27, t, n, b⟩) rfl c
    rw [hw] at hval
    by_cases hz0 : c.zone.off = 0
    · rw [if_pos hz0] at hval
      exact elem_27z c hc t n b rest v hmx hz0 (by rw [hval]; exact behind_ne rfl (by decide) T)
    · rw [if_neg hz0] at hval
      exact elem_27 c hc t n b rest v hmx hz0 (dvd_of_tmod hf) (by rw [hval]; exact behind_offset c.zone.off true false false rest T)
  · have hw : written ⟨28, t, n, b⟩ c = if c.zone.off = 0 then [90] else offsetText c.zone.off true false true := written_iso (p := ⟨28, t, n, b⟩) rfl c
    rw [hw] at hval
    by_cases hz0 : c.zone.off = 0
    · rw [if_pos hz0] at hval
      exact elem_28z c hc t n b rest v hmx hz0 (by rw [hval]; exact behind_ne rfl (by decide) T)
    · rw [if_neg hz0] at hval
      exact elem_28 c hc t n b rest v hmx hz0 (dvd_of_tmod hf) (by rw [hval]; exact behind_offset c.zone.off true false true rest T)
  · have hw : written ⟨29, t, n, b⟩ c = if c.zone.off = 0 then [90] else offsetText c.zone.off false false false := written_iso (p := ⟨29, t, n, b⟩) rfl c
    rw [hw] at hval
    by_cases hz0 : c.zone.off = 0
    · rw [if_pos hz0] at hval
      exact elem_29z c hc t n b rest v hmx hz0 (by rw [hval]; exact behind_ne rfl (by decide) T)
    · rw [if_neg hz0] at hval
      exact elem_29 c hc t n b rest v hmx hz0 (dvd_of_tmod hf) (by rw [hval]; exact behind_offset c.zone.off false false false rest T)
  · have hw : written ⟨30, t, n, b⟩ c = if c.zone.off = 0 then [90] else offsetText c.zone.off true true false := written_iso (p := ⟨30, t, n, b⟩) rfl c
    rw [hw] at hval
    by_cases hz0 : c.zone.off = 0
    · rw [if_pos hz0] at hval
      exact elem_30z c hc t n b rest v hmx hz0 (by rw [hval]; exact behind_ne rfl (by decide) T)
    · rw [if_neg hz0] at hval
      exact elem_30 c hc t n b rest v hmx hz0 (by rw [hval]; exact behind_offset c.zone.off true true false rest T)
  · have hw : written ⟨31, t, n, b⟩ c = if c.zone.off = 0 then [90] else offsetText c.zone.off true true true := written_iso (p := ⟨31, t, n, b⟩) rfl c
    rw [hw] at hval
    by_cases hz0 : c.zone.off = 0
    · rw [if_pos hz0] at hval
      exact elem_31z c hc t n b rest v hmx hz0 (by rw [hval]; exact behind_ne rfl (by decide) T)
    · rw [if_neg hz0] at hval
      exact elem_31 c hc t n b rest v hmx hz0 (by rw [hval]; exact behind_offset c.zone.off true true true rest T)
  · exact elem_32 c hc t n b rest v hmx (ha rfl) (hup rfl) (by rw [hval]; exact behind_abb (ha rfl) rest T)
  · exact elem_33 c hc t n b rest v hmx (hn (by decide)).1 (hn (by decide)).2 (by rw [hval, hT (by decide)]; rfl)
  · exact elem_34 c hc t n b rest v hmx (hn (by decide)).1 (hn (by decide)).2 (hq (by decide)) (by rw [hval, hT (by decide)]; rfl)
end Go.Proofs.YtndhiemagankeaaGreatDoor
/- The walk of package time: a time is read by a layout: each round of the loop, and the loop. -/
namespace Go.Proofs.YtndhiemagankeaaGreatDoor
open Go.RowKit
set_option linter.unusedSimpArgs false
set_option linter.unusedVariables false
theorem St.below {ps : List Pc} {c : Civ} {v : V69} {w w2 : World} (h : St ps c v w) (hb : Below w.heap.size w w2) : St ps c v w2 := by
  obtain ⟨h1, h2, h3, h4, h5, h6, h7, h8, h9, h10, h11, h12, h13⟩ := h
  refine ⟨h1, h2, h3, h4, h5, h6, h7, h8, h9, h10, ?_, h12, h13⟩
  rcases h11 with ⟨f1, f2⟩ | h
  · exact .inl ⟨f1, f2.below hb⟩
  · exact .inr h
theorem fracs_append (a b : List Pc) : fracs (a ++ b) = fracs a + fracs b := by simp [fracs]
theorem frac_first {ts : List Pc} {e : Pc} {r : List Pc} (h : SufOk (ts ++ e :: r)) (ht : ∀ p ∈ ts, p.kind = 0) (hf : isFraction e.kind = true) : ts = [] := by
  induction ts with
  | nil => rfl
  | cons a ts ih =>
    exfalso
    have h1 := ih h.tail (fun p hp => ht p (by simp [hp]))
    subst h1
    have hl : linkOk a e = true := by
      have := h.chain
      simp [chainOk] at this
      exact this.1
    have ha := ht a (by simp)
    have he0 : e.kind ≠ 0 := by
      intro h
      rw [h] at hf
      exact absurd hf (by decide)
    simp [linkOk, ha, he0, hf, touch, isSecond] at hl
theorem writtenAll_text_skip (ts : List Pc) (s : Bytes) (w : World) (h1 : (layout ts ++ s).length ≤ 1000000000) :
    Calls Tryz.prog 95 #[S (layout ts ++ s), S (layout ts)] w fun e w' => e = .returned (.tuple #[S (behind (layout ts) s), .nilIface]) ∧ ∃ n, w' = w.drewN n := by
  refine skip_c _ _ _ w (by omega) (by simp at h1; omega) (skip_law (layout ts).length (layout ts) s (Nat.le_refl _))
theorem behind_end (T : Bytes) : behind T [] = [] := by
  unfold behind
  split <;> rfl
/-- The loop of 'parse'. -/
def Lp69 (c : Civ) (ps : List Pc) (loc : Value) (pb : Nat) (w : World) (a' : Act) (w' : World) : Prop :=
  ∃ v done rest, ps = done ++ rest ∧ At69 v a' ∧ v.lay = layout rest ∧ v.val = writtenAll rest c ∧ v.loc = loc ∧ v.p = pb ∧ St done c v w' ∧ Below w.heap.size w w'
/-- What holds behind the loop. -/
def End69 (c : Civ) (ps : List Pc) (loc : Value) (pb : Nat) (w : World) (a' : Act) (w' : World) : Prop :=
  ∃ v, At69 v a' ∧ v.loc = loc ∧ v.p = pb ∧ St ps c v w' ∧ Below w.heap.size w w'
/-- What is asked of the pieces and the time. -/
structure Rdb (ps : List Pc) (c : Civ) : Prop where
  suf : SufOk ps
  len : ps.length ≤ 100
  fr : fracs ps ≤ 1
  lay : (layout ps).length ≤ 1000000000
  year : hasK ps 2 = true → 1969 ≤ c.year ∧ c.year ≤ 2068
  abb : hasK ps 32 = true → abbreviated c.zone = true
  fit : fits ps c = true
theorem round_lp69 (c : Civ) (hc : CivB c) (ps : List Pc) (hps : Rdb ps c) (loc : Value) (pb : Nat) (w : World) (hs : StdAt w) (Q : Exit → Act → World → Prop) (hQ : ∀ a' w', End69 c ps loc pb w a' w' → Q (.exit 0) a' w')
    (a : Act) (w1 : World) (h : Lp69 c ps loc pb w a w1) :
    body69.wp Tryz.prog (Exit.then (fun a' w' => Lp69 c ps loc pb w a' w' ∧ (match a'.tmps.getD 0 undef with | .string s => s.size | _ => 0) < (match a.tmps.getD 0 undef with | .string s => s.size | _ => 0)) Q) a w1 := by
  obtain ⟨v, done, rest, hsp, hA, e1, e2, e3, e4, hSt, hB⟩ := h
  have hlay0 : a.tmps.getD 0 undef = S v.lay := hA.s0
  obtain ⟨u, rfl⟩ := hA.open
  have hrest : SufOk rest := by have := hps.suf; rw [hsp] at this; exact this.drop
  have hlr : (layout rest).length ≤ 1000000000 := by
    have h1 := hps.lay
    have : (layout ps).length = (layout done).length + (layout rest).length := by rw [hsp, layout_append]; simp
    omega
  have hwr : (writtenAll rest c).length ≤ 100000 := by
    have h1 := writtenAll_len (c := c) (ps := rest) (fun p hp => hrest.all p hp) hc
    have h2 := hps.len
    rw [hsp] at h2
    simp at h2
    omega
  have hs1 : StdAt w1 := hs.below hB
  obtain ⟨ts, rs, hrs, htx, hcase⟩ := split_pieces rest
  rcases hcase with rfl | ⟨e, r, rfl, h0⟩
  · rw [List.append_nil] at hrs
    subst hrs
    refine end69 v (layout rest) w1 _ _ u (fun w => ?_) (fun w => ?_) (by rw [e1]; omega) (by rw [e1]; omega) ?_
    · rw [e1]
      exact next_text rest htx hrest.all (by omega) w
    · have := writtenAll_text_skip rest [] w (by simp; omega)
      rw [behind_end, List.append_nil] at this
      rw [e2, written_text htx c]
      exact this
    · intro a2 n hA2
      refine hQ a2 _ ⟨_, hA2, e3, e4, ?_, below_dN hB n⟩
      rw [hsp]
      exact ((hSt.text htx).below (below_drewN _ _)).set v.lay []
  · subst hrs
    have he := hrest.all e (by simp)
    obtain ⟨hb1, hb2⟩ := std_bits e he h0
    have hsuf : SufOk (e :: r) := hrest.drop
    have hmem : ∀ k, e.kind = k → hasK ps k = true := by
      intro k hk
      rw [hsp]
      simp [hasK, hk]
    have hlt : (layout ts).length + (layout r).length ≤ (layout (ts ++ e :: r)).length := by
      rw [layout_append, layout_cons]
      simp
    have hval : writtenAll (ts ++ e :: r) c = layout ts ++ (written e c ++ writtenAll r c) := by
      rw [writtenAll_append, written_text htx c, written_cons]
    have hbl : (behind (layout ts) (written e c ++ writtenAll r c)).length ≤ 100000 := by
      have h1 : (written e c ++ writtenAll r c).length ≤ 100000 := by rw [hval] at hwr; simp at hwr ⊢; omega
      have h2 : (behind (layout ts) (written e c ++ writtenAll r c)).length ≤ (written e c ++ writtenAll r c).length := by
        unfold behind
        split
        · exact unspace_len _
        · exact Nat.le_refl _
      omega
    refine pre69 v (stdOf e) (codeOf e) (layout ts) (layout r) (behind (layout ts) (written e c ++ writtenAll r c)) w1 _ _ u hb1 hb2 (fun w hw => ?_) (fun w => ?_) hs1 (by rw [e1]; omega) (by rw [e1]; exact hlt)
      (fun v2 w2 => Step e c (writtenAll r c) { v with lay := layout r, val := behind (layout ts) (written e c ++ writtenAll r c) } v2 w2 ∧ Below w1.heap.size w1 w2) ?_ ?_
    · rw [e1]
      exact next_pieces ts r e hrest htx h0 (by omega) w hw
    · rw [e2, hval]
      rw [hval] at hwr
      exact writtenAll_text_skip ts _ w (by omega)
    · rintro a' w' ⟨hAt, n, rfl⟩ K Qx hK
      obtain ⟨u', rfl⟩ := hAt.open
      refine elem69 e r c (layout ts) hsuf h0 hc (fun h => hps.year (hmem 2 h)) (fun h => hps.abb (hmem 32 h)) ?_ ?_ { v with lay := layout r, val := behind (layout ts) (written e c ++ writtenAll r c) } rfl (by show (behind (layout ts) (written e c ++ writtenAll r c)).length ≤ 1000000000; omega) ?_ (w1.drewN n) u' K Qx (hs1.draws n) ?_
      · have hf := hps.fit
        rw [hsp] at hf
        unfold fits at hf
        exact List.all_eq_true.1 hf e (by simp)
      · intro hf
        have := frac_first hrest htx hf
        rw [this]
        rfl
      · intro hsec
        rcases q_sec hsuf hsec c hc.f0 hc.f1 with hq | ⟨f, r2, m, d, t, hr, hf, hw, hm, hd⟩
        · exact .inl hq
        · refine .inr ⟨m, d, t, hw, hm, hd, stdOf f, layout [], layout r2, ?_, ?_⟩
          · have hfp := hsuf.all f (by rw [hr]; simp)
            have hk : f.kind = 33 ∨ f.kind = 34 := by simpa [isFraction] using hf
            have hb := (std_bits f hfp (by omega)).1
            rw [hb]
            unfold codeOf
            rcases hk with h | h
            · exact .inl (by rw [if_pos h])
            · exact .inr (by rw [if_neg (by omega), if_pos h])
          · intro w hw
            have hr' : r = [] ++ f :: r2 := hr
            have hk : f.kind = 33 ∨ f.kind = 34 := by simpa [isFraction] using hf
            show Calls Tryz.prog 94 #[S (layout r)] w _
            rw [hr']
            exact next_pieces [] r2 f (by rw [← hr']; exact hsuf.tail) (by simp) (by omega) (by rw [← hr']; omega) w hw
      · intro v2 a2 w2 hA2 hB2 hR2
        exact hK v2 a2 w2 hA2 ⟨hR2, (below_drewN w1 n).trans hB2⟩
    · rintro v2 a2 w2 hA2 ⟨hst, hbe⟩
      refine ⟨⟨v2, done ++ ts ++ [e], r, by rw [hsp]; simp, hA2, hst.lay, hst.val, hst.loc.trans e3, hst.p8.trans e4, ?_, below_next hB hbe⟩, ?_⟩
      · refine ((hSt.text htx).set (layout r) (behind (layout ts) (written e c ++ writtenAll r c))).step hbe hst ?_ hc.f0 hc.f1
        have := hps.fr
        rw [hsp, fracs_append, fracs_append] at this
        rw [fracs_append, fracs_append]
        have h2 : fracs (e :: r) = fracs [e] + fracs r := by rw [← fracs_append]; rfl
        omega
      · rw [hA2.s0, hlay0, hst.lay, e1]
        simp only [bs_size]
        rw [layout_append, layout_cons]
        have := List.length_pos_iff.2 (elem_pre e he h0 []).2
        simp
        omega
end Go.Proofs.YtndhiemagankeaaGreatDoor
/- The walk of package time: a time is read by a layout: halves of the day behind the loop. -/
namespace Go.Proofs.YtndhiemagankeaaGreatDoor
open Go.RowKit
set_option linter.unusedVariables false
set_option linter.unusedSimpArgs false
attribute [local simp] bs_size bs_toList bs_append bs_data bs_extract
/-- The first part of a code, and what stands behind it. -/
noncomputable def seqA : Code → Code
  | .seq a _ => a
  | c => c
noncomputable def seqB : Code → Code
  | .seq _ b => b
  | c => c
noncomputable def tl69 : Nat → Code
  | 0 => hand69 0
  | k + 1 => seqB (tl69 k)
noncomputable def st69 (k : Nat) : Code := seqA (tl69 k)
theorem tl69_0 : tl69 0 = .seq (st69 0) (tl69 1) := by kernel_rfl
theorem tl69_1 : tl69 1 = .seq (st69 1) (tl69 2) := by kernel_rfl
theorem tl69_2 : tl69 2 = .seq (st69 2) (tl69 3) := by kernel_rfl
theorem tl69_3 : tl69 3 = .seq (st69 3) (tl69 4) := by kernel_rfl
theorem tl69_4 : tl69 4 = .seq (st69 4) (tl69 5) := by kernel_rfl
theorem tl69_5 : tl69 5 = .seq (st69 5) (tl69 6) := by kernel_rfl
set_option maxRecDepth 100000 in
set_option maxHeartbeats 1000000 in
theorem half69_a (v : V69) (h1 : v.pm = true) (h2 : v.h < 12) (h3 : 0 ≤ v.h) (w : World) (a : Act) (hA : At69 v a) (K : Act → World → Prop) (Qx : Exit → Act → World → Prop) (hK : ∀ a2 n, At69 { v with h := v.h + 12 } a2 → K a2 (w.drewN n)) :
    (st69 0).wp Tryz.prog (Exit.then K Qx) a w := by
  obtain ⟨u, rfl⟩ := hA.open
  obtain ⟨lay, val, loc, p, am, pm, y, m, d, yd, h, mi, s, ns, z, zo, zn⟩ := v
  simp only at h1 h2 h3
  subst h1
  have HK := Lib.hid hK
  clear hK hA
  unfold fr69
  conv => arg 2; whnf
  go_wp2_with (first
    | (guard_target =~ Code.wp _ (Code.region _ _ true) _ _ _; go_quiet (fail)))
  all_goals first | exact HK.out _ 0 ⟨rfl, rfl, rfl, rfl, rfl, rfl, rfl, rfl, rfl, rfl, rfl, rfl, rfl, rfl, rfl, rfl, rfl, rfl, rfl, rfl, rfl, rfl⟩ | exact HK.out _ _ ⟨rfl, rfl, rfl, rfl, rfl, rfl, rfl, rfl, rfl, rfl, rfl, rfl, rfl, rfl, rfl, rfl, rfl, rfl, rfl, rfl, rfl, rfl⟩
set_option maxRecDepth 100000 in
set_option maxHeartbeats 1000000 in
theorem half69_b (v : V69) (h1 : v.pm = true) (h2 : 12 ≤ v.h) (h3 : v.am = false) (w : World) (a : Act) (hA : At69 v a) (K : Act → World → Prop) (Qx : Exit → Act → World → Prop) (hK : ∀ a2 n, At69 v a2 → K a2 (w.drewN n)) :
    (st69 0).wp Tryz.prog (Exit.then K Qx) a w := by
  obtain ⟨u, rfl⟩ := hA.open
  obtain ⟨lay, val, loc, p, am, pm, y, m, d, yd, h, mi, s, ns, z, zo, zn⟩ := v
  simp only at h1 h2 h3
  subst h1 h3
  have HK := Lib.hid hK
  clear hK hA
  unfold fr69
  conv => arg 2; whnf
  go_wp2_with (first
    | (guard_target =~ Code.wp _ (Code.region _ _ true) _ _ _; go_quiet (fail)))
  all_goals first | exact HK.out _ 0 ⟨rfl, rfl, rfl, rfl, rfl, rfl, rfl, rfl, rfl, rfl, rfl, rfl, rfl, rfl, rfl, rfl, rfl, rfl, rfl, rfl, rfl, rfl⟩ | exact HK.out _ _ ⟨rfl, rfl, rfl, rfl, rfl, rfl, rfl, rfl, rfl, rfl, rfl, rfl, rfl, rfl, rfl, rfl, rfl, rfl, rfl, rfl, rfl, rfl⟩
set_option maxRecDepth 100000 in
set_option maxHeartbeats 1000000 in
theorem half69_c (v : V69) (h1 : v.pm = false) (h2 : v.am = true) (h3 : v.h = 12) (w : World) (a : Act) (hA : At69 v a) (K : Act → World → Prop) (Qx : Exit → Act → World → Prop) (hK : ∀ a2 n, At69 { v with h := 0 } a2 → K a2 (w.drewN n)) :
    (st69 0).wp Tryz.prog (Exit.then K Qx) a w := by
  obtain ⟨u, rfl⟩ := hA.open
  obtain ⟨lay, val, loc, p, am, pm, y, m, d, yd, h, mi, s, ns, z, zo, zn⟩ := v
  simp only at h1 h2 h3
  subst h1 h2 h3
  have HK := Lib.hid hK
  clear hK hA
  unfold fr69
  conv => arg 2; whnf
  go_wp2_with (first
    | (guard_target =~ Code.wp _ (Code.region _ _ true) _ _ _; go_quiet (fail)))
  all_goals first | exact HK.out _ 0 ⟨rfl, rfl, rfl, rfl, rfl, rfl, rfl, rfl, rfl, rfl, rfl, rfl, rfl, rfl, rfl, rfl, rfl, rfl, rfl, rfl, rfl, rfl⟩ | exact HK.out _ _ ⟨rfl, rfl, rfl, rfl, rfl, rfl, rfl, rfl, rfl, rfl, rfl, rfl, rfl, rfl, rfl, rfl, rfl, rfl, rfl, rfl, rfl, rfl⟩
set_option maxRecDepth 100000 in
set_option maxHeartbeats 1000000 in
theorem half69_d (v : V69) (h1 : v.pm = false) (h2 : v.am = true) (h3 : ¬ v.h = 12) (w : World) (a : Act) (hA : At69 v a) (K : Act → World → Prop) (Qx : Exit → Act → World → Prop) (hK : ∀ a2 n, At69 v a2 → K a2 (w.drewN n)) :
    (st69 0).wp Tryz.prog (Exit.then K Qx) a w := by
  obtain ⟨u, rfl⟩ := hA.open
  obtain ⟨lay, val, loc, p, am, pm, y, m, d, yd, h, mi, s, ns, z, zo, zn⟩ := v
  simp only at h1 h2 h3
  subst h1 h2
  have h3 : (h == 12) = false := by simpa using h3
  have HK := Lib.hid hK
  clear hK hA
  unfold fr69
  conv => arg 2; whnf
  go_wp2_with (first
    | (guard_target =~ Code.wp _ (Code.region _ _ true) _ _ _; go_quiet (fail)))
  all_goals first | exact HK.out _ 0 ⟨rfl, rfl, rfl, rfl, rfl, rfl, rfl, rfl, rfl, rfl, rfl, rfl, rfl, rfl, rfl, rfl, rfl, rfl, rfl, rfl, rfl, rfl⟩ | exact HK.out _ _ ⟨rfl, rfl, rfl, rfl, rfl, rfl, rfl, rfl, rfl, rfl, rfl, rfl, rfl, rfl, rfl, rfl, rfl, rfl, rfl, rfl, rfl, rfl⟩
set_option maxRecDepth 100000 in
set_option maxHeartbeats 1000000 in
theorem half69_e (v : V69) (h1 : v.pm = false) (h2 : v.am = false) (w : World) (a : Act) (hA : At69 v a) (K : Act → World → Prop) (Qx : Exit → Act → World → Prop) (hK : ∀ a2 n, At69 v a2 → K a2 (w.drewN n)) :
    (st69 0).wp Tryz.prog (Exit.then K Qx) a w := by
  obtain ⟨u, rfl⟩ := hA.open
  obtain ⟨lay, val, loc, p, am, pm, y, m, d, yd, h, mi, s, ns, z, zo, zn⟩ := v
  simp only at h1 h2
  subst h1 h2
  have HK := Lib.hid hK
  clear hK hA
  unfold fr69
  conv => arg 2; whnf
  go_wp2_with (first
    | (guard_target =~ Code.wp _ (Code.region _ _ true) _ _ _; go_quiet (fail)))
  all_goals first | exact HK.out _ 0 ⟨rfl, rfl, rfl, rfl, rfl, rfl, rfl, rfl, rfl, rfl, rfl, rfl, rfl, rfl, rfl, rfl, rfl, rfl, rfl, rfl, rfl, rfl⟩ | exact HK.out _ _ ⟨rfl, rfl, rfl, rfl, rfl, rfl, rfl, rfl, rfl, rfl, rfl, rfl, rfl, rfl, rfl, rfl, rfl, rfl, rfl, rfl, rfl, rfl⟩
end Go.Proofs.YtndhiemagankeaaGreatDoor
/- The walk of package time: a time is read by a layout: days of the year behind the loop. -/
namespace Go.Proofs.YtndhiemagankeaaGreatDoor
open Go.RowKit
set_option linter.unusedVariables false
set_option linter.unusedSimpArgs false
attribute [local simp] bs_size bs_toList bs_append bs_data bs_extract
set_option maxRecDepth 100000 in
set_option maxHeartbeats 1000000 in
theorem noyday69_a (v : V69) (h1 : v.yd = -1) (hm : v.m = -1) (hd : v.d = -1) (w : World) (a : Act) (hA : At69 v a) (K : Act → World → Prop) (Qx : Exit → Act → World → Prop) (hK : ∀ a2 n, At69 { v with m := 1, d := 1 } a2 → K a2 (w.drewN n)) :
    (st69 1).wp Tryz.prog (Exit.then K Qx) a w := by
  obtain ⟨u, rfl⟩ := hA.open
  obtain ⟨lay, val, loc, p, am, pm, y, m, d, yd, h, mi, s, ns, z, zo, zn⟩ := v
  simp only at h1 hm hd
  subst h1
  subst hm
  subst hd
  have HK := Lib.hid hK
  clear hK hA
  unfold fr69
  conv => arg 2; whnf
  go_wp2_with (first
    | (guard_target =~ Code.wp _ (Code.region _ _ true) _ _ _; go_quiet (fail)))
  all_goals first | exact HK.out _ 0 ⟨rfl, rfl, rfl, rfl, rfl, rfl, rfl, rfl, rfl, rfl, rfl, rfl, rfl, rfl, rfl, rfl, rfl, rfl, rfl, rfl, rfl, rfl⟩ | exact HK.out _ _ ⟨rfl, rfl, rfl, rfl, rfl, rfl, rfl, rfl, rfl, rfl, rfl, rfl, rfl, rfl, rfl, rfl, rfl, rfl, rfl, rfl, rfl, rfl⟩ | (exfalso; omega)
set_option maxRecDepth 100000 in
set_option maxHeartbeats 1000000 in
theorem noyday69_b (v : V69) (h1 : v.yd = -1) (hm : v.m = -1) (hd : 1 ≤ v.d) (w : World) (a : Act) (hA : At69 v a) (K : Act → World → Prop) (Qx : Exit → Act → World → Prop) (hK : ∀ a2 n, At69 { v with m := 1, d := v.d } a2 → K a2 (w.drewN n)) :
    (st69 1).wp Tryz.prog (Exit.then K Qx) a w := by
  obtain ⟨u, rfl⟩ := hA.open
  obtain ⟨lay, val, loc, p, am, pm, y, m, d, yd, h, mi, s, ns, z, zo, zn⟩ := v
  simp only at h1 hm hd
  subst h1
  subst hm
  have HK := Lib.hid hK
  clear hK hA
  unfold fr69
  conv => arg 2; whnf
  go_wp2_with (first
    | (guard_target =~ Code.wp _ (Code.region _ _ true) _ _ _; go_quiet (fail)))
  all_goals first | exact HK.out _ 0 ⟨rfl, rfl, rfl, rfl, rfl, rfl, rfl, rfl, rfl, rfl, rfl, rfl, rfl, rfl, rfl, rfl, rfl, rfl, rfl, rfl, rfl, rfl⟩ | exact HK.out _ _ ⟨rfl, rfl, rfl, rfl, rfl, rfl, rfl, rfl, rfl, rfl, rfl, rfl, rfl, rfl, rfl, rfl, rfl, rfl, rfl, rfl, rfl, rfl⟩ | (exfalso; omega)
set_option maxRecDepth 100000 in
set_option maxHeartbeats 1000000 in
theorem noyday69_c (v : V69) (h1 : v.yd = -1) (hm : 1 ≤ v.m) (hd : v.d = -1) (w : World) (a : Act) (hA : At69 v a) (K : Act → World → Prop) (Qx : Exit → Act → World → Prop) (hK : ∀ a2 n, At69 { v with m := v.m, d := 1 } a2 → K a2 (w.drewN n)) :
    (st69 1).wp Tryz.prog (Exit.then K Qx) a w := by
  obtain ⟨u, rfl⟩ := hA.open
  obtain ⟨lay, val, loc, p, am, pm, y, m, d, yd, h, mi, s, ns, z, zo, zn⟩ := v
  simp only at h1 hm hd
  subst h1
  subst hd
  have HK := Lib.hid hK
  clear hK hA
  unfold fr69
  conv => arg 2; whnf
  go_wp2_with (first
    | (guard_target =~ Code.wp _ (Code.region _ _ true) _ _ _; go_quiet (fail)))
  all_goals first | exact HK.out _ 0 ⟨rfl, rfl, rfl, rfl, rfl, rfl, rfl, rfl, rfl, rfl, rfl, rfl, rfl, rfl, rfl, rfl, rfl, rfl, rfl, rfl, rfl, rfl⟩ | exact HK.out _ _ ⟨rfl, rfl, rfl, rfl, rfl, rfl, rfl, rfl, rfl, rfl, rfl, rfl, rfl, rfl, rfl, rfl, rfl, rfl, rfl, rfl, rfl, rfl⟩ | (exfalso; omega)
set_option maxRecDepth 100000 in
set_option maxHeartbeats 1000000 in
theorem noyday69_d (v : V69) (h1 : v.yd = -1) (hm : 1 ≤ v.m) (hd : 1 ≤ v.d) (w : World) (a : Act) (hA : At69 v a) (K : Act → World → Prop) (Qx : Exit → Act → World → Prop) (hK : ∀ a2 n, At69 { v with m := v.m, d := v.d } a2 → K a2 (w.drewN n)) :
    (st69 1).wp Tryz.prog (Exit.then K Qx) a w := by
  obtain ⟨u, rfl⟩ := hA.open
  obtain ⟨lay, val, loc, p, am, pm, y, m, d, yd, h, mi, s, ns, z, zo, zn⟩ := v
  simp only at h1 hm hd
  subst h1
  have HK := Lib.hid hK
  clear hK hA
  unfold fr69
  conv => arg 2; whnf
  go_wp2_with (first
    | (guard_target =~ Code.wp _ (Code.region _ _ true) _ _ _; go_quiet (fail)))
  all_goals first | exact HK.out _ 0 ⟨rfl, rfl, rfl, rfl, rfl, rfl, rfl, rfl, rfl, rfl, rfl, rfl, rfl, rfl, rfl, rfl, rfl, rfl, rfl, rfl, rfl, rfl⟩ | exact HK.out _ _ ⟨rfl, rfl, rfl, rfl, rfl, rfl, rfl, rfl, rfl, rfl, rfl, rfl, rfl, rfl, rfl, rfl, rfl, rfl, rfl, rfl, rfl, rfl⟩ | (exfalso; omega)
set_option maxRecDepth 100000 in
set_option maxHeartbeats 1000000 in
theorem yday69_60 (v : V69) (h1 : v.yd = 60) (hl : leap v.y = true) (y0 : 0 ≤ v.y) (y1 : v.y ≤ 9999) (hm : v.m = -1 ∨ v.m = 2) (hd : v.d = -1 ∨ v.d = 29) (w : World) (a : Act) (hA : At69 v a) (K : Act → World → Prop) (Qx : Exit → Act → World → Prop) (hK : ∀ a2 n, At69 { v with m := 2, d := 29 } a2 → K a2 (w.drewN n)) :
    (st69 1).wp Tryz.prog (Exit.then K Qx) a w := by
  obtain ⟨u, rfl⟩ := hA.open
  obtain ⟨lay, val, loc, p, am, pm, y, m, d, yd, h, mi, s, ns, z, zo, zn⟩ := v
  simp only at h1 hl y0 y1 hm hd
  subst h1
  have HIL : Hid (∀ w, Calls Tryz.prog 109 #[.int .i64 y] w fun e w' => e = .returned (.bool true) ∧ w' = w) := fun w => by
    have := isLeap_c y w y0 (by omega)
    rwa [hl] at this
  clear hl
  have HK := Lib.hid hK
  clear hK hA
  unfold fr69
  conv => arg 2; whnf
  go_wp2_with (first
    | (guard_target =~ Code.wp _ (Code.region _ _ true) _ _ _; go_quiet (fail))
    | (go_at_call 109; refine (HIL.out _).mono ?_; rintro e w1 ⟨rfl, rfl⟩))
  all_goals first | exact HK.out _ 0 ⟨rfl, rfl, rfl, rfl, rfl, rfl, rfl, rfl, rfl, rfl, rfl, rfl, rfl, rfl, rfl, rfl, rfl, rfl, rfl, rfl, rfl, rfl⟩ | exact HK.out _ _ ⟨rfl, rfl, rfl, rfl, rfl, rfl, rfl, rfl, rfl, rfl, rfl, rfl, rfl, rfl, rfl, rfl, rfl, rfl, rfl, rfl, rfl, rfl⟩ | (exfalso; omega)
end Go.Proofs.YtndhiemagankeaaGreatDoor
/- The walk of package time: a time is read by a layout: the day is looked at; what the places turn to. -/
namespace Go.Proofs.YtndhiemagankeaaGreatDoor
open Go.RowKit
set_option linter.unusedVariables false
set_option linter.unusedSimpArgs false
attribute [local simp] bs_size bs_toList bs_append bs_data bs_extract
set_option maxRecDepth 100000 in
set_option maxHeartbeats 1000000 in
theorem check69 (v : V69) (m0 : 1 ≤ v.m) (m1 : v.m ≤ 12) (d0 : 1 ≤ v.d) (d1 : v.d ≤ days v.y v.m) (y0 : 0 ≤ v.y) (y1 : v.y ≤ 9999) (w : World) (a : Act) (hA : At69 v a) (K : Act → World → Prop) (Qx : Exit → Act → World → Prop) (hK : ∀ a2 n, At69 v a2 → K a2 (w.drewN n)) :
    (st69 2).wp Tryz.prog (Exit.then K Qx) a w := by
  obtain ⟨u, rfl⟩ := hA.open
  obtain ⟨lay, val, loc, p, am, pm, y, m, d, yd, h, mi, s, ns, z, zo, zn⟩ := v
  simp only at m0 m1 d0 d1 y0 y1
  obtain ⟨dy, HDY⟩ : ∃ dy, Hid (dy = days y m) := ⟨_, Lib.hid rfl⟩
  have HDI : Hid (∀ w, Calls Tryz.prog 89 #[.int .i64 m, .int .i64 y] w fun e w' => e = .returned (.int .i64 dy) ∧ w' = w) := fun w => by
    rw [HDY.out]
    exact daysIn_c m y w m0 m1 y0 (by omega)
  rw [← HDY.out] at d1
  have hdb := days_bd' y m
  rw [← HDY.out] at hdb
  have HK := Lib.hid hK
  clear hK hA
  unfold fr69
  conv => arg 2; whnf
  go_wp2_with (first
    | (guard_target =~ Code.wp _ (Code.region _ _ true) _ _ _; go_quiet (fail))
    | (go_at_call 89; refine (HDI.out _).mono ?_; rintro e w1 ⟨rfl, rfl⟩))
  all_goals first | exact HK.out _ 0 ⟨rfl, rfl, rfl, rfl, rfl, rfl, rfl, rfl, rfl, rfl, rfl, rfl, rfl, rfl, rfl, rfl, rfl, rfl, rfl, rfl, rfl, rfl⟩ | exact HK.out _ _ ⟨rfl, rfl, rfl, rfl, rfl, rfl, rfl, rfl, rfl, rfl, rfl, rfl, rfl, rfl, rfl, rfl, rfl, rfl, rfl, rfl, rfl, rfl⟩ | (exfalso; omega)
set_option maxRecDepth 100000 in
set_option maxHeartbeats 1000000 in
theorem zpass69 (v : V69) (h1 : v.z = .pointer none) (w : World) (a : Act) (hA : At69 v a) (K : Act → World → Prop) (Qx : Exit → Act → World → Prop) (hK : ∀ a2 n, At69 v a2 → K a2 (w.drewN n)) :
    (st69 3).wp Tryz.prog (Exit.then K Qx) a w := by
  obtain ⟨u, rfl⟩ := hA.open
  obtain ⟨lay, val, loc, p, am, pm, y, m, d, yd, h, mi, s, ns, z, zo, zn⟩ := v
  simp only at h1
  subst h1
  have HK := Lib.hid hK
  clear hK hA
  unfold fr69
  conv => arg 2; whnf
  go_wp2_with (first
    | (guard_target =~ Code.wp _ (Code.region _ _ true) _ _ _; go_quiet (fail)))
  all_goals first | exact HK.out _ 0 ⟨rfl, rfl, rfl, rfl, rfl, rfl, rfl, rfl, rfl, rfl, rfl, rfl, rfl, rfl, rfl, rfl, rfl, rfl, rfl, rfl, rfl, rfl⟩ | exact HK.out _ _ ⟨rfl, rfl, rfl, rfl, rfl, rfl, rfl, rfl, rfl, rfl, rfl, rfl, rfl, rfl, rfl, rfl, rfl, rfl, rfl, rfl, rfl, rfl⟩
set_option maxRecDepth 100000 in
set_option maxHeartbeats 1000000 in
theorem opass69 (v : V69) (h1 : v.zo = -1) (w : World) (a : Act) (hA : At69 v a) (K : Act → World → Prop) (Qx : Exit → Act → World → Prop) (hK : ∀ a2 n, At69 v a2 → K a2 (w.drewN n)) :
    (st69 4).wp Tryz.prog (Exit.then K Qx) a w := by
  obtain ⟨u, rfl⟩ := hA.open
  obtain ⟨lay, val, loc, p, am, pm, y, m, d, yd, h, mi, s, ns, z, zo, zn⟩ := v
  simp only at h1
  subst h1
  have HK := Lib.hid hK
  clear hK hA
  unfold fr69
  conv => arg 2; whnf
  go_wp2_with (first
    | (guard_target =~ Code.wp _ (Code.region _ _ true) _ _ _; go_quiet (fail)))
  all_goals first | exact HK.out _ 0 ⟨rfl, rfl, rfl, rfl, rfl, rfl, rfl, rfl, rfl, rfl, rfl, rfl, rfl, rfl, rfl, rfl, rfl, rfl, rfl, rfl, rfl, rfl⟩ | exact HK.out _ _ ⟨rfl, rfl, rfl, rfl, rfl, rfl, rfl, rfl, rfl, rfl, rfl, rfl, rfl, rfl, rfl, rfl, rfl, rfl, rfl, rfl, rfl, rfl⟩
set_option maxRecDepth 100000 in
set_option maxHeartbeats 1000000 in
theorem apass69 (v : V69) (h1 : v.zn = []) (w : World) (a : Act) (hA : At69 v a) (K : Act → World → Prop) (Qx : Exit → Act → World → Prop) (hK : ∀ a2 n, At69 v a2 → K a2 (w.drewN n)) :
    (st69 5).wp Tryz.prog (Exit.then K Qx) a w := by
  obtain ⟨u, rfl⟩ := hA.open
  obtain ⟨lay, val, loc, p, am, pm, y, m, d, yd, h, mi, s, ns, z, zo, zn⟩ := v
  simp only at h1
  subst h1
  have HK := Lib.hid hK
  clear hK hA
  unfold fr69
  conv => arg 2; whnf
  go_wp2_with (first
    | (guard_target =~ Code.wp _ (Code.region _ _ true) _ _ _; go_quiet (fail)))
  all_goals first | exact HK.out _ 0 ⟨rfl, rfl, rfl, rfl, rfl, rfl, rfl, rfl, rfl, rfl, rfl, rfl, rfl, rfl, rfl, rfl, rfl, rfl, rfl, rfl, rfl, rfl⟩ | exact HK.out _ _ ⟨rfl, rfl, rfl, rfl, rfl, rfl, rfl, rfl, rfl, rfl, rfl, rfl, rfl, rfl, rfl, rfl, rfl, rfl, rfl, rfl, rfl, rfl⟩
end Go.Proofs.YtndhiemagankeaaGreatDoor
