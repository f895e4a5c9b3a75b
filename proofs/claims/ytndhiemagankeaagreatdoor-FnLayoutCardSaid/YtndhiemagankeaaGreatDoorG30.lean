/-
  FnLayout (the statement: for every list of pieces, every time and every zone the call returns true, and its arguments read afterwards as they did), part 30 of 41. In this part: The walk of package time: a time is read by a layout: offsets of UTC; how the offsets are reached.
-/
import Derived.Test.YtndhiemagankeaaGreatDoorG26
/- The walk of package time: a time is read by a layout: offsets of UTC; how the offsets are reached. -/
namespace Go.Proofs.YtndhiemagankeaaGreatDoor
open Go.RowKit
set_option linter.unusedSimpArgs false
set_option linter.unusedVariables false
attribute [local simp] bs_size bs_toList bs_append bs_data bs_extract
set_option maxRecDepth 100000 in
set_option maxHeartbeats 1000000 in
theorem hand69_18z (v : V69) (std : Int) (rest : Bytes) (hv : v.val = 90 :: rest) (hmx : v.val.length ≤ 1099511627776) : Hand69R 18 std std v (fun v2 w2 => ∃ zv, v2 = { v with val := rest, z := zv } ∧ UtcAt w2 zv) := by
  intro w u Q hs hK
  obtain ⟨lay, val, loc, p, am, pm, y, m, d, yd, h, mi, s, ns, z, zo, zn⟩ := v
  simp only at hv hmx
  obtain ⟨l, HL⟩ : ∃ l, Hid (l = val) := ⟨_, Lib.hid rfl⟩
  have hll : 1 ≤ l.length := by rw [HL.out, hv]; simp
  have hl40 : l.length ≤ 1099511627776 := by rw [HL.out]; exact hmx
  have hix0 : ∀ h : 0 < (bs l).size, (bs l)[0]'h = 90 := fun h => by rw [bs_get]; simp only [HL.out, hv]; rfl
  have HR : Hid (List.take (l.length - 1) (List.tail l) = rest) := by show _ = _; rw [HL.out, hv]; simp
  have HR2 : Hid (List.drop 1 l = rest) := by show _ = _; rw [HL.out, hv]; rfl
  rw [← HL.out]
  clear hv hmx
  have HK := Lib.hid (fun zv a2 w2 (hz : UtcAt w2 zv) hA hB => hK _ a2 w2 hA hB ⟨zv, rfl, hz⟩)
  have HB : Hid (Below w.heap.size w w) := Lib.hid (Below.refl _ _)
  clear hK hs
  unfold fr69t
  conv => arg 2; whnf
  go_wp2_with (first
    | (guard_target =~ Code.wp _ (Code.region _ _ true) _ _ _; go_quiet (fail))
    | (go_at_call 70; refine (utc_c _).mono ?_; rintro e w1 ⟨⟨zv, rfl, hz⟩, hb⟩; have HZ := Lib.hid hz; have HB := Lib.hid (below_next HB.out hb); clear hz hb))
  all_goals first | exact HK.out _ _ _ HZ.out ⟨rfl, rfl, rfl, (by first | rfl | exact congrArg S HR.out | exact congrArg S HR2.out), rfl, rfl, rfl, rfl, rfl, rfl, rfl, rfl, rfl, rfl, rfl, rfl, rfl, rfl, rfl, rfl, rfl, rfl, rfl⟩ HB.out | exact HK.out _ _ _ (HZ.out.below (below_drewN _ _)) ⟨rfl, rfl, rfl, (by first | rfl | exact congrArg S HR.out | exact congrArg S HR2.out), rfl, rfl, rfl, rfl, rfl, rfl, rfl, rfl, rfl, rfl, rfl, rfl, rfl, rfl, rfl, rfl, rfl, rfl, rfl⟩ (below_dN HB.out _)
set_option maxRecDepth 100000 in
set_option maxHeartbeats 1000000 in
theorem hand69_32u (v : V69) (rest : Bytes) (hv : v.val = 85 :: 84 :: 67 :: rest) (hmx : v.val.length ≤ 1099511627776) : Hand69R 20 23 23 v (fun v2 w2 => ∃ zv, v2 = { v with val := rest, z := zv } ∧ UtcAt w2 zv) := by
  intro w u Q hs hK
  obtain ⟨lay, val, loc, p, am, pm, y, m, d, yd, h, mi, s, ns, z, zo, zn⟩ := v
  simp only at hv hmx
  obtain ⟨l, HL⟩ : ∃ l, Hid (l = val) := ⟨_, Lib.hid rfl⟩
  have hll : 3 ≤ l.length := by rw [HL.out, hv]; simp
  have hl40 : l.length ≤ 1099511627776 := by rw [HL.out]; exact hmx
  have hp1 : (List.take 3 l == [85, 84, 67]) = true := by rw [HL.out, hv]; rfl
  have hp2 : List.take 3 l = [85, 84, 67] := by rw [HL.out, hv]; rfl
  have HR : Hid (List.take (l.length - 3) (List.drop 3 l) = rest) := by show _ = _; rw [take_rest, HL.out, hv]; rfl
  have HR2 : Hid (List.drop 3 l = rest) := by show _ = _; rw [HL.out, hv]; rfl
  rw [← HL.out]
  clear hv hmx
  have HK := Lib.hid (fun zv a2 w2 (hz : UtcAt w2 zv) hA hB => hK _ a2 w2 hA hB ⟨zv, rfl, hz⟩)
  have HB : Hid (Below w.heap.size w w) := Lib.hid (Below.refl _ _)
  clear hK hs
  unfold fr69t
  conv => arg 2; whnf
  go_wp2_with (first
    | (guard_target =~ Code.wp _ (Code.region _ _ true) _ _ _; go_quiet (fail))
    | (go_at_call 70; refine (utc_c _).mono ?_; rintro e w1 ⟨⟨zv, rfl, hz⟩, hb⟩; have HZ := Lib.hid hz; have HB := Lib.hid (below_next HB.out hb); clear hz hb))
  all_goals first | exact HK.out _ _ _ HZ.out ⟨rfl, rfl, rfl, (by first | rfl | exact congrArg S HR.out | exact congrArg S HR2.out), rfl, rfl, rfl, rfl, rfl, rfl, rfl, rfl, rfl, rfl, rfl, rfl, rfl, rfl, rfl, rfl, rfl, rfl, rfl⟩ HB.out | exact HK.out _ _ _ (HZ.out.below (below_drewN _ _)) ⟨rfl, rfl, rfl, (by first | rfl | exact congrArg S HR.out | exact congrArg S HR2.out), rfl, rfl, rfl, rfl, rfl, rfl, rfl, rfl, rfl, rfl, rfl, rfl, rfl, rfl, rfl, rfl, rfl, rfl, rfl⟩ (below_dN HB.out _)
set_option maxRecDepth 100000 in
set_option maxHeartbeats 1000000 in
theorem pass18 (v : V69) (std : Int) (c : UInt8) (t : Bytes) (hv : v.val = c :: t) (hc : c.toNat ≠ 90) (hmx : v.val.length ≤ 1099511627776) (w : World) (u : Nat → Value) (Q : Exit → Act → World → Prop)
    (hK : ∀ a2, At69t v std std a2 → Q .normal a2 w) : (hand69 18).wp Tryz.prog Q (fr69t v std std u) w := by
  obtain ⟨lay, val, loc, p, am, pm, y, m, d, yd, h, mi, s, ns, z, zo, zn⟩ := v
  simp only at hv hmx
  have hll : 1 ≤ val.length := by rw [hv]; simp
  have hix0 : ∀ h : 0 < (bs val).size, (bs val)[0]'h = c := fun h => by rw [bs_get]; simp only [hv]; rfl
  have hcb := c.toNat_lt
  have HK := Lib.hid hK
  clear hK hv
  unfold fr69t
  conv => arg 2; whnf
  go_wp2_with (guard_target =~ Code.wp _ (Code.region _ _ true) _ _ _; go_quiet (fail))
  all_goals exact HK.out _ ⟨rfl, rfl, rfl, rfl, rfl, rfl, rfl, rfl, rfl, rfl, rfl, rfl, rfl, rfl, rfl, rfl, rfl, rfl, rfl, rfl, rfl, rfl, rfl, rfl, rfl⟩
set_option maxRecDepth 100000 in
set_option maxHeartbeats 4000000 in
theorem chain69R_27z (v : V69) (R : V69 → World → Prop) (hh : Hand69R 18 24 24 v R) : Par69R 24 24 v R := by
  intro w u K Qx hs hK
  have HH : Hid (∀ (a : Act) (Q : Exit → Act → World → Prop), At69t v 24 24 a → (∀ v2 a2 w2, At69n v2 a2 → Below w.heap.size w w2 → R v2 w2 → Q (.exit 2) a2 w2) → (hand69 18).wp Tryz.prog Q a w) := by
    show ∀ a Q, _
    intro a Q hA hq
    obtain ⟨u, rfl⟩ := hA.open
    exact hh w u Q hs hq
  obtain ⟨lay, val, loc, p, am, pm, y, m, d, yd, h, mi, s, ns, z, zo, zn⟩ := v
  have HK := Lib.hid hK
  clear hK hh hs
  unfold fr69t
  conv => arg 2; whnf
  repeat' (first
    | (guard_target =~ Code.wp _ (Code.seq (Code.region 134 _ _) _) _ _ _; refine HH.out _ _ ⟨rfl, rfl, rfl, rfl, rfl, rfl, rfl, rfl, rfl, rfl, rfl, rfl, rfl, rfl, rfl, rfl, rfl, rfl, rfl, rfl, rfl, rfl, rfl, rfl, rfl⟩ ?_; intro v2 a2 w2 hA2 hB2 hR2; have HA2 := Lib.hid hA2; have HB2 := Lib.hid hB2; have HR2 := Lib.hid hR2; clear hA2 hB2 hR2)
    | (guard_target =~ K _ _; exact HK.out _ _ _ HA2.out HB2.out HR2.out)
    | (guard_target =~ Exit.then _ _ _ _ _; first | refine then_ex ?_ | refine then_no ?_)
    | (guard_target =~ Exit.inBlock _ _ _ _ _; first | refine blk_same ?_ | refine blk_ne (by decide) ?_ | refine blk_no ?_)
    | go_guarded
    | go_skip
    | go_step
    | go_upon
    | go_back
    | go_simp)
set_option maxRecDepth 100000 in
set_option maxHeartbeats 4000000 in
theorem chain69R_27n (v : V69) (c : UInt8) (t : Bytes) (hv : v.val = c :: t) (hc : c.toNat ≠ 90) (hmx : v.val.length ≤ 1099511627776) (R : V69 → World → Prop) (hh : Hand69R 19 24 24 v R) : Par69R 24 24 v R := by
  intro w u K Qx hs hK
  have HH : Hid (∀ (a : Act) (Q : Exit → Act → World → Prop), At69t v 24 24 a → (∀ v2 a2 w2, At69n v2 a2 → Below w.heap.size w w2 → R v2 w2 → Q (.exit 2) a2 w2) → (hand69 19).wp Tryz.prog Q a w) := by
    show ∀ a Q, _
    intro a Q hA hq
    obtain ⟨u, rfl⟩ := hA.open
    exact hh w u Q hs hq
  have HP : Hid (∀ (a : Act) (Q : Exit → Act → World → Prop), At69t v 24 24 a → (∀ a2, At69t v 24 24 a2 → Q .normal a2 w) → (hand69 18).wp Tryz.prog Q a w) := by
    show ∀ a Q, _
    intro a Q hA hq
    obtain ⟨u, rfl⟩ := hA.open
    exact pass18 _ 24 c t hv hc hmx w u Q hq
  obtain ⟨lay, val, loc, p, am, pm, y, m, d, yd, h, mi, s, ns, z, zo, zn⟩ := v
  have HK := Lib.hid hK
  clear hK hh hs
  clear hv hc hmx
  unfold fr69t
  conv => arg 2; whnf
  repeat' (first
    | (guard_target =~ Code.wp _ (Code.seq (Code.region 134 _ _) _) _ _ _; refine HP.out _ _ ⟨rfl, rfl, rfl, rfl, rfl, rfl, rfl, rfl, rfl, rfl, rfl, rfl, rfl, rfl, rfl, rfl, rfl, rfl, rfl, rfl, rfl, rfl, rfl, rfl, rfl⟩ ?_; rintro a2 hA2t; obtain ⟨u2, rfl⟩ := hA2t.open; clear hA2t; unfold fr69t)
    | (guard_target =~ Code.wp _ (Code.seq _ (Code.exit 2)) _ _ _; refine HH.out _ _ ⟨rfl, rfl, rfl, rfl, rfl, rfl, rfl, rfl, rfl, rfl, rfl, rfl, rfl, rfl, rfl, rfl, rfl, rfl, rfl, rfl, rfl, rfl, rfl, rfl, rfl⟩ ?_; intro v2 a2 w2 hA2 hB2 hR2; have HA2 := Lib.hid hA2; have HB2 := Lib.hid hB2; have HR2 := Lib.hid hR2; clear hA2 hB2 hR2)
    | (guard_target =~ K _ _; exact HK.out _ _ _ HA2.out HB2.out HR2.out)
    | (guard_target =~ Exit.then _ _ _ _ _; first | refine then_ex ?_ | refine then_no ?_)
    | (guard_target =~ Exit.inBlock _ _ _ _ _; first | refine blk_same ?_ | refine blk_ne (by decide) ?_ | refine blk_no ?_)
    | go_guarded
    | go_skip
    | go_step
    | go_upon
    | go_back
    | go_simp)
set_option maxRecDepth 100000 in
set_option maxHeartbeats 4000000 in
theorem chain69R_28z (v : V69) (R : V69 → World → Prop) (hh : Hand69R 18 27 27 v R) : Par69R 27 27 v R := by
  intro w u K Qx hs hK
  have HH : Hid (∀ (a : Act) (Q : Exit → Act → World → Prop), At69t v 27 27 a → (∀ v2 a2 w2, At69n v2 a2 → Below w.heap.size w w2 → R v2 w2 → Q (.exit 2) a2 w2) → (hand69 18).wp Tryz.prog Q a w) := by
    show ∀ a Q, _
    intro a Q hA hq
    obtain ⟨u, rfl⟩ := hA.open
    exact hh w u Q hs hq
  obtain ⟨lay, val, loc, p, am, pm, y, m, d, yd, h, mi, s, ns, z, zo, zn⟩ := v
  have HK := Lib.hid hK
  clear hK hh hs
  unfold fr69t
  conv => arg 2; whnf
  repeat' (first
    | (guard_target =~ Code.wp _ (Code.seq (Code.region 134 _ _) _) _ _ _; refine HH.out _ _ ⟨rfl, rfl, rfl, rfl, rfl, rfl, rfl, rfl, rfl, rfl, rfl, rfl, rfl, rfl, rfl, rfl, rfl, rfl, rfl, rfl, rfl, rfl, rfl, rfl, rfl⟩ ?_; intro v2 a2 w2 hA2 hB2 hR2; have HA2 := Lib.hid hA2; have HB2 := Lib.hid hB2; have HR2 := Lib.hid hR2; clear hA2 hB2 hR2)
    | (guard_target =~ K _ _; exact HK.out _ _ _ HA2.out HB2.out HR2.out)
    | (guard_target =~ Exit.then _ _ _ _ _; first | refine then_ex ?_ | refine then_no ?_)
    | (guard_target =~ Exit.inBlock _ _ _ _ _; first | refine blk_same ?_ | refine blk_ne (by decide) ?_ | refine blk_no ?_)
    | go_guarded
    | go_skip
    | go_step
    | go_upon
    | go_back
    | go_simp)
set_option maxRecDepth 100000 in
set_option maxHeartbeats 4000000 in
theorem chain69R_28n (v : V69) (c : UInt8) (t : Bytes) (hv : v.val = c :: t) (hc : c.toNat ≠ 90) (hmx : v.val.length ≤ 1099511627776) (R : V69 → World → Prop) (hh : Hand69R 19 27 27 v R) : Par69R 27 27 v R := by
  intro w u K Qx hs hK
  have HH : Hid (∀ (a : Act) (Q : Exit → Act → World → Prop), At69t v 27 27 a → (∀ v2 a2 w2, At69n v2 a2 → Below w.heap.size w w2 → R v2 w2 → Q (.exit 2) a2 w2) → (hand69 19).wp Tryz.prog Q a w) := by
    show ∀ a Q, _
    intro a Q hA hq
    obtain ⟨u, rfl⟩ := hA.open
    exact hh w u Q hs hq
  have HP : Hid (∀ (a : Act) (Q : Exit → Act → World → Prop), At69t v 27 27 a → (∀ a2, At69t v 27 27 a2 → Q .normal a2 w) → (hand69 18).wp Tryz.prog Q a w) := by
    show ∀ a Q, _
    intro a Q hA hq
    obtain ⟨u, rfl⟩ := hA.open
    exact pass18 _ 27 c t hv hc hmx w u Q hq
  obtain ⟨lay, val, loc, p, am, pm, y, m, d, yd, h, mi, s, ns, z, zo, zn⟩ := v
  have HK := Lib.hid hK
  clear hK hh hs
  clear hv hc hmx
  unfold fr69t
  conv => arg 2; whnf
  repeat' (first
    | (guard_target =~ Code.wp _ (Code.seq (Code.region 134 _ _) _) _ _ _; refine HP.out _ _ ⟨rfl, rfl, rfl, rfl, rfl, rfl, rfl, rfl, rfl, rfl, rfl, rfl, rfl, rfl, rfl, rfl, rfl, rfl, rfl, rfl, rfl, rfl, rfl, rfl, rfl⟩ ?_; rintro a2 hA2t; obtain ⟨u2, rfl⟩ := hA2t.open; clear hA2t; unfold fr69t)
    | (guard_target =~ Code.wp _ (Code.seq _ (Code.exit 2)) _ _ _; refine HH.out _ _ ⟨rfl, rfl, rfl, rfl, rfl, rfl, rfl, rfl, rfl, rfl, rfl, rfl, rfl, rfl, rfl, rfl, rfl, rfl, rfl, rfl, rfl, rfl, rfl, rfl, rfl⟩ ?_; intro v2 a2 w2 hA2 hB2 hR2; have HA2 := Lib.hid hA2; have HB2 := Lib.hid hB2; have HR2 := Lib.hid hR2; clear hA2 hB2 hR2)
    | (guard_target =~ K _ _; exact HK.out _ _ _ HA2.out HB2.out HR2.out)
    | (guard_target =~ Exit.then _ _ _ _ _; first | refine then_ex ?_ | refine then_no ?_)
    | (guard_target =~ Exit.inBlock _ _ _ _ _; first | refine blk_same ?_ | refine blk_ne (by decide) ?_ | refine blk_no ?_)
    | go_guarded
    | go_skip
    | go_step
    | go_upon
    | go_back
    | go_simp)
set_option maxRecDepth 100000 in
set_option maxHeartbeats 4000000 in
theorem chain69R_29z (v : V69) (R : V69 → World → Prop) (hh : Hand69R 18 26 26 v R) : Par69R 26 26 v R := by
  intro w u K Qx hs hK
  have HH : Hid (∀ (a : Act) (Q : Exit → Act → World → Prop), At69t v 26 26 a → (∀ v2 a2 w2, At69n v2 a2 → Below w.heap.size w w2 → R v2 w2 → Q (.exit 2) a2 w2) → (hand69 18).wp Tryz.prog Q a w) := by
    show ∀ a Q, _
    intro a Q hA hq
    obtain ⟨u, rfl⟩ := hA.open
    exact hh w u Q hs hq
  obtain ⟨lay, val, loc, p, am, pm, y, m, d, yd, h, mi, s, ns, z, zo, zn⟩ := v
  have HK := Lib.hid hK
  clear hK hh hs
  unfold fr69t
  conv => arg 2; whnf
  repeat' (first
    | (guard_target =~ Code.wp _ (Code.seq (Code.region 134 _ _) _) _ _ _; refine HH.out _ _ ⟨rfl, rfl, rfl, rfl, rfl, rfl, rfl, rfl, rfl, rfl, rfl, rfl, rfl, rfl, rfl, rfl, rfl, rfl, rfl, rfl, rfl, rfl, rfl, rfl, rfl⟩ ?_; intro v2 a2 w2 hA2 hB2 hR2; have HA2 := Lib.hid hA2; have HB2 := Lib.hid hB2; have HR2 := Lib.hid hR2; clear hA2 hB2 hR2)
    | (guard_target =~ K _ _; exact HK.out _ _ _ HA2.out HB2.out HR2.out)
    | (guard_target =~ Exit.then _ _ _ _ _; first | refine then_ex ?_ | refine then_no ?_)
    | (guard_target =~ Exit.inBlock _ _ _ _ _; first | refine blk_same ?_ | refine blk_ne (by decide) ?_ | refine blk_no ?_)
    | go_guarded
    | go_skip
    | go_step
    | go_upon
    | go_back
    | go_simp)
set_option maxRecDepth 100000 in
set_option maxHeartbeats 4000000 in
theorem chain69R_29n (v : V69) (c : UInt8) (t : Bytes) (hv : v.val = c :: t) (hc : c.toNat ≠ 90) (hmx : v.val.length ≤ 1099511627776) (R : V69 → World → Prop) (hh : Hand69R 19 26 26 v R) : Par69R 26 26 v R := by
  intro w u K Qx hs hK
  have HH : Hid (∀ (a : Act) (Q : Exit → Act → World → Prop), At69t v 26 26 a → (∀ v2 a2 w2, At69n v2 a2 → Below w.heap.size w w2 → R v2 w2 → Q (.exit 2) a2 w2) → (hand69 19).wp Tryz.prog Q a w) := by
    show ∀ a Q, _
    intro a Q hA hq
    obtain ⟨u, rfl⟩ := hA.open
    exact hh w u Q hs hq
  have HP : Hid (∀ (a : Act) (Q : Exit → Act → World → Prop), At69t v 26 26 a → (∀ a2, At69t v 26 26 a2 → Q .normal a2 w) → (hand69 18).wp Tryz.prog Q a w) := by
    show ∀ a Q, _
    intro a Q hA hq
    obtain ⟨u, rfl⟩ := hA.open
    exact pass18 _ 26 c t hv hc hmx w u Q hq
  obtain ⟨lay, val, loc, p, am, pm, y, m, d, yd, h, mi, s, ns, z, zo, zn⟩ := v
  have HK := Lib.hid hK
  clear hK hh hs
  clear hv hc hmx
  unfold fr69t
  conv => arg 2; whnf
  repeat' (first
    | (guard_target =~ Code.wp _ (Code.seq (Code.region 134 _ _) _) _ _ _; refine HP.out _ _ ⟨rfl, rfl, rfl, rfl, rfl, rfl, rfl, rfl, rfl, rfl, rfl, rfl, rfl, rfl, rfl, rfl, rfl, rfl, rfl, rfl, rfl, rfl, rfl, rfl, rfl⟩ ?_; rintro a2 hA2t; obtain ⟨u2, rfl⟩ := hA2t.open; clear hA2t; unfold fr69t)
    | (guard_target =~ Code.wp _ (Code.seq _ (Code.exit 2)) _ _ _; refine HH.out _ _ ⟨rfl, rfl, rfl, rfl, rfl, rfl, rfl, rfl, rfl, rfl, rfl, rfl, rfl, rfl, rfl, rfl, rfl, rfl, rfl, rfl, rfl, rfl, rfl, rfl, rfl⟩ ?_; intro v2 a2 w2 hA2 hB2 hR2; have HA2 := Lib.hid hA2; have HB2 := Lib.hid hB2; have HR2 := Lib.hid hR2; clear hA2 hB2 hR2)
    | (guard_target =~ K _ _; exact HK.out _ _ _ HA2.out HB2.out HR2.out)
    | (guard_target =~ Exit.then _ _ _ _ _; first | refine then_ex ?_ | refine then_no ?_)
    | (guard_target =~ Exit.inBlock _ _ _ _ _; first | refine blk_same ?_ | refine blk_ne (by decide) ?_ | refine blk_no ?_)
    | go_guarded
    | go_skip
    | go_step
    | go_upon
    | go_back
    | go_simp)
set_option maxRecDepth 100000 in
set_option maxHeartbeats 4000000 in
theorem chain69R_30z (v : V69) (R : V69 → World → Prop) (hh : Hand69R 18 25 25 v R) : Par69R 25 25 v R := by
  intro w u K Qx hs hK
  have HH : Hid (∀ (a : Act) (Q : Exit → Act → World → Prop), At69t v 25 25 a → (∀ v2 a2 w2, At69n v2 a2 → Below w.heap.size w w2 → R v2 w2 → Q (.exit 2) a2 w2) → (hand69 18).wp Tryz.prog Q a w) := by
    show ∀ a Q, _
    intro a Q hA hq
    obtain ⟨u, rfl⟩ := hA.open
    exact hh w u Q hs hq
  obtain ⟨lay, val, loc, p, am, pm, y, m, d, yd, h, mi, s, ns, z, zo, zn⟩ := v
  have HK := Lib.hid hK
  clear hK hh hs
  unfold fr69t
  conv => arg 2; whnf
  repeat' (first
    | (guard_target =~ Code.wp _ (Code.seq (Code.region 134 _ _) _) _ _ _; refine HH.out _ _ ⟨rfl, rfl, rfl, rfl, rfl, rfl, rfl, rfl, rfl, rfl, rfl, rfl, rfl, rfl, rfl, rfl, rfl, rfl, rfl, rfl, rfl, rfl, rfl, rfl, rfl⟩ ?_; intro v2 a2 w2 hA2 hB2 hR2; have HA2 := Lib.hid hA2; have HB2 := Lib.hid hB2; have HR2 := Lib.hid hR2; clear hA2 hB2 hR2)
    | (guard_target =~ K _ _; exact HK.out _ _ _ HA2.out HB2.out HR2.out)
    | (guard_target =~ Exit.then _ _ _ _ _; first | refine then_ex ?_ | refine then_no ?_)
    | (guard_target =~ Exit.inBlock _ _ _ _ _; first | refine blk_same ?_ | refine blk_ne (by decide) ?_ | refine blk_no ?_)
    | go_guarded
    | go_skip
    | go_step
    | go_upon
    | go_back
    | go_simp)
set_option maxRecDepth 100000 in
set_option maxHeartbeats 4000000 in
theorem chain69R_30n (v : V69) (c : UInt8) (t : Bytes) (hv : v.val = c :: t) (hc : c.toNat ≠ 90) (hmx : v.val.length ≤ 1099511627776) (R : V69 → World → Prop) (hh : Hand69R 19 25 25 v R) : Par69R 25 25 v R := by
  intro w u K Qx hs hK
  have HH : Hid (∀ (a : Act) (Q : Exit → Act → World → Prop), At69t v 25 25 a → (∀ v2 a2 w2, At69n v2 a2 → Below w.heap.size w w2 → R v2 w2 → Q (.exit 2) a2 w2) → (hand69 19).wp Tryz.prog Q a w) := by
    show ∀ a Q, _
    intro a Q hA hq
    obtain ⟨u, rfl⟩ := hA.open
    exact hh w u Q hs hq
  have HP : Hid (∀ (a : Act) (Q : Exit → Act → World → Prop), At69t v 25 25 a → (∀ a2, At69t v 25 25 a2 → Q .normal a2 w) → (hand69 18).wp Tryz.prog Q a w) := by
    show ∀ a Q, _
    intro a Q hA hq
    obtain ⟨u, rfl⟩ := hA.open
    exact pass18 _ 25 c t hv hc hmx w u Q hq
  obtain ⟨lay, val, loc, p, am, pm, y, m, d, yd, h, mi, s, ns, z, zo, zn⟩ := v
  have HK := Lib.hid hK
  clear hK hh hs
  clear hv hc hmx
  unfold fr69t
  conv => arg 2; whnf
  repeat' (first
    | (guard_target =~ Code.wp _ (Code.seq (Code.region 134 _ _) _) _ _ _; refine HP.out _ _ ⟨rfl, rfl, rfl, rfl, rfl, rfl, rfl, rfl, rfl, rfl, rfl, rfl, rfl, rfl, rfl, rfl, rfl, rfl, rfl, rfl, rfl, rfl, rfl, rfl, rfl⟩ ?_; rintro a2 hA2t; obtain ⟨u2, rfl⟩ := hA2t.open; clear hA2t; unfold fr69t)
    | (guard_target =~ Code.wp _ (Code.seq _ (Code.exit 2)) _ _ _; refine HH.out _ _ ⟨rfl, rfl, rfl, rfl, rfl, rfl, rfl, rfl, rfl, rfl, rfl, rfl, rfl, rfl, rfl, rfl, rfl, rfl, rfl, rfl, rfl, rfl, rfl, rfl, rfl⟩ ?_; intro v2 a2 w2 hA2 hB2 hR2; have HA2 := Lib.hid hA2; have HB2 := Lib.hid hB2; have HR2 := Lib.hid hR2; clear hA2 hB2 hR2)
    | (guard_target =~ K _ _; exact HK.out _ _ _ HA2.out HB2.out HR2.out)
    | (guard_target =~ Exit.then _ _ _ _ _; first | refine then_ex ?_ | refine then_no ?_)
    | (guard_target =~ Exit.inBlock _ _ _ _ _; first | refine blk_same ?_ | refine blk_ne (by decide) ?_ | refine blk_no ?_)
    | go_guarded
    | go_skip
    | go_step
    | go_upon
    | go_back
    | go_simp)
set_option maxRecDepth 100000 in
set_option maxHeartbeats 4000000 in
theorem chain69R_31z (v : V69) (R : V69 → World → Prop) (hh : Hand69R 18 28 28 v R) : Par69R 28 28 v R := by
  intro w u K Qx hs hK
  have HH : Hid (∀ (a : Act) (Q : Exit → Act → World → Prop), At69t v 28 28 a → (∀ v2 a2 w2, At69n v2 a2 → Below w.heap.size w w2 → R v2 w2 → Q (.exit 2) a2 w2) → (hand69 18).wp Tryz.prog Q a w) := by
    show ∀ a Q, _
    intro a Q hA hq
    obtain ⟨u, rfl⟩ := hA.open
    exact hh w u Q hs hq
  obtain ⟨lay, val, loc, p, am, pm, y, m, d, yd, h, mi, s, ns, z, zo, zn⟩ := v
  have HK := Lib.hid hK
  clear hK hh hs
  unfold fr69t
  conv => arg 2; whnf
  repeat' (first
    | (guard_target =~ Code.wp _ (Code.seq (Code.region 134 _ _) _) _ _ _; refine HH.out _ _ ⟨rfl, rfl, rfl, rfl, rfl, rfl, rfl, rfl, rfl, rfl, rfl, rfl, rfl, rfl, rfl, rfl, rfl, rfl, rfl, rfl, rfl, rfl, rfl, rfl, rfl⟩ ?_; intro v2 a2 w2 hA2 hB2 hR2; have HA2 := Lib.hid hA2; have HB2 := Lib.hid hB2; have HR2 := Lib.hid hR2; clear hA2 hB2 hR2)
    | (guard_target =~ K _ _; exact HK.out _ _ _ HA2.out HB2.out HR2.out)
    | (guard_target =~ Exit.then _ _ _ _ _; first | refine then_ex ?_ | refine then_no ?_)
    | (guard_target =~ Exit.inBlock _ _ _ _ _; first | refine blk_same ?_ | refine blk_ne (by decide) ?_ | refine blk_no ?_)
    | go_guarded
    | go_skip
    | go_step
    | go_upon
    | go_back
    | go_simp)
set_option maxRecDepth 100000 in
set_option maxHeartbeats 4000000 in
theorem chain69R_31n (v : V69) (c : UInt8) (t : Bytes) (hv : v.val = c :: t) (hc : c.toNat ≠ 90) (hmx : v.val.length ≤ 1099511627776) (R : V69 → World → Prop) (hh : Hand69R 19 28 28 v R) : Par69R 28 28 v R := by
  intro w u K Qx hs hK
  have HH : Hid (∀ (a : Act) (Q : Exit → Act → World → Prop), At69t v 28 28 a → (∀ v2 a2 w2, At69n v2 a2 → Below w.heap.size w w2 → R v2 w2 → Q (.exit 2) a2 w2) → (hand69 19).wp Tryz.prog Q a w) := by
    show ∀ a Q, _
    intro a Q hA hq
    obtain ⟨u, rfl⟩ := hA.open
    exact hh w u Q hs hq
  have HP : Hid (∀ (a : Act) (Q : Exit → Act → World → Prop), At69t v 28 28 a → (∀ a2, At69t v 28 28 a2 → Q .normal a2 w) → (hand69 18).wp Tryz.prog Q a w) := by
    show ∀ a Q, _
    intro a Q hA hq
    obtain ⟨u, rfl⟩ := hA.open
    exact pass18 _ 28 c t hv hc hmx w u Q hq
  obtain ⟨lay, val, loc, p, am, pm, y, m, d, yd, h, mi, s, ns, z, zo, zn⟩ := v
  have HK := Lib.hid hK
  clear hK hh hs
  clear hv hc hmx
  unfold fr69t
  conv => arg 2; whnf
  repeat' (first
    | (guard_target =~ Code.wp _ (Code.seq (Code.region 134 _ _) _) _ _ _; refine HP.out _ _ ⟨rfl, rfl, rfl, rfl, rfl, rfl, rfl, rfl, rfl, rfl, rfl, rfl, rfl, rfl, rfl, rfl, rfl, rfl, rfl, rfl, rfl, rfl, rfl, rfl, rfl⟩ ?_; rintro a2 hA2t; obtain ⟨u2, rfl⟩ := hA2t.open; clear hA2t; unfold fr69t)
    | (guard_target =~ Code.wp _ (Code.seq _ (Code.exit 2)) _ _ _; refine HH.out _ _ ⟨rfl, rfl, rfl, rfl, rfl, rfl, rfl, rfl, rfl, rfl, rfl, rfl, rfl, rfl, rfl, rfl, rfl, rfl, rfl, rfl, rfl, rfl, rfl, rfl, rfl⟩ ?_; intro v2 a2 w2 hA2 hB2 hR2; have HA2 := Lib.hid hA2; have HB2 := Lib.hid hB2; have HR2 := Lib.hid hR2; clear hA2 hB2 hR2)
    | (guard_target =~ K _ _; exact HK.out _ _ _ HA2.out HB2.out HR2.out)
    | (guard_target =~ Exit.then _ _ _ _ _; first | refine then_ex ?_ | refine then_no ?_)
    | (guard_target =~ Exit.inBlock _ _ _ _ _; first | refine blk_same ?_ | refine blk_ne (by decide) ?_ | refine blk_no ?_)
    | go_guarded
    | go_skip
    | go_step
    | go_upon
    | go_back
    | go_simp)
set_option maxRecDepth 100000 in
set_option maxHeartbeats 4000000 in
theorem chain69R_22 (v : V69) (R : V69 → World → Prop) (hh : Hand69R 19 29 29 v R) : Par69R 29 29 v R := by
  intro w u K Qx hs hK
  have HH : Hid (∀ (a : Act) (Q : Exit → Act → World → Prop), At69t v 29 29 a → (∀ v2 a2 w2, At69n v2 a2 → Below w.heap.size w w2 → R v2 w2 → Q (.exit 2) a2 w2) → (hand69 19).wp Tryz.prog Q a w) := by
    show ∀ a Q, _
    intro a Q hA hq
    obtain ⟨u, rfl⟩ := hA.open
    exact hh w u Q hs hq
  obtain ⟨lay, val, loc, p, am, pm, y, m, d, yd, h, mi, s, ns, z, zo, zn⟩ := v
  have HK := Lib.hid hK
  clear hK hh hs
  unfold fr69t
  conv => arg 2; whnf
  repeat' (first
    | (guard_target =~ Code.wp _ (Code.seq _ (Code.exit 2)) _ _ _; refine HH.out _ _ ⟨rfl, rfl, rfl, rfl, rfl, rfl, rfl, rfl, rfl, rfl, rfl, rfl, rfl, rfl, rfl, rfl, rfl, rfl, rfl, rfl, rfl, rfl, rfl, rfl, rfl⟩ ?_; intro v2 a2 w2 hA2 hB2 hR2; have HA2 := Lib.hid hA2; have HB2 := Lib.hid hB2; have HR2 := Lib.hid hR2; clear hA2 hB2 hR2)
    | (guard_target =~ K _ _; exact HK.out _ _ _ HA2.out HB2.out HR2.out)
    | (guard_target =~ Exit.then _ _ _ _ _; first | refine then_ex ?_ | refine then_no ?_)
    | (guard_target =~ Exit.inBlock _ _ _ _ _; first | refine blk_same ?_ | refine blk_ne (by decide) ?_ | refine blk_no ?_)
    | go_guarded
    | go_skip
    | go_step
    | go_upon
    | go_back
    | go_simp)
set_option maxRecDepth 100000 in
set_option maxHeartbeats 4000000 in
theorem chain69R_23 (v : V69) (R : V69 → World → Prop) (hh : Hand69R 19 32 32 v R) : Par69R 32 32 v R := by
  intro w u K Qx hs hK
  have HH : Hid (∀ (a : Act) (Q : Exit → Act → World → Prop), At69t v 32 32 a → (∀ v2 a2 w2, At69n v2 a2 → Below w.heap.size w w2 → R v2 w2 → Q (.exit 2) a2 w2) → (hand69 19).wp Tryz.prog Q a w) := by
    show ∀ a Q, _
    intro a Q hA hq
    obtain ⟨u, rfl⟩ := hA.open
    exact hh w u Q hs hq
  obtain ⟨lay, val, loc, p, am, pm, y, m, d, yd, h, mi, s, ns, z, zo, zn⟩ := v
  have HK := Lib.hid hK
  clear hK hh hs
  unfold fr69t
  conv => arg 2; whnf
  repeat' (first
    | (guard_target =~ Code.wp _ (Code.seq _ (Code.exit 2)) _ _ _; refine HH.out _ _ ⟨rfl, rfl, rfl, rfl, rfl, rfl, rfl, rfl, rfl, rfl, rfl, rfl, rfl, rfl, rfl, rfl, rfl, rfl, rfl, rfl, rfl, rfl, rfl, rfl, rfl⟩ ?_; intro v2 a2 w2 hA2 hB2 hR2; have HA2 := Lib.hid hA2; have HB2 := Lib.hid hB2; have HR2 := Lib.hid hR2; clear hA2 hB2 hR2)
    | (guard_target =~ K _ _; exact HK.out _ _ _ HA2.out HB2.out HR2.out)
    | (guard_target =~ Exit.then _ _ _ _ _; first | refine then_ex ?_ | refine then_no ?_)
    | (guard_target =~ Exit.inBlock _ _ _ _ _; first | refine blk_same ?_ | refine blk_ne (by decide) ?_ | refine blk_no ?_)
    | go_guarded
    | go_skip
    | go_step
    | go_upon
    | go_back
    | go_simp)
set_option maxRecDepth 100000 in
set_option maxHeartbeats 4000000 in
theorem chain69R_24 (v : V69) (R : V69 → World → Prop) (hh : Hand69R 19 31 31 v R) : Par69R 31 31 v R := by
  intro w u K Qx hs hK
  have HH : Hid (∀ (a : Act) (Q : Exit → Act → World → Prop), At69t v 31 31 a → (∀ v2 a2 w2, At69n v2 a2 → Below w.heap.size w w2 → R v2 w2 → Q (.exit 2) a2 w2) → (hand69 19).wp Tryz.prog Q a w) := by
    show ∀ a Q, _
    intro a Q hA hq
    obtain ⟨u, rfl⟩ := hA.open
    exact hh w u Q hs hq
  obtain ⟨lay, val, loc, p, am, pm, y, m, d, yd, h, mi, s, ns, z, zo, zn⟩ := v
  have HK := Lib.hid hK
  clear hK hh hs
  unfold fr69t
  conv => arg 2; whnf
  repeat' (first
    | (guard_target =~ Code.wp _ (Code.seq _ (Code.exit 2)) _ _ _; refine HH.out _ _ ⟨rfl, rfl, rfl, rfl, rfl, rfl, rfl, rfl, rfl, rfl, rfl, rfl, rfl, rfl, rfl, rfl, rfl, rfl, rfl, rfl, rfl, rfl, rfl, rfl, rfl⟩ ?_; intro v2 a2 w2 hA2 hB2 hR2; have HA2 := Lib.hid hA2; have HB2 := Lib.hid hB2; have HR2 := Lib.hid hR2; clear hA2 hB2 hR2)
    | (guard_target =~ K _ _; exact HK.out _ _ _ HA2.out HB2.out HR2.out)
    | (guard_target =~ Exit.then _ _ _ _ _; first | refine then_ex ?_ | refine then_no ?_)
    | (guard_target =~ Exit.inBlock _ _ _ _ _; first | refine blk_same ?_ | refine blk_ne (by decide) ?_ | refine blk_no ?_)
    | go_guarded
    | go_skip
    | go_step
    | go_upon
    | go_back
    | go_simp)
set_option maxRecDepth 100000 in
set_option maxHeartbeats 4000000 in
theorem chain69R_25 (v : V69) (R : V69 → World → Prop) (hh : Hand69R 19 30 30 v R) : Par69R 30 30 v R := by
  intro w u K Qx hs hK
  have HH : Hid (∀ (a : Act) (Q : Exit → Act → World → Prop), At69t v 30 30 a → (∀ v2 a2 w2, At69n v2 a2 → Below w.heap.size w w2 → R v2 w2 → Q (.exit 2) a2 w2) → (hand69 19).wp Tryz.prog Q a w) := by
    show ∀ a Q, _
    intro a Q hA hq
    obtain ⟨u, rfl⟩ := hA.open
    exact hh w u Q hs hq
  obtain ⟨lay, val, loc, p, am, pm, y, m, d, yd, h, mi, s, ns, z, zo, zn⟩ := v
  have HK := Lib.hid hK
  clear hK hh hs
  unfold fr69t
  conv => arg 2; whnf
  repeat' (first
    | (guard_target =~ Code.wp _ (Code.seq _ (Code.exit 2)) _ _ _; refine HH.out _ _ ⟨rfl, rfl, rfl, rfl, rfl, rfl, rfl, rfl, rfl, rfl, rfl, rfl, rfl, rfl, rfl, rfl, rfl, rfl, rfl, rfl, rfl, rfl, rfl, rfl, rfl⟩ ?_; intro v2 a2 w2 hA2 hB2 hR2; have HA2 := Lib.hid hA2; have HB2 := Lib.hid hB2; have HR2 := Lib.hid hR2; clear hA2 hB2 hR2)
    | (guard_target =~ K _ _; exact HK.out _ _ _ HA2.out HB2.out HR2.out)
    | (guard_target =~ Exit.then _ _ _ _ _; first | refine then_ex ?_ | refine then_no ?_)
    | (guard_target =~ Exit.inBlock _ _ _ _ _; first | refine blk_same ?_ | refine blk_ne (by decide) ?_ | refine blk_no ?_)
    | go_guarded
    | go_skip
    | go_step
    | go_upon
    | go_back
    | go_simp)
set_option maxRecDepth 100000 in
set_option maxHeartbeats 4000000 in
theorem chain69R_26 (v : V69) (R : V69 → World → Prop) (hh : Hand69R 19 33 33 v R) : Par69R 33 33 v R := by
  intro w u K Qx hs hK
  have HH : Hid (∀ (a : Act) (Q : Exit → Act → World → Prop), At69t v 33 33 a → (∀ v2 a2 w2, At69n v2 a2 → Below w.heap.size w w2 → R v2 w2 → Q (.exit 2) a2 w2) → (hand69 19).wp Tryz.prog Q a w) := by
    show ∀ a Q, _
    intro a Q hA hq
    obtain ⟨u, rfl⟩ := hA.open
    exact hh w u Q hs hq
  obtain ⟨lay, val, loc, p, am, pm, y, m, d, yd, h, mi, s, ns, z, zo, zn⟩ := v
  have HK := Lib.hid hK
  clear hK hh hs
  unfold fr69t
  conv => arg 2; whnf
  repeat' (first
    | (guard_target =~ Code.wp _ (Code.seq _ (Code.exit 2)) _ _ _; refine HH.out _ _ ⟨rfl, rfl, rfl, rfl, rfl, rfl, rfl, rfl, rfl, rfl, rfl, rfl, rfl, rfl, rfl, rfl, rfl, rfl, rfl, rfl, rfl, rfl, rfl, rfl, rfl⟩ ?_; intro v2 a2 w2 hA2 hB2 hR2; have HA2 := Lib.hid hA2; have HB2 := Lib.hid hB2; have HR2 := Lib.hid hR2; clear hA2 hB2 hR2)
    | (guard_target =~ K _ _; exact HK.out _ _ _ HA2.out HB2.out HR2.out)
    | (guard_target =~ Exit.then _ _ _ _ _; first | refine then_ex ?_ | refine then_no ?_)
    | (guard_target =~ Exit.inBlock _ _ _ _ _; first | refine blk_same ?_ | refine blk_ne (by decide) ?_ | refine blk_no ?_)
    | go_guarded
    | go_skip
    | go_step
    | go_upon
    | go_back
    | go_simp)
set_option maxRecDepth 100000 in
set_option maxHeartbeats 4000000 in
theorem chain69R_32 (v : V69) (R : V69 → World → Prop) (hh : Hand69R 20 23 23 v R) : Par69R 23 23 v R := by
  intro w u K Qx hs hK
  have HH : Hid (∀ (a : Act) (Q : Exit → Act → World → Prop), At69t v 23 23 a → (∀ v2 a2 w2, At69n v2 a2 → Below w.heap.size w w2 → R v2 w2 → Q (.exit 2) a2 w2) → (hand69 20).wp Tryz.prog Q a w) := by
    show ∀ a Q, _
    intro a Q hA hq
    obtain ⟨u, rfl⟩ := hA.open
    exact hh w u Q hs hq
  obtain ⟨lay, val, loc, p, am, pm, y, m, d, yd, h, mi, s, ns, z, zo, zn⟩ := v
  have HK := Lib.hid hK
  clear hK hh hs
  unfold fr69t
  conv => arg 2; whnf
  repeat' (first
    | (guard_target =~ Code.wp _ (Code.seq _ (Code.exit 2)) _ _ _; refine HH.out _ _ ⟨rfl, rfl, rfl, rfl, rfl, rfl, rfl, rfl, rfl, rfl, rfl, rfl, rfl, rfl, rfl, rfl, rfl, rfl, rfl, rfl, rfl, rfl, rfl, rfl, rfl⟩ ?_; intro v2 a2 w2 hA2 hB2 hR2; have HA2 := Lib.hid hA2; have HB2 := Lib.hid hB2; have HR2 := Lib.hid hR2; clear hA2 hB2 hR2)
    | (guard_target =~ K _ _; exact HK.out _ _ _ HA2.out HB2.out HR2.out)
    | (guard_target =~ Exit.then _ _ _ _ _; first | refine then_ex ?_ | refine then_no ?_)
    | (guard_target =~ Exit.inBlock _ _ _ _ _; first | refine blk_same ?_ | refine blk_ne (by decide) ?_ | refine blk_no ?_)
    | go_guarded
    | go_skip
    | go_step
    | go_upon
    | go_back
    | go_simp)
end Go.Proofs.YtndhiemagankeaaGreatDoor
