/-
  FnLayout (the statement: for every list of pieces, every time and every zone the call returns true, and its arguments read afterwards as they did), part 27 of 41. In this part: The walk of package time: a time is read by a layout: seconds.
-/
import Derived.Test.YtndhiemagankeaaGreatDoorG26
/- The walk of package time: a time is read by a layout: seconds. -/
namespace Go.Proofs.YtndhiemagankeaaGreatDoor
open Go.RowKit
set_option linter.unusedSimpArgs false
set_option linter.unusedVariables false
attribute [local simp] bs_size bs_toList bs_append bs_data bs_extract
set_option maxRecDepth 100000 in
set_option maxHeartbeats 1000000 in
theorem hand69_19a (v : V69) (x : Int) (rest : Bytes) (hg : Getn 102 false v.val x rest) (x0 : 0 ≤ x) (x1 : x ≤ 59) (hmx : rest.length ≤ 1099511627776) (hr : rest.length < 2) : Hand69 15 1041 1041 v { v with val := rest, s := x } := by
  intro w u Q hK
  obtain ⟨lay, val, loc, p, am, pm, y, m, d, yd, h, mi, s, ns, z, zo, zn⟩ := v
  simp only at hg
  have HG := Lib.hid hg
  unfold Getn at HG
  have HR : Hid (rest = rest) := Lib.hid rfl
  have HR2 := HR
  clear hg
  have HK := Lib.hid hK
  have HB : Hid (Below w.heap.size w w) := Lib.hid (Below.refl _ _)
  clear hK
  unfold fr69t
  conv => arg 2; whnf
  go_wp2_with (first
    | (guard_target =~ Code.wp _ (Code.region _ _ true) _ _ _; go_quiet (fail))
    | (go_at_call 102; refine (HG.out _).mono ?_; rintro e w1 ⟨rfl, k, rfl⟩; have HB := Lib.hid (below_dN HB.out k)))
  all_goals first | exact HK.out _ _ ⟨rfl, rfl, rfl, (by first | rfl | exact congrArg S HR.out | exact congrArg S HR2.out), rfl, rfl, rfl, rfl, rfl, rfl, rfl, rfl, rfl, rfl, rfl, rfl, rfl, rfl, rfl, rfl, rfl, rfl, rfl⟩ HB.out | exact HK.out _ _ ⟨rfl, rfl, rfl, (by first | rfl | exact congrArg S HR.out | exact congrArg S HR2.out), rfl, rfl, rfl, rfl, rfl, rfl, rfl, rfl, rfl, rfl, rfl, rfl, rfl, rfl, rfl, rfl, rfl, rfl, rfl⟩ (below_dN HB.out _) | exact HK.out _ _ ⟨rfl, rfl, rfl, (by first | rfl | exact congrArg S HR.out | exact congrArg S HR2.out), rfl, rfl, rfl, rfl, rfl, rfl, rfl, rfl, rfl, rfl, rfl, rfl, rfl, rfl, rfl, rfl, rfl, rfl, rfl⟩ (below_drewN _ _)
set_option maxRecDepth 100000 in
set_option maxHeartbeats 1000000 in
theorem hand69_19b (v : V69) (x : Int) (rest : Bytes) (hg : Getn 102 false v.val x rest) (x0 : 0 ≤ x) (x1 : x ≤ 59) (hmx : rest.length ≤ 1099511627776) (c : UInt8) (t : Bytes) (hr : rest = c :: t) (hc : (c == 46 || c == 44) = false) : Hand69 15 1041 1041 v { v with val := rest, s := x } := by
  intro w u Q hK
  obtain ⟨lay, val, loc, p, am, pm, y, m, d, yd, h, mi, s, ns, z, zo, zn⟩ := v
  simp only at hg
  have HG := Lib.hid hg
  unfold Getn at HG
  have HR : Hid (rest = rest) := Lib.hid rfl
  have HR2 := HR
  clear hg
  have hix : ∀ h : 0 < (bs rest).size, (bs rest)[0]'h = c := fun h => by rw [bs_get]; simp only [hr]; rfl
  have HC : Hid (∀ w, Calls Tryz.prog 106 #[.int .u8 c.toNat] w fun e w' => e = .returned (.bool false) ∧ w' = w) := fun w => by
    have := commaOrPeriod_c c w
    rwa [hc] at this
  have hcb := c.toNat_lt
  clear hr hc
  have HK := Lib.hid hK
  have HB : Hid (Below w.heap.size w w) := Lib.hid (Below.refl _ _)
  clear hK
  unfold fr69t
  conv => arg 2; whnf
  go_wp2_with (first
    | (guard_target =~ Code.wp _ (Code.region _ _ true) _ _ _; go_quiet (fail))
    | (go_at_call 102; refine (HG.out _).mono ?_; rintro e w1 ⟨rfl, k, rfl⟩; have HB := Lib.hid (below_dN HB.out k))
    | (go_at_call 106; refine (HC.out _).mono ?_; rintro e w1 ⟨rfl, rfl⟩))
  all_goals first | exact HK.out _ _ ⟨rfl, rfl, rfl, (by first | rfl | exact congrArg S HR.out | exact congrArg S HR2.out), rfl, rfl, rfl, rfl, rfl, rfl, rfl, rfl, rfl, rfl, rfl, rfl, rfl, rfl, rfl, rfl, rfl, rfl, rfl⟩ HB.out | exact HK.out _ _ ⟨rfl, rfl, rfl, (by first | rfl | exact congrArg S HR.out | exact congrArg S HR2.out), rfl, rfl, rfl, rfl, rfl, rfl, rfl, rfl, rfl, rfl, rfl, rfl, rfl, rfl, rfl, rfl, rfl, rfl, rfl⟩ (below_dN HB.out _) | exact HK.out _ _ ⟨rfl, rfl, rfl, (by first | rfl | exact congrArg S HR.out | exact congrArg S HR2.out), rfl, rfl, rfl, rfl, rfl, rfl, rfl, rfl, rfl, rfl, rfl, rfl, rfl, rfl, rfl, rfl, rfl, rfl, rfl⟩ (below_drewN _ _)
set_option maxRecDepth 100000 in
set_option maxHeartbeats 1000000 in
theorem hand69_19c (v : V69) (x : Int) (rest : Bytes) (hg : Getn 102 false v.val x rest) (x0 : 0 ≤ x) (x1 : x ≤ 59) (hmx : rest.length ≤ 1099511627776) (c d : UInt8) (t : Bytes) (hr : rest = c :: d :: t) (hc : (c == 46 || c == 44) = true) (hd : isD d = true) (std2 : Int) (t2 r2 : Bytes) (h2 : bits .and .i64 std2 65535 = 34) (hn : ∀ w, StdAt w → Calls Tryz.prog 94 #[S v.lay] w fun e w' => e = .returned (.tuple #[S t2, .int .i64 std2, S r2]) ∧ ∃ n, w' = w.drewN n) : Hand69R 15 1041 1041 v (fun v2 _ => v2 = { v with val := rest, s := x }) := by
  intro w u Q hs hq
  have hK := fun a2 w2 hA hB => hq _ a2 w2 hA hB rfl
  have HS := Lib.hid hs
  clear hs hq
  obtain ⟨lay, val, loc, p, am, pm, y, m, d, yd, h, mi, s, ns, z, zo, zn⟩ := v
  simp only at hn
  simp only at hg
  have HG := Lib.hid hg
  unfold Getn at HG
  have HR : Hid (rest = rest) := Lib.hid rfl
  have HR2 := HR
  clear hg
  have hix : ∀ h : 0 < (bs rest).size, (bs rest)[0]'h = c := fun h => by rw [bs_get]; simp only [hr]; rfl
  have hll : 2 ≤ rest.length := by rw [hr]; simp
  have HC : Hid (∀ w, Calls Tryz.prog 106 #[.int .u8 c.toNat] w fun e w' => e = .returned (.bool true) ∧ w' = w) := fun w => by
    have := commaOrPeriod_c c w
    rwa [hc] at this
  have HI : Hid (∀ w, Calls Tryz.prog 90 #[S rest, .int .i64 1] w fun e w' => e = .returned (.bool true) ∧ w' = w) := fun w => by
    have h1 := isDigit_c rest 1 w (by omega)
    have h2 : digitAt rest (1 : Int).toNat = true := by
      show digitAt rest 1 = true
      rw [hr]
      simpa [digitAt] using hd
    rwa [h2] at h1
  have HN := Lib.hid hn
  have hcb := c.toNat_lt
  clear hr hc hn hd
  have HK := Lib.hid hK
  have HB : Hid (Below w.heap.size w w) := Lib.hid (Below.refl _ _)
  clear hK
  unfold fr69t
  conv => arg 2; whnf
  go_wp2_with (first
    | (guard_target =~ Code.wp _ (Code.region _ _ true) _ _ _; go_quiet (fail))
    | (go_at_call 102; refine (HG.out _).mono ?_; rintro e w1 ⟨rfl, k, rfl⟩; have HB := Lib.hid (below_dN HB.out k))
    | (go_at_call 106; refine (HC.out _).mono ?_; rintro e w1 ⟨rfl, rfl⟩)
    | (go_at_call 90; refine (HI.out _).mono ?_; rintro e w1 ⟨rfl, rfl⟩)
    | (go_at_call 94; refine (HN.out _ (HS.out.draws _)).mono ?_; rintro e w1 ⟨rfl, k, rfl⟩; have HB := Lib.hid (below_dN HB.out k)))
  all_goals first | exact HK.out _ _ ⟨rfl, rfl, rfl, (by first | rfl | exact congrArg S HR.out | exact congrArg S HR2.out), rfl, rfl, rfl, rfl, rfl, rfl, rfl, rfl, rfl, rfl, rfl, rfl, rfl, rfl, rfl, rfl, rfl, rfl, rfl⟩ HB.out | exact HK.out _ _ ⟨rfl, rfl, rfl, (by first | rfl | exact congrArg S HR.out | exact congrArg S HR2.out), rfl, rfl, rfl, rfl, rfl, rfl, rfl, rfl, rfl, rfl, rfl, rfl, rfl, rfl, rfl, rfl, rfl, rfl, rfl⟩ (below_dN HB.out _) | exact HK.out _ _ ⟨rfl, rfl, rfl, (by first | rfl | exact congrArg S HR.out | exact congrArg S HR2.out), rfl, rfl, rfl, rfl, rfl, rfl, rfl, rfl, rfl, rfl, rfl, rfl, rfl, rfl, rfl, rfl, rfl, rfl, rfl⟩ (below_drewN _ _)
set_option maxRecDepth 100000 in
set_option maxHeartbeats 1000000 in
theorem hand69_19d (v : V69) (x : Int) (rest : Bytes) (hg : Getn 102 false v.val x rest) (x0 : 0 ≤ x) (x1 : x ≤ 59) (hmx : rest.length ≤ 1099511627776) (c d : UInt8) (t : Bytes) (hr : rest = c :: d :: t) (hc : (c == 46 || c == 44) = true) (hd : isD d = true) (std2 : Int) (t2 r2 : Bytes) (h2 : bits .and .i64 std2 65535 = 35) (hn : ∀ w, StdAt w → Calls Tryz.prog 94 #[S v.lay] w fun e w' => e = .returned (.tuple #[S t2, .int .i64 std2, S r2]) ∧ ∃ n, w' = w.drewN n) : Hand69R 15 1041 1041 v (fun v2 _ => v2 = { v with val := rest, s := x }) := by
  intro w u Q hs hq
  have hK := fun a2 w2 hA hB => hq _ a2 w2 hA hB rfl
  have HS := Lib.hid hs
  clear hs hq
  obtain ⟨lay, val, loc, p, am, pm, y, m, d, yd, h, mi, s, ns, z, zo, zn⟩ := v
  simp only at hn
  simp only at hg
  have HG := Lib.hid hg
  unfold Getn at HG
  have HR : Hid (rest = rest) := Lib.hid rfl
  have HR2 := HR
  clear hg
  have hix : ∀ h : 0 < (bs rest).size, (bs rest)[0]'h = c := fun h => by rw [bs_get]; simp only [hr]; rfl
  have hll : 2 ≤ rest.length := by rw [hr]; simp
  have HC : Hid (∀ w, Calls Tryz.prog 106 #[.int .u8 c.toNat] w fun e w' => e = .returned (.bool true) ∧ w' = w) := fun w => by
    have := commaOrPeriod_c c w
    rwa [hc] at this
  have HI : Hid (∀ w, Calls Tryz.prog 90 #[S rest, .int .i64 1] w fun e w' => e = .returned (.bool true) ∧ w' = w) := fun w => by
    have h1 := isDigit_c rest 1 w (by omega)
    have h2 : digitAt rest (1 : Int).toNat = true := by
      show digitAt rest 1 = true
      rw [hr]
      simpa [digitAt] using hd
    rwa [h2] at h1
  have HN := Lib.hid hn
  have hcb := c.toNat_lt
  clear hr hc hn hd
  have HK := Lib.hid hK
  have HB : Hid (Below w.heap.size w w) := Lib.hid (Below.refl _ _)
  clear hK
  unfold fr69t
  conv => arg 2; whnf
  go_wp2_with (first
    | (guard_target =~ Code.wp _ (Code.region _ _ true) _ _ _; go_quiet (fail))
    | (go_at_call 102; refine (HG.out _).mono ?_; rintro e w1 ⟨rfl, k, rfl⟩; have HB := Lib.hid (below_dN HB.out k))
    | (go_at_call 106; refine (HC.out _).mono ?_; rintro e w1 ⟨rfl, rfl⟩)
    | (go_at_call 90; refine (HI.out _).mono ?_; rintro e w1 ⟨rfl, rfl⟩)
    | (go_at_call 94; refine (HN.out _ (HS.out.draws _)).mono ?_; rintro e w1 ⟨rfl, k, rfl⟩; have HB := Lib.hid (below_dN HB.out k)))
  all_goals first | exact HK.out _ _ ⟨rfl, rfl, rfl, (by first | rfl | exact congrArg S HR.out | exact congrArg S HR2.out), rfl, rfl, rfl, rfl, rfl, rfl, rfl, rfl, rfl, rfl, rfl, rfl, rfl, rfl, rfl, rfl, rfl, rfl, rfl⟩ HB.out | exact HK.out _ _ ⟨rfl, rfl, rfl, (by first | rfl | exact congrArg S HR.out | exact congrArg S HR2.out), rfl, rfl, rfl, rfl, rfl, rfl, rfl, rfl, rfl, rfl, rfl, rfl, rfl, rfl, rfl, rfl, rfl, rfl, rfl⟩ (below_dN HB.out _) | exact HK.out _ _ ⟨rfl, rfl, rfl, (by first | rfl | exact congrArg S HR.out | exact congrArg S HR2.out), rfl, rfl, rfl, rfl, rfl, rfl, rfl, rfl, rfl, rfl, rfl, rfl, rfl, rfl, rfl, rfl, rfl, rfl, rfl⟩ (below_drewN _ _)
set_option maxRecDepth 100000 in
set_option maxHeartbeats 4000000 in
theorem chain69R_19 (v : V69) (R : V69 → World → Prop) (hh : Hand69R 15 1041 1041 v R) : Par69R 1041 1041 v R := by
  intro w u K Qx hs hK
  have HH : Hid (∀ (a : Act) (Q : Exit → Act → World → Prop), At69t v 1041 1041 a → (∀ v2 a2 w2, At69n v2 a2 → Below w.heap.size w w2 → R v2 w2 → Q (.exit 2) a2 w2) → (hand69 15).wp Tryz.prog Q a w) := by
    show ∀ a Q, _
    intro a Q hA hq
    obtain ⟨u, rfl⟩ := hA.open
    exact hh w u Q hs hq
  obtain ⟨lay, val, loc, p, am, pm, y, m, d, yd, h, mi, s, ns, z, zo, zn⟩ := v
  have HK := Lib.hid hK
  clear hK hh hs
  unfold fr69t
  conv => arg 2; whnf
  repeat' (first
    | (guard_target =~ Code.wp _ (Code.seq _ (Code.exit 2)) _ _ _; refine HH.out _ _ ⟨rfl, rfl, rfl, rfl, rfl, rfl, rfl, rfl, rfl, rfl, rfl, rfl, rfl, rfl, rfl, rfl, rfl, rfl, rfl, rfl, rfl, rfl, rfl, rfl, rfl⟩ ?_; intro v2 a2 w2 hA2 hB2 hR2; have HA2 := Lib.hid hA2; have HB2 := Lib.hid hB2; have HR2 := Lib.hid hR2; clear hA2 hB2 hR2)
    | (guard_target =~ K _ _; exact HK.out _ _ _ HA2.out HB2.out HR2.out)
    | (guard_target =~ Exit.then _ _ _ _ _; first | refine then_ex ?_ | refine then_no ?_)
    | (guard_target =~ Exit.inBlock _ _ _ _ _; first | refine blk_same ?_ | refine blk_ne (by decide) ?_ | refine blk_no ?_)
    | go_guarded
    | go_skip
    | go_step
    | go_upon
    | go_back
    | go_simp)
set_option maxRecDepth 100000 in
set_option maxHeartbeats 1000000 in
theorem hand69_20a (v : V69) (x : Int) (rest : Bytes) (hg : Getn 102 true v.val x rest) (x0 : 0 ≤ x) (x1 : x ≤ 59) (hmx : rest.length ≤ 1099511627776) (hr : rest.length < 2) : Hand69 15 1042 1042 v { v with val := rest, s := x } := by
  intro w u Q hK
  obtain ⟨lay, val, loc, p, am, pm, y, m, d, yd, h, mi, s, ns, z, zo, zn⟩ := v
  simp only at hg
  have HG := Lib.hid hg
  unfold Getn at HG
  have HR : Hid (rest = rest) := Lib.hid rfl
  have HR2 := HR
  clear hg
  have HK := Lib.hid hK
  have HB : Hid (Below w.heap.size w w) := Lib.hid (Below.refl _ _)
  clear hK
  unfold fr69t
  conv => arg 2; whnf
  go_wp2_with (first
    | (guard_target =~ Code.wp _ (Code.region _ _ true) _ _ _; go_quiet (fail))
    | (go_at_call 102; refine (HG.out _).mono ?_; rintro e w1 ⟨rfl, k, rfl⟩; have HB := Lib.hid (below_dN HB.out k)))
  all_goals first | exact HK.out _ _ ⟨rfl, rfl, rfl, (by first | rfl | exact congrArg S HR.out | exact congrArg S HR2.out), rfl, rfl, rfl, rfl, rfl, rfl, rfl, rfl, rfl, rfl, rfl, rfl, rfl, rfl, rfl, rfl, rfl, rfl, rfl⟩ HB.out | exact HK.out _ _ ⟨rfl, rfl, rfl, (by first | rfl | exact congrArg S HR.out | exact congrArg S HR2.out), rfl, rfl, rfl, rfl, rfl, rfl, rfl, rfl, rfl, rfl, rfl, rfl, rfl, rfl, rfl, rfl, rfl, rfl, rfl⟩ (below_dN HB.out _) | exact HK.out _ _ ⟨rfl, rfl, rfl, (by first | rfl | exact congrArg S HR.out | exact congrArg S HR2.out), rfl, rfl, rfl, rfl, rfl, rfl, rfl, rfl, rfl, rfl, rfl, rfl, rfl, rfl, rfl, rfl, rfl, rfl, rfl⟩ (below_drewN _ _)
set_option maxRecDepth 100000 in
set_option maxHeartbeats 1000000 in
theorem hand69_20b (v : V69) (x : Int) (rest : Bytes) (hg : Getn 102 true v.val x rest) (x0 : 0 ≤ x) (x1 : x ≤ 59) (hmx : rest.length ≤ 1099511627776) (c : UInt8) (t : Bytes) (hr : rest = c :: t) (hc : (c == 46 || c == 44) = false) : Hand69 15 1042 1042 v { v with val := rest, s := x } := by
  intro w u Q hK
  obtain ⟨lay, val, loc, p, am, pm, y, m, d, yd, h, mi, s, ns, z, zo, zn⟩ := v
  simp only at hg
  have HG := Lib.hid hg
  unfold Getn at HG
  have HR : Hid (rest = rest) := Lib.hid rfl
  have HR2 := HR
  clear hg
  have hix : ∀ h : 0 < (bs rest).size, (bs rest)[0]'h = c := fun h => by rw [bs_get]; simp only [hr]; rfl
  have HC : Hid (∀ w, Calls Tryz.prog 106 #[.int .u8 c.toNat] w fun e w' => e = .returned (.bool false) ∧ w' = w) := fun w => by
    have := commaOrPeriod_c c w
    rwa [hc] at this
  have hcb := c.toNat_lt
  clear hr hc
  have HK := Lib.hid hK
  have HB : Hid (Below w.heap.size w w) := Lib.hid (Below.refl _ _)
  clear hK
  unfold fr69t
  conv => arg 2; whnf
  go_wp2_with (first
    | (guard_target =~ Code.wp _ (Code.region _ _ true) _ _ _; go_quiet (fail))
    | (go_at_call 102; refine (HG.out _).mono ?_; rintro e w1 ⟨rfl, k, rfl⟩; have HB := Lib.hid (below_dN HB.out k))
    | (go_at_call 106; refine (HC.out _).mono ?_; rintro e w1 ⟨rfl, rfl⟩))
  all_goals first | exact HK.out _ _ ⟨rfl, rfl, rfl, (by first | rfl | exact congrArg S HR.out | exact congrArg S HR2.out), rfl, rfl, rfl, rfl, rfl, rfl, rfl, rfl, rfl, rfl, rfl, rfl, rfl, rfl, rfl, rfl, rfl, rfl, rfl⟩ HB.out | exact HK.out _ _ ⟨rfl, rfl, rfl, (by first | rfl | exact congrArg S HR.out | exact congrArg S HR2.out), rfl, rfl, rfl, rfl, rfl, rfl, rfl, rfl, rfl, rfl, rfl, rfl, rfl, rfl, rfl, rfl, rfl, rfl, rfl⟩ (below_dN HB.out _) | exact HK.out _ _ ⟨rfl, rfl, rfl, (by first | rfl | exact congrArg S HR.out | exact congrArg S HR2.out), rfl, rfl, rfl, rfl, rfl, rfl, rfl, rfl, rfl, rfl, rfl, rfl, rfl, rfl, rfl, rfl, rfl, rfl, rfl⟩ (below_drewN _ _)
set_option maxRecDepth 100000 in
set_option maxHeartbeats 1000000 in
theorem hand69_20c (v : V69) (x : Int) (rest : Bytes) (hg : Getn 102 true v.val x rest) (x0 : 0 ≤ x) (x1 : x ≤ 59) (hmx : rest.length ≤ 1099511627776) (c d : UInt8) (t : Bytes) (hr : rest = c :: d :: t) (hc : (c == 46 || c == 44) = true) (hd : isD d = true) (std2 : Int) (t2 r2 : Bytes) (h2 : bits .and .i64 std2 65535 = 34) (hn : ∀ w, StdAt w → Calls Tryz.prog 94 #[S v.lay] w fun e w' => e = .returned (.tuple #[S t2, .int .i64 std2, S r2]) ∧ ∃ n, w' = w.drewN n) : Hand69R 15 1042 1042 v (fun v2 _ => v2 = { v with val := rest, s := x }) := by
  intro w u Q hs hq
  have hK := fun a2 w2 hA hB => hq _ a2 w2 hA hB rfl
  have HS := Lib.hid hs
  clear hs hq
  obtain ⟨lay, val, loc, p, am, pm, y, m, d, yd, h, mi, s, ns, z, zo, zn⟩ := v
  simp only at hn
  simp only at hg
  have HG := Lib.hid hg
  unfold Getn at HG
  have HR : Hid (rest = rest) := Lib.hid rfl
  have HR2 := HR
  clear hg
  have hix : ∀ h : 0 < (bs rest).size, (bs rest)[0]'h = c := fun h => by rw [bs_get]; simp only [hr]; rfl
  have hll : 2 ≤ rest.length := by rw [hr]; simp
  have HC : Hid (∀ w, Calls Tryz.prog 106 #[.int .u8 c.toNat] w fun e w' => e = .returned (.bool true) ∧ w' = w) := fun w => by
    have := commaOrPeriod_c c w
    rwa [hc] at this
  have HI : Hid (∀ w, Calls Tryz.prog 90 #[S rest, .int .i64 1] w fun e w' => e = .returned (.bool true) ∧ w' = w) := fun w => by
    have h1 := isDigit_c rest 1 w (by omega)
    have h2 : digitAt rest (1 : Int).toNat = true := by
      show digitAt rest 1 = true
      rw [hr]
      simpa [digitAt] using hd
    rwa [h2] at h1
  have HN := Lib.hid hn
  have hcb := c.toNat_lt
  clear hr hc hn hd
  have HK := Lib.hid hK
  have HB : Hid (Below w.heap.size w w) := Lib.hid (Below.refl _ _)
  clear hK
  unfold fr69t
  conv => arg 2; whnf
  go_wp2_with (first
    | (guard_target =~ Code.wp _ (Code.region _ _ true) _ _ _; go_quiet (fail))
    | (go_at_call 102; refine (HG.out _).mono ?_; rintro e w1 ⟨rfl, k, rfl⟩; have HB := Lib.hid (below_dN HB.out k))
    | (go_at_call 106; refine (HC.out _).mono ?_; rintro e w1 ⟨rfl, rfl⟩)
    | (go_at_call 90; refine (HI.out _).mono ?_; rintro e w1 ⟨rfl, rfl⟩)
    | (go_at_call 94; refine (HN.out _ (HS.out.draws _)).mono ?_; rintro e w1 ⟨rfl, k, rfl⟩; have HB := Lib.hid (below_dN HB.out k)))
  all_goals first | exact HK.out _ _ ⟨rfl, rfl, rfl, (by first | rfl | exact congrArg S HR.out | exact congrArg S HR2.out), rfl, rfl, rfl, rfl, rfl, rfl, rfl, rfl, rfl, rfl, rfl, rfl, rfl, rfl, rfl, rfl, rfl, rfl, rfl⟩ HB.out | exact HK.out _ _ ⟨rfl, rfl, rfl, (by first | rfl | exact congrArg S HR.out | exact congrArg S HR2.out), rfl, rfl, rfl, rfl, rfl, rfl, rfl, rfl, rfl, rfl, rfl, rfl, rfl, rfl, rfl, rfl, rfl, rfl, rfl⟩ (below_dN HB.out _) | exact HK.out _ _ ⟨rfl, rfl, rfl, (by first | rfl | exact congrArg S HR.out | exact congrArg S HR2.out), rfl, rfl, rfl, rfl, rfl, rfl, rfl, rfl, rfl, rfl, rfl, rfl, rfl, rfl, rfl, rfl, rfl, rfl, rfl⟩ (below_drewN _ _)
set_option maxRecDepth 100000 in
set_option maxHeartbeats 1000000 in
theorem hand69_20d (v : V69) (x : Int) (rest : Bytes) (hg : Getn 102 true v.val x rest) (x0 : 0 ≤ x) (x1 : x ≤ 59) (hmx : rest.length ≤ 1099511627776) (c d : UInt8) (t : Bytes) (hr : rest = c :: d :: t) (hc : (c == 46 || c == 44) = true) (hd : isD d = true) (std2 : Int) (t2 r2 : Bytes) (h2 : bits .and .i64 std2 65535 = 35) (hn : ∀ w, StdAt w → Calls Tryz.prog 94 #[S v.lay] w fun e w' => e = .returned (.tuple #[S t2, .int .i64 std2, S r2]) ∧ ∃ n, w' = w.drewN n) : Hand69R 15 1042 1042 v (fun v2 _ => v2 = { v with val := rest, s := x }) := by
  intro w u Q hs hq
  have hK := fun a2 w2 hA hB => hq _ a2 w2 hA hB rfl
  have HS := Lib.hid hs
  clear hs hq
  obtain ⟨lay, val, loc, p, am, pm, y, m, d, yd, h, mi, s, ns, z, zo, zn⟩ := v
  simp only at hn
  simp only at hg
  have HG := Lib.hid hg
  unfold Getn at HG
  have HR : Hid (rest = rest) := Lib.hid rfl
  have HR2 := HR
  clear hg
  have hix : ∀ h : 0 < (bs rest).size, (bs rest)[0]'h = c := fun h => by rw [bs_get]; simp only [hr]; rfl
  have hll : 2 ≤ rest.length := by rw [hr]; simp
  have HC : Hid (∀ w, Calls Tryz.prog 106 #[.int .u8 c.toNat] w fun e w' => e = .returned (.bool true) ∧ w' = w) := fun w => by
    have := commaOrPeriod_c c w
    rwa [hc] at this
  have HI : Hid (∀ w, Calls Tryz.prog 90 #[S rest, .int .i64 1] w fun e w' => e = .returned (.bool true) ∧ w' = w) := fun w => by
    have h1 := isDigit_c rest 1 w (by omega)
    have h2 : digitAt rest (1 : Int).toNat = true := by
      show digitAt rest 1 = true
      rw [hr]
      simpa [digitAt] using hd
    rwa [h2] at h1
  have HN := Lib.hid hn
  have hcb := c.toNat_lt
  clear hr hc hn hd
  have HK := Lib.hid hK
  have HB : Hid (Below w.heap.size w w) := Lib.hid (Below.refl _ _)
  clear hK
  unfold fr69t
  conv => arg 2; whnf
  go_wp2_with (first
    | (guard_target =~ Code.wp _ (Code.region _ _ true) _ _ _; go_quiet (fail))
    | (go_at_call 102; refine (HG.out _).mono ?_; rintro e w1 ⟨rfl, k, rfl⟩; have HB := Lib.hid (below_dN HB.out k))
    | (go_at_call 106; refine (HC.out _).mono ?_; rintro e w1 ⟨rfl, rfl⟩)
    | (go_at_call 90; refine (HI.out _).mono ?_; rintro e w1 ⟨rfl, rfl⟩)
    | (go_at_call 94; refine (HN.out _ (HS.out.draws _)).mono ?_; rintro e w1 ⟨rfl, k, rfl⟩; have HB := Lib.hid (below_dN HB.out k)))
  all_goals first | exact HK.out _ _ ⟨rfl, rfl, rfl, (by first | rfl | exact congrArg S HR.out | exact congrArg S HR2.out), rfl, rfl, rfl, rfl, rfl, rfl, rfl, rfl, rfl, rfl, rfl, rfl, rfl, rfl, rfl, rfl, rfl, rfl, rfl⟩ HB.out | exact HK.out _ _ ⟨rfl, rfl, rfl, (by first | rfl | exact congrArg S HR.out | exact congrArg S HR2.out), rfl, rfl, rfl, rfl, rfl, rfl, rfl, rfl, rfl, rfl, rfl, rfl, rfl, rfl, rfl, rfl, rfl, rfl, rfl⟩ (below_dN HB.out _) | exact HK.out _ _ ⟨rfl, rfl, rfl, (by first | rfl | exact congrArg S HR.out | exact congrArg S HR2.out), rfl, rfl, rfl, rfl, rfl, rfl, rfl, rfl, rfl, rfl, rfl, rfl, rfl, rfl, rfl, rfl, rfl, rfl, rfl⟩ (below_drewN _ _)
set_option maxRecDepth 100000 in
set_option maxHeartbeats 4000000 in
theorem chain69R_20 (v : V69) (R : V69 → World → Prop) (hh : Hand69R 15 1042 1042 v R) : Par69R 1042 1042 v R := by
  intro w u K Qx hs hK
  have HH : Hid (∀ (a : Act) (Q : Exit → Act → World → Prop), At69t v 1042 1042 a → (∀ v2 a2 w2, At69n v2 a2 → Below w.heap.size w w2 → R v2 w2 → Q (.exit 2) a2 w2) → (hand69 15).wp Tryz.prog Q a w) := by
    show ∀ a Q, _
    intro a Q hA hq
    obtain ⟨u, rfl⟩ := hA.open
    exact hh w u Q hs hq
  obtain ⟨lay, val, loc, p, am, pm, y, m, d, yd, h, mi, s, ns, z, zo, zn⟩ := v
  have HK := Lib.hid hK
  clear hK hh hs
  unfold fr69t
  conv => arg 2; whnf
  repeat' (first
    | (guard_target =~ Code.wp _ (Code.seq _ (Code.exit 2)) _ _ _; refine HH.out _ _ ⟨rfl, rfl, rfl, rfl, rfl, rfl, rfl, rfl, rfl, rfl, rfl, rfl, rfl, rfl, rfl, rfl, rfl, rfl, rfl, rfl, rfl, rfl, rfl, rfl, rfl⟩ ?_; intro v2 a2 w2 hA2 hB2 hR2; have HA2 := Lib.hid hA2; have HB2 := Lib.hid hB2; have HR2 := Lib.hid hR2; clear hA2 hB2 hR2)
    | (guard_target =~ K _ _; exact HK.out _ _ _ HA2.out HB2.out HR2.out)
    | (guard_target =~ Exit.then _ _ _ _ _; first | refine then_ex ?_ | refine then_no ?_)
    | (guard_target =~ Exit.inBlock _ _ _ _ _; first | refine blk_same ?_ | refine blk_ne (by decide) ?_ | refine blk_no ?_)
    | go_guarded
    | go_skip
    | go_step
    | go_upon
    | go_back
    | go_simp)
end Go.Proofs.YtndhiemagankeaaGreatDoor
