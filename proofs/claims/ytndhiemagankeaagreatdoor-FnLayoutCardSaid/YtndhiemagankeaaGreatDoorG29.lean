/-
  FnLayout (the statement: for every list of pieces, every time and every zone the call returns true, and its arguments read afterwards as they did), part 29 of 41. In this part: The walk of package time: a time is read by a layout: offsets with a sign, to the second. The walk of package time: a time is read by a layout: offsets with a sign or a Z. The walk of package time: a time is read by a layout: offsets with a sign or a Z, to the second.
-/
import Derived.Test.YtndhiemagankeaaGreatDoorG12
import Derived.Test.YtndhiemagankeaaGreatDoorG26
/- The walk of package time: a time is read by a layout: offsets with a sign, to the second. -/
namespace Go.Proofs.YtndhiemagankeaaGreatDoor
open Go.RowKit
set_option linter.unusedSimpArgs false
set_option linter.unusedVariables false
attribute [local simp] bs_size bs_toList bs_append bs_data bs_extract
set_option maxRecDepth 100000 in
set_option maxHeartbeats 1000000 in
theorem hand69_25p (v : V69) (h0 h1 m0 m1 s0 s1 : UInt8) (rest : Bytes) (hv : v.val = 43 :: h0 :: h1 :: m0 :: m1 :: s0 :: s1 :: rest) (hmx : v.val.length ≤ 1099511627776) (hh mm ss : Int) (H1 : Getn 102 true [h0, h1] hh []) (H2 : Getn 102 true [m0, m1] mm []) (H3 : Getn 102 true [s0, s1] ss []) (a0 : 0 ≤ hh) (a1 : hh ≤ 24) (b0 : 0 ≤ mm) (b1 : mm ≤ 60) (c0 : 0 ≤ ss) (c1 : ss ≤ 60) : Hand69 19 30 30 v { v with val := rest, zo := (hh * 60 + mm) * 60 + ss } := by
  intro w u Q hK
  obtain ⟨lay, val, loc, p, am, pm, y, m, d, yd, h, mi, s, ns, z, zo, zn⟩ := v
  simp only at hv hmx
  obtain ⟨l, HL⟩ : ∃ l, Hid (l = val) := ⟨_, Lib.hid rfl⟩
  have hll : 7 ≤ l.length := by rw [HL.out, hv]; simp
  have hl40 : l.length ≤ 1099511627776 := by rw [HL.out]; exact hmx
  have hix0 : ∀ h : 0 < (bs l).size, (bs l)[0]'h = 43 := fun h => by rw [bs_get]; simp only [HL.out, hv]; rfl
  have HR : Hid (List.take (l.length - 7) (List.drop 7 l) = rest) := by show _ = _; rw [take_rest, HL.out, hv]; rfl
  have HR2 : Hid (List.drop 7 l = rest) := by show _ = _; rw [HL.out, hv]; rfl
  have hsg : List.take 1 l = [43] := by rw [HL.out, hv]; rfl
  have S1 : Hid (List.take 2 (List.tail l) = [h0, h1]) := by show _ = _; rw [HL.out, hv]; rfl
  have S2 : Hid (List.take 2 (List.drop 3 l) = [m0, m1]) := by show _ = _; rw [HL.out, hv]; rfl
  have S3 : Hid (List.take 2 (List.drop 5 l) = [s0, s1]) := by show _ = _; rw [HL.out, hv]; rfl
  have hsx : ∀ h : 0 < (bs [(43 : UInt8)]).size, (bs [(43 : UInt8)])[0]'h = 43 := fun h => by rw [bs_get]; rfl
  have G1 := Lib.hid H1
  have G2 := Lib.hid H2
  have G3 := Lib.hid H3
  unfold Getn at G1 G2 G3
  rw [← HL.out]
  clear hv hmx H1 H2 H3
  have HK := Lib.hid hK
  have HB : Hid (Below w.heap.size w w) := Lib.hid (Below.refl _ _)
  clear hK
  unfold fr69t
  conv => arg 2; whnf
  go_wp2_with (first
    | (guard_target =~ Code.wp _ (Code.region _ _ true) _ _ _; go_quiet (fail))
    | (go_at_call 102; (first | (rw [S1.out]; refine (G1.out _).mono ?_) | (rw [S2.out]; refine (G2.out _).mono ?_) | (rw [S3.out]; refine (G3.out _).mono ?_)); rintro e w1 ⟨rfl, k, rfl⟩; have HB := Lib.hid (below_dN HB.out k)))
  all_goals first | exact HK.out _ _ ⟨rfl, rfl, rfl, (by first | rfl | exact congrArg S HR.out | exact congrArg S HR2.out), rfl, rfl, rfl, rfl, rfl, rfl, rfl, rfl, rfl, rfl, rfl, rfl, rfl, rfl, rfl, rfl, rfl, rfl, rfl⟩ HB.out | exact HK.out _ _ ⟨rfl, rfl, rfl, (by first | rfl | exact congrArg S HR.out | exact congrArg S HR2.out), rfl, rfl, rfl, rfl, rfl, rfl, rfl, rfl, rfl, rfl, rfl, rfl, rfl, rfl, rfl, rfl, rfl, rfl, rfl⟩ (below_dN HB.out _) | exact HK.out _ _ ⟨rfl, rfl, rfl, (by first | rfl | exact congrArg S HR.out | exact congrArg S HR2.out), rfl, rfl, rfl, rfl, rfl, rfl, rfl, rfl, rfl, rfl, rfl, rfl, rfl, rfl, rfl, rfl, rfl, rfl, rfl⟩ (below_drewN _ _)
set_option maxRecDepth 100000 in
set_option maxHeartbeats 1000000 in
theorem hand69_25n (v : V69) (h0 h1 m0 m1 s0 s1 : UInt8) (rest : Bytes) (hv : v.val = 45 :: h0 :: h1 :: m0 :: m1 :: s0 :: s1 :: rest) (hmx : v.val.length ≤ 1099511627776) (hh mm ss : Int) (H1 : Getn 102 true [h0, h1] hh []) (H2 : Getn 102 true [m0, m1] mm []) (H3 : Getn 102 true [s0, s1] ss []) (a0 : 0 ≤ hh) (a1 : hh ≤ 24) (b0 : 0 ≤ mm) (b1 : mm ≤ 60) (c0 : 0 ≤ ss) (c1 : ss ≤ 60) : Hand69 19 30 30 v { v with val := rest, zo := -((hh * 60 + mm) * 60 + ss) } := by
  intro w u Q hK
  obtain ⟨lay, val, loc, p, am, pm, y, m, d, yd, h, mi, s, ns, z, zo, zn⟩ := v
  simp only at hv hmx
  obtain ⟨l, HL⟩ : ∃ l, Hid (l = val) := ⟨_, Lib.hid rfl⟩
  have hll : 7 ≤ l.length := by rw [HL.out, hv]; simp
  have hl40 : l.length ≤ 1099511627776 := by rw [HL.out]; exact hmx
  have hix0 : ∀ h : 0 < (bs l).size, (bs l)[0]'h = 45 := fun h => by rw [bs_get]; simp only [HL.out, hv]; rfl
  have HR : Hid (List.take (l.length - 7) (List.drop 7 l) = rest) := by show _ = _; rw [take_rest, HL.out, hv]; rfl
  have HR2 : Hid (List.drop 7 l = rest) := by show _ = _; rw [HL.out, hv]; rfl
  have hsg : List.take 1 l = [45] := by rw [HL.out, hv]; rfl
  have S1 : Hid (List.take 2 (List.tail l) = [h0, h1]) := by show _ = _; rw [HL.out, hv]; rfl
  have S2 : Hid (List.take 2 (List.drop 3 l) = [m0, m1]) := by show _ = _; rw [HL.out, hv]; rfl
  have S3 : Hid (List.take 2 (List.drop 5 l) = [s0, s1]) := by show _ = _; rw [HL.out, hv]; rfl
  have hsx : ∀ h : 0 < (bs [(45 : UInt8)]).size, (bs [(45 : UInt8)])[0]'h = 45 := fun h => by rw [bs_get]; rfl
  have G1 := Lib.hid H1
  have G2 := Lib.hid H2
  have G3 := Lib.hid H3
  unfold Getn at G1 G2 G3
  rw [← HL.out]
  clear hv hmx H1 H2 H3
  have HK := Lib.hid hK
  have HB : Hid (Below w.heap.size w w) := Lib.hid (Below.refl _ _)
  clear hK
  unfold fr69t
  conv => arg 2; whnf
  go_wp2_with (first
    | (guard_target =~ Code.wp _ (Code.region _ _ true) _ _ _; go_quiet (fail))
    | (go_at_call 102; (first | (rw [S1.out]; refine (G1.out _).mono ?_) | (rw [S2.out]; refine (G2.out _).mono ?_) | (rw [S3.out]; refine (G3.out _).mono ?_)); rintro e w1 ⟨rfl, k, rfl⟩; have HB := Lib.hid (below_dN HB.out k)))
  all_goals first | exact HK.out _ _ ⟨rfl, rfl, rfl, (by first | rfl | exact congrArg S HR.out | exact congrArg S HR2.out), rfl, rfl, rfl, rfl, rfl, rfl, rfl, rfl, rfl, rfl, rfl, rfl, rfl, rfl, rfl, rfl, rfl, rfl, rfl⟩ HB.out | exact HK.out _ _ ⟨rfl, rfl, rfl, (by first | rfl | exact congrArg S HR.out | exact congrArg S HR2.out), rfl, rfl, rfl, rfl, rfl, rfl, rfl, rfl, rfl, rfl, rfl, rfl, rfl, rfl, rfl, rfl, rfl, rfl, rfl⟩ (below_dN HB.out _) | exact HK.out _ _ ⟨rfl, rfl, rfl, (by first | rfl | exact congrArg S HR.out | exact congrArg S HR2.out), rfl, rfl, rfl, rfl, rfl, rfl, rfl, rfl, rfl, rfl, rfl, rfl, rfl, rfl, rfl, rfl, rfl, rfl, rfl⟩ (below_drewN _ _)
set_option maxRecDepth 100000 in
set_option maxHeartbeats 1000000 in
theorem hand69_26p (v : V69) (h0 h1 m0 m1 s0 s1 : UInt8) (rest : Bytes) (hv : v.val = 43 :: h0 :: h1 :: 58 :: m0 :: m1 :: 58 :: s0 :: s1 :: rest) (hmx : v.val.length ≤ 1099511627776) (hh mm ss : Int) (H1 : Getn 102 true [h0, h1] hh []) (H2 : Getn 102 true [m0, m1] mm []) (H3 : Getn 102 true [s0, s1] ss []) (a0 : 0 ≤ hh) (a1 : hh ≤ 24) (b0 : 0 ≤ mm) (b1 : mm ≤ 60) (c0 : 0 ≤ ss) (c1 : ss ≤ 60) : Hand69 19 33 33 v { v with val := rest, zo := (hh * 60 + mm) * 60 + ss } := by
  intro w u Q hK
  obtain ⟨lay, val, loc, p, am, pm, y, m, d, yd, h, mi, s, ns, z, zo, zn⟩ := v
  simp only at hv hmx
  obtain ⟨l, HL⟩ : ∃ l, Hid (l = val) := ⟨_, Lib.hid rfl⟩
  have hll : 9 ≤ l.length := by rw [HL.out, hv]; simp
  have hl40 : l.length ≤ 1099511627776 := by rw [HL.out]; exact hmx
  have hix0 : ∀ h : 0 < (bs l).size, (bs l)[0]'h = 43 := fun h => by rw [bs_get]; simp only [HL.out, hv]; rfl
  have HR : Hid (List.take (l.length - 9) (List.drop 9 l) = rest) := by show _ = _; rw [take_rest, HL.out, hv]; rfl
  have HR2 : Hid (List.drop 9 l = rest) := by show _ = _; rw [HL.out, hv]; rfl
  have hsg : List.take 1 l = [43] := by rw [HL.out, hv]; rfl
  have hix3 : ∀ h : 3 < (bs l).size, (bs l)[3]'h = 58 := fun h => by rw [bs_get]; simp only [HL.out, hv]; rfl
  have hix6 : ∀ h : 6 < (bs l).size, (bs l)[6]'h = 58 := fun h => by rw [bs_get]; simp only [HL.out, hv]; rfl
  have S1 : Hid (List.take 2 (List.tail l) = [h0, h1]) := by show _ = _; rw [HL.out, hv]; rfl
  have S2 : Hid (List.take 2 (List.drop 4 l) = [m0, m1]) := by show _ = _; rw [HL.out, hv]; rfl
  have S3 : Hid (List.take 2 (List.drop 7 l) = [s0, s1]) := by show _ = _; rw [HL.out, hv]; rfl
  have hsx : ∀ h : 0 < (bs [(43 : UInt8)]).size, (bs [(43 : UInt8)])[0]'h = 43 := fun h => by rw [bs_get]; rfl
  have G1 := Lib.hid H1
  have G2 := Lib.hid H2
  have G3 := Lib.hid H3
  unfold Getn at G1 G2 G3
  rw [← HL.out]
  clear hv hmx H1 H2 H3
  have HK := Lib.hid hK
  have HB : Hid (Below w.heap.size w w) := Lib.hid (Below.refl _ _)
  clear hK
  unfold fr69t
  conv => arg 2; whnf
  go_wp2_with (first
    | (guard_target =~ Code.wp _ (Code.region _ _ true) _ _ _; go_quiet (fail))
    | (go_at_call 102; (first | (rw [S1.out]; refine (G1.out _).mono ?_) | (rw [S2.out]; refine (G2.out _).mono ?_) | (rw [S3.out]; refine (G3.out _).mono ?_)); rintro e w1 ⟨rfl, k, rfl⟩; have HB := Lib.hid (below_dN HB.out k)))
  all_goals first | exact HK.out _ _ ⟨rfl, rfl, rfl, (by first | rfl | exact congrArg S HR.out | exact congrArg S HR2.out), rfl, rfl, rfl, rfl, rfl, rfl, rfl, rfl, rfl, rfl, rfl, rfl, rfl, rfl, rfl, rfl, rfl, rfl, rfl⟩ HB.out | exact HK.out _ _ ⟨rfl, rfl, rfl, (by first | rfl | exact congrArg S HR.out | exact congrArg S HR2.out), rfl, rfl, rfl, rfl, rfl, rfl, rfl, rfl, rfl, rfl, rfl, rfl, rfl, rfl, rfl, rfl, rfl, rfl, rfl⟩ (below_dN HB.out _) | exact HK.out _ _ ⟨rfl, rfl, rfl, (by first | rfl | exact congrArg S HR.out | exact congrArg S HR2.out), rfl, rfl, rfl, rfl, rfl, rfl, rfl, rfl, rfl, rfl, rfl, rfl, rfl, rfl, rfl, rfl, rfl, rfl, rfl⟩ (below_drewN _ _)
set_option maxRecDepth 100000 in
set_option maxHeartbeats 1000000 in
theorem hand69_26n (v : V69) (h0 h1 m0 m1 s0 s1 : UInt8) (rest : Bytes) (hv : v.val = 45 :: h0 :: h1 :: 58 :: m0 :: m1 :: 58 :: s0 :: s1 :: rest) (hmx : v.val.length ≤ 1099511627776) (hh mm ss : Int) (H1 : Getn 102 true [h0, h1] hh []) (H2 : Getn 102 true [m0, m1] mm []) (H3 : Getn 102 true [s0, s1] ss []) (a0 : 0 ≤ hh) (a1 : hh ≤ 24) (b0 : 0 ≤ mm) (b1 : mm ≤ 60) (c0 : 0 ≤ ss) (c1 : ss ≤ 60) : Hand69 19 33 33 v { v with val := rest, zo := -((hh * 60 + mm) * 60 + ss) } := by
  intro w u Q hK
  obtain ⟨lay, val, loc, p, am, pm, y, m, d, yd, h, mi, s, ns, z, zo, zn⟩ := v
  simp only at hv hmx
  obtain ⟨l, HL⟩ : ∃ l, Hid (l = val) := ⟨_, Lib.hid rfl⟩
  have hll : 9 ≤ l.length := by rw [HL.out, hv]; simp
  have hl40 : l.length ≤ 1099511627776 := by rw [HL.out]; exact hmx
  have hix0 : ∀ h : 0 < (bs l).size, (bs l)[0]'h = 45 := fun h => by rw [bs_get]; simp only [HL.out, hv]; rfl
  have HR : Hid (List.take (l.length - 9) (List.drop 9 l) = rest) := by show _ = _; rw [take_rest, HL.out, hv]; rfl
  have HR2 : Hid (List.drop 9 l = rest) := by show _ = _; rw [HL.out, hv]; rfl
  have hsg : List.take 1 l = [45] := by rw [HL.out, hv]; rfl
  have hix3 : ∀ h : 3 < (bs l).size, (bs l)[3]'h = 58 := fun h => by rw [bs_get]; simp only [HL.out, hv]; rfl
  have hix6 : ∀ h : 6 < (bs l).size, (bs l)[6]'h = 58 := fun h => by rw [bs_get]; simp only [HL.out, hv]; rfl
  have S1 : Hid (List.take 2 (List.tail l) = [h0, h1]) := by show _ = _; rw [HL.out, hv]; rfl
  have S2 : Hid (List.take 2 (List.drop 4 l) = [m0, m1]) := by show _ = _; rw [HL.out, hv]; rfl
  have S3 : Hid (List.take 2 (List.drop 7 l) = [s0, s1]) := by show _ = _; rw [HL.out, hv]; rfl
  have hsx : ∀ h : 0 < (bs [(45 : UInt8)]).size, (bs [(45 : UInt8)])[0]'h = 45 := fun h => by rw [bs_get]; rfl
  have G1 := Lib.hid H1
  have G2 := Lib.hid H2
  have G3 := Lib.hid H3
  unfold Getn at G1 G2 G3
  rw [← HL.out]
  clear hv hmx H1 H2 H3
  have HK := Lib.hid hK
  have HB : Hid (Below w.heap.size w w) := Lib.hid (Below.refl _ _)
  clear hK
  unfold fr69t
  conv => arg 2; whnf
  go_wp2_with (first
    | (guard_target =~ Code.wp _ (Code.region _ _ true) _ _ _; go_quiet (fail))
    | (go_at_call 102; (first | (rw [S1.out]; refine (G1.out _).mono ?_) | (rw [S2.out]; refine (G2.out _).mono ?_) | (rw [S3.out]; refine (G3.out _).mono ?_)); rintro e w1 ⟨rfl, k, rfl⟩; have HB := Lib.hid (below_dN HB.out k)))
  all_goals first | exact HK.out _ _ ⟨rfl, rfl, rfl, (by first | rfl | exact congrArg S HR.out | exact congrArg S HR2.out), rfl, rfl, rfl, rfl, rfl, rfl, rfl, rfl, rfl, rfl, rfl, rfl, rfl, rfl, rfl, rfl, rfl, rfl, rfl⟩ HB.out | exact HK.out _ _ ⟨rfl, rfl, rfl, (by first | rfl | exact congrArg S HR.out | exact congrArg S HR2.out), rfl, rfl, rfl, rfl, rfl, rfl, rfl, rfl, rfl, rfl, rfl, rfl, rfl, rfl, rfl, rfl, rfl, rfl, rfl⟩ (below_dN HB.out _) | exact HK.out _ _ ⟨rfl, rfl, rfl, (by first | rfl | exact congrArg S HR.out | exact congrArg S HR2.out), rfl, rfl, rfl, rfl, rfl, rfl, rfl, rfl, rfl, rfl, rfl, rfl, rfl, rfl, rfl, rfl, rfl, rfl, rfl⟩ (below_drewN _ _)
end Go.Proofs.YtndhiemagankeaaGreatDoor
/- The walk of package time: a time is read by a layout: offsets with a sign or a Z. -/
namespace Go.Proofs.YtndhiemagankeaaGreatDoor
open Go.RowKit
set_option linter.unusedSimpArgs false
set_option linter.unusedVariables false
attribute [local simp] bs_size bs_toList bs_append bs_data bs_extract
set_option maxRecDepth 100000 in
set_option maxHeartbeats 1000000 in
theorem hand69_27p (v : V69) (h0 h1 m0 m1 : UInt8) (rest : Bytes) (hv : v.val = 43 :: h0 :: h1 :: m0 :: m1 :: rest) (hmx : v.val.length ≤ 1099511627776) (hh mm ss : Int) (H1 : Getn 102 true [h0, h1] hh []) (H2 : Getn 102 true [m0, m1] mm []) (H3 : Getn 102 true [48, 48] ss []) (a0 : 0 ≤ hh) (a1 : hh ≤ 24) (b0 : 0 ≤ mm) (b1 : mm ≤ 60) (c0 : 0 ≤ ss) (c1 : ss ≤ 60) : Hand69 19 24 24 v { v with val := rest, zo := (hh * 60 + mm) * 60 + ss } := by
  intro w u Q hK
  obtain ⟨lay, val, loc, p, am, pm, y, m, d, yd, h, mi, s, ns, z, zo, zn⟩ := v
  simp only at hv hmx
  obtain ⟨l, HL⟩ : ∃ l, Hid (l = val) := ⟨_, Lib.hid rfl⟩
  have hll : 5 ≤ l.length := by rw [HL.out, hv]; simp
  have hl40 : l.length ≤ 1099511627776 := by rw [HL.out]; exact hmx
  have hix0 : ∀ h : 0 < (bs l).size, (bs l)[0]'h = 43 := fun h => by rw [bs_get]; simp only [HL.out, hv]; rfl
  have HR : Hid (List.take (l.length - 5) (List.drop 5 l) = rest) := by show _ = _; rw [take_rest, HL.out, hv]; rfl
  have HR2 : Hid (List.drop 5 l = rest) := by show _ = _; rw [HL.out, hv]; rfl
  have hsg : List.take 1 l = [43] := by rw [HL.out, hv]; rfl
  have S1 : Hid (List.take 2 (List.tail l) = [h0, h1]) := by show _ = _; rw [HL.out, hv]; rfl
  have S2 : Hid (List.take 2 (List.drop 3 l) = [m0, m1]) := by show _ = _; rw [HL.out, hv]; rfl
  have hsx : ∀ h : 0 < (bs [(43 : UInt8)]).size, (bs [(43 : UInt8)])[0]'h = 43 := fun h => by rw [bs_get]; rfl
  have G1 := Lib.hid H1
  have G2 := Lib.hid H2
  have G3 := Lib.hid H3
  unfold Getn at G1 G2 G3
  rw [← HL.out]
  clear hv hmx H1 H2 H3
  have HK := Lib.hid hK
  have HB : Hid (Below w.heap.size w w) := Lib.hid (Below.refl _ _)
  clear hK
  unfold fr69t
  conv => arg 2; whnf
  go_wp2_with (first
    | (guard_target =~ Code.wp _ (Code.region _ _ true) _ _ _; go_quiet (fail))
    | (go_at_call 102; (first | (rw [S1.out]; refine (G1.out _).mono ?_) | (rw [S2.out]; refine (G2.out _).mono ?_) | refine (G3.out _).mono ?_); rintro e w1 ⟨rfl, k, rfl⟩; have HB := Lib.hid (below_dN HB.out k)))
  all_goals first | exact HK.out _ _ ⟨rfl, rfl, rfl, (by first | rfl | exact congrArg S HR.out | exact congrArg S HR2.out), rfl, rfl, rfl, rfl, rfl, rfl, rfl, rfl, rfl, rfl, rfl, rfl, rfl, rfl, rfl, rfl, rfl, rfl, rfl⟩ HB.out | exact HK.out _ _ ⟨rfl, rfl, rfl, (by first | rfl | exact congrArg S HR.out | exact congrArg S HR2.out), rfl, rfl, rfl, rfl, rfl, rfl, rfl, rfl, rfl, rfl, rfl, rfl, rfl, rfl, rfl, rfl, rfl, rfl, rfl⟩ (below_dN HB.out _) | exact HK.out _ _ ⟨rfl, rfl, rfl, (by first | rfl | exact congrArg S HR.out | exact congrArg S HR2.out), rfl, rfl, rfl, rfl, rfl, rfl, rfl, rfl, rfl, rfl, rfl, rfl, rfl, rfl, rfl, rfl, rfl, rfl, rfl⟩ (below_drewN _ _)
set_option maxRecDepth 100000 in
set_option maxHeartbeats 1000000 in
theorem hand69_27n (v : V69) (h0 h1 m0 m1 : UInt8) (rest : Bytes) (hv : v.val = 45 :: h0 :: h1 :: m0 :: m1 :: rest) (hmx : v.val.length ≤ 1099511627776) (hh mm ss : Int) (H1 : Getn 102 true [h0, h1] hh []) (H2 : Getn 102 true [m0, m1] mm []) (H3 : Getn 102 true [48, 48] ss []) (a0 : 0 ≤ hh) (a1 : hh ≤ 24) (b0 : 0 ≤ mm) (b1 : mm ≤ 60) (c0 : 0 ≤ ss) (c1 : ss ≤ 60) : Hand69 19 24 24 v { v with val := rest, zo := -((hh * 60 + mm) * 60 + ss) } := by
  intro w u Q hK
  obtain ⟨lay, val, loc, p, am, pm, y, m, d, yd, h, mi, s, ns, z, zo, zn⟩ := v
  simp only at hv hmx
  obtain ⟨l, HL⟩ : ∃ l, Hid (l = val) := ⟨_, Lib.hid rfl⟩
  have hll : 5 ≤ l.length := by rw [HL.out, hv]; simp
  have hl40 : l.length ≤ 1099511627776 := by rw [HL.out]; exact hmx
  have hix0 : ∀ h : 0 < (bs l).size, (bs l)[0]'h = 45 := fun h => by rw [bs_get]; simp only [HL.out, hv]; rfl
  have HR : Hid (List.take (l.length - 5) (List.drop 5 l) = rest) := by show _ = _; rw [take_rest, HL.out, hv]; rfl
  have HR2 : Hid (List.drop 5 l = rest) := by show _ = _; rw [HL.out, hv]; rfl
  have hsg : List.take 1 l = [45] := by rw [HL.out, hv]; rfl
  have S1 : Hid (List.take 2 (List.tail l) = [h0, h1]) := by show _ = _; rw [HL.out, hv]; rfl
  have S2 : Hid (List.take 2 (List.drop 3 l) = [m0, m1]) := by show _ = _; rw [HL.out, hv]; rfl
  have hsx : ∀ h : 0 < (bs [(45 : UInt8)]).size, (bs [(45 : UInt8)])[0]'h = 45 := fun h => by rw [bs_get]; rfl
  have G1 := Lib.hid H1
  have G2 := Lib.hid H2
  have G3 := Lib.hid H3
  unfold Getn at G1 G2 G3
  rw [← HL.out]
  clear hv hmx H1 H2 H3
  have HK := Lib.hid hK
  have HB : Hid (Below w.heap.size w w) := Lib.hid (Below.refl _ _)
  clear hK
  unfold fr69t
  conv => arg 2; whnf
  go_wp2_with (first
    | (guard_target =~ Code.wp _ (Code.region _ _ true) _ _ _; go_quiet (fail))
    | (go_at_call 102; (first | (rw [S1.out]; refine (G1.out _).mono ?_) | (rw [S2.out]; refine (G2.out _).mono ?_) | refine (G3.out _).mono ?_); rintro e w1 ⟨rfl, k, rfl⟩; have HB := Lib.hid (below_dN HB.out k)))
  all_goals first | exact HK.out _ _ ⟨rfl, rfl, rfl, (by first | rfl | exact congrArg S HR.out | exact congrArg S HR2.out), rfl, rfl, rfl, rfl, rfl, rfl, rfl, rfl, rfl, rfl, rfl, rfl, rfl, rfl, rfl, rfl, rfl, rfl, rfl⟩ HB.out | exact HK.out _ _ ⟨rfl, rfl, rfl, (by first | rfl | exact congrArg S HR.out | exact congrArg S HR2.out), rfl, rfl, rfl, rfl, rfl, rfl, rfl, rfl, rfl, rfl, rfl, rfl, rfl, rfl, rfl, rfl, rfl, rfl, rfl⟩ (below_dN HB.out _) | exact HK.out _ _ ⟨rfl, rfl, rfl, (by first | rfl | exact congrArg S HR.out | exact congrArg S HR2.out), rfl, rfl, rfl, rfl, rfl, rfl, rfl, rfl, rfl, rfl, rfl, rfl, rfl, rfl, rfl, rfl, rfl, rfl, rfl⟩ (below_drewN _ _)
set_option maxRecDepth 100000 in
set_option maxHeartbeats 1000000 in
theorem hand69_28p (v : V69) (h0 h1 m0 m1 : UInt8) (rest : Bytes) (hv : v.val = 43 :: h0 :: h1 :: 58 :: m0 :: m1 :: rest) (hmx : v.val.length ≤ 1099511627776) (hh mm ss : Int) (H1 : Getn 102 true [h0, h1] hh []) (H2 : Getn 102 true [m0, m1] mm []) (H3 : Getn 102 true [48, 48] ss []) (a0 : 0 ≤ hh) (a1 : hh ≤ 24) (b0 : 0 ≤ mm) (b1 : mm ≤ 60) (c0 : 0 ≤ ss) (c1 : ss ≤ 60) : Hand69 19 27 27 v { v with val := rest, zo := (hh * 60 + mm) * 60 + ss } := by
  intro w u Q hK
  obtain ⟨lay, val, loc, p, am, pm, y, m, d, yd, h, mi, s, ns, z, zo, zn⟩ := v
  simp only at hv hmx
  obtain ⟨l, HL⟩ : ∃ l, Hid (l = val) := ⟨_, Lib.hid rfl⟩
  have hll : 6 ≤ l.length := by rw [HL.out, hv]; simp
  have hl40 : l.length ≤ 1099511627776 := by rw [HL.out]; exact hmx
  have hix0 : ∀ h : 0 < (bs l).size, (bs l)[0]'h = 43 := fun h => by rw [bs_get]; simp only [HL.out, hv]; rfl
  have HR : Hid (List.take (l.length - 6) (List.drop 6 l) = rest) := by show _ = _; rw [take_rest, HL.out, hv]; rfl
  have HR2 : Hid (List.drop 6 l = rest) := by show _ = _; rw [HL.out, hv]; rfl
  have hsg : List.take 1 l = [43] := by rw [HL.out, hv]; rfl
  have hix3 : ∀ h : 3 < (bs l).size, (bs l)[3]'h = 58 := fun h => by rw [bs_get]; simp only [HL.out, hv]; rfl
  have S1 : Hid (List.take 2 (List.tail l) = [h0, h1]) := by show _ = _; rw [HL.out, hv]; rfl
  have S2 : Hid (List.take 2 (List.drop 4 l) = [m0, m1]) := by show _ = _; rw [HL.out, hv]; rfl
  have hsx : ∀ h : 0 < (bs [(43 : UInt8)]).size, (bs [(43 : UInt8)])[0]'h = 43 := fun h => by rw [bs_get]; rfl
  have G1 := Lib.hid H1
  have G2 := Lib.hid H2
  have G3 := Lib.hid H3
  unfold Getn at G1 G2 G3
  rw [← HL.out]
  clear hv hmx H1 H2 H3
  have HK := Lib.hid hK
  have HB : Hid (Below w.heap.size w w) := Lib.hid (Below.refl _ _)
  clear hK
  unfold fr69t
  conv => arg 2; whnf
  go_wp2_with (first
    | (guard_target =~ Code.wp _ (Code.region _ _ true) _ _ _; go_quiet (fail))
    | (go_at_call 102; (first | (rw [S1.out]; refine (G1.out _).mono ?_) | (rw [S2.out]; refine (G2.out _).mono ?_) | refine (G3.out _).mono ?_); rintro e w1 ⟨rfl, k, rfl⟩; have HB := Lib.hid (below_dN HB.out k)))
  all_goals first | exact HK.out _ _ ⟨rfl, rfl, rfl, (by first | rfl | exact congrArg S HR.out | exact congrArg S HR2.out), rfl, rfl, rfl, rfl, rfl, rfl, rfl, rfl, rfl, rfl, rfl, rfl, rfl, rfl, rfl, rfl, rfl, rfl, rfl⟩ HB.out | exact HK.out _ _ ⟨rfl, rfl, rfl, (by first | rfl | exact congrArg S HR.out | exact congrArg S HR2.out), rfl, rfl, rfl, rfl, rfl, rfl, rfl, rfl, rfl, rfl, rfl, rfl, rfl, rfl, rfl, rfl, rfl, rfl, rfl⟩ (below_dN HB.out _) | exact HK.out _ _ ⟨rfl, rfl, rfl, (by first | rfl | exact congrArg S HR.out | exact congrArg S HR2.out), rfl, rfl, rfl, rfl, rfl, rfl, rfl, rfl, rfl, rfl, rfl, rfl, rfl, rfl, rfl, rfl, rfl, rfl, rfl⟩ (below_drewN _ _)
set_option maxRecDepth 100000 in
set_option maxHeartbeats 1000000 in
theorem hand69_28n (v : V69) (h0 h1 m0 m1 : UInt8) (rest : Bytes) (hv : v.val = 45 :: h0 :: h1 :: 58 :: m0 :: m1 :: rest) (hmx : v.val.length ≤ 1099511627776) (hh mm ss : Int) (H1 : Getn 102 true [h0, h1] hh []) (H2 : Getn 102 true [m0, m1] mm []) (H3 : Getn 102 true [48, 48] ss []) (a0 : 0 ≤ hh) (a1 : hh ≤ 24) (b0 : 0 ≤ mm) (b1 : mm ≤ 60) (c0 : 0 ≤ ss) (c1 : ss ≤ 60) : Hand69 19 27 27 v { v with val := rest, zo := -((hh * 60 + mm) * 60 + ss) } := by
  intro w u Q hK
  obtain ⟨lay, val, loc, p, am, pm, y, m, d, yd, h, mi, s, ns, z, zo, zn⟩ := v
  simp only at hv hmx
  obtain ⟨l, HL⟩ : ∃ l, Hid (l = val) := ⟨_, Lib.hid rfl⟩
  have hll : 6 ≤ l.length := by rw [HL.out, hv]; simp
  have hl40 : l.length ≤ 1099511627776 := by rw [HL.out]; exact hmx
  have hix0 : ∀ h : 0 < (bs l).size, (bs l)[0]'h = 45 := fun h => by rw [bs_get]; simp only [HL.out, hv]; rfl
  have HR : Hid (List.take (l.length - 6) (List.drop 6 l) = rest) := by show _ = _; rw [take_rest, HL.out, hv]; rfl
  have HR2 : Hid (List.drop 6 l = rest) := by show _ = _; rw [HL.out, hv]; rfl
  have hsg : List.take 1 l = [45] := by rw [HL.out, hv]; rfl
  have hix3 : ∀ h : 3 < (bs l).size, (bs l)[3]'h = 58 := fun h => by rw [bs_get]; simp only [HL.out, hv]; rfl
  have S1 : Hid (List.take 2 (List.tail l) = [h0, h1]) := by show _ = _; rw [HL.out, hv]; rfl
  have S2 : Hid (List.take 2 (List.drop 4 l) = [m0, m1]) := by show _ = _; rw [HL.out, hv]; rfl
  have hsx : ∀ h : 0 < (bs [(45 : UInt8)]).size, (bs [(45 : UInt8)])[0]'h = 45 := fun h => by rw [bs_get]; rfl
  have G1 := Lib.hid H1
  have G2 := Lib.hid H2
  have G3 := Lib.hid H3
  unfold Getn at G1 G2 G3
  rw [← HL.out]
  clear hv hmx H1 H2 H3
  have HK := Lib.hid hK
  have HB : Hid (Below w.heap.size w w) := Lib.hid (Below.refl _ _)
  clear hK
  unfold fr69t
  conv => arg 2; whnf
  go_wp2_with (first
    | (guard_target =~ Code.wp _ (Code.region _ _ true) _ _ _; go_quiet (fail))
    | (go_at_call 102; (first | (rw [S1.out]; refine (G1.out _).mono ?_) | (rw [S2.out]; refine (G2.out _).mono ?_) | refine (G3.out _).mono ?_); rintro e w1 ⟨rfl, k, rfl⟩; have HB := Lib.hid (below_dN HB.out k)))
  all_goals first | exact HK.out _ _ ⟨rfl, rfl, rfl, (by first | rfl | exact congrArg S HR.out | exact congrArg S HR2.out), rfl, rfl, rfl, rfl, rfl, rfl, rfl, rfl, rfl, rfl, rfl, rfl, rfl, rfl, rfl, rfl, rfl, rfl, rfl⟩ HB.out | exact HK.out _ _ ⟨rfl, rfl, rfl, (by first | rfl | exact congrArg S HR.out | exact congrArg S HR2.out), rfl, rfl, rfl, rfl, rfl, rfl, rfl, rfl, rfl, rfl, rfl, rfl, rfl, rfl, rfl, rfl, rfl, rfl, rfl⟩ (below_dN HB.out _) | exact HK.out _ _ ⟨rfl, rfl, rfl, (by first | rfl | exact congrArg S HR.out | exact congrArg S HR2.out), rfl, rfl, rfl, rfl, rfl, rfl, rfl, rfl, rfl, rfl, rfl, rfl, rfl, rfl, rfl, rfl, rfl, rfl, rfl⟩ (below_drewN _ _)
set_option maxRecDepth 100000 in
set_option maxHeartbeats 1000000 in
theorem hand69_29p (v : V69) (h0 h1 : UInt8) (rest : Bytes) (hv : v.val = 43 :: h0 :: h1 :: rest) (hmx : v.val.length ≤ 1099511627776) (hh mm : Int) (H1 : Getn 102 true [h0, h1] hh []) (H2 : Getn 102 true [48, 48] mm []) (a0 : 0 ≤ hh) (a1 : hh ≤ 24) (b0 : 0 ≤ mm) (b1 : mm ≤ 60) : Hand69 19 26 26 v { v with val := rest, zo := (hh * 60 + mm) * 60 + mm } := by
  intro w u Q hK
  obtain ⟨lay, val, loc, p, am, pm, y, m, d, yd, h, mi, s, ns, z, zo, zn⟩ := v
  simp only at hv hmx
  obtain ⟨l, HL⟩ : ∃ l, Hid (l = val) := ⟨_, Lib.hid rfl⟩
  have hll : 3 ≤ l.length := by rw [HL.out, hv]; simp
  have hl40 : l.length ≤ 1099511627776 := by rw [HL.out]; exact hmx
  have hix0 : ∀ h : 0 < (bs l).size, (bs l)[0]'h = 43 := fun h => by rw [bs_get]; simp only [HL.out, hv]; rfl
  have HR : Hid (List.take (l.length - 3) (List.drop 3 l) = rest) := by show _ = _; rw [take_rest, HL.out, hv]; rfl
  have HR2 : Hid (List.drop 3 l = rest) := by show _ = _; rw [HL.out, hv]; rfl
  have hsg : List.take 1 l = [43] := by rw [HL.out, hv]; rfl
  have S1 : Hid (List.take 2 (List.tail l) = [h0, h1]) := by show _ = _; rw [HL.out, hv]; rfl
  have hsx : ∀ h : 0 < (bs [(43 : UInt8)]).size, (bs [(43 : UInt8)])[0]'h = 43 := fun h => by rw [bs_get]; rfl
  have G1 := Lib.hid H1
  have G2 := Lib.hid H2
  unfold Getn at G1 G2
  rw [← HL.out]
  clear hv hmx H1 H2
  have HK := Lib.hid hK
  have HB : Hid (Below w.heap.size w w) := Lib.hid (Below.refl _ _)
  clear hK
  unfold fr69t
  conv => arg 2; whnf
  go_wp2_with (first
    | (guard_target =~ Code.wp _ (Code.region _ _ true) _ _ _; go_quiet (fail))
    | (go_at_call 102; (first | (rw [S1.out]; refine (G1.out _).mono ?_) | refine (G2.out _).mono ?_); rintro e w1 ⟨rfl, k, rfl⟩; have HB := Lib.hid (below_dN HB.out k)))
  all_goals first | exact HK.out _ _ ⟨rfl, rfl, rfl, (by first | rfl | exact congrArg S HR.out | exact congrArg S HR2.out), rfl, rfl, rfl, rfl, rfl, rfl, rfl, rfl, rfl, rfl, rfl, rfl, rfl, rfl, rfl, rfl, rfl, rfl, rfl⟩ HB.out | exact HK.out _ _ ⟨rfl, rfl, rfl, (by first | rfl | exact congrArg S HR.out | exact congrArg S HR2.out), rfl, rfl, rfl, rfl, rfl, rfl, rfl, rfl, rfl, rfl, rfl, rfl, rfl, rfl, rfl, rfl, rfl, rfl, rfl⟩ (below_dN HB.out _) | exact HK.out _ _ ⟨rfl, rfl, rfl, (by first | rfl | exact congrArg S HR.out | exact congrArg S HR2.out), rfl, rfl, rfl, rfl, rfl, rfl, rfl, rfl, rfl, rfl, rfl, rfl, rfl, rfl, rfl, rfl, rfl, rfl, rfl⟩ (below_drewN _ _)
set_option maxRecDepth 100000 in
set_option maxHeartbeats 1000000 in
theorem hand69_29n (v : V69) (h0 h1 : UInt8) (rest : Bytes) (hv : v.val = 45 :: h0 :: h1 :: rest) (hmx : v.val.length ≤ 1099511627776) (hh mm : Int) (H1 : Getn 102 true [h0, h1] hh []) (H2 : Getn 102 true [48, 48] mm []) (a0 : 0 ≤ hh) (a1 : hh ≤ 24) (b0 : 0 ≤ mm) (b1 : mm ≤ 60) : Hand69 19 26 26 v { v with val := rest, zo := -((hh * 60 + mm) * 60 + mm) } := by
  intro w u Q hK
  obtain ⟨lay, val, loc, p, am, pm, y, m, d, yd, h, mi, s, ns, z, zo, zn⟩ := v
  simp only at hv hmx
  obtain ⟨l, HL⟩ : ∃ l, Hid (l = val) := ⟨_, Lib.hid rfl⟩
  have hll : 3 ≤ l.length := by rw [HL.out, hv]; simp
  have hl40 : l.length ≤ 1099511627776 := by rw [HL.out]; exact hmx
  have hix0 : ∀ h : 0 < (bs l).size, (bs l)[0]'h = 45 := fun h => by rw [bs_get]; simp only [HL.out, hv]; rfl
  have HR : Hid (List.take (l.length - 3) (List.drop 3 l) = rest) := by show _ = _; rw [take_rest, HL.out, hv]; rfl
  have HR2 : Hid (List.drop 3 l = rest) := by show _ = _; rw [HL.out, hv]; rfl
  have hsg : List.take 1 l = [45] := by rw [HL.out, hv]; rfl
  have S1 : Hid (List.take 2 (List.tail l) = [h0, h1]) := by show _ = _; rw [HL.out, hv]; rfl
  have hsx : ∀ h : 0 < (bs [(45 : UInt8)]).size, (bs [(45 : UInt8)])[0]'h = 45 := fun h => by rw [bs_get]; rfl
  have G1 := Lib.hid H1
  have G2 := Lib.hid H2
  unfold Getn at G1 G2
  rw [← HL.out]
  clear hv hmx H1 H2
  have HK := Lib.hid hK
  have HB : Hid (Below w.heap.size w w) := Lib.hid (Below.refl _ _)
  clear hK
  unfold fr69t
  conv => arg 2; whnf
  go_wp2_with (first
    | (guard_target =~ Code.wp _ (Code.region _ _ true) _ _ _; go_quiet (fail))
    | (go_at_call 102; (first | (rw [S1.out]; refine (G1.out _).mono ?_) | refine (G2.out _).mono ?_); rintro e w1 ⟨rfl, k, rfl⟩; have HB := Lib.hid (below_dN HB.out k)))
  all_goals first | exact HK.out _ _ ⟨rfl, rfl, rfl, (by first | rfl | exact congrArg S HR.out | exact congrArg S HR2.out), rfl, rfl, rfl, rfl, rfl, rfl, rfl, rfl, rfl, rfl, rfl, rfl, rfl, rfl, rfl, rfl, rfl, rfl, rfl⟩ HB.out | exact HK.out _ _ ⟨rfl, rfl, rfl, (by first | rfl | exact congrArg S HR.out | exact congrArg S HR2.out), rfl, rfl, rfl, rfl, rfl, rfl, rfl, rfl, rfl, rfl, rfl, rfl, rfl, rfl, rfl, rfl, rfl, rfl, rfl⟩ (below_dN HB.out _) | exact HK.out _ _ ⟨rfl, rfl, rfl, (by first | rfl | exact congrArg S HR.out | exact congrArg S HR2.out), rfl, rfl, rfl, rfl, rfl, rfl, rfl, rfl, rfl, rfl, rfl, rfl, rfl, rfl, rfl, rfl, rfl, rfl, rfl⟩ (below_drewN _ _)
end Go.Proofs.YtndhiemagankeaaGreatDoor
/- The walk of package time: a time is read by a layout: offsets with a sign or a Z, to the second. -/
namespace Go.Proofs.YtndhiemagankeaaGreatDoor
open Go.RowKit
set_option linter.unusedSimpArgs false
set_option linter.unusedVariables false
attribute [local simp] bs_size bs_toList bs_append bs_data bs_extract
set_option maxRecDepth 100000 in
set_option maxHeartbeats 1000000 in
theorem hand69_30p (v : V69) (h0 h1 m0 m1 s0 s1 : UInt8) (rest : Bytes) (hv : v.val = 43 :: h0 :: h1 :: m0 :: m1 :: s0 :: s1 :: rest) (hmx : v.val.length ≤ 1099511627776) (hh mm ss : Int) (H1 : Getn 102 true [h0, h1] hh []) (H2 : Getn 102 true [m0, m1] mm []) (H3 : Getn 102 true [s0, s1] ss []) (a0 : 0 ≤ hh) (a1 : hh ≤ 24) (b0 : 0 ≤ mm) (b1 : mm ≤ 60) (c0 : 0 ≤ ss) (c1 : ss ≤ 60) : Hand69 19 25 25 v { v with val := rest, zo := (hh * 60 + mm) * 60 + ss } := by
  intro w u Q hK
  obtain ⟨lay, val, loc, p, am, pm, y, m, d, yd, h, mi, s, ns, z, zo, zn⟩ := v
  simp only at hv hmx
  obtain ⟨l, HL⟩ : ∃ l, Hid (l = val) := ⟨_, Lib.hid rfl⟩
  have hll : 7 ≤ l.length := by rw [HL.out, hv]; simp
  have hl40 : l.length ≤ 1099511627776 := by rw [HL.out]; exact hmx
  have hix0 : ∀ h : 0 < (bs l).size, (bs l)[0]'h = 43 := fun h => by rw [bs_get]; simp only [HL.out, hv]; rfl
  have HR : Hid (List.take (l.length - 7) (List.drop 7 l) = rest) := by show _ = _; rw [take_rest, HL.out, hv]; rfl
  have HR2 : Hid (List.drop 7 l = rest) := by show _ = _; rw [HL.out, hv]; rfl
  have hsg : List.take 1 l = [43] := by rw [HL.out, hv]; rfl
  have S1 : Hid (List.take 2 (List.tail l) = [h0, h1]) := by show _ = _; rw [HL.out, hv]; rfl
  have S2 : Hid (List.take 2 (List.drop 3 l) = [m0, m1]) := by show _ = _; rw [HL.out, hv]; rfl
  have S3 : Hid (List.take 2 (List.drop 5 l) = [s0, s1]) := by show _ = _; rw [HL.out, hv]; rfl
  have hsx : ∀ h : 0 < (bs [(43 : UInt8)]).size, (bs [(43 : UInt8)])[0]'h = 43 := fun h => by rw [bs_get]; rfl
  have G1 := Lib.hid H1
  have G2 := Lib.hid H2
  have G3 := Lib.hid H3
  unfold Getn at G1 G2 G3
  rw [← HL.out]
  clear hv hmx H1 H2 H3
  have HK := Lib.hid hK
  have HB : Hid (Below w.heap.size w w) := Lib.hid (Below.refl _ _)
  clear hK
  unfold fr69t
  conv => arg 2; whnf
  go_wp2_with (first
    | (guard_target =~ Code.wp _ (Code.region _ _ true) _ _ _; go_quiet (fail))
    | (go_at_call 102; (first | (rw [S1.out]; refine (G1.out _).mono ?_) | (rw [S2.out]; refine (G2.out _).mono ?_) | (rw [S3.out]; refine (G3.out _).mono ?_)); rintro e w1 ⟨rfl, k, rfl⟩; have HB := Lib.hid (below_dN HB.out k)))
  all_goals first | exact HK.out _ _ ⟨rfl, rfl, rfl, (by first | rfl | exact congrArg S HR.out | exact congrArg S HR2.out), rfl, rfl, rfl, rfl, rfl, rfl, rfl, rfl, rfl, rfl, rfl, rfl, rfl, rfl, rfl, rfl, rfl, rfl, rfl⟩ HB.out | exact HK.out _ _ ⟨rfl, rfl, rfl, (by first | rfl | exact congrArg S HR.out | exact congrArg S HR2.out), rfl, rfl, rfl, rfl, rfl, rfl, rfl, rfl, rfl, rfl, rfl, rfl, rfl, rfl, rfl, rfl, rfl, rfl, rfl⟩ (below_dN HB.out _) | exact HK.out _ _ ⟨rfl, rfl, rfl, (by first | rfl | exact congrArg S HR.out | exact congrArg S HR2.out), rfl, rfl, rfl, rfl, rfl, rfl, rfl, rfl, rfl, rfl, rfl, rfl, rfl, rfl, rfl, rfl, rfl, rfl, rfl⟩ (below_drewN _ _)
set_option maxRecDepth 100000 in
set_option maxHeartbeats 1000000 in
theorem hand69_30n (v : V69) (h0 h1 m0 m1 s0 s1 : UInt8) (rest : Bytes) (hv : v.val = 45 :: h0 :: h1 :: m0 :: m1 :: s0 :: s1 :: rest) (hmx : v.val.length ≤ 1099511627776) (hh mm ss : Int) (H1 : Getn 102 true [h0, h1] hh []) (H2 : Getn 102 true [m0, m1] mm []) (H3 : Getn 102 true [s0, s1] ss []) (a0 : 0 ≤ hh) (a1 : hh ≤ 24) (b0 : 0 ≤ mm) (b1 : mm ≤ 60) (c0 : 0 ≤ ss) (c1 : ss ≤ 60) : Hand69 19 25 25 v { v with val := rest, zo := -((hh * 60 + mm) * 60 + ss) } := by
  intro w u Q hK
  obtain ⟨lay, val, loc, p, am, pm, y, m, d, yd, h, mi, s, ns, z, zo, zn⟩ := v
  simp only at hv hmx
  obtain ⟨l, HL⟩ : ∃ l, Hid (l = val) := ⟨_, Lib.hid rfl⟩
  have hll : 7 ≤ l.length := by rw [HL.out, hv]; simp
  have hl40 : l.length ≤ 1099511627776 := by rw [HL.out]; exact hmx
  have hix0 : ∀ h : 0 < (bs l).size, (bs l)[0]'h = 45 := fun h => by rw [bs_get]; simp only [HL.out, hv]; rfl
  have HR : Hid (List.take (l.length - 7) (List.drop 7 l) = rest) := by show _ = _; rw [take_rest, HL.out, hv]; rfl
  have HR2 : Hid (List.drop 7 l = rest) := by show _ = _; rw [HL.out, hv]; rfl
  have hsg : List.take 1 l = [45] := by rw [HL.out, hv]; rfl
  have S1 : Hid (List.take 2 (List.tail l) = [h0, h1]) := by show _ = _; rw [HL.out, hv]; rfl
  have S2 : Hid (List.take 2 (List.drop 3 l) = [m0, m1]) := by show _ = _; rw [HL.out, hv]; rfl
  have S3 : Hid (List.take 2 (List.drop 5 l) = [s0, s1]) := by show _ = _; rw [HL.out, hv]; rfl
  have hsx : ∀ h : 0 < (bs [(45 : UInt8)]).size, (bs [(45 : UInt8)])[0]'h = 45 := fun h => by rw [bs_get]; rfl
  have G1 := Lib.hid H1
  have G2 := Lib.hid H2
  have G3 := Lib.hid H3
  unfold Getn at G1 G2 G3
  rw [← HL.out]
  clear hv hmx H1 H2 H3
  have HK := Lib.hid hK
  have HB : Hid (Below w.heap.size w w) := Lib.hid (Below.refl _ _)
  clear hK
  unfold fr69t
  conv => arg 2; whnf
  go_wp2_with (first
    | (guard_target =~ Code.wp _ (Code.region _ _ true) _ _ _; go_quiet (fail))
    | (go_at_call 102; (first | (rw [S1.out]; refine (G1.out _).mono ?_) | (rw [S2.out]; refine (G2.out _).mono ?_) | (rw [S3.out]; refine (G3.out _).mono ?_)); rintro e w1 ⟨rfl, k, rfl⟩; have HB := Lib.hid (below_dN HB.out k)))
  all_goals first | exact HK.out _ _ ⟨rfl, rfl, rfl, (by first | rfl | exact congrArg S HR.out | exact congrArg S HR2.out), rfl, rfl, rfl, rfl, rfl, rfl, rfl, rfl, rfl, rfl, rfl, rfl, rfl, rfl, rfl, rfl, rfl, rfl, rfl⟩ HB.out | exact HK.out _ _ ⟨rfl, rfl, rfl, (by first | rfl | exact congrArg S HR.out | exact congrArg S HR2.out), rfl, rfl, rfl, rfl, rfl, rfl, rfl, rfl, rfl, rfl, rfl, rfl, rfl, rfl, rfl, rfl, rfl, rfl, rfl⟩ (below_dN HB.out _) | exact HK.out _ _ ⟨rfl, rfl, rfl, (by first | rfl | exact congrArg S HR.out | exact congrArg S HR2.out), rfl, rfl, rfl, rfl, rfl, rfl, rfl, rfl, rfl, rfl, rfl, rfl, rfl, rfl, rfl, rfl, rfl, rfl, rfl⟩ (below_drewN _ _)
set_option maxRecDepth 100000 in
set_option maxHeartbeats 1000000 in
theorem hand69_31p (v : V69) (h0 h1 m0 m1 s0 s1 : UInt8) (rest : Bytes) (hv : v.val = 43 :: h0 :: h1 :: 58 :: m0 :: m1 :: 58 :: s0 :: s1 :: rest) (hmx : v.val.length ≤ 1099511627776) (hh mm ss : Int) (H1 : Getn 102 true [h0, h1] hh []) (H2 : Getn 102 true [m0, m1] mm []) (H3 : Getn 102 true [s0, s1] ss []) (a0 : 0 ≤ hh) (a1 : hh ≤ 24) (b0 : 0 ≤ mm) (b1 : mm ≤ 60) (c0 : 0 ≤ ss) (c1 : ss ≤ 60) : Hand69 19 28 28 v { v with val := rest, zo := (hh * 60 + mm) * 60 + ss } := by
  intro w u Q hK
  obtain ⟨lay, val, loc, p, am, pm, y, m, d, yd, h, mi, s, ns, z, zo, zn⟩ := v
  simp only at hv hmx
  obtain ⟨l, HL⟩ : ∃ l, Hid (l = val) := ⟨_, Lib.hid rfl⟩
  have hll : 9 ≤ l.length := by rw [HL.out, hv]; simp
  have hl40 : l.length ≤ 1099511627776 := by rw [HL.out]; exact hmx
  have hix0 : ∀ h : 0 < (bs l).size, (bs l)[0]'h = 43 := fun h => by rw [bs_get]; simp only [HL.out, hv]; rfl
  have HR : Hid (List.take (l.length - 9) (List.drop 9 l) = rest) := by show _ = _; rw [take_rest, HL.out, hv]; rfl
  have HR2 : Hid (List.drop 9 l = rest) := by show _ = _; rw [HL.out, hv]; rfl
  have hsg : List.take 1 l = [43] := by rw [HL.out, hv]; rfl
  have hix3 : ∀ h : 3 < (bs l).size, (bs l)[3]'h = 58 := fun h => by rw [bs_get]; simp only [HL.out, hv]; rfl
  have hix6 : ∀ h : 6 < (bs l).size, (bs l)[6]'h = 58 := fun h => by rw [bs_get]; simp only [HL.out, hv]; rfl
  have S1 : Hid (List.take 2 (List.tail l) = [h0, h1]) := by show _ = _; rw [HL.out, hv]; rfl
  have S2 : Hid (List.take 2 (List.drop 4 l) = [m0, m1]) := by show _ = _; rw [HL.out, hv]; rfl
  have S3 : Hid (List.take 2 (List.drop 7 l) = [s0, s1]) := by show _ = _; rw [HL.out, hv]; rfl
  have hsx : ∀ h : 0 < (bs [(43 : UInt8)]).size, (bs [(43 : UInt8)])[0]'h = 43 := fun h => by rw [bs_get]; rfl
  have G1 := Lib.hid H1
  have G2 := Lib.hid H2
  have G3 := Lib.hid H3
  unfold Getn at G1 G2 G3
  rw [← HL.out]
  clear hv hmx H1 H2 H3
  have HK := Lib.hid hK
  have HB : Hid (Below w.heap.size w w) := Lib.hid (Below.refl _ _)
  clear hK
  unfold fr69t
  conv => arg 2; whnf
  go_wp2_with (first
    | (guard_target =~ Code.wp _ (Code.region _ _ true) _ _ _; go_quiet (fail))
    | (go_at_call 102; (first | (rw [S1.out]; refine (G1.out _).mono ?_) | (rw [S2.out]; refine (G2.out _).mono ?_) | (rw [S3.out]; refine (G3.out _).mono ?_)); rintro e w1 ⟨rfl, k, rfl⟩; have HB := Lib.hid (below_dN HB.out k)))
  all_goals first | exact HK.out _ _ ⟨rfl, rfl, rfl, (by first | rfl | exact congrArg S HR.out | exact congrArg S HR2.out), rfl, rfl, rfl, rfl, rfl, rfl, rfl, rfl, rfl, rfl, rfl, rfl, rfl, rfl, rfl, rfl, rfl, rfl, rfl⟩ HB.out | exact HK.out _ _ ⟨rfl, rfl, rfl, (by first | rfl | exact congrArg S HR.out | exact congrArg S HR2.out), rfl, rfl, rfl, rfl, rfl, rfl, rfl, rfl, rfl, rfl, rfl, rfl, rfl, rfl, rfl, rfl, rfl, rfl, rfl⟩ (below_dN HB.out _) | exact HK.out _ _ ⟨rfl, rfl, rfl, (by first | rfl | exact congrArg S HR.out | exact congrArg S HR2.out), rfl, rfl, rfl, rfl, rfl, rfl, rfl, rfl, rfl, rfl, rfl, rfl, rfl, rfl, rfl, rfl, rfl, rfl, rfl⟩ (below_drewN _ _)
set_option maxRecDepth 100000 in
set_option maxHeartbeats 1000000 in
theorem hand69_31n (v : V69) (h0 h1 m0 m1 s0 s1 : UInt8) (rest : Bytes) (hv : v.val = 45 :: h0 :: h1 :: 58 :: m0 :: m1 :: 58 :: s0 :: s1 :: rest) (hmx : v.val.length ≤ 1099511627776) (hh mm ss : Int) (H1 : Getn 102 true [h0, h1] hh []) (H2 : Getn 102 true [m0, m1] mm []) (H3 : Getn 102 true [s0, s1] ss []) (a0 : 0 ≤ hh) (a1 : hh ≤ 24) (b0 : 0 ≤ mm) (b1 : mm ≤ 60) (c0 : 0 ≤ ss) (c1 : ss ≤ 60) : Hand69 19 28 28 v { v with val := rest, zo := -((hh * 60 + mm) * 60 + ss) } := by
  intro w u Q hK
  obtain ⟨lay, val, loc, p, am, pm, y, m, d, yd, h, mi, s, ns, z, zo, zn⟩ := v
  simp only at hv hmx
  obtain ⟨l, HL⟩ : ∃ l, Hid (l = val) := ⟨_, Lib.hid rfl⟩
  have hll : 9 ≤ l.length := by rw [HL.out, hv]; simp
  have hl40 : l.length ≤ 1099511627776 := by rw [HL.out]; exact hmx
  have hix0 : ∀ h : 0 < (bs l).size, (bs l)[0]'h = 45 := fun h => by rw [bs_get]; simp only [HL.out, hv]; rfl
  have HR : Hid (List.take (l.length - 9) (List.drop 9 l) = rest) := by show _ = _; rw [take_rest, HL.out, hv]; rfl
  have HR2 : Hid (List.drop 9 l = rest) := by show _ = _; rw [HL.out, hv]; rfl
  have hsg : List.take 1 l = [45] := by rw [HL.out, hv]; rfl
  have hix3 : ∀ h : 3 < (bs l).size, (bs l)[3]'h = 58 := fun h => by rw [bs_get]; simp only [HL.out, hv]; rfl
  have hix6 : ∀ h : 6 < (bs l).size, (bs l)[6]'h = 58 := fun h => by rw [bs_get]; simp only [HL.out, hv]; rfl
  have S1 : Hid (List.take 2 (List.tail l) = [h0, h1]) := by show _ = _; rw [HL.out, hv]; rfl
  have S2 : Hid (List.take 2 (List.drop 4 l) = [m0, m1]) := by show _ = _; rw [HL.out, hv]; rfl
  have S3 : Hid (List.take 2 (List.drop 7 l) = [s0, s1]) := by show _ = _; rw [HL.out, hv]; rfl
  have hsx : ∀ h : 0 < (bs [(45 : UInt8)]).size, (bs [(45 : UInt8)])[0]'h = 45 := fun h => by rw [bs_get]; rfl
  have G1 := Lib.hid H1
  have G2 := Lib.hid H2
  have G3 := Lib.hid H3
  unfold Getn at G1 G2 G3
  rw [← HL.out]
  clear hv hmx H1 H2 H3
  have HK := Lib.hid hK
  have HB : Hid (Below w.heap.size w w) := Lib.hid (Below.refl _ _)
  clear hK
  unfold fr69t
  conv => arg 2; whnf
  go_wp2_with (first
    | (guard_target =~ Code.wp _ (Code.region _ _ true) _ _ _; go_quiet (fail))
    | (go_at_call 102; (first | (rw [S1.out]; refine (G1.out _).mono ?_) | (rw [S2.out]; refine (G2.out _).mono ?_) | (rw [S3.out]; refine (G3.out _).mono ?_)); rintro e w1 ⟨rfl, k, rfl⟩; have HB := Lib.hid (below_dN HB.out k)))
  all_goals first | exact HK.out _ _ ⟨rfl, rfl, rfl, (by first | rfl | exact congrArg S HR.out | exact congrArg S HR2.out), rfl, rfl, rfl, rfl, rfl, rfl, rfl, rfl, rfl, rfl, rfl, rfl, rfl, rfl, rfl, rfl, rfl, rfl, rfl⟩ HB.out | exact HK.out _ _ ⟨rfl, rfl, rfl, (by first | rfl | exact congrArg S HR.out | exact congrArg S HR2.out), rfl, rfl, rfl, rfl, rfl, rfl, rfl, rfl, rfl, rfl, rfl, rfl, rfl, rfl, rfl, rfl, rfl, rfl, rfl⟩ (below_dN HB.out _) | exact HK.out _ _ ⟨rfl, rfl, rfl, (by first | rfl | exact congrArg S HR.out | exact congrArg S HR2.out), rfl, rfl, rfl, rfl, rfl, rfl, rfl, rfl, rfl, rfl, rfl, rfl, rfl, rfl, rfl, rfl, rfl, rfl, rfl⟩ (below_drewN _ _)
end Go.Proofs.YtndhiemagankeaaGreatDoor
