/-
  FnLayout (the statement: for every list of pieces, every time and every zone the call returns true, and its arguments read afterwards as they did), part 33 of 41. In this part: The walk of package time: a time is written by a layout: offsets. The walk of package time: a time is written by a layout: fractions. The walk of package time: one round of a time written by a layout. The walk of package time: a time is written by a layout. The walk of package time: a time is written by a layout: the whole function. The walks of package time: AppendFormat, Format.
-/
import Derived.OwnWalk
import Derived.Deep.DeepCutAuto
import Derived.Test.YtndhiemagankeaaGreatDoorG15
import Derived.Test.YtndhiemagankeaaGreatDoorG21
import Derived.Test.YtndhiemagankeaaGreatDoorG31
import Derived.Test.YtndhiemagankeaaGreatDoorG32
/- The walk of package time: a time is written by a layout: offsets. -/
namespace Go.Proofs.YtndhiemagankeaaGreatDoor
open Go.RowKit
set_option linter.unusedSimpArgs false
set_option linter.unusedVariables false
attribute [local simp] bs_size bs_toList bs_append bs_data bs_extract
set_option maxRecDepth 100000 in
set_option maxHeartbeats 4000000 in
theorem tail85_27 : Tail85 24 24 (fun c v _ => v.off = c.zone.off) (fun c => if c.zone.off = 0 then [90] else offsetText c.zone.off true false false) := by
  intro c v g n cap l w I Q u hc h1 hvb hb hn hI
  obtain ⟨b, lay, pb, name, off, abs, y, m, d, yd, h, mi, s⟩ := v
  simp only at hvb h1
  subst hvb
  dsimp only at hI
  have hz := znB hc.z
  have hz0 := hz.o0
  have hz1 := hz.o1
  have hzf := hz.far
  clear hz hc
  generalize c.zone.off = o at *
  subst h1
  have hl0 := hb.len
  have HB := Lib.hid hb
  have HS : Hid (BufStep w g w g) := Lib.hid (BufStep.refl w g)
  have HI := Lib.hid hI
  clear hb hI
  by_cases h0 : off = 0
  · subst h0
    have HT2 : Hid ((if (0 : Int) = 0 then [90] else offsetText 0 true false false : Bytes) = [90]) := Lib.hid (if_pos rfl)
    unfold fr85s
    conv => arg 2; whnf
    go_wp2_with (first
      | (at_builtin; refine wpList_append_bufL _ rfl _ _ rfl _ _ _ _ rfl HB.out 1 [90] _ rfl rfl rfl (by omega) (by omega) ?_; intro g1 cap1 w1 hb1 hs1; have hl1 := hb1.len; have HB := Lib.hid hb1; have HS := Lib.hid (HS.out.trans hs1); clear hb1 hs1))
    all_goals exact HI.out _ _ ⟨g1, _, cap1, ⟨rfl, rfl, rfl, rfl, rfl, rfl, rfl, rfl, rfl, rfl, rfl, rfl, rfl, rfl, rfl, rfl⟩, by (have h := HB.out; rw [HT2.out]; first | exact h | (simp only [List.append_assoc] at h ⊢; exact h)), HS.out⟩
  by_cases hneg : 0 ≤ off
  · obtain ⟨a, HA⟩ : ∃ a, a = off := ⟨_, rfl⟩
    subst HA
    have ha0 : 0 ≤ a := hneg
    have ha1 : a ≤ 86399 := hz1
    obtain ⟨z, HZ⟩ : ∃ z, Hid (z = a / 60) := ⟨_, Lib.hid rfl⟩
    obtain ⟨p, HP⟩ : ∃ p, Hid (p = a / 3600) := ⟨_, Lib.hid rfl⟩
    obtain ⟨q, HQ⟩ : ∃ q, Hid (q = a / 60 % 60) := ⟨_, Lib.hid rfl⟩
    obtain ⟨s1, HS1⟩ : ∃ s1, Hid (s1 = a % 60) := ⟨_, Lib.hid rfl⟩
    have t1 : a.tdiv 60 = z := by rw [HZ.out]; exact Int.tdiv_eq_ediv_of_nonneg (by omega)
    have hzb : 0 ≤ z ∧ z ≤ 1440 := by rw [HZ.out]; omega
    have hpb : 0 ≤ p ∧ p ≤ 24 := by rw [HP.out]; omega
    have hqb : 0 ≤ q ∧ q ≤ 59 := by rw [HQ.out]; omega
    have hsb : 0 ≤ s1 ∧ s1 ≤ 59 := by rw [HS1.out]; omega
    have t2 : z.tdiv 60 = p := by rw [Int.tdiv_eq_ediv_of_nonneg hzb.1, HZ.out, HP.out]; omega
    have t3 : z.tmod 60 = q := by rw [Int.tmod_eq_emod_of_nonneg hzb.1, HZ.out, HQ.out]
    have t4 : a.tmod 60 = s1 := by rw [Int.tmod_eq_emod_of_nonneg (by omega), HS1.out]
    have t5 : z / 60 = p := by rw [HZ.out, HP.out]; omega
    have t6 : z % 60 = q := by rw [HZ.out, HQ.out]
    have t7 : a % 60 = s1 := by rw [HS1.out]
    have hpl := digs_len120 p 2 (by omega) (by omega)
    have hql := digs_len120 q 2 (by omega) (by omega)
    have hsl := digs_len120 s1 2 (by omega) (by omega)
    have t8 : a / 60 = z := by rw [HZ.out]
    have HT2 : Hid ((if a = 0 then [90] else offsetText a true false false : Bytes) = [43] ++ digits p 2 ++ (digits q 2)) := by
      show _ = _
      rw [if_neg (by omega)]
      simp only [HP.out, HQ.out, HS1.out]
      simp [offsetText, show ¬ a < 0 by omega]
    have hne : (a == 0) = false := by rw [beq_eq_false_iff_ne]; exact h0
    clear HZ HP HQ HS1
    unfold fr85s
    conv => arg 2; whnf
    go_wp2_with (first
      | (go_at_call 78; refine (appendInt_c _ 2 _ _ _ _ _ HB.out (by omega) (by omega) (by omega) (by omega)).mono ?_; rintro e w1 ⟨g1, n1, cap1, rfl, hb1, hs1⟩; have hl1 := hb1.len; simp only [List.length_append, List.length_singleton] at hl1; have HB := Lib.hid hb1; have HS := Lib.hid (HS.out.trans hs1); clear hb1 hs1)
      | (at_builtin; refine wpList_append_bufL _ rfl _ _ rfl _ _ _ _ rfl HB.out 1 [43] _ rfl rfl rfl (by omega) (by omega) ?_; intro g1 cap1 w1 hb1 hs1; have hl1 := hb1.len; have HB := Lib.hid hb1; have HS := Lib.hid (HS.out.trans hs1); clear hb1 hs1) | (at_builtin; refine wpList_append_bufL _ rfl _ _ rfl _ _ _ _ rfl HB.out 1 [58] _ rfl rfl rfl (by omega) (by omega) ?_; intro g1 cap1 w1 hb1 hs1; have hl1 := hb1.len; have HB := Lib.hid hb1; have HS := Lib.hid (HS.out.trans hs1); clear hb1 hs1))
    all_goals exact HI.out _ _ ⟨g1, _, cap1, ⟨rfl, rfl, rfl, rfl, rfl, rfl, rfl, rfl, rfl, rfl, rfl, rfl, rfl, rfl, rfl, rfl⟩, by (have h := HB.out; rw [HT2.out]; first | exact h | (simp only [List.append_assoc] at h ⊢; exact h)), HS.out⟩
  · obtain ⟨a, HA⟩ : ∃ a, Hid (a = -off) := ⟨_, Lib.hid rfl⟩
    have ha0 : 60 ≤ a := by rw [HA.out]; omega
    have ha1 : a ≤ 86399 := by rw [HA.out]; omega
    obtain rfl : off = -a := by rw [HA.out]; omega
    clear HA
    obtain ⟨z, HZ⟩ : ∃ z, Hid (z = a / 60) := ⟨_, Lib.hid rfl⟩
    obtain ⟨p, HP⟩ : ∃ p, Hid (p = a / 3600) := ⟨_, Lib.hid rfl⟩
    obtain ⟨q, HQ⟩ : ∃ q, Hid (q = a / 60 % 60) := ⟨_, Lib.hid rfl⟩
    obtain ⟨s1, HS1⟩ : ∃ s1, Hid (s1 = a % 60) := ⟨_, Lib.hid rfl⟩
    have t1 : (-a).tdiv 60 = -z := by rw [HZ.out, Int.neg_tdiv, Int.tdiv_eq_ediv_of_nonneg (by omega)]
    have hzb : 0 ≤ z ∧ z ≤ 1440 := by rw [HZ.out]; omega
    have hpb : 0 ≤ p ∧ p ≤ 24 := by rw [HP.out]; omega
    have hqb : 0 ≤ q ∧ q ≤ 59 := by rw [HQ.out]; omega
    have hsb : 0 ≤ s1 ∧ s1 ≤ 59 := by rw [HS1.out]; omega
    have t2 : z.tdiv 60 = p := by rw [Int.tdiv_eq_ediv_of_nonneg hzb.1, HZ.out, HP.out]; omega
    have t3 : z.tmod 60 = q := by rw [Int.tmod_eq_emod_of_nonneg hzb.1, HZ.out, HQ.out]
    have t4 : a.tmod 60 = s1 := by rw [Int.tmod_eq_emod_of_nonneg (by omega), HS1.out]
    have t5 : z / 60 = p := by rw [HZ.out, HP.out]; omega
    have t6 : z % 60 = q := by rw [HZ.out, HQ.out]
    have t7 : a % 60 = s1 := by rw [HS1.out]
    have hpl := digs_len120 p 2 (by omega) (by omega)
    have hql := digs_len120 q 2 (by omega) (by omega)
    have hsl := digs_len120 s1 2 (by omega) (by omega)
    have hzp : 1 ≤ z := by rw [HZ.out]; omega
    have HT2 : Hid ((if (-a) = 0 then [90] else offsetText (-a) true false false : Bytes) = [45] ++ digits p 2 ++ (digits q 2)) := by
      show _ = _
      rw [if_neg (by omega)]
      simp only [HP.out, HQ.out, HS1.out]
      simp [offsetText, show -a < 0 by omega, show 0 < a by omega]
    have hne : (-a == 0) = false := by rw [beq_eq_false_iff_ne]; omega
    clear HZ HP HQ HS1
    unfold fr85s
    conv => arg 2; whnf
    go_wp2_with (first
      | (go_at_call 78; refine (appendInt_c _ 2 _ _ _ _ _ HB.out (by omega) (by omega) (by omega) (by omega)).mono ?_; rintro e w1 ⟨g1, n1, cap1, rfl, hb1, hs1⟩; have hl1 := hb1.len; simp only [List.length_append, List.length_singleton] at hl1; have HB := Lib.hid hb1; have HS := Lib.hid (HS.out.trans hs1); clear hb1 hs1)
      | (at_builtin; refine wpList_append_bufL _ rfl _ _ rfl _ _ _ _ rfl HB.out 1 [45] _ rfl rfl rfl (by omega) (by omega) ?_; intro g1 cap1 w1 hb1 hs1; have hl1 := hb1.len; have HB := Lib.hid hb1; have HS := Lib.hid (HS.out.trans hs1); clear hb1 hs1) | (at_builtin; refine wpList_append_bufL _ rfl _ _ rfl _ _ _ _ rfl HB.out 1 [58] _ rfl rfl rfl (by omega) (by omega) ?_; intro g1 cap1 w1 hb1 hs1; have hl1 := hb1.len; have HB := Lib.hid hb1; have HS := Lib.hid (HS.out.trans hs1); clear hb1 hs1))
    all_goals exact HI.out _ _ ⟨g1, _, cap1, ⟨rfl, rfl, rfl, rfl, rfl, rfl, rfl, rfl, rfl, rfl, rfl, rfl, rfl, rfl, rfl, rfl⟩, by (have h := HB.out; rw [HT2.out]; first | exact h | (simp only [List.append_assoc] at h ⊢; exact h)), HS.out⟩
set_option maxRecDepth 100000 in
set_option maxHeartbeats 4000000 in
theorem tail85_28 : Tail85 27 27 (fun c v _ => v.off = c.zone.off) (fun c => if c.zone.off = 0 then [90] else offsetText c.zone.off true false true) := by
  intro c v g n cap l w I Q u hc h1 hvb hb hn hI
  obtain ⟨b, lay, pb, name, off, abs, y, m, d, yd, h, mi, s⟩ := v
  simp only at hvb h1
  subst hvb
  dsimp only at hI
  have hz := znB hc.z
  have hz0 := hz.o0
  have hz1 := hz.o1
  have hzf := hz.far
  clear hz hc
  generalize c.zone.off = o at *
  subst h1
  have hl0 := hb.len
  have HB := Lib.hid hb
  have HS : Hid (BufStep w g w g) := Lib.hid (BufStep.refl w g)
  have HI := Lib.hid hI
  clear hb hI
  by_cases h0 : off = 0
  · subst h0
    have HT2 : Hid ((if (0 : Int) = 0 then [90] else offsetText 0 true false true : Bytes) = [90]) := Lib.hid (if_pos rfl)
    unfold fr85s
    conv => arg 2; whnf
    go_wp2_with (first
      | (at_builtin; refine wpList_append_bufL _ rfl _ _ rfl _ _ _ _ rfl HB.out 1 [90] _ rfl rfl rfl (by omega) (by omega) ?_; intro g1 cap1 w1 hb1 hs1; have hl1 := hb1.len; have HB := Lib.hid hb1; have HS := Lib.hid (HS.out.trans hs1); clear hb1 hs1))
    all_goals exact HI.out _ _ ⟨g1, _, cap1, ⟨rfl, rfl, rfl, rfl, rfl, rfl, rfl, rfl, rfl, rfl, rfl, rfl, rfl, rfl, rfl, rfl⟩, by (have h := HB.out; rw [HT2.out]; first | exact h | (simp only [List.append_assoc] at h ⊢; exact h)), HS.out⟩
  by_cases hneg : 0 ≤ off
  · obtain ⟨a, HA⟩ : ∃ a, a = off := ⟨_, rfl⟩
    subst HA
    have ha0 : 0 ≤ a := hneg
    have ha1 : a ≤ 86399 := hz1
    obtain ⟨z, HZ⟩ : ∃ z, Hid (z = a / 60) := ⟨_, Lib.hid rfl⟩
    obtain ⟨p, HP⟩ : ∃ p, Hid (p = a / 3600) := ⟨_, Lib.hid rfl⟩
    obtain ⟨q, HQ⟩ : ∃ q, Hid (q = a / 60 % 60) := ⟨_, Lib.hid rfl⟩
    obtain ⟨s1, HS1⟩ : ∃ s1, Hid (s1 = a % 60) := ⟨_, Lib.hid rfl⟩
    have t1 : a.tdiv 60 = z := by rw [HZ.out]; exact Int.tdiv_eq_ediv_of_nonneg (by omega)
    have hzb : 0 ≤ z ∧ z ≤ 1440 := by rw [HZ.out]; omega
    have hpb : 0 ≤ p ∧ p ≤ 24 := by rw [HP.out]; omega
    have hqb : 0 ≤ q ∧ q ≤ 59 := by rw [HQ.out]; omega
    have hsb : 0 ≤ s1 ∧ s1 ≤ 59 := by rw [HS1.out]; omega
    have t2 : z.tdiv 60 = p := by rw [Int.tdiv_eq_ediv_of_nonneg hzb.1, HZ.out, HP.out]; omega
    have t3 : z.tmod 60 = q := by rw [Int.tmod_eq_emod_of_nonneg hzb.1, HZ.out, HQ.out]
    have t4 : a.tmod 60 = s1 := by rw [Int.tmod_eq_emod_of_nonneg (by omega), HS1.out]
    have t5 : z / 60 = p := by rw [HZ.out, HP.out]; omega
    have t6 : z % 60 = q := by rw [HZ.out, HQ.out]
    have t7 : a % 60 = s1 := by rw [HS1.out]
    have hpl := digs_len120 p 2 (by omega) (by omega)
    have hql := digs_len120 q 2 (by omega) (by omega)
    have hsl := digs_len120 s1 2 (by omega) (by omega)
    have t8 : a / 60 = z := by rw [HZ.out]
    have HT2 : Hid ((if a = 0 then [90] else offsetText a true false true : Bytes) = [43] ++ digits p 2 ++ ([58] ++ digits q 2)) := by
      show _ = _
      rw [if_neg (by omega)]
      simp only [HP.out, HQ.out, HS1.out]
      simp [offsetText, show ¬ a < 0 by omega]
    have hne : (a == 0) = false := by rw [beq_eq_false_iff_ne]; exact h0
    clear HZ HP HQ HS1
    unfold fr85s
    conv => arg 2; whnf
    go_wp2_with (first
      | (go_at_call 78; refine (appendInt_c _ 2 _ _ _ _ _ HB.out (by omega) (by omega) (by omega) (by omega)).mono ?_; rintro e w1 ⟨g1, n1, cap1, rfl, hb1, hs1⟩; have hl1 := hb1.len; simp only [List.length_append, List.length_singleton] at hl1; have HB := Lib.hid hb1; have HS := Lib.hid (HS.out.trans hs1); clear hb1 hs1)
      | (at_builtin; refine wpList_append_bufL _ rfl _ _ rfl _ _ _ _ rfl HB.out 1 [43] _ rfl rfl rfl (by omega) (by omega) ?_; intro g1 cap1 w1 hb1 hs1; have hl1 := hb1.len; have HB := Lib.hid hb1; have HS := Lib.hid (HS.out.trans hs1); clear hb1 hs1) | (at_builtin; refine wpList_append_bufL _ rfl _ _ rfl _ _ _ _ rfl HB.out 1 [58] _ rfl rfl rfl (by omega) (by omega) ?_; intro g1 cap1 w1 hb1 hs1; have hl1 := hb1.len; have HB := Lib.hid hb1; have HS := Lib.hid (HS.out.trans hs1); clear hb1 hs1))
    all_goals exact HI.out _ _ ⟨g1, _, cap1, ⟨rfl, rfl, rfl, rfl, rfl, rfl, rfl, rfl, rfl, rfl, rfl, rfl, rfl, rfl, rfl, rfl⟩, by (have h := HB.out; rw [HT2.out]; first | exact h | (simp only [List.append_assoc] at h ⊢; exact h)), HS.out⟩
  · obtain ⟨a, HA⟩ : ∃ a, Hid (a = -off) := ⟨_, Lib.hid rfl⟩
    have ha0 : 60 ≤ a := by rw [HA.out]; omega
    have ha1 : a ≤ 86399 := by rw [HA.out]; omega
    obtain rfl : off = -a := by rw [HA.out]; omega
    clear HA
    obtain ⟨z, HZ⟩ : ∃ z, Hid (z = a / 60) := ⟨_, Lib.hid rfl⟩
    obtain ⟨p, HP⟩ : ∃ p, Hid (p = a / 3600) := ⟨_, Lib.hid rfl⟩
    obtain ⟨q, HQ⟩ : ∃ q, Hid (q = a / 60 % 60) := ⟨_, Lib.hid rfl⟩
    obtain ⟨s1, HS1⟩ : ∃ s1, Hid (s1 = a % 60) := ⟨_, Lib.hid rfl⟩
    have t1 : (-a).tdiv 60 = -z := by rw [HZ.out, Int.neg_tdiv, Int.tdiv_eq_ediv_of_nonneg (by omega)]
    have hzb : 0 ≤ z ∧ z ≤ 1440 := by rw [HZ.out]; omega
    have hpb : 0 ≤ p ∧ p ≤ 24 := by rw [HP.out]; omega
    have hqb : 0 ≤ q ∧ q ≤ 59 := by rw [HQ.out]; omega
    have hsb : 0 ≤ s1 ∧ s1 ≤ 59 := by rw [HS1.out]; omega
    have t2 : z.tdiv 60 = p := by rw [Int.tdiv_eq_ediv_of_nonneg hzb.1, HZ.out, HP.out]; omega
    have t3 : z.tmod 60 = q := by rw [Int.tmod_eq_emod_of_nonneg hzb.1, HZ.out, HQ.out]
    have t4 : a.tmod 60 = s1 := by rw [Int.tmod_eq_emod_of_nonneg (by omega), HS1.out]
    have t5 : z / 60 = p := by rw [HZ.out, HP.out]; omega
    have t6 : z % 60 = q := by rw [HZ.out, HQ.out]
    have t7 : a % 60 = s1 := by rw [HS1.out]
    have hpl := digs_len120 p 2 (by omega) (by omega)
    have hql := digs_len120 q 2 (by omega) (by omega)
    have hsl := digs_len120 s1 2 (by omega) (by omega)
    have hzp : 1 ≤ z := by rw [HZ.out]; omega
    have HT2 : Hid ((if (-a) = 0 then [90] else offsetText (-a) true false true : Bytes) = [45] ++ digits p 2 ++ ([58] ++ digits q 2)) := by
      show _ = _
      rw [if_neg (by omega)]
      simp only [HP.out, HQ.out, HS1.out]
      simp [offsetText, show -a < 0 by omega, show 0 < a by omega]
    have hne : (-a == 0) = false := by rw [beq_eq_false_iff_ne]; omega
    clear HZ HP HQ HS1
    unfold fr85s
    conv => arg 2; whnf
    go_wp2_with (first
      | (go_at_call 78; refine (appendInt_c _ 2 _ _ _ _ _ HB.out (by omega) (by omega) (by omega) (by omega)).mono ?_; rintro e w1 ⟨g1, n1, cap1, rfl, hb1, hs1⟩; have hl1 := hb1.len; simp only [List.length_append, List.length_singleton] at hl1; have HB := Lib.hid hb1; have HS := Lib.hid (HS.out.trans hs1); clear hb1 hs1)
      | (at_builtin; refine wpList_append_bufL _ rfl _ _ rfl _ _ _ _ rfl HB.out 1 [45] _ rfl rfl rfl (by omega) (by omega) ?_; intro g1 cap1 w1 hb1 hs1; have hl1 := hb1.len; have HB := Lib.hid hb1; have HS := Lib.hid (HS.out.trans hs1); clear hb1 hs1) | (at_builtin; refine wpList_append_bufL _ rfl _ _ rfl _ _ _ _ rfl HB.out 1 [58] _ rfl rfl rfl (by omega) (by omega) ?_; intro g1 cap1 w1 hb1 hs1; have hl1 := hb1.len; have HB := Lib.hid hb1; have HS := Lib.hid (HS.out.trans hs1); clear hb1 hs1))
    all_goals exact HI.out _ _ ⟨g1, _, cap1, ⟨rfl, rfl, rfl, rfl, rfl, rfl, rfl, rfl, rfl, rfl, rfl, rfl, rfl, rfl, rfl, rfl⟩, by (have h := HB.out; rw [HT2.out]; first | exact h | (simp only [List.append_assoc] at h ⊢; exact h)), HS.out⟩
set_option maxRecDepth 100000 in
set_option maxHeartbeats 4000000 in
theorem tail85_29 : Tail85 26 26 (fun c v _ => v.off = c.zone.off) (fun c => if c.zone.off = 0 then [90] else offsetText c.zone.off false false false) := by
  intro c v g n cap l w I Q u hc h1 hvb hb hn hI
  obtain ⟨b, lay, pb, name, off, abs, y, m, d, yd, h, mi, s⟩ := v
  simp only at hvb h1
  subst hvb
  dsimp only at hI
  have hz := znB hc.z
  have hz0 := hz.o0
  have hz1 := hz.o1
  have hzf := hz.far
  clear hz hc
  generalize c.zone.off = o at *
  subst h1
  have hl0 := hb.len
  have HB := Lib.hid hb
  have HS : Hid (BufStep w g w g) := Lib.hid (BufStep.refl w g)
  have HI := Lib.hid hI
  clear hb hI
  by_cases h0 : off = 0
  · subst h0
    have HT2 : Hid ((if (0 : Int) = 0 then [90] else offsetText 0 false false false : Bytes) = [90]) := Lib.hid (if_pos rfl)
    unfold fr85s
    conv => arg 2; whnf
    go_wp2_with (first
      | (at_builtin; refine wpList_append_bufL _ rfl _ _ rfl _ _ _ _ rfl HB.out 1 [90] _ rfl rfl rfl (by omega) (by omega) ?_; intro g1 cap1 w1 hb1 hs1; have hl1 := hb1.len; have HB := Lib.hid hb1; have HS := Lib.hid (HS.out.trans hs1); clear hb1 hs1))
    all_goals exact HI.out _ _ ⟨g1, _, cap1, ⟨rfl, rfl, rfl, rfl, rfl, rfl, rfl, rfl, rfl, rfl, rfl, rfl, rfl, rfl, rfl, rfl⟩, by (have h := HB.out; rw [HT2.out]; first | exact h | (simp only [List.append_assoc] at h ⊢; exact h)), HS.out⟩
  by_cases hneg : 0 ≤ off
  · obtain ⟨a, HA⟩ : ∃ a, a = off := ⟨_, rfl⟩
    subst HA
    have ha0 : 0 ≤ a := hneg
    have ha1 : a ≤ 86399 := hz1
    obtain ⟨z, HZ⟩ : ∃ z, Hid (z = a / 60) := ⟨_, Lib.hid rfl⟩
    obtain ⟨p, HP⟩ : ∃ p, Hid (p = a / 3600) := ⟨_, Lib.hid rfl⟩
    obtain ⟨q, HQ⟩ : ∃ q, Hid (q = a / 60 % 60) := ⟨_, Lib.hid rfl⟩
    obtain ⟨s1, HS1⟩ : ∃ s1, Hid (s1 = a % 60) := ⟨_, Lib.hid rfl⟩
    have t1 : a.tdiv 60 = z := by rw [HZ.out]; exact Int.tdiv_eq_ediv_of_nonneg (by omega)
    have hzb : 0 ≤ z ∧ z ≤ 1440 := by rw [HZ.out]; omega
    have hpb : 0 ≤ p ∧ p ≤ 24 := by rw [HP.out]; omega
    have hqb : 0 ≤ q ∧ q ≤ 59 := by rw [HQ.out]; omega
    have hsb : 0 ≤ s1 ∧ s1 ≤ 59 := by rw [HS1.out]; omega
    have t2 : z.tdiv 60 = p := by rw [Int.tdiv_eq_ediv_of_nonneg hzb.1, HZ.out, HP.out]; omega
    have t3 : z.tmod 60 = q := by rw [Int.tmod_eq_emod_of_nonneg hzb.1, HZ.out, HQ.out]
    have t4 : a.tmod 60 = s1 := by rw [Int.tmod_eq_emod_of_nonneg (by omega), HS1.out]
    have t5 : z / 60 = p := by rw [HZ.out, HP.out]; omega
    have t6 : z % 60 = q := by rw [HZ.out, HQ.out]
    have t7 : a % 60 = s1 := by rw [HS1.out]
    have hpl := digs_len120 p 2 (by omega) (by omega)
    have hql := digs_len120 q 2 (by omega) (by omega)
    have hsl := digs_len120 s1 2 (by omega) (by omega)
    have t8 : a / 60 = z := by rw [HZ.out]
    have HT2 : Hid ((if a = 0 then [90] else offsetText a false false false : Bytes) = [43] ++ digits p 2) := by
      show _ = _
      rw [if_neg (by omega)]
      simp only [HP.out, HQ.out, HS1.out]
      simp [offsetText, show ¬ a < 0 by omega]
    have hne : (a == 0) = false := by rw [beq_eq_false_iff_ne]; exact h0
    clear HZ HP HQ HS1
    unfold fr85s
    conv => arg 2; whnf
    go_wp2_with (first
      | (go_at_call 78; refine (appendInt_c _ 2 _ _ _ _ _ HB.out (by omega) (by omega) (by omega) (by omega)).mono ?_; rintro e w1 ⟨g1, n1, cap1, rfl, hb1, hs1⟩; have hl1 := hb1.len; simp only [List.length_append, List.length_singleton] at hl1; have HB := Lib.hid hb1; have HS := Lib.hid (HS.out.trans hs1); clear hb1 hs1)
      | (at_builtin; refine wpList_append_bufL _ rfl _ _ rfl _ _ _ _ rfl HB.out 1 [43] _ rfl rfl rfl (by omega) (by omega) ?_; intro g1 cap1 w1 hb1 hs1; have hl1 := hb1.len; have HB := Lib.hid hb1; have HS := Lib.hid (HS.out.trans hs1); clear hb1 hs1) | (at_builtin; refine wpList_append_bufL _ rfl _ _ rfl _ _ _ _ rfl HB.out 1 [58] _ rfl rfl rfl (by omega) (by omega) ?_; intro g1 cap1 w1 hb1 hs1; have hl1 := hb1.len; have HB := Lib.hid hb1; have HS := Lib.hid (HS.out.trans hs1); clear hb1 hs1))
    all_goals exact HI.out _ _ ⟨g1, _, cap1, ⟨rfl, rfl, rfl, rfl, rfl, rfl, rfl, rfl, rfl, rfl, rfl, rfl, rfl, rfl, rfl, rfl⟩, by (have h := HB.out; rw [HT2.out]; first | exact h | (simp only [List.append_assoc] at h ⊢; exact h)), HS.out⟩
  · obtain ⟨a, HA⟩ : ∃ a, Hid (a = -off) := ⟨_, Lib.hid rfl⟩
    have ha0 : 60 ≤ a := by rw [HA.out]; omega
    have ha1 : a ≤ 86399 := by rw [HA.out]; omega
    obtain rfl : off = -a := by rw [HA.out]; omega
    clear HA
    obtain ⟨z, HZ⟩ : ∃ z, Hid (z = a / 60) := ⟨_, Lib.hid rfl⟩
    obtain ⟨p, HP⟩ : ∃ p, Hid (p = a / 3600) := ⟨_, Lib.hid rfl⟩
    obtain ⟨q, HQ⟩ : ∃ q, Hid (q = a / 60 % 60) := ⟨_, Lib.hid rfl⟩
    obtain ⟨s1, HS1⟩ : ∃ s1, Hid (s1 = a % 60) := ⟨_, Lib.hid rfl⟩
    have t1 : (-a).tdiv 60 = -z := by rw [HZ.out, Int.neg_tdiv, Int.tdiv_eq_ediv_of_nonneg (by omega)]
    have hzb : 0 ≤ z ∧ z ≤ 1440 := by rw [HZ.out]; omega
    have hpb : 0 ≤ p ∧ p ≤ 24 := by rw [HP.out]; omega
    have hqb : 0 ≤ q ∧ q ≤ 59 := by rw [HQ.out]; omega
    have hsb : 0 ≤ s1 ∧ s1 ≤ 59 := by rw [HS1.out]; omega
    have t2 : z.tdiv 60 = p := by rw [Int.tdiv_eq_ediv_of_nonneg hzb.1, HZ.out, HP.out]; omega
    have t3 : z.tmod 60 = q := by rw [Int.tmod_eq_emod_of_nonneg hzb.1, HZ.out, HQ.out]
    have t4 : a.tmod 60 = s1 := by rw [Int.tmod_eq_emod_of_nonneg (by omega), HS1.out]
    have t5 : z / 60 = p := by rw [HZ.out, HP.out]; omega
    have t6 : z % 60 = q := by rw [HZ.out, HQ.out]
    have t7 : a % 60 = s1 := by rw [HS1.out]
    have hpl := digs_len120 p 2 (by omega) (by omega)
    have hql := digs_len120 q 2 (by omega) (by omega)
    have hsl := digs_len120 s1 2 (by omega) (by omega)
    have hzp : 1 ≤ z := by rw [HZ.out]; omega
    have HT2 : Hid ((if (-a) = 0 then [90] else offsetText (-a) false false false : Bytes) = [45] ++ digits p 2) := by
      show _ = _
      rw [if_neg (by omega)]
      simp only [HP.out, HQ.out, HS1.out]
      simp [offsetText, show -a < 0 by omega, show 0 < a by omega]
    have hne : (-a == 0) = false := by rw [beq_eq_false_iff_ne]; omega
    clear HZ HP HQ HS1
    unfold fr85s
    conv => arg 2; whnf
    go_wp2_with (first
      | (go_at_call 78; refine (appendInt_c _ 2 _ _ _ _ _ HB.out (by omega) (by omega) (by omega) (by omega)).mono ?_; rintro e w1 ⟨g1, n1, cap1, rfl, hb1, hs1⟩; have hl1 := hb1.len; simp only [List.length_append, List.length_singleton] at hl1; have HB := Lib.hid hb1; have HS := Lib.hid (HS.out.trans hs1); clear hb1 hs1)
      | (at_builtin; refine wpList_append_bufL _ rfl _ _ rfl _ _ _ _ rfl HB.out 1 [45] _ rfl rfl rfl (by omega) (by omega) ?_; intro g1 cap1 w1 hb1 hs1; have hl1 := hb1.len; have HB := Lib.hid hb1; have HS := Lib.hid (HS.out.trans hs1); clear hb1 hs1) | (at_builtin; refine wpList_append_bufL _ rfl _ _ rfl _ _ _ _ rfl HB.out 1 [58] _ rfl rfl rfl (by omega) (by omega) ?_; intro g1 cap1 w1 hb1 hs1; have hl1 := hb1.len; have HB := Lib.hid hb1; have HS := Lib.hid (HS.out.trans hs1); clear hb1 hs1))
    all_goals exact HI.out _ _ ⟨g1, _, cap1, ⟨rfl, rfl, rfl, rfl, rfl, rfl, rfl, rfl, rfl, rfl, rfl, rfl, rfl, rfl, rfl, rfl⟩, by (have h := HB.out; rw [HT2.out]; first | exact h | (simp only [List.append_assoc] at h ⊢; exact h)), HS.out⟩
set_option maxRecDepth 100000 in
set_option maxHeartbeats 4000000 in
theorem tail85_30 : Tail85 25 25 (fun c v _ => v.off = c.zone.off) (fun c => if c.zone.off = 0 then [90] else offsetText c.zone.off true true false) := by
  intro c v g n cap l w I Q u hc h1 hvb hb hn hI
  obtain ⟨b, lay, pb, name, off, abs, y, m, d, yd, h, mi, s⟩ := v
  simp only at hvb h1
  subst hvb
  dsimp only at hI
  have hz := znB hc.z
  have hz0 := hz.o0
  have hz1 := hz.o1
  have hzf := hz.far
  clear hz hc
  generalize c.zone.off = o at *
  subst h1
  have hl0 := hb.len
  have HB := Lib.hid hb
  have HS : Hid (BufStep w g w g) := Lib.hid (BufStep.refl w g)
  have HI := Lib.hid hI
  clear hb hI
  by_cases h0 : off = 0
  · subst h0
    have HT2 : Hid ((if (0 : Int) = 0 then [90] else offsetText 0 true true false : Bytes) = [90]) := Lib.hid (if_pos rfl)
    unfold fr85s
    conv => arg 2; whnf
    go_wp2_with (first
      | (at_builtin; refine wpList_append_bufL _ rfl _ _ rfl _ _ _ _ rfl HB.out 1 [90] _ rfl rfl rfl (by omega) (by omega) ?_; intro g1 cap1 w1 hb1 hs1; have hl1 := hb1.len; have HB := Lib.hid hb1; have HS := Lib.hid (HS.out.trans hs1); clear hb1 hs1))
    all_goals exact HI.out _ _ ⟨g1, _, cap1, ⟨rfl, rfl, rfl, rfl, rfl, rfl, rfl, rfl, rfl, rfl, rfl, rfl, rfl, rfl, rfl, rfl⟩, by (have h := HB.out; rw [HT2.out]; first | exact h | (simp only [List.append_assoc] at h ⊢; exact h)), HS.out⟩
  by_cases hneg : 0 ≤ off
  · obtain ⟨a, HA⟩ : ∃ a, a = off := ⟨_, rfl⟩
    subst HA
    have ha0 : 0 ≤ a := hneg
    have ha1 : a ≤ 86399 := hz1
    obtain ⟨z, HZ⟩ : ∃ z, Hid (z = a / 60) := ⟨_, Lib.hid rfl⟩
    obtain ⟨p, HP⟩ : ∃ p, Hid (p = a / 3600) := ⟨_, Lib.hid rfl⟩
    obtain ⟨q, HQ⟩ : ∃ q, Hid (q = a / 60 % 60) := ⟨_, Lib.hid rfl⟩
    obtain ⟨s1, HS1⟩ : ∃ s1, Hid (s1 = a % 60) := ⟨_, Lib.hid rfl⟩
    have t1 : a.tdiv 60 = z := by rw [HZ.out]; exact Int.tdiv_eq_ediv_of_nonneg (by omega)
    have hzb : 0 ≤ z ∧ z ≤ 1440 := by rw [HZ.out]; omega
    have hpb : 0 ≤ p ∧ p ≤ 24 := by rw [HP.out]; omega
    have hqb : 0 ≤ q ∧ q ≤ 59 := by rw [HQ.out]; omega
    have hsb : 0 ≤ s1 ∧ s1 ≤ 59 := by rw [HS1.out]; omega
    have t2 : z.tdiv 60 = p := by rw [Int.tdiv_eq_ediv_of_nonneg hzb.1, HZ.out, HP.out]; omega
    have t3 : z.tmod 60 = q := by rw [Int.tmod_eq_emod_of_nonneg hzb.1, HZ.out, HQ.out]
    have t4 : a.tmod 60 = s1 := by rw [Int.tmod_eq_emod_of_nonneg (by omega), HS1.out]
    have t5 : z / 60 = p := by rw [HZ.out, HP.out]; omega
    have t6 : z % 60 = q := by rw [HZ.out, HQ.out]
    have t7 : a % 60 = s1 := by rw [HS1.out]
    have hpl := digs_len120 p 2 (by omega) (by omega)
    have hql := digs_len120 q 2 (by omega) (by omega)
    have hsl := digs_len120 s1 2 (by omega) (by omega)
    have t8 : a / 60 = z := by rw [HZ.out]
    have HT2 : Hid ((if a = 0 then [90] else offsetText a true true false : Bytes) = [43] ++ digits p 2 ++ (digits q 2) ++ (digits s1 2)) := by
      show _ = _
      rw [if_neg (by omega)]
      simp only [HP.out, HQ.out, HS1.out]
      simp [offsetText, show ¬ a < 0 by omega]
    have hne : (a == 0) = false := by rw [beq_eq_false_iff_ne]; exact h0
    clear HZ HP HQ HS1
    unfold fr85s
    conv => arg 2; whnf
    go_wp2_with (first
      | (go_at_call 78; refine (appendInt_c _ 2 _ _ _ _ _ HB.out (by omega) (by omega) (by omega) (by omega)).mono ?_; rintro e w1 ⟨g1, n1, cap1, rfl, hb1, hs1⟩; have hl1 := hb1.len; simp only [List.length_append, List.length_singleton] at hl1; have HB := Lib.hid hb1; have HS := Lib.hid (HS.out.trans hs1); clear hb1 hs1)
      | (at_builtin; refine wpList_append_bufL _ rfl _ _ rfl _ _ _ _ rfl HB.out 1 [43] _ rfl rfl rfl (by omega) (by omega) ?_; intro g1 cap1 w1 hb1 hs1; have hl1 := hb1.len; have HB := Lib.hid hb1; have HS := Lib.hid (HS.out.trans hs1); clear hb1 hs1) | (at_builtin; refine wpList_append_bufL _ rfl _ _ rfl _ _ _ _ rfl HB.out 1 [58] _ rfl rfl rfl (by omega) (by omega) ?_; intro g1 cap1 w1 hb1 hs1; have hl1 := hb1.len; have HB := Lib.hid hb1; have HS := Lib.hid (HS.out.trans hs1); clear hb1 hs1))
    all_goals exact HI.out _ _ ⟨g1, _, cap1, ⟨rfl, rfl, rfl, rfl, rfl, rfl, rfl, rfl, rfl, rfl, rfl, rfl, rfl, rfl, rfl, rfl⟩, by (have h := HB.out; rw [HT2.out]; first | exact h | (simp only [List.append_assoc] at h ⊢; exact h)), HS.out⟩
  · obtain ⟨a, HA⟩ : ∃ a, Hid (a = -off) := ⟨_, Lib.hid rfl⟩
    have ha0 : 60 ≤ a := by rw [HA.out]; omega
    have ha1 : a ≤ 86399 := by rw [HA.out]; omega
    obtain rfl : off = -a := by rw [HA.out]; omega
    clear HA
    obtain ⟨z, HZ⟩ : ∃ z, Hid (z = a / 60) := ⟨_, Lib.hid rfl⟩
    obtain ⟨p, HP⟩ : ∃ p, Hid (p = a / 3600) := ⟨_, Lib.hid rfl⟩
    obtain ⟨q, HQ⟩ : ∃ q, Hid (q = a / 60 % 60) := ⟨_, Lib.hid rfl⟩
    obtain ⟨s1, HS1⟩ : ∃ s1, Hid (s1 = a % 60) := ⟨_, Lib.hid rfl⟩
    have t1 : (-a).tdiv 60 = -z := by rw [HZ.out, Int.neg_tdiv, Int.tdiv_eq_ediv_of_nonneg (by omega)]
    have hzb : 0 ≤ z ∧ z ≤ 1440 := by rw [HZ.out]; omega
    have hpb : 0 ≤ p ∧ p ≤ 24 := by rw [HP.out]; omega
    have hqb : 0 ≤ q ∧ q ≤ 59 := by rw [HQ.out]; omega
    have hsb : 0 ≤ s1 ∧ s1 ≤ 59 := by rw [HS1.out]; omega
    have t2 : z.tdiv 60 = p := by rw [Int.tdiv_eq_ediv_of_nonneg hzb.1, HZ.out, HP.out]; omega
    have t3 : z.tmod 60 = q := by rw [Int.tmod_eq_emod_of_nonneg hzb.1, HZ.out, HQ.out]
    have t4 : a.tmod 60 = s1 := by rw [Int.tmod_eq_emod_of_nonneg (by omega), HS1.out]
    have t5 : z / 60 = p := by rw [HZ.out, HP.out]; omega
    have t6 : z % 60 = q := by rw [HZ.out, HQ.out]
    have t7 : a % 60 = s1 := by rw [HS1.out]
    have hpl := digs_len120 p 2 (by omega) (by omega)
    have hql := digs_len120 q 2 (by omega) (by omega)
    have hsl := digs_len120 s1 2 (by omega) (by omega)
    have hzp : 1 ≤ z := by rw [HZ.out]; omega
    have HT2 : Hid ((if (-a) = 0 then [90] else offsetText (-a) true true false : Bytes) = [45] ++ digits p 2 ++ (digits q 2) ++ (digits s1 2)) := by
      show _ = _
      rw [if_neg (by omega)]
      simp only [HP.out, HQ.out, HS1.out]
      simp [offsetText, show -a < 0 by omega, show 0 < a by omega]
    have hne : (-a == 0) = false := by rw [beq_eq_false_iff_ne]; omega
    clear HZ HP HQ HS1
    unfold fr85s
    conv => arg 2; whnf
    go_wp2_with (first
      | (go_at_call 78; refine (appendInt_c _ 2 _ _ _ _ _ HB.out (by omega) (by omega) (by omega) (by omega)).mono ?_; rintro e w1 ⟨g1, n1, cap1, rfl, hb1, hs1⟩; have hl1 := hb1.len; simp only [List.length_append, List.length_singleton] at hl1; have HB := Lib.hid hb1; have HS := Lib.hid (HS.out.trans hs1); clear hb1 hs1)
      | (at_builtin; refine wpList_append_bufL _ rfl _ _ rfl _ _ _ _ rfl HB.out 1 [45] _ rfl rfl rfl (by omega) (by omega) ?_; intro g1 cap1 w1 hb1 hs1; have hl1 := hb1.len; have HB := Lib.hid hb1; have HS := Lib.hid (HS.out.trans hs1); clear hb1 hs1) | (at_builtin; refine wpList_append_bufL _ rfl _ _ rfl _ _ _ _ rfl HB.out 1 [58] _ rfl rfl rfl (by omega) (by omega) ?_; intro g1 cap1 w1 hb1 hs1; have hl1 := hb1.len; have HB := Lib.hid hb1; have HS := Lib.hid (HS.out.trans hs1); clear hb1 hs1))
    all_goals exact HI.out _ _ ⟨g1, _, cap1, ⟨rfl, rfl, rfl, rfl, rfl, rfl, rfl, rfl, rfl, rfl, rfl, rfl, rfl, rfl, rfl, rfl⟩, by (have h := HB.out; rw [HT2.out]; first | exact h | (simp only [List.append_assoc] at h ⊢; exact h)), HS.out⟩
set_option maxRecDepth 100000 in
set_option maxHeartbeats 4000000 in
theorem tail85_31 : Tail85 28 28 (fun c v _ => v.off = c.zone.off) (fun c => if c.zone.off = 0 then [90] else offsetText c.zone.off true true true) := by
  intro c v g n cap l w I Q u hc h1 hvb hb hn hI
  obtain ⟨b, lay, pb, name, off, abs, y, m, d, yd, h, mi, s⟩ := v
  simp only at hvb h1
  subst hvb
  dsimp only at hI
  have hz := znB hc.z
  have hz0 := hz.o0
  have hz1 := hz.o1
  have hzf := hz.far
  clear hz hc
  generalize c.zone.off = o at *
  subst h1
  have hl0 := hb.len
  have HB := Lib.hid hb
  have HS : Hid (BufStep w g w g) := Lib.hid (BufStep.refl w g)
  have HI := Lib.hid hI
  clear hb hI
  by_cases h0 : off = 0
  · subst h0
    have HT2 : Hid ((if (0 : Int) = 0 then [90] else offsetText 0 true true true : Bytes) = [90]) := Lib.hid (if_pos rfl)
    unfold fr85s
    conv => arg 2; whnf
    go_wp2_with (first
      | (at_builtin; refine wpList_append_bufL _ rfl _ _ rfl _ _ _ _ rfl HB.out 1 [90] _ rfl rfl rfl (by omega) (by omega) ?_; intro g1 cap1 w1 hb1 hs1; have hl1 := hb1.len; have HB := Lib.hid hb1; have HS := Lib.hid (HS.out.trans hs1); clear hb1 hs1))
    all_goals exact HI.out _ _ ⟨g1, _, cap1, ⟨rfl, rfl, rfl, rfl, rfl, rfl, rfl, rfl, rfl, rfl, rfl, rfl, rfl, rfl, rfl, rfl⟩, by (have h := HB.out; rw [HT2.out]; first | exact h | (simp only [List.append_assoc] at h ⊢; exact h)), HS.out⟩
  by_cases hneg : 0 ≤ off
  · obtain ⟨a, HA⟩ : ∃ a, a = off := ⟨_, rfl⟩
    subst HA
    have ha0 : 0 ≤ a := hneg
    have ha1 : a ≤ 86399 := hz1
    obtain ⟨z, HZ⟩ : ∃ z, Hid (z = a / 60) := ⟨_, Lib.hid rfl⟩
    obtain ⟨p, HP⟩ : ∃ p, Hid (p = a / 3600) := ⟨_, Lib.hid rfl⟩
    obtain ⟨q, HQ⟩ : ∃ q, Hid (q = a / 60 % 60) := ⟨_, Lib.hid rfl⟩
    obtain ⟨s1, HS1⟩ : ∃ s1, Hid (s1 = a % 60) := ⟨_, Lib.hid rfl⟩
    have t1 : a.tdiv 60 = z := by rw [HZ.out]; exact Int.tdiv_eq_ediv_of_nonneg (by omega)
    have hzb : 0 ≤ z ∧ z ≤ 1440 := by rw [HZ.out]; omega
    have hpb : 0 ≤ p ∧ p ≤ 24 := by rw [HP.out]; omega
    have hqb : 0 ≤ q ∧ q ≤ 59 := by rw [HQ.out]; omega
    have hsb : 0 ≤ s1 ∧ s1 ≤ 59 := by rw [HS1.out]; omega
    have t2 : z.tdiv 60 = p := by rw [Int.tdiv_eq_ediv_of_nonneg hzb.1, HZ.out, HP.out]; omega
    have t3 : z.tmod 60 = q := by rw [Int.tmod_eq_emod_of_nonneg hzb.1, HZ.out, HQ.out]
    have t4 : a.tmod 60 = s1 := by rw [Int.tmod_eq_emod_of_nonneg (by omega), HS1.out]
    have t5 : z / 60 = p := by rw [HZ.out, HP.out]; omega
    have t6 : z % 60 = q := by rw [HZ.out, HQ.out]
    have t7 : a % 60 = s1 := by rw [HS1.out]
    have hpl := digs_len120 p 2 (by omega) (by omega)
    have hql := digs_len120 q 2 (by omega) (by omega)
    have hsl := digs_len120 s1 2 (by omega) (by omega)
    have t8 : a / 60 = z := by rw [HZ.out]
    have HT2 : Hid ((if a = 0 then [90] else offsetText a true true true : Bytes) = [43] ++ digits p 2 ++ ([58] ++ digits q 2) ++ ([58] ++ digits s1 2)) := by
      show _ = _
      rw [if_neg (by omega)]
      simp only [HP.out, HQ.out, HS1.out]
      simp [offsetText, show ¬ a < 0 by omega]
    have hne : (a == 0) = false := by rw [beq_eq_false_iff_ne]; exact h0
    clear HZ HP HQ HS1
    unfold fr85s
    conv => arg 2; whnf
    go_wp2_with (first
      | (go_at_call 78; refine (appendInt_c _ 2 _ _ _ _ _ HB.out (by omega) (by omega) (by omega) (by omega)).mono ?_; rintro e w1 ⟨g1, n1, cap1, rfl, hb1, hs1⟩; have hl1 := hb1.len; simp only [List.length_append, List.length_singleton] at hl1; have HB := Lib.hid hb1; have HS := Lib.hid (HS.out.trans hs1); clear hb1 hs1)
      | (at_builtin; refine wpList_append_bufL _ rfl _ _ rfl _ _ _ _ rfl HB.out 1 [43] _ rfl rfl rfl (by omega) (by omega) ?_; intro g1 cap1 w1 hb1 hs1; have hl1 := hb1.len; have HB := Lib.hid hb1; have HS := Lib.hid (HS.out.trans hs1); clear hb1 hs1) | (at_builtin; refine wpList_append_bufL _ rfl _ _ rfl _ _ _ _ rfl HB.out 1 [58] _ rfl rfl rfl (by omega) (by omega) ?_; intro g1 cap1 w1 hb1 hs1; have hl1 := hb1.len; have HB := Lib.hid hb1; have HS := Lib.hid (HS.out.trans hs1); clear hb1 hs1))
    all_goals exact HI.out _ _ ⟨g1, _, cap1, ⟨rfl, rfl, rfl, rfl, rfl, rfl, rfl, rfl, rfl, rfl, rfl, rfl, rfl, rfl, rfl, rfl⟩, by (have h := HB.out; rw [HT2.out]; first | exact h | (simp only [List.append_assoc] at h ⊢; exact h)), HS.out⟩
  · obtain ⟨a, HA⟩ : ∃ a, Hid (a = -off) := ⟨_, Lib.hid rfl⟩
    have ha0 : 60 ≤ a := by rw [HA.out]; omega
    have ha1 : a ≤ 86399 := by rw [HA.out]; omega
    obtain rfl : off = -a := by rw [HA.out]; omega
    clear HA
    obtain ⟨z, HZ⟩ : ∃ z, Hid (z = a / 60) := ⟨_, Lib.hid rfl⟩
    obtain ⟨p, HP⟩ : ∃ p, Hid (p = a / 3600) := ⟨_, Lib.hid rfl⟩
    obtain ⟨q, HQ⟩ : ∃ q, Hid (q = a / 60 % 60) := ⟨_, Lib.hid rfl⟩
    obtain ⟨s1, HS1⟩ : ∃ s1, Hid (s1 = a % 60) := ⟨_, Lib.hid rfl⟩
    have t1 : (-a).tdiv 60 = -z := by rw [HZ.out, Int.neg_tdiv, Int.tdiv_eq_ediv_of_nonneg (by omega)]
    have hzb : 0 ≤ z ∧ z ≤ 1440 := by rw [HZ.out]; omega
    have hpb : 0 ≤ p ∧ p ≤ 24 := by rw [HP.out]; omega
    have hqb : 0 ≤ q ∧ q ≤ 59 := by rw [HQ.out]; omega
    have hsb : 0 ≤ s1 ∧ s1 ≤ 59 := by rw [HS1.out]; omega
    have t2 : z.tdiv 60 = p := by rw [Int.tdiv_eq_ediv_of_nonneg hzb.1, HZ.out, HP.out]; omega
    have t3 : z.tmod 60 = q := by rw [Int.tmod_eq_emod_of_nonneg hzb.1, HZ.out, HQ.out]
    have t4 : a.tmod 60 = s1 := by rw [Int.tmod_eq_emod_of_nonneg (by omega), HS1.out]
    have t5 : z / 60 = p := by rw [HZ.out, HP.out]; omega
    have t6 : z % 60 = q := by rw [HZ.out, HQ.out]
    have t7 : a % 60 = s1 := by rw [HS1.out]
    have hpl := digs_len120 p 2 (by omega) (by omega)
    have hql := digs_len120 q 2 (by omega) (by omega)
    have hsl := digs_len120 s1 2 (by omega) (by omega)
    have hzp : 1 ≤ z := by rw [HZ.out]; omega
    have HT2 : Hid ((if (-a) = 0 then [90] else offsetText (-a) true true true : Bytes) = [45] ++ digits p 2 ++ ([58] ++ digits q 2) ++ ([58] ++ digits s1 2)) := by
      show _ = _
      rw [if_neg (by omega)]
      simp only [HP.out, HQ.out, HS1.out]
      simp [offsetText, show -a < 0 by omega, show 0 < a by omega]
    have hne : (-a == 0) = false := by rw [beq_eq_false_iff_ne]; omega
    clear HZ HP HQ HS1
    unfold fr85s
    conv => arg 2; whnf
    go_wp2_with (first
      | (go_at_call 78; refine (appendInt_c _ 2 _ _ _ _ _ HB.out (by omega) (by omega) (by omega) (by omega)).mono ?_; rintro e w1 ⟨g1, n1, cap1, rfl, hb1, hs1⟩; have hl1 := hb1.len; simp only [List.length_append, List.length_singleton] at hl1; have HB := Lib.hid hb1; have HS := Lib.hid (HS.out.trans hs1); clear hb1 hs1)
      | (at_builtin; refine wpList_append_bufL _ rfl _ _ rfl _ _ _ _ rfl HB.out 1 [45] _ rfl rfl rfl (by omega) (by omega) ?_; intro g1 cap1 w1 hb1 hs1; have hl1 := hb1.len; have HB := Lib.hid hb1; have HS := Lib.hid (HS.out.trans hs1); clear hb1 hs1) | (at_builtin; refine wpList_append_bufL _ rfl _ _ rfl _ _ _ _ rfl HB.out 1 [58] _ rfl rfl rfl (by omega) (by omega) ?_; intro g1 cap1 w1 hb1 hs1; have hl1 := hb1.len; have HB := Lib.hid hb1; have HS := Lib.hid (HS.out.trans hs1); clear hb1 hs1))
    all_goals exact HI.out _ _ ⟨g1, _, cap1, ⟨rfl, rfl, rfl, rfl, rfl, rfl, rfl, rfl, rfl, rfl, rfl, rfl, rfl, rfl, rfl, rfl⟩, by (have h := HB.out; rw [HT2.out]; first | exact h | (simp only [List.append_assoc] at h ⊢; exact h)), HS.out⟩
end Go.Proofs.YtndhiemagankeaaGreatDoor
/- The walk of package time: a time is written by a layout: fractions. -/
namespace Go.Proofs.YtndhiemagankeaaGreatDoor
open Go.RowKit
set_option linter.unusedSimpArgs false
set_option linter.unusedVariables false
attribute [local simp] bs_size bs_toList bs_append bs_data bs_extract
set_option maxRecDepth 100000 in
set_option maxHeartbeats 1000000 in
theorem tail85_f (code : Int) (k : Nat) (comma : Bool) (hcode : code = 34 ∨ code = 35) (k0 : 1 ≤ k) (k9 : k ≤ 9) :
    Tail85 (fstd code k comma) code (fun c v w => ∃ lo, TAt w v.pb c.nano (cext c) lo) (fun c => nanoText code c.nano k comma) := by
  intro c v g n cap l w I Q u hc hneed hvb hb hn hI
  obtain ⟨lo, ⟨hlt, c0, c1, c2, -, -, -⟩⟩ := hneed
  obtain ⟨b, lay, pb, name, off, abs, y, m, d, yd, h, mi, s⟩ := v
  simp only at hvb c0 c1 c2 hlt
  subst hvb
  dsimp only at hI
  have HNS : Hid (∀ w, Calls Tryz.prog 72 #[ctv c lo] w fun e w' => e = .returned (.int .i64 c.nano) ∧ Below w.heap.size w w') := fun w => Nanosecond_c c lo w hc
  have hn0 := hc.f0
  have hn1 := hc.f1
  have HAN : Hid (∀ g n cap l w, Buf w g n cap l → n ≤ 549755813800 → ANano code c.nano k comma g n cap l w) := fun g n cap l w hb hn => appendNano_c code c.nano k comma g n cap l w hcode hb hn0 hn1 k0 k9 hn
  unfold ANano at HAN
  unfold ctv tv at HNS
  obtain ⟨x, HX⟩ : ∃ x, Hid (x = cext c) := ⟨_, Lib.hid rfl⟩
  rw [← HX.out] at HNS c1
  generalize fstd code k comma = st at *
  generalize nanoText code c.nano k comma = txt at *
  generalize c.nano = nano at *
  have hl0 := hb.len
  have HB := Lib.hid hb
  have HS : Hid (BufStep w g w g) := Lib.hid (BufStep.refl w g)
  have HI := Lib.hid hI
  clear hb hI hc
  rcases hcode with rfl | rfl
  all_goals
    unfold fr85s
    conv => arg 2; whnf
    go_wp2_with (first
      | (go_at_call 72; refine (HNS.out _).mono ?_; rintro e w1 ⟨rfl, hbel⟩; have HB := Lib.hid (HB.out.kept hbel); have HS := Lib.hid (HS.out.trans (.of_below _ hbel)); clear hbel)
      | (go_at_call 124; refine (HAN.out _ _ _ _ _ HB.out (by omega)).mono ?_; rintro e w1 ⟨g1, n1, cap1, rfl, hb1, hs1⟩; have HB := Lib.hid hb1; have HS := Lib.hid (HS.out.trans hs1); clear hb1 hs1))
    all_goals exact HI.out _ _ ⟨g1, _, cap1, ⟨rfl, rfl, rfl, rfl, rfl, rfl, rfl, rfl, rfl, rfl, rfl, rfl, rfl, rfl, rfl, rfl⟩, HB.out, HS.out⟩
end Go.Proofs.YtndhiemagankeaaGreatDoor
/- The walk of package time: one round of a time written by a layout. -/
namespace Go.Proofs.YtndhiemagankeaaGreatDoor
open Go.RowKit
set_option linter.unusedSimpArgs false
set_option linter.unusedVariables false
theorem TAt.step {w w' : World} {b g g' : Nat} {nano ext : Int} {lo : Value} (h : TAt w b nano ext lo) (hs : BufStep w g w' g') (hne : b ≠ g) : TAt w' b nano ext lo := by
  obtain ⟨h1, c0, c1, c2, f0, f1, f2⟩ := h
  have hc : ∀ o, w'.cell? ⟨b, o, none⟩ = w.cell? ⟨b, o, none⟩ := fun o => hs.cell (p := ⟨b, o, none⟩) h1 hne
  have hf : ∀ o, w'.frozen? ⟨b, o, none⟩ = w.frozen? ⟨b, o, none⟩ := fun o => hs.frozen (p := ⟨b, o, none⟩) h1 hne
  exact ⟨Nat.lt_of_lt_of_le h1 hs.size, by rw [hc]; exact c0, by rw [hc]; exact c1, by rw [hc]; exact c2, by rw [hf]; exact f0, by rw [hf]; exact f1, by rw [hf]; exact f2⟩
theorem StdAt.step {w w' : World} {g g' : Nat} (h : StdAt w) (hs : BufStep w g w' g') (hne : 1 ≠ g) : StdAt w' := by
  obtain ⟨h0, h1, h2, h3, h4, h5, h6⟩ := h
  have hc : ∀ o, w'.cell? ⟨1, o, none⟩ = w.cell? ⟨1, o, none⟩ := fun o => hs.cell (p := ⟨1, o, none⟩) h6 hne
  exact ⟨by rw [hc]; exact h0, by rw [hc]; exact h1, by rw [hc]; exact h2, by rw [hc]; exact h3, by rw [hc]; exact h4, by rw [hc]; exact h5, Nat.lt_of_lt_of_le h6 hs.size⟩
theorem era_law (s : Int) : 146097 * ((s + 292277022400) / 100) / 4 + 1461 * ((s + 292277022400) % 100) / 4 = 365 * s + s / 4 - s / 100 + s / 400 + 7 * 15250284336276 := by
  have e1 : (s + 292277022400) / 100 = s / 100 + 2922770224 := by omega
  have e2 : (s + 292277022400) % 100 = s % 100 := by omega
  rw [e1, e2]
  have e3 : s / 400 = s / 100 / 4 := by omega
  have e4 : s / 4 = 25 * (s / 100) + s % 100 / 4 := by omega
  have e5 : s = 100 * (s / 100) + s % 100 := by omega
  rw [e3, e4]
  generalize s / 100 = q at *
  generalize s % 100 = r at *
  have f1 : 146097 * (q + 2922770224) / 4 = 36524 * q + q / 4 + 7 * 15250284336276 := by omega
  have f2 : 1461 * r / 4 = 365 * r + r / 4 := by omega
  rw [f1, f2]
  omega
theorem leap_law (y : Int) : (y + 3) / 4 - (y + 99) / 100 + (y + 399) / 400 = y / 4 - y / 100 + y / 400 + 1 - (if leap y = true then 1 else 0) := by
  have hl := leap_iff y
  have a1 : (y + 3) / 4 = y / 4 + (if y % 4 = 0 then 0 else 1) := by split <;> omega
  have a2 : (y + 99) / 100 = y / 100 + (if y % 100 = 0 then 0 else 1) := by split <;> omega
  have a3 : (y + 399) / 400 = y / 400 + (if y % 400 = 0 then 0 else 1) := by split <;> omega
  rw [a1, a2, a3]
  have b1 : y % 400 = 0 → y % 100 = 0 := by omega
  have b2 : y % 100 = 0 → y % 4 = 0 := by omega
  by_cases h1 : y % 4 = 0 <;> by_cases h2 : y % 100 = 0 <;> by_cases h3 : y % 400 = 0 <;> simp [hl, h1, h2, h3] at * <;> omega
theorem weekday_law {c : Civ} (hc : CivB c) : (cabs c / 86400 + 3) % 7 = weekday c.year c.month c.day := by
  obtain ⟨-, -, h, -⟩ := cabs_bd hc
  rw [h]
  have m0 := hc.m0
  have m1 := hc.m1
  unfold weekday
  rw [yearDay_law _ _ _ m0 m1]
  generalize c.year = y at *
  generalize c.month = m at *
  generalize c.day = d at *
  clear h hc
  have hl := leap_law y
  unfold absDay marchDay
  by_cases hm : m < 3
  · simp only [hm, if_true, Int.mul_one]
    have he := era_law (y - 1)
    generalize (979 * (m + 12) - 2919) / 32 = f at *
    have a1 : (y + 3) / 4 = (y - 1) / 4 + 1 := by omega
    have a2 : (y + 99) / 100 = (y - 1) / 100 + 1 := by omega
    have a3 : (y + 399) / 400 = (y - 1) / 400 + 1 := by omega
    rw [a1, a2, a3]
    generalize 146097 * ((y - 1 + 292277022400) / 100) / 4 = p1 at *
    generalize 1461 * ((y - 1 + 292277022400) % 100) / 4 = p2 at *
    generalize (y - 1) / 4 = q1 at *
    generalize (y - 1) / 100 = q2 at *
    generalize (y - 1) / 400 = q3 at *
    omega
  · simp only [hm, if_false]
    have he := era_law y
    try simp only [Int.mul_zero, Int.add_zero, Int.sub_zero]
    generalize (979 * m - 2919) / 32 = f at *
    generalize 146097 * ((y + 292277022400) / 100) / 4 = p1 at *
    generalize 1461 * ((y + 292277022400) % 100) / 4 = p2 at *
    generalize (if leap y = true then (1 : Int) else 0) = lp at *
    generalize (y + 3) / 4 = r1 at *
    generalize (y + 99) / 100 = r2 at *
    generalize (y + 399) / 400 = r3 at *
    generalize y / 4 = q1 at *
    generalize y / 100 = q2 at *
    generalize y / 400 = q3 at *
    omega
/-- What the loop holds behind a round. -/
def Rd85 (c : Civ) (pb : Nat) (r : Bytes) (g : Nat) (l : Bytes) (w : World) (a' : Act) (w' : World) : Prop :=
  ∃ v' g' n' cap', At85 v' a' ∧ v'.lay = r ∧ v'.pb = pb ∧ v'.name = c.zone.name ∧ v'.off = c.zone.off ∧ v'.abs = cabs c ∧ v'.b = .slice (some ⟨g', 0, none⟩) n' cap' ∧ Lz c v' ∧ Buf w' g' n' cap' l ∧ BufStep w g w' g'
def Round85 (std : Int) (txt : Civ → Bytes) : Prop :=
  ∀ (c : Civ) (v : V85) (t r : Bytes) (g n cap : Nat) (l : Bytes) (w : World) (I : Act → World → Prop) (Q : Exit → Act → World → Prop) (u : Nat → Value),
    CivB c → Lz c v → v.abs = cabs c → v.name = c.zone.name → v.off = c.zone.off →
    (∀ w, StdAt w → Calls Tryz.prog 94 #[S v.lay] w fun e w' => e = .returned (.tuple #[S t, .int .i64 std, S r]) ∧ ∃ n, w' = w.drewN n) →
    v.lay ≠ [] → v.b = .slice (some ⟨g, 0, none⟩) n cap → StdAt w → Buf w g n cap l → n ≤ 137438953472 → t.length ≤ 137438953472 →
    (∃ lo, TAt w v.pb c.nano (cext c) lo) → v.pb ≠ g →
    (∀ a' w', Rd85 c v.pb r g (l ++ t ++ txt c) w a' w' → I a' w') →
    body85.wp Tryz.prog (Exit.then I Q) (fr85 v u) w
theorem compose85 {k256 k512 k1024 std code : Int} {need0 : Civ → V85 → Prop} {need : Civ → V85 → World → Prop} {txt txt' : Civ → Bytes} (HP : Pre85 k256 k512 k1024 need0) (HT : Tail85 std code need txt)
    (b1 : bits .and .i64 std 256 = k256) (b2 : bits .and .i64 std 512 = k512) (b3 : bits .and .i64 std 1024 = k1024) (b4 : bits .and .i64 std 65535 = code) (b5 : (std == 0) = false)
    (hneed : ∀ c v w, CivB c → need0 c v → v.abs = cabs c → v.name = c.zone.name → v.off = c.zone.off → (∃ lo, TAt w v.pb c.nano (cext c) lo) → need c v w)
    (htxt : ∀ c, CivB c → txt c = txt' c) : Round85 std txt' := by
  intro c v t r g n cap l w I Q u hc hz ha hnm hof HN hne hb hs hB hn ht hbox hpg hI
  refine HP c v std code t r g n cap l w I Q u hc hz ha b1 b2 b3 b4 b5 HN hne hb hs hB (by omega) (by omega) ?_
  rintro a1 w1 ⟨v1, g1, n1, cap1, hA, e1, e2, e3, e4, e5, e6, hz1, hn1, hB1, hS1⟩
  obtain ⟨u1, rfl⟩ := hA.open
  have hbox1 : ∃ lo, TAt w1 v1.pb c.nano (cext c) lo := by
    obtain ⟨lo, h⟩ := hbox
    rw [e2]
    exact ⟨lo, h.step hS1 hpg⟩
  have hl1 : n1 = n + t.length := by
    have h1 := hB1.len
    have h2 := hB.len
    simp at h1
    omega
  refine HT c v1 g1 n1 cap1 (l ++ t) w1 I Q u1 hc (hneed c v1 w1 hc hn1 (e5.trans ha) (e3.trans hnm) (e4.trans hof) hbox1) e6 hB1 (by omega) ?_
  rintro a2 w2 ⟨g2, n2, cap2, hA2, hB2, hS2⟩
  refine hI a2 w2 ⟨_, g2, n2, cap2, hA2, e1, e2, e3.trans hnm, e4.trans hof, e5.trans ha, rfl, ⟨hz1.date, hz1.yday, hz1.clock⟩, ?_, hS1.trans hS2⟩
  rw [htxt c hc] at hB2
  exact hB2
theorem round85_1 (text : Bytes) (n : Int) (comma : Bool) : Round85 275 (written ⟨1, text, n, comma⟩) :=
  compose85 pre85_date tail85_1 (by decide) (by decide) (by decide) (by decide) (by decide) (fun c v w hc hn ha hm ho hb => hn) (fun c hc => by simp [written])
theorem round85_2 (text : Bytes) (n : Int) (comma : Bool) : Round85 276 (written ⟨2, text, n, comma⟩) :=
  compose85 pre85_date tail85_2 (by decide) (by decide) (by decide) (by decide) (by decide) (fun c v w hc hn ha hm ho hb => hn) (fun c hc => by simp [written])
theorem round85_3 (text : Bytes) (n : Int) (comma : Bool) : Round85 257 (written ⟨3, text, n, comma⟩) :=
  compose85 pre85_date tail85_3 (by decide) (by decide) (by decide) (by decide) (by decide) (fun c v w hc hn ha hm ho hb => hn) (fun c hc => by simp [written])
theorem round85_4 (text : Bytes) (n : Int) (comma : Bool) : Round85 258 (written ⟨4, text, n, comma⟩) :=
  compose85 pre85_date tail85_4 (by decide) (by decide) (by decide) (by decide) (by decide) (fun c v w hc hn ha hm ho hb => hn) (fun c hc => by simp [written])
theorem round85_5 (text : Bytes) (n : Int) (comma : Bool) : Round85 260 (written ⟨5, text, n, comma⟩) :=
  compose85 pre85_date tail85_5 (by decide) (by decide) (by decide) (by decide) (by decide) (fun c v w hc hn ha hm ho hb => hn) (fun c hc => by simp [written])
theorem round85_6 (text : Bytes) (n : Int) (comma : Bool) : Round85 259 (written ⟨6, text, n, comma⟩) :=
  compose85 pre85_date tail85_6 (by decide) (by decide) (by decide) (by decide) (by decide) (fun c v w hc hn ha hm ho hb => hn) (fun c hc => by simp [written])
theorem round85_7 (text : Bytes) (n : Int) (comma : Bool) : Round85 261 (written ⟨7, text, n, comma⟩) :=
  compose85 pre85_date tail85_7 (by decide) (by decide) (by decide) (by decide) (by decide) (fun c v w hc hn ha hm ho hb => ha) (fun c hc => by rw [weekday_law hc]; simp [written])
theorem round85_8 (text : Bytes) (n : Int) (comma : Bool) : Round85 262 (written ⟨8, text, n, comma⟩) :=
  compose85 pre85_date tail85_8 (by decide) (by decide) (by decide) (by decide) (by decide) (fun c v w hc hn ha hm ho hb => ha) (fun c hc => by rw [weekday_law hc]; simp [written])
theorem round85_9 (text : Bytes) (n : Int) (comma : Bool) : Round85 263 (written ⟨9, text, n, comma⟩) :=
  compose85 pre85_date tail85_9 (by decide) (by decide) (by decide) (by decide) (by decide) (fun c v w hc hn ha hm ho hb => hn) (fun c hc => by simp [written])
theorem round85_10 (text : Bytes) (n : Int) (comma : Bool) : Round85 264 (written ⟨10, text, n, comma⟩) :=
  compose85 pre85_date tail85_10 (by decide) (by decide) (by decide) (by decide) (by decide) (fun c v w hc hn ha hm ho hb => hn) (fun c hc => by simp [written])
theorem round85_11 (text : Bytes) (n : Int) (comma : Bool) : Round85 265 (written ⟨11, text, n, comma⟩) :=
  compose85 pre85_date tail85_11 (by decide) (by decide) (by decide) (by decide) (by decide) (fun c v w hc hn ha hm ho hb => hn) (fun c hc => by simp [written])
theorem round85_12 (text : Bytes) (n : Int) (comma : Bool) : Round85 522 (written ⟨12, text, n, comma⟩) :=
  compose85 pre85_yday tail85_12 (by decide) (by decide) (by decide) (by decide) (by decide) (fun c v w hc hn ha hm ho hb => hn) (fun c hc => by simp [written])
theorem round85_13 (text : Bytes) (n : Int) (comma : Bool) : Round85 523 (written ⟨13, text, n, comma⟩) :=
  compose85 pre85_yday tail85_13 (by decide) (by decide) (by decide) (by decide) (by decide) (fun c v w hc hn ha hm ho hb => hn) (fun c hc => by simp [written])
theorem round85_14 (text : Bytes) (n : Int) (comma : Bool) : Round85 1036 (written ⟨14, text, n, comma⟩) :=
  compose85 pre85_clock tail85_14 (by decide) (by decide) (by decide) (by decide) (by decide) (fun c v w hc hn ha hm ho hb => hn) (fun c hc => by simp [written])
theorem round85_15 (text : Bytes) (n : Int) (comma : Bool) : Round85 1037 (written ⟨15, text, n, comma⟩) :=
  compose85 pre85_clock tail85_15 (by decide) (by decide) (by decide) (by decide) (by decide) (fun c v w hc hn ha hm ho hb => hn) (fun c hc => by simp [written])
theorem round85_16 (text : Bytes) (n : Int) (comma : Bool) : Round85 1038 (written ⟨16, text, n, comma⟩) :=
  compose85 pre85_clock tail85_16 (by decide) (by decide) (by decide) (by decide) (by decide) (fun c v w hc hn ha hm ho hb => hn) (fun c hc => by simp [written])
theorem round85_17 (text : Bytes) (n : Int) (comma : Bool) : Round85 1039 (written ⟨17, text, n, comma⟩) :=
  compose85 pre85_clock tail85_17 (by decide) (by decide) (by decide) (by decide) (by decide) (fun c v w hc hn ha hm ho hb => hn) (fun c hc => by simp [written])
theorem round85_18 (text : Bytes) (n : Int) (comma : Bool) : Round85 1040 (written ⟨18, text, n, comma⟩) :=
  compose85 pre85_clock tail85_18 (by decide) (by decide) (by decide) (by decide) (by decide) (fun c v w hc hn ha hm ho hb => hn) (fun c hc => by simp [written])
theorem round85_19 (text : Bytes) (n : Int) (comma : Bool) : Round85 1041 (written ⟨19, text, n, comma⟩) :=
  compose85 pre85_clock tail85_19 (by decide) (by decide) (by decide) (by decide) (by decide) (fun c v w hc hn ha hm ho hb => hn) (fun c hc => by simp [written])
theorem round85_20 (text : Bytes) (n : Int) (comma : Bool) : Round85 1042 (written ⟨20, text, n, comma⟩) :=
  compose85 pre85_clock tail85_20 (by decide) (by decide) (by decide) (by decide) (by decide) (fun c v w hc hn ha hm ho hb => hn) (fun c hc => by simp [written])
theorem round85_21 (text : Bytes) (n : Int) (comma : Bool) : Round85 1045 (written ⟨21, text, n, comma⟩) :=
  compose85 pre85_clock tail85_21 (by decide) (by decide) (by decide) (by decide) (by decide) (fun c v w hc hn ha hm ho hb => hn) (fun c hc => by simp [written])
theorem round85_22 (text : Bytes) (n : Int) (comma : Bool) : Round85 29 (written ⟨22, text, n, comma⟩) :=
  compose85 pre85_other tail85_22 (by decide) (by decide) (by decide) (by decide) (by decide) (fun c v w hc hn ha hm ho hb => ho) (fun c hc => by simp [written, isISO, within, zoneText])
theorem round85_23 (text : Bytes) (n : Int) (comma : Bool) : Round85 32 (written ⟨23, text, n, comma⟩) :=
  compose85 pre85_other tail85_23 (by decide) (by decide) (by decide) (by decide) (by decide) (fun c v w hc hn ha hm ho hb => ho) (fun c hc => by simp [written, isISO, within, zoneText])
theorem round85_24 (text : Bytes) (n : Int) (comma : Bool) : Round85 31 (written ⟨24, text, n, comma⟩) :=
  compose85 pre85_other tail85_24 (by decide) (by decide) (by decide) (by decide) (by decide) (fun c v w hc hn ha hm ho hb => ho) (fun c hc => by simp [written, isISO, within, zoneText])
theorem round85_25 (text : Bytes) (n : Int) (comma : Bool) : Round85 30 (written ⟨25, text, n, comma⟩) :=
  compose85 pre85_other tail85_25 (by decide) (by decide) (by decide) (by decide) (by decide) (fun c v w hc hn ha hm ho hb => ho) (fun c hc => by simp [written, isISO, within, zoneText])
theorem round85_26 (text : Bytes) (n : Int) (comma : Bool) : Round85 33 (written ⟨26, text, n, comma⟩) :=
  compose85 pre85_other tail85_26 (by decide) (by decide) (by decide) (by decide) (by decide) (fun c v w hc hn ha hm ho hb => ho) (fun c hc => by simp [written, isISO, within, zoneText])
theorem round85_27 (text : Bytes) (n : Int) (comma : Bool) : Round85 24 (written ⟨27, text, n, comma⟩) :=
  compose85 pre85_other tail85_27 (by decide) (by decide) (by decide) (by decide) (by decide) (fun c v w hc hn ha hm ho hb => ho) (fun c hc => by simp [written, isISO, within, zoneText])
theorem round85_28 (text : Bytes) (n : Int) (comma : Bool) : Round85 27 (written ⟨28, text, n, comma⟩) :=
  compose85 pre85_other tail85_28 (by decide) (by decide) (by decide) (by decide) (by decide) (fun c v w hc hn ha hm ho hb => ho) (fun c hc => by simp [written, isISO, within, zoneText])
theorem round85_29 (text : Bytes) (n : Int) (comma : Bool) : Round85 26 (written ⟨29, text, n, comma⟩) :=
  compose85 pre85_other tail85_29 (by decide) (by decide) (by decide) (by decide) (by decide) (fun c v w hc hn ha hm ho hb => ho) (fun c hc => by simp [written, isISO, within, zoneText])
theorem round85_30 (text : Bytes) (n : Int) (comma : Bool) : Round85 25 (written ⟨30, text, n, comma⟩) :=
  compose85 pre85_other tail85_30 (by decide) (by decide) (by decide) (by decide) (by decide) (fun c v w hc hn ha hm ho hb => ho) (fun c hc => by simp [written, isISO, within, zoneText])
theorem round85_31 (text : Bytes) (n : Int) (comma : Bool) : Round85 28 (written ⟨31, text, n, comma⟩) :=
  compose85 pre85_other tail85_31 (by decide) (by decide) (by decide) (by decide) (by decide) (fun c v w hc hn ha hm ho hb => ho) (fun c hc => by simp [written, isISO, within, zoneText])
theorem round85_32 (text : Bytes) (n : Int) (comma : Bool) : Round85 23 (written ⟨32, text, n, comma⟩) :=
  compose85 pre85_other tail85_32 (by decide) (by decide) (by decide) (by decide) (by decide) (fun c v w hc hn ha hm ho hb => hm) (fun c hc => by simp [written])
theorem fstd_bits (code : Int) (n : Nat) (comma : Bool) (hc : code = 34 ∨ code = 35) (h0 : 1 ≤ n) (h1 : n ≤ 9) :
    bits .and .i64 (fstd code n comma) 256 = 0 ∧ bits .and .i64 (fstd code n comma) 512 = 0 ∧ bits .and .i64 (fstd code n comma) 1024 = 0 ∧ (fstd code n comma == 0) = false := by
  have hn : n = 1 ∨ n = 2 ∨ n = 3 ∨ n = 4 ∨ n = 5 ∨ n = 6 ∨ n = 7 ∨ n = 8 ∨ n = 9 := by omega
  clear h0 h1
  rcases hc with rfl | rfl
  all_goals
    rcases hn with rfl | rfl | rfl | rfl | rfl | rfl | rfl | rfl | rfl
  all_goals
    cases comma
  all_goals decide
theorem round85_f (code : Int) (k : Int) (text : Bytes) (n : Int) (comma : Bool) (hk : (k = 33 ∧ code = 34) ∨ (k = 34 ∧ code = 35)) (n1 : 1 ≤ n) (n9 : n ≤ 9) : Round85 (fstd code n.toNat comma) (written ⟨k, text, n, comma⟩) := by
  have hc : code = 34 ∨ code = 35 := by omega
  obtain ⟨b1, b2, b3, b5⟩ := fstd_bits code n.toNat comma hc (by omega) (by omega)
  refine compose85 pre85_other (tail85_f code n.toNat comma hc (by omega) (by omega)) b1 b2 b3 (fstd_code code n.toNat comma hc (by omega) (by omega)) b5 (fun c v w hc hn ha hm ho hb => hb) (fun c hc => ?_)
  rcases hk with ⟨rfl, rfl⟩ | ⟨rfl, rfl⟩ <;> simp [written, nanoText]
theorem round85 (e : Pc) (he : pieceOk e = true) (h0 : e.kind ≠ 0) : Round85 (stdOf e) (written e) := by
  obtain ⟨k, text, n, comma⟩ := e
  simp only at h0
  obtain ⟨k1, k2⟩ := kinds_of he h0
  simp only at k1 k2
  by_cases h33 : k = 33
  · subst h33
    simp [pieceOk, isFraction, within] at he
    exact round85_f 34 33 text n comma (.inl ⟨rfl, rfl⟩) he.2.1 he.2.2
  by_cases h34 : k = 34
  · subst h34
    simp [pieceOk, isFraction, within] at he
    exact round85_f 35 34 text n comma (.inr ⟨rfl, rfl⟩) he.2.1 he.2.2
  have hs : stdOf ⟨k, text, n, comma⟩ = stds.getD k.toNat 0 := by simp only [stdOf, if_neg h33, if_neg h34]
  rw [hs]
  clear hs he
  have : k = 1 ∨ k = 2 ∨ k = 3 ∨ k = 4 ∨ k = 5 ∨ k = 6 ∨ k = 7 ∨ k = 8 ∨ k = 9 ∨ k = 10 ∨ k = 11 ∨ k = 12 ∨ k = 13 ∨ k = 14 ∨ k = 15 ∨ k = 16 ∨ k = 17 ∨ k = 18 ∨ k = 19 ∨ k = 20 ∨ k = 21 ∨ k = 22 ∨ k = 23 ∨ k = 24 ∨ k = 25 ∨ k = 26 ∨ k = 27 ∨ k = 28 ∨ k = 29 ∨ k = 30 ∨ k = 31 ∨ k = 32 := by omega
  rcases this with rfl | rfl | rfl | rfl | rfl | rfl | rfl | rfl | rfl | rfl | rfl | rfl | rfl | rfl | rfl | rfl | rfl | rfl | rfl | rfl | rfl | rfl | rfl | rfl | rfl | rfl | rfl | rfl | rfl | rfl | rfl | rfl
  · exact round85_1 text n comma
  · exact round85_2 text n comma
  · exact round85_3 text n comma
  · exact round85_4 text n comma
  · exact round85_5 text n comma
  · exact round85_6 text n comma
  · exact round85_7 text n comma
  · exact round85_8 text n comma
  · exact round85_9 text n comma
  · exact round85_10 text n comma
  · exact round85_11 text n comma
  · exact round85_12 text n comma
  · exact round85_13 text n comma
  · exact round85_14 text n comma
  · exact round85_15 text n comma
  · exact round85_16 text n comma
  · exact round85_17 text n comma
  · exact round85_18 text n comma
  · exact round85_19 text n comma
  · exact round85_20 text n comma
  · exact round85_21 text n comma
  · exact round85_22 text n comma
  · exact round85_23 text n comma
  · exact round85_24 text n comma
  · exact round85_25 text n comma
  · exact round85_26 text n comma
  · exact round85_27 text n comma
  · exact round85_28 text n comma
  · exact round85_29 text n comma
  · exact round85_30 text n comma
  · exact round85_31 text n comma
  · exact round85_32 text n comma
end Go.Proofs.YtndhiemagankeaaGreatDoor
/- The walk of package time: a time is written by a layout. -/
namespace Go.Proofs.YtndhiemagankeaaGreatDoor
open Go.RowKit
set_option linter.unusedSimpArgs false
set_option linter.unusedVariables false
attribute [local simp] bs_size bs_toList bs_append bs_data bs_extract
theorem written_text {ts : List Pc} (h : ∀ p ∈ ts, p.kind = 0) (c : Civ) : writtenAll ts c = layout ts := by
  induction ts with
  | nil => rfl
  | cons p ts ih =>
    have hp := h p (by simp)
    rw [layout_cons, ← ih (fun q hq => h q (by simp [hq])), element_text hp]
    simp [writtenAll, written, hp]
theorem writtenAll_append (a b : List Pc) (c : Civ) : writtenAll (a ++ b) c = writtenAll a c ++ writtenAll b c := by simp [writtenAll]
/-- The loop of 'appendFormat'. -/
def Lp85 (c : Civ) (ps : List Pc) (pb : Nat) (g n : Nat) (l : Bytes) (w : World) (a' : Act) (w' : World) : Prop :=
  ∃ v done rest g' n' cap', ps = done ++ rest ∧ At85 v a' ∧ v.lay = layout rest ∧ v.pb = pb ∧ v.name = c.zone.name ∧ v.off = c.zone.off ∧ v.abs = cabs c ∧ v.b = .slice (some ⟨g', 0, none⟩) n' cap' ∧ Lz c v ∧
    Buf w' g' n' cap' (l ++ writtenAll done c) ∧ BufStep w g w' g'
theorem writtenAll_len {ps : List Pc} {c : Civ} (h : ∀ p ∈ ps, pieceOk p = true) (hc : CivB c) : (writtenAll ps c).length ≤ 1000 * ps.length := by
  induction ps with
  | nil => simp [writtenAll]
  | cons p ps ih =>
    have h1 := written_len (h p (by simp)) hc
    have h2 := ih (fun q hq => h q (by simp [hq]))
    simp only [writtenAll, List.flatMap_cons, List.length_append, List.length_cons] at h2 ⊢
    omega
theorem round_lp85 (c : Civ) (hc : CivB c) (ps : List Pc) (hok : SufOk ps) (hps : ps.length ≤ 100) (hlay : (layout ps).length ≤ 1073741824) (pb : Nat) (g n cap : Nat) (l : Bytes) (w : World) (hn : n ≤ 1073741824) (hl : l.length = n)
    (hs : StdAt w) (hg : 1 ≠ g) (hpg : pb ≠ g) (lo : Value) (ht : TAt w pb c.nano (cext c) lo) (Q : Exit → Act → World → Prop) (hQ : ∀ a' w', Ex85 g (l ++ writtenAll ps c) w a' w' → Q (.exit 0) a' w')
    (a : Act) (w1 : World) (h : Lp85 c ps pb g n l w a w1) :
    body85.wp Tryz.prog (Exit.then (fun a' w' => Lp85 c ps pb g n l w a' w' ∧ (match a'.tmps.getD 2 undef with | .string s => s.size | _ => 0) < (match a.tmps.getD 2 undef with | .string s => s.size | _ => 0)) Q) a w1 := by
  obtain ⟨v, done, rest, g1, n1, cap1, hsp, hA, e1, e2, e3, e4, e5, e6, hz, hB, hS⟩ := h
  have hlay0 : a.tmps.getD 2 undef = S v.lay := hA.s2
  obtain ⟨u, rfl⟩ := hA.open
  have hrest : SufOk rest := by rw [hsp] at hok; exact hok.drop
  have hdl := writtenAll_len (c := c) (ps := done) (fun p hp => hok.all p (by rw [hsp]; simp [hp])) hc
  have hn1 : n1 ≤ 1073741824 + 100000 := by
    have h1 := hB.len
    have h2 : done.length ≤ ps.length := by rw [hsp]; simp
    simp at h1
    omega
  have hlr : (layout rest).length ≤ 1073741824 := by
    have : (layout ps).length = (layout done).length + (layout rest).length := by rw [hsp, layout_append]; simp
    omega
  have hs1 : StdAt w1 := hs.step hS hg
  have hg1 : BufStep w g w1 g1 := hS
  have hpg1 : v.pb ≠ g1 := by
    rw [e2]
    have := ht.lt
    rcases hS.row with e | e <;> omega
  have ht1 : ∃ lo, TAt w1 v.pb c.nano (cext c) lo := ⟨lo, by rw [e2]; exact ht.step hS hpg⟩
  obtain ⟨ts, rs, hrs, htx, hcase⟩ := split_pieces rest
  rcases hcase with rfl | ⟨e, r, rfl, h0⟩
  · rw [List.append_nil] at hrs
    subst hrs
    refine end85 v g1 n1 cap1 (l ++ writtenAll done c) w1 _ _ u (fun w => ?_) e6 hB (by omega) (by rw [e1]; omega) ?_
    · rw [e1]
      exact next_text rest htx hrest.all (by omega) w
    · rintro a2 w2 ⟨g2, n2, cap2, v2, hA2, hb2, hB2, hS2⟩
      refine hQ a2 w2 ⟨g2, n2, cap2, v2, hA2, hb2, ?_, hS.trans hS2⟩
      rw [e1, List.append_assoc, ← written_text htx c, ← writtenAll_append, ← hsp] at hB2
      exact hB2
  · subst hrs
    have he := hrest.all e (by simp)
    have hlt : (layout ts).length ≤ 1073741824 := by
      have : (layout (ts ++ e :: r)).length = (layout ts).length + (layout (e :: r)).length := by rw [layout_append]; simp
      omega
    refine round85 e he h0 c v (layout ts) (layout r) g1 n1 cap1 (l ++ writtenAll done c) w1 _ _ u hc hz e5 e3 e4 (fun w hw => ?_) ?_ e6 hs1 hB (by omega) (by omega) ht1 hpg1 ?_
    · rw [e1]
      exact next_pieces ts r e hrest htx h0 (by omega) w hw
    · rw [e1, layout_append, layout_cons]
      intro hh
      have := (elem_pre e he h0 []).2
      simp at hh
      exact this hh.2.1
    · rintro a2 w2 ⟨v2, g2, n2, cap2, hA2, f1, f2, f3, f4, f5, f6, hz2, hB2, hS2⟩
      refine ⟨⟨v2, done ++ ts ++ [e], r, g2, n2, cap2, by rw [hsp]; simp, hA2, f1, f2.trans e2, f3, f4, f5, f6, hz2, ?_, hS.trans hS2⟩, ?_⟩
      · rw [writtenAll_append, writtenAll_append, written_text htx c]
        have hw1 : writtenAll [e] c = written e c := by simp [writtenAll]
        rw [hw1, ← List.append_assoc, ← List.append_assoc]
        exact hB2
      · rw [hA2.s2, hlay0, f1, e1]
        simp only [bs_size]
        rw [layout_append, layout_cons]
        have := List.length_pos_iff.2 (elem_pre e he h0 []).2
        simp
        omega
end Go.Proofs.YtndhiemagankeaaGreatDoor
/- The walk of package time: a time is written by a layout: the whole function. -/
namespace Go.Proofs.YtndhiemagankeaaGreatDoor
open Go.RowKit
set_option linter.unusedSimpArgs false
set_option linter.unusedVariables false
attribute [local simp] bs_size bs_toList bs_append bs_data bs_extract
set_option maxRecDepth 100000 in
set_option maxHeartbeats 4000000 in
theorem appendFormat_c (ps : List Pc) (c : Civ) (lo : Value) (g n cap : Nat) (l : Bytes) (w : World) (hok : SufOk ps) (hps : ps.length ≤ 100) (hlay : (layout ps).length ≤ 1073741824) (hc : CivB c) (H : TimeLoc w lo c.zone)
    (hs : StdAt w) (hg : 1 ≠ g) (hB : Buf w g n cap l) (hn : n ≤ 1073741824) :
    Calls Tryz.prog 85 #[ctv c lo, .slice (some ⟨g, 0, none⟩) n cap, S (layout ps)] w fun e w' => ∃ g' n' cap', e = .returned (.slice (some ⟨g', 0, none⟩) n' cap') ∧ Buf w' g' n' cap' (l ++ writtenAll ps c) ∧ BufStep w g w' g' := by
  have hgl := hB.lt
  obtain ⟨w0, HW0⟩ : ∃ w0, Hid (w0 = w.alloc (.cells #[.int .u64 c.nano, .int .i64 (cext c), lo] 51)) := ⟨_, Lib.hid rfl⟩
  have hta : TAt w0 w.heap.size c.nano (cext c) lo := by rw [HW0.out]; exact TAt.new w c.nano (cext c) lo
  have hb0 : Below w.heap.size w w0 := by rw [HW0.out]; exact below_new _ _
  have HLA : Hid (Calls Tryz.prog 122 #[ctv c lo] w0 fun e w' => e = .returned (.tuple #[S c.zone.name, .int .i64 c.zone.off, .int .u64 (cabs c)]) ∧ Below w0.heap.size w0 w') := clocabs_c c lo w0 hc (H.below hb0)
  obtain ⟨q1, q2, -⟩ := cabs_bd hc
  have HDA : Hid (∀ w, Calls Tryz.prog 115 #[.int .u64 (cabs c)] w fun e w' => e = .returned (.int .u64 (cabs c / 86400)) ∧ w' = w) := fun w => absdays_c (cabs c) w q1 q2
  have HR := fun (a : Act) (w1 w2 : World) (Q : Exit → Act → World → Prop) (hsW : StdAt w2) (htW : TAt w2 w.heap.size c.nano (cext c) lo) hQ h => round_lp85 c hc ps hok hps hlay w.heap.size g n cap l w2 hn hB.len hsW hg (by omega) lo htW Q hQ a w1 h
  have HR := Lib.hid HR
  have HB := Lib.hid hB
  have HS := Lib.hid hs
  have hc0 := hta.c0
  have hc1 := hta.c1
  have hc2 := hta.c2
  have HT := Lib.hid hta
  have HBE := Lib.hid hb0
  unfold ctv tv at HLA ⊢
  clear hta hb0 hs hB
  obtain ⟨x, HX⟩ : ∃ x, Hid (x = cext c) := ⟨_, Lib.hid rfl⟩
  rw [← HX.out] at HLA hc1 HW0 ⊢
  rw [HW0.out] at HLA hc0 hc1 hc2
  rw [← HX.out] at HT
  rw [HW0.out] at HT HBE
  go_enter Tryz.func85, Tryz.ntmps85
  go_wp2_with (first
    | (go_at_call 122; refine HLA.out.mono ?_; rintro e w1 ⟨rfl, hbel⟩; have HBL := Lib.hid hbel; clear hbel)
    | (go_at_call 115; refine (HDA.out _).mono ?_; rintro e w2 ⟨rfl, rfl⟩))
  have hbel := HBL.out
  have HW2 : Below w.heap.size w _ := below_next HBE.out hbel
  have ht2 := HT.out.below hbel
  have hB2 := HB.out.kept HW2
  have hs2 := HS.out.below HW2
  rw [HX.out] at ht2
  first
    | refine wp_loop (Lp85 c ps w.heap.size g n l w1) (fun a' _ => match a'.tmps.getD 2 undef with | .string s => s.size | _ => 0) ?_ (fun a' w' h => ?_)
    | refine wp_loop (Lp85 c ps w.heap.size g n l w2) (fun a' _ => match a'.tmps.getD 2 undef with | .string s => s.size | _ => 0) ?_ (fun a' w' h => ?_)
  rotate_left
  · refine HR.out a' w' _ _ hs2 ht2 ?_ h
    rintro a3 w3 ⟨g3, n3, cap3, v3, hA3, hb3, hB3, hS3⟩
    obtain ⟨u3, rfl⟩ := hA3.open
    obtain ⟨b3, lay3, pb3, nm3, of3, ab3, y3, m3, d3, yd3, h3, mi3, s3⟩ := v3
    simp only at hb3
    subst hb3
    have HF := Lib.hid ((BufStep.of_below g HW2).trans hS3)
    have HB3 := Lib.hid hB3
    clear hA3 hB3 hS3 ht2 hB2 hs2 HW2 hbel
    simp only [Exit.inBlock, Exit.then, if_true]
    unfold fr85
    go_wp2_with fail
    go_ret
    exact ⟨g3, n3, cap3, rfl, HB3.out, HF.out⟩
  · refine ⟨⟨_, _, _, _, _, _, _, _, _, _, _, _, _⟩, [], ps, g, n, cap, rfl, ⟨rfl, rfl, rfl, rfl, rfl, rfl, rfl, rfl, rfl, rfl, rfl, rfl, rfl, rfl, rfl, rfl⟩, rfl, rfl, rfl, rfl, rfl, rfl, ⟨.inl rfl, .inl rfl, .inl rfl⟩, ?_, BufStep.refl _ _⟩
    simpa [writtenAll] using hB2
end Go.Proofs.YtndhiemagankeaaGreatDoor
/- The walks of package time: AppendFormat, Format. -/
namespace Go.Proofs.YtndhiemagankeaaGreatDoor
open Go.RowKit
set_option linter.unusedSimpArgs false
set_option linter.unusedVariables false
attribute [local simp] bs_size bs_toList bs_append bs_data bs_extract
set_option maxRecDepth 100000 in
set_option maxHeartbeats 1000000 in
theorem appendFormat2_c (ps : List Pc) (c : Civ) (lo : Value) (g n cap : Nat) (l : Bytes) (w : World) (hok : SufOk ps) (hps : ps.length ≤ 100) (hlay : (layout ps).length ≤ 1073741824) (hc : CivB c) (H : TimeLoc w lo c.zone)
    (hs : StdAt w) (hg : 1 ≠ g) (hB : Buf w g n cap l) (hn : n ≤ 1073741824) :
    Calls Tryz.prog 54 #[ctv c lo, .slice (some ⟨g, 0, none⟩) n cap, S (layout ps)] w fun e w' => ∃ g' n' cap', e = .returned (.slice (some ⟨g', 0, none⟩) n' cap') ∧ Buf w' g' n' cap' (l ++ writtenAll ps c) ∧ BufStep w g w' g' := by
  obtain ⟨r1, r2⟩ := not_rfc ps hok.all
  unfold rfcA at r1
  unfold rfcB at r2
  have HA : Hid (∀ o, Calls Tryz.prog 85 #[ctv c lo, .slice (some ⟨g, 0, none⟩) n cap, S (layout ps)] (w.alloc o) fun e w' => ∃ g' n' cap', e = .returned (.slice (some ⟨g', 0, none⟩) n' cap') ∧ Buf w' g' n' cap' (l ++ writtenAll ps c) ∧ BufStep (w.alloc o) g w' g') := fun o =>
    appendFormat_c ps c lo g n cap l (w.alloc o) hok hps hlay hc (H.below (below_new _ _)) (hs.below (below_new _ _)) hg (hB.kept (below_new _ _)) hn
  unfold ctv tv at HA ⊢
  obtain ⟨x, HX⟩ : ∃ x, Hid (x = cext c) := ⟨_, Lib.hid rfl⟩
  rw [← HX.out] at HA ⊢
  have hcells : ∀ o, (w.alloc (.cells #[.int .u64 c.nano, .int .i64 x, lo] 51)).cell? ⟨w.heap.size, o, none⟩ = #[.int .u64 c.nano, .int .i64 x, lo][o]? := fun o => World.cell?_alloc_mark w _ 51 (0, 0) o
  have h0 := hcells 0
  have h1 := hcells 1
  have h2 := hcells 2
  clear hcells H hs hB
  go_enter Tryz.func54, Tryz.ntmps54
  go_wp2_with (go_at_call 85; refine (HA.out _).mono ?_; rintro e w1 ⟨g1, n1, cap1, rfl, hb1, hs1⟩; have HB1 := Lib.hid hb1; have HS1 := Lib.hid hs1; clear hb1 hs1)
  go_ret
  exact ⟨g1, n1, cap1, rfl, HB1.out, (BufStep.alloc w g _).trans HS1.out⟩
/-- A row that a call has just laid, as a buffer. -/
theorem Buf.fresh (w : World) (cap : Nat) (hm : cap ≤ maxLen) (cs : Array Value) (e : TypeId) (hc : cs.size = cap) : Buf (w.alloc (.cells cs e)) w.heap.size 0 cap [] := by
  refine ⟨rfl, Nat.zero_le _, hm, by simp, fun j hj => absurd hj (Nat.not_lt_zero j), fun j hj => ?_⟩
  have hh := heap_alloc_new w (.cells cs e)
  refine ⟨?_, frozen_of_row _ w.heap.size j _ e hh⟩
  rw [cell_of_row _ w.heap.size j _ e (0, 0) hh, Array.getElem?_eq_getElem (by omega)]
  rfl
theorem Buf.fresh2 (w : World) (o : Obj) (cs : Array Value) (e : TypeId) (hc : cs.size = 64) : Buf ((w.alloc o).alloc (.cells cs e)) (w.heap.size + 1) 0 64 [] := by
  have := Buf.fresh (w.alloc o) 64 (by simp only [maxLen]; omega) cs e hc
  rwa [World.size_alloc] at this
theorem Buf.of_own0 {w : World} {base e g cap : Nat} (h : w.ownsRow base e 1 (.slice (some ⟨g, 0, none⟩) 0 cap) 0 []) : Buf w g 0 cap [] := by
  rcases h.2 with ⟨h1, _⟩ | ⟨g', cap', cur, h1, _, hg, _, hm, hc, _⟩
  · simp at h1
  · simp at h1
    obtain ⟨rfl, rfl⟩ := h1
    refine ⟨rfl, Nat.zero_le _, hm, (Array.getElem?_eq_some_iff.1 hg).1, fun j hj => absurd hj (Nat.not_lt_zero j), fun j hj => ?_⟩
    rw [cell_of_row w g j cur e (0, 0) hg]
    refine ⟨?_, h.frozenAt j⟩
    rw [Array.getElem?_eq_getElem (by omega)]
    rfl
theorem below_grown {w w' : World} (h : w.grownBy w' none) : Below w.heap.size w w' := ⟨h.os, h.tape, h.output, h.size, fun k hk => h.block k hk (by simp)⟩
set_option maxRecDepth 100000 in
set_option maxHeartbeats 1000000 in
theorem Format_c (ps : List Pc) (c : Civ) (lo : Value) (w : World) (hok : SufOk ps) (hps : ps.length ≤ 100) (hlay : (layout ps).length ≤ 1073741824) (hc : CivB c) (H : TimeLoc w lo c.zone) (hs : StdAt w) :
    Calls Tryz.prog 29 #[ctv c lo, S (layout ps)] w fun e w' => e = .returned (S (writtenAll ps c)) ∧ Below w.heap.size w w' := by
  have hw1 : 1 < w.heap.size := hs.2.2.2.2.2.2
  have HA : Hid (∀ w1 g cap, Below w.heap.size w w1 → w.heap.size ≤ g → Buf w1 g 0 cap [] → Calls Tryz.prog 54 #[ctv c lo, .slice (some ⟨g, 0, none⟩) 0 cap, S (layout ps)] w1 fun e w' => ∃ g' n' cap', e = .returned (.slice (some ⟨g', 0, none⟩) n' cap') ∧ Buf w' g' n' cap' ([] ++ writtenAll ps c) ∧ BufStep w1 g w' g') := fun w1 g cap hb hg hB =>
    appendFormat2_c ps c lo g 0 cap [] w1 hok hps hlay hc (H.below hb) (hs.below hb) (by omega) hB (by omega)
  unfold ctv tv at HA ⊢
  obtain ⟨x, HX⟩ : ∃ x, Hid (x = cext c) := ⟨_, Lib.hid rfl⟩
  rw [← HX.out] at HA ⊢
  have hcells : ∀ o, (w.alloc (.cells #[.int .u64 c.nano, .int .i64 x, lo] 51)).cell? ⟨w.heap.size, o, none⟩ = #[.int .u64 c.nano, .int .i64 x, lo][o]? := fun o => World.cell?_alloc_mark w _ 51 (0, 0) o
  have h0 := hcells 0
  have h1 := hcells 1
  have h2 := hcells 2
  clear hcells H hs
  by_cases hsm : (layout ps).length < 54
  all_goals
    go_enter Tryz.func29, Tryz.ntmps29
    first
      | (go_upto_region 6 with fail
         obtain ⟨i, hi, hz, h1', h2'⟩ := info_parts (show (Tryz.prog.info? 5).map (fun i => (i.zero, i.size, i.bytes)) = some (some (.int .u8 0), 1, 1) by kernel_rfl)
         apply wp_region_lit
         go_wp2_with (first
           | (refine wpList_make_own _ rfl (.const (.int .i64 0)) (.tmp 14) 69 rfl 0 5 i _ 1 Tryz.underlying69 hi hz h1' .i64 .i64 _ ((layout ps).length + 10) rfl rfl (by push_cast; rfl) (by rw [h2']; omega) (by simp only [maxLen]; omega) (Nat.zero_le _) ?_; intro w2 ho hgr; have hb2 := below_grown hgr; have k0 := (hb2.cell (p := ⟨w.heap.size, 0, none⟩) (by simp)).trans h0; have k1 := (hb2.cell (p := ⟨w.heap.size, 1, none⟩) (by simp)).trans h1; have k2 := (hb2.cell (p := ⟨w.heap.size, 2, none⟩) (by simp)).trans h2; have hB2 := Buf.of_own0 ho; rw [World.size_alloc] at hB2; have HB2 := Lib.hid hB2; have HG2 := Lib.hid (below_next (below_new _ _) hb2); clear ho hgr hb2 hB2)
           | (go_at_call 54; refine (HA.out _ _ _ HG2.out (by omega) HB2.out).mono ?_; rintro e w1 ⟨g1, n1, cap1, rfl, hb1, hs1⟩; have hstr := hb1.str; have HS1 := Lib.hid (HG2.out.trans (hs1.below HG2.out.size (by omega))); clear hb1 hs1))
         go_ret
         exact ⟨by simp, HS1.out⟩)
      | (go_wp2_with (go_at_call 54; have HG2 := Lib.hid (below_next (below_new w (.cells #[.int .u64 c.nano, .int .i64 x, lo] 51)) (below_new _ (.cells (Array.replicate 64 (.int .u8 0)) 5))); refine (HA.out _ _ _ (by exact below_next (below_new _ _) (below_new _ _)) (by omega) (by exact Buf.fresh2 _ _ _ _ rfl)).mono ?_; rintro e w1 ⟨g1, n1, cap1, rfl, hb1, hs1⟩; have hstr := hb1.str; have HS1 := Lib.hid ((below_next (below_new _ _) (below_new _ _)).trans (hs1.below (by simp; omega) (by omega))); clear hb1 hs1)
         go_ret
         exact ⟨by simp, HS1.out⟩)
end Go.Proofs.YtndhiemagankeaaGreatDoor
