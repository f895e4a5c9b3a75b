/-
  FnLayout (the statement: for every list of pieces, every time and every zone the call returns true, and its arguments read afterwards as they did), part 32 of 41. In this part: The walk of package time: a time is written by a layout: offsets.
-/
import Derived.Test.YtndhiemagankeaaGreatDoorG31
/- The walk of package time: a time is written by a layout: offsets. -/
namespace Go.Proofs.YtndhiemagankeaaGreatDoor
open Go.RowKit
set_option linter.unusedSimpArgs false
set_option linter.unusedVariables false
attribute [local simp] bs_size bs_toList bs_append bs_data bs_extract
set_option maxRecDepth 100000 in
set_option maxHeartbeats 4000000 in
theorem tail85_22 : Tail85 29 29 (fun c v _ => v.off = c.zone.off) (fun c => offsetText c.zone.off true false false) := by
  intro c v g n cap l w I Q u hc h1 hvb hb hn hI
  obtain ⟨b, lay, pb, name, off, abs, y, m, d, yd, h, mi, s⟩ := v
  simp only at hvb h1
  subst hvb
  dsimp only at hI
  have hz := znB hc.z
  have hz0 := hz.o0
  have hz1 := hz.o1
  have hzf := hz.far
  clear hz hc
  generalize c.zone.off = o at *
  subst h1
  have hl0 := hb.len
  have HB := Lib.hid hb
  have HS : Hid (BufStep w g w g) := Lib.hid (BufStep.refl w g)
  have HI := Lib.hid hI
  clear hb hI
  by_cases h0 : off = 0
  · subst h0
    have hpl := digs_len120 0 2 (by omega) (by omega)
    have HT2 : Hid ((offsetText 0 true false false : Bytes) = [43] ++ digits 0 2 ++ (digits 0 2)) := by
      show _ = _
      simp [offsetText]
    unfold fr85s
    conv => arg 2; whnf
    go_wp2_with (first
      | (go_at_call 78; refine (appendInt_c _ 2 _ _ _ _ _ HB.out (by omega) (by omega) (by omega) (by omega)).mono ?_; rintro e w1 ⟨g1, n1, cap1, rfl, hb1, hs1⟩; have hl1 := hb1.len; simp only [List.length_append, List.length_singleton] at hl1; have HB := Lib.hid hb1; have HS := Lib.hid (HS.out.trans hs1); clear hb1 hs1)
      | (at_builtin; refine wpList_append_bufL _ rfl _ _ rfl _ _ _ _ rfl HB.out 1 [43] _ rfl rfl rfl (by omega) (by omega) ?_; intro g1 cap1 w1 hb1 hs1; have hl1 := hb1.len; have HB := Lib.hid hb1; have HS := Lib.hid (HS.out.trans hs1); clear hb1 hs1) | (at_builtin; refine wpList_append_bufL _ rfl _ _ rfl _ _ _ _ rfl HB.out 1 [58] _ rfl rfl rfl (by omega) (by omega) ?_; intro g1 cap1 w1 hb1 hs1; have hl1 := hb1.len; have HB := Lib.hid hb1; have HS := Lib.hid (HS.out.trans hs1); clear hb1 hs1))
    all_goals exact HI.out _ _ ⟨g1, _, cap1, ⟨rfl, rfl, rfl, rfl, rfl, rfl, rfl, rfl, rfl, rfl, rfl, rfl, rfl, rfl, rfl, rfl⟩, by (have h := HB.out; rw [HT2.out]; first | exact h | (simp only [List.append_assoc] at h ⊢; exact h)), HS.out⟩
  by_cases hneg : 0 ≤ off
  · obtain ⟨a, HA⟩ : ∃ a, a = off := ⟨_, rfl⟩
    subst HA
    have ha0 : 0 ≤ a := hneg
    have ha1 : a ≤ 86399 := hz1
    obtain ⟨z, HZ⟩ : ∃ z, Hid (z = a / 60) := ⟨_, Lib.hid rfl⟩
    obtain ⟨p, HP⟩ : ∃ p, Hid (p = a / 3600) := ⟨_, Lib.hid rfl⟩
    obtain ⟨q, HQ⟩ : ∃ q, Hid (q = a / 60 % 60) := ⟨_, Lib.hid rfl⟩
    obtain ⟨s1, HS1⟩ : ∃ s1, Hid (s1 = a % 60) := ⟨_, Lib.hid rfl⟩
    have t1 : a.tdiv 60 = z := by rw [HZ.out]; exact Int.tdiv_eq_ediv_of_nonneg (by omega)
    have hzb : 0 ≤ z ∧ z ≤ 1440 := by rw [HZ.out]; omega
    have hpb : 0 ≤ p ∧ p ≤ 24 := by rw [HP.out]; omega
    have hqb : 0 ≤ q ∧ q ≤ 59 := by rw [HQ.out]; omega
    have hsb : 0 ≤ s1 ∧ s1 ≤ 59 := by rw [HS1.out]; omega
    have t2 : z.tdiv 60 = p := by rw [Int.tdiv_eq_ediv_of_nonneg hzb.1, HZ.out, HP.out]; omega
    have t3 : z.tmod 60 = q := by rw [Int.tmod_eq_emod_of_nonneg hzb.1, HZ.out, HQ.out]
    have t4 : a.tmod 60 = s1 := by rw [Int.tmod_eq_emod_of_nonneg (by omega), HS1.out]
    have t5 : z / 60 = p := by rw [HZ.out, HP.out]; omega
    have t6 : z % 60 = q := by rw [HZ.out, HQ.out]
    have t7 : a % 60 = s1 := by rw [HS1.out]
    have hpl := digs_len120 p 2 (by omega) (by omega)
    have hql := digs_len120 q 2 (by omega) (by omega)
    have hsl := digs_len120 s1 2 (by omega) (by omega)
    have t8 : a / 60 = z := by rw [HZ.out]
    have HT2 : Hid ((offsetText a true false false : Bytes) = [43] ++ digits p 2 ++ (digits q 2)) := by
      show _ = _
      simp only [HP.out, HQ.out, HS1.out]
      simp [offsetText, show ¬ a < 0 by omega]
    have hne : (a == 0) = false := by rw [beq_eq_false_iff_ne]; exact h0
    clear HZ HP HQ HS1
    unfold fr85s
    conv => arg 2; whnf
    go_wp2_with (first
      | (go_at_call 78; refine (appendInt_c _ 2 _ _ _ _ _ HB.out (by omega) (by omega) (by omega) (by omega)).mono ?_; rintro e w1 ⟨g1, n1, cap1, rfl, hb1, hs1⟩; have hl1 := hb1.len; simp only [List.length_append, List.length_singleton] at hl1; have HB := Lib.hid hb1; have HS := Lib.hid (HS.out.trans hs1); clear hb1 hs1)
      | (at_builtin; refine wpList_append_bufL _ rfl _ _ rfl _ _ _ _ rfl HB.out 1 [43] _ rfl rfl rfl (by omega) (by omega) ?_; intro g1 cap1 w1 hb1 hs1; have hl1 := hb1.len; have HB := Lib.hid hb1; have HS := Lib.hid (HS.out.trans hs1); clear hb1 hs1) | (at_builtin; refine wpList_append_bufL _ rfl _ _ rfl _ _ _ _ rfl HB.out 1 [58] _ rfl rfl rfl (by omega) (by omega) ?_; intro g1 cap1 w1 hb1 hs1; have hl1 := hb1.len; have HB := Lib.hid hb1; have HS := Lib.hid (HS.out.trans hs1); clear hb1 hs1))
    all_goals exact HI.out _ _ ⟨g1, _, cap1, ⟨rfl, rfl, rfl, rfl, rfl, rfl, rfl, rfl, rfl, rfl, rfl, rfl, rfl, rfl, rfl, rfl⟩, by (have h := HB.out; rw [HT2.out]; first | exact h | (simp only [List.append_assoc] at h ⊢; exact h)), HS.out⟩
  · obtain ⟨a, HA⟩ : ∃ a, Hid (a = -off) := ⟨_, Lib.hid rfl⟩
    have ha0 : 60 ≤ a := by rw [HA.out]; omega
    have ha1 : a ≤ 86399 := by rw [HA.out]; omega
    obtain rfl : off = -a := by rw [HA.out]; omega
    clear HA
    obtain ⟨z, HZ⟩ : ∃ z, Hid (z = a / 60) := ⟨_, Lib.hid rfl⟩
    obtain ⟨p, HP⟩ : ∃ p, Hid (p = a / 3600) := ⟨_, Lib.hid rfl⟩
    obtain ⟨q, HQ⟩ : ∃ q, Hid (q = a / 60 % 60) := ⟨_, Lib.hid rfl⟩
    obtain ⟨s1, HS1⟩ : ∃ s1, Hid (s1 = a % 60) := ⟨_, Lib.hid rfl⟩
    have t1 : (-a).tdiv 60 = -z := by rw [HZ.out, Int.neg_tdiv, Int.tdiv_eq_ediv_of_nonneg (by omega)]
    have hzb : 0 ≤ z ∧ z ≤ 1440 := by rw [HZ.out]; omega
    have hpb : 0 ≤ p ∧ p ≤ 24 := by rw [HP.out]; omega
    have hqb : 0 ≤ q ∧ q ≤ 59 := by rw [HQ.out]; omega
    have hsb : 0 ≤ s1 ∧ s1 ≤ 59 := by rw [HS1.out]; omega
    have t2 : z.tdiv 60 = p := by rw [Int.tdiv_eq_ediv_of_nonneg hzb.1, HZ.out, HP.out]; omega
    have t3 : z.tmod 60 = q := by rw [Int.tmod_eq_emod_of_nonneg hzb.1, HZ.out, HQ.out]
    have t4 : a.tmod 60 = s1 := by rw [Int.tmod_eq_emod_of_nonneg (by omega), HS1.out]
    have t5 : z / 60 = p := by rw [HZ.out, HP.out]; omega
    have t6 : z % 60 = q := by rw [HZ.out, HQ.out]
    have t7 : a % 60 = s1 := by rw [HS1.out]
    have hpl := digs_len120 p 2 (by omega) (by omega)
    have hql := digs_len120 q 2 (by omega) (by omega)
    have hsl := digs_len120 s1 2 (by omega) (by omega)
    have hzp : 1 ≤ z := by rw [HZ.out]; omega
    have HT2 : Hid ((offsetText (-a) true false false : Bytes) = [45] ++ digits p 2 ++ (digits q 2)) := by
      show _ = _
      simp only [HP.out, HQ.out, HS1.out]
      simp [offsetText, show -a < 0 by omega, show 0 < a by omega]
    have hne : (-a == 0) = false := by rw [beq_eq_false_iff_ne]; omega
    clear HZ HP HQ HS1
    unfold fr85s
    conv => arg 2; whnf
    go_wp2_with (first
      | (go_at_call 78; refine (appendInt_c _ 2 _ _ _ _ _ HB.out (by omega) (by omega) (by omega) (by omega)).mono ?_; rintro e w1 ⟨g1, n1, cap1, rfl, hb1, hs1⟩; have hl1 := hb1.len; simp only [List.length_append, List.length_singleton] at hl1; have HB := Lib.hid hb1; have HS := Lib.hid (HS.out.trans hs1); clear hb1 hs1)
      | (at_builtin; refine wpList_append_bufL _ rfl _ _ rfl _ _ _ _ rfl HB.out 1 [45] _ rfl rfl rfl (by omega) (by omega) ?_; intro g1 cap1 w1 hb1 hs1; have hl1 := hb1.len; have HB := Lib.hid hb1; have HS := Lib.hid (HS.out.trans hs1); clear hb1 hs1) | (at_builtin; refine wpList_append_bufL _ rfl _ _ rfl _ _ _ _ rfl HB.out 1 [58] _ rfl rfl rfl (by omega) (by omega) ?_; intro g1 cap1 w1 hb1 hs1; have hl1 := hb1.len; have HB := Lib.hid hb1; have HS := Lib.hid (HS.out.trans hs1); clear hb1 hs1))
    all_goals exact HI.out _ _ ⟨g1, _, cap1, ⟨rfl, rfl, rfl, rfl, rfl, rfl, rfl, rfl, rfl, rfl, rfl, rfl, rfl, rfl, rfl, rfl⟩, by (have h := HB.out; rw [HT2.out]; first | exact h | (simp only [List.append_assoc] at h ⊢; exact h)), HS.out⟩
set_option maxRecDepth 100000 in
set_option maxHeartbeats 4000000 in
theorem tail85_23 : Tail85 32 32 (fun c v _ => v.off = c.zone.off) (fun c => offsetText c.zone.off true false true) := by
  intro c v g n cap l w I Q u hc h1 hvb hb hn hI
  obtain ⟨b, lay, pb, name, off, abs, y, m, d, yd, h, mi, s⟩ := v
  simp only at hvb h1
  subst hvb
  dsimp only at hI
  have hz := znB hc.z
  have hz0 := hz.o0
  have hz1 := hz.o1
  have hzf := hz.far
  clear hz hc
  generalize c.zone.off = o at *
  subst h1
  have hl0 := hb.len
  have HB := Lib.hid hb
  have HS : Hid (BufStep w g w g) := Lib.hid (BufStep.refl w g)
  have HI := Lib.hid hI
  clear hb hI
  by_cases h0 : off = 0
  · subst h0
    have hpl := digs_len120 0 2 (by omega) (by omega)
    have HT2 : Hid ((offsetText 0 true false true : Bytes) = [43] ++ digits 0 2 ++ ([58] ++ digits 0 2)) := by
      show _ = _
      simp [offsetText]
    unfold fr85s
    conv => arg 2; whnf
    go_wp2_with (first
      | (go_at_call 78; refine (appendInt_c _ 2 _ _ _ _ _ HB.out (by omega) (by omega) (by omega) (by omega)).mono ?_; rintro e w1 ⟨g1, n1, cap1, rfl, hb1, hs1⟩; have hl1 := hb1.len; simp only [List.length_append, List.length_singleton] at hl1; have HB := Lib.hid hb1; have HS := Lib.hid (HS.out.trans hs1); clear hb1 hs1)
      | (at_builtin; refine wpList_append_bufL _ rfl _ _ rfl _ _ _ _ rfl HB.out 1 [43] _ rfl rfl rfl (by omega) (by omega) ?_; intro g1 cap1 w1 hb1 hs1; have hl1 := hb1.len; have HB := Lib.hid hb1; have HS := Lib.hid (HS.out.trans hs1); clear hb1 hs1) | (at_builtin; refine wpList_append_bufL _ rfl _ _ rfl _ _ _ _ rfl HB.out 1 [58] _ rfl rfl rfl (by omega) (by omega) ?_; intro g1 cap1 w1 hb1 hs1; have hl1 := hb1.len; have HB := Lib.hid hb1; have HS := Lib.hid (HS.out.trans hs1); clear hb1 hs1))
    all_goals exact HI.out _ _ ⟨g1, _, cap1, ⟨rfl, rfl, rfl, rfl, rfl, rfl, rfl, rfl, rfl, rfl, rfl, rfl, rfl, rfl, rfl, rfl⟩, by (have h := HB.out; rw [HT2.out]; first | exact h | (simp only [List.append_assoc] at h ⊢; exact h)), HS.out⟩
  by_cases hneg : 0 ≤ off
  · obtain ⟨a, HA⟩ : ∃ a, a = off := ⟨_, rfl⟩
    subst HA
    have ha0 : 0 ≤ a := hneg
    have ha1 : a ≤ 86399 := hz1
    obtain ⟨z, HZ⟩ : ∃ z, Hid (z = a / 60) := ⟨_, Lib.hid rfl⟩
    obtain ⟨p, HP⟩ : ∃ p, Hid (p = a / 3600) := ⟨_, Lib.hid rfl⟩
    obtain ⟨q, HQ⟩ : ∃ q, Hid (q = a / 60 % 60) := ⟨_, Lib.hid rfl⟩
    obtain ⟨s1, HS1⟩ : ∃ s1, Hid (s1 = a % 60) := ⟨_, Lib.hid rfl⟩
    have t1 : a.tdiv 60 = z := by rw [HZ.out]; exact Int.tdiv_eq_ediv_of_nonneg (by omega)
    have hzb : 0 ≤ z ∧ z ≤ 1440 := by rw [HZ.out]; omega
    have hpb : 0 ≤ p ∧ p ≤ 24 := by rw [HP.out]; omega
    have hqb : 0 ≤ q ∧ q ≤ 59 := by rw [HQ.out]; omega
    have hsb : 0 ≤ s1 ∧ s1 ≤ 59 := by rw [HS1.out]; omega
    have t2 : z.tdiv 60 = p := by rw [Int.tdiv_eq_ediv_of_nonneg hzb.1, HZ.out, HP.out]; omega
    have t3 : z.tmod 60 = q := by rw [Int.tmod_eq_emod_of_nonneg hzb.1, HZ.out, HQ.out]
    have t4 : a.tmod 60 = s1 := by rw [Int.tmod_eq_emod_of_nonneg (by omega), HS1.out]
    have t5 : z / 60 = p := by rw [HZ.out, HP.out]; omega
    have t6 : z % 60 = q := by rw [HZ.out, HQ.out]
    have t7 : a % 60 = s1 := by rw [HS1.out]
    have hpl := digs_len120 p 2 (by omega) (by omega)
    have hql := digs_len120 q 2 (by omega) (by omega)
    have hsl := digs_len120 s1 2 (by omega) (by omega)
    have t8 : a / 60 = z := by rw [HZ.out]
    have HT2 : Hid ((offsetText a true false true : Bytes) = [43] ++ digits p 2 ++ ([58] ++ digits q 2)) := by
      show _ = _
      simp only [HP.out, HQ.out, HS1.out]
      simp [offsetText, show ¬ a < 0 by omega]
    have hne : (a == 0) = false := by rw [beq_eq_false_iff_ne]; exact h0
    clear HZ HP HQ HS1
    unfold fr85s
    conv => arg 2; whnf
    go_wp2_with (first
      | (go_at_call 78; refine (appendInt_c _ 2 _ _ _ _ _ HB.out (by omega) (by omega) (by omega) (by omega)).mono ?_; rintro e w1 ⟨g1, n1, cap1, rfl, hb1, hs1⟩; have hl1 := hb1.len; simp only [List.length_append, List.length_singleton] at hl1; have HB := Lib.hid hb1; have HS := Lib.hid (HS.out.trans hs1); clear hb1 hs1)
      | (at_builtin; refine wpList_append_bufL _ rfl _ _ rfl _ _ _ _ rfl HB.out 1 [43] _ rfl rfl rfl (by omega) (by omega) ?_; intro g1 cap1 w1 hb1 hs1; have hl1 := hb1.len; have HB := Lib.hid hb1; have HS := Lib.hid (HS.out.trans hs1); clear hb1 hs1) | (at_builtin; refine wpList_append_bufL _ rfl _ _ rfl _ _ _ _ rfl HB.out 1 [58] _ rfl rfl rfl (by omega) (by omega) ?_; intro g1 cap1 w1 hb1 hs1; have hl1 := hb1.len; have HB := Lib.hid hb1; have HS := Lib.hid (HS.out.trans hs1); clear hb1 hs1))
    all_goals exact HI.out _ _ ⟨g1, _, cap1, ⟨rfl, rfl, rfl, rfl, rfl, rfl, rfl, rfl, rfl, rfl, rfl, rfl, rfl, rfl, rfl, rfl⟩, by (have h := HB.out; rw [HT2.out]; first | exact h | (simp only [List.append_assoc] at h ⊢; exact h)), HS.out⟩
  · obtain ⟨a, HA⟩ : ∃ a, Hid (a = -off) := ⟨_, Lib.hid rfl⟩
    have ha0 : 60 ≤ a := by rw [HA.out]; omega
    have ha1 : a ≤ 86399 := by rw [HA.out]; omega
    obtain rfl : off = -a := by rw [HA.out]; omega
    clear HA
    obtain ⟨z, HZ⟩ : ∃ z, Hid (z = a / 60) := ⟨_, Lib.hid rfl⟩
    obtain ⟨p, HP⟩ : ∃ p, Hid (p = a / 3600) := ⟨_, Lib.hid rfl⟩
    obtain ⟨q, HQ⟩ : ∃ q, Hid (q = a / 60 % 60) := ⟨_, Lib.hid rfl⟩
    obtain ⟨s1, HS1⟩ : ∃ s1, Hid (s1 = a % 60) := ⟨_, Lib.hid rfl⟩
    have t1 : (-a).tdiv 60 = -z := by rw [HZ.out, Int.neg_tdiv, Int.tdiv_eq_ediv_of_nonneg (by omega)]
    have hzb : 0 ≤ z ∧ z ≤ 1440 := by rw [HZ.out]; omega
    have hpb : 0 ≤ p ∧ p ≤ 24 := by rw [HP.out]; omega
    have hqb : 0 ≤ q ∧ q ≤ 59 := by rw [HQ.out]; omega
    have hsb : 0 ≤ s1 ∧ s1 ≤ 59 := by rw [HS1.out]; omega
    have t2 : z.tdiv 60 = p := by rw [Int.tdiv_eq_ediv_of_nonneg hzb.1, HZ.out, HP.out]; omega
    have t3 : z.tmod 60 = q := by rw [Int.tmod_eq_emod_of_nonneg hzb.1, HZ.out, HQ.out]
    have t4 : a.tmod 60 = s1 := by rw [Int.tmod_eq_emod_of_nonneg (by omega), HS1.out]
    have t5 : z / 60 = p := by rw [HZ.out, HP.out]; omega
    have t6 : z % 60 = q := by rw [HZ.out, HQ.out]
    have t7 : a % 60 = s1 := by rw [HS1.out]
    have hpl := digs_len120 p 2 (by omega) (by omega)
    have hql := digs_len120 q 2 (by omega) (by omega)
    have hsl := digs_len120 s1 2 (by omega) (by omega)
    have hzp : 1 ≤ z := by rw [HZ.out]; omega
    have HT2 : Hid ((offsetText (-a) true false true : Bytes) = [45] ++ digits p 2 ++ ([58] ++ digits q 2)) := by
      show _ = _
      simp only [HP.out, HQ.out, HS1.out]
      simp [offsetText, show -a < 0 by omega, show 0 < a by omega]
    have hne : (-a == 0) = false := by rw [beq_eq_false_iff_ne]; omega
    clear HZ HP HQ HS1
    unfold fr85s
    conv => arg 2; whnf
    go_wp2_with (first
      | (go_at_call 78; refine (appendInt_c _ 2 _ _ _ _ _ HB.out (by omega) (by omega) (by omega) (by omega)).mono ?_; rintro e w1 ⟨g1, n1, cap1, rfl, hb1, hs1⟩; have hl1 := hb1.len; simp only [List.length_append, List.length_singleton] at hl1; have HB := Lib.hid hb1; have HS := Lib.hid (HS.out.trans hs1); clear hb1 hs1)
      | (at_builtin; refine wpList_append_bufL _ rfl _ _ rfl _ _ _ _ rfl HB.out 1 [45] _ rfl rfl rfl (by omega) (by omega) ?_; intro g1 cap1 w1 hb1 hs1; have hl1 := hb1.len; have HB := Lib.hid hb1; have HS := Lib.hid (HS.out.trans hs1); clear hb1 hs1) | (at_builtin; refine wpList_append_bufL _ rfl _ _ rfl _ _ _ _ rfl HB.out 1 [58] _ rfl rfl rfl (by omega) (by omega) ?_; intro g1 cap1 w1 hb1 hs1; have hl1 := hb1.len; have HB := Lib.hid hb1; have HS := Lib.hid (HS.out.trans hs1); clear hb1 hs1))
    all_goals exact HI.out _ _ ⟨g1, _, cap1, ⟨rfl, rfl, rfl, rfl, rfl, rfl, rfl, rfl, rfl, rfl, rfl, rfl, rfl, rfl, rfl, rfl⟩, by (have h := HB.out; rw [HT2.out]; first | exact h | (simp only [List.append_assoc] at h ⊢; exact h)), HS.out⟩
set_option maxRecDepth 100000 in
set_option maxHeartbeats 4000000 in
theorem tail85_24 : Tail85 31 31 (fun c v _ => v.off = c.zone.off) (fun c => offsetText c.zone.off false false false) := by
  intro c v g n cap l w I Q u hc h1 hvb hb hn hI
  obtain ⟨b, lay, pb, name, off, abs, y, m, d, yd, h, mi, s⟩ := v
  simp only at hvb h1
  subst hvb
  dsimp only at hI
  have hz := znB hc.z
  have hz0 := hz.o0
  have hz1 := hz.o1
  have hzf := hz.far
  clear hz hc
  generalize c.zone.off = o at *
  subst h1
  have hl0 := hb.len
  have HB := Lib.hid hb
  have HS : Hid (BufStep w g w g) := Lib.hid (BufStep.refl w g)
  have HI := Lib.hid hI
  clear hb hI
  by_cases h0 : off = 0
  · subst h0
    have hpl := digs_len120 0 2 (by omega) (by omega)
    have HT2 : Hid ((offsetText 0 false false false : Bytes) = [43] ++ digits 0 2) := by
      show _ = _
      simp [offsetText]
    unfold fr85s
    conv => arg 2; whnf
    go_wp2_with (first
      | (go_at_call 78; refine (appendInt_c _ 2 _ _ _ _ _ HB.out (by omega) (by omega) (by omega) (by omega)).mono ?_; rintro e w1 ⟨g1, n1, cap1, rfl, hb1, hs1⟩; have hl1 := hb1.len; simp only [List.length_append, List.length_singleton] at hl1; have HB := Lib.hid hb1; have HS := Lib.hid (HS.out.trans hs1); clear hb1 hs1)
      | (at_builtin; refine wpList_append_bufL _ rfl _ _ rfl _ _ _ _ rfl HB.out 1 [43] _ rfl rfl rfl (by omega) (by omega) ?_; intro g1 cap1 w1 hb1 hs1; have hl1 := hb1.len; have HB := Lib.hid hb1; have HS := Lib.hid (HS.out.trans hs1); clear hb1 hs1) | (at_builtin; refine wpList_append_bufL _ rfl _ _ rfl _ _ _ _ rfl HB.out 1 [58] _ rfl rfl rfl (by omega) (by omega) ?_; intro g1 cap1 w1 hb1 hs1; have hl1 := hb1.len; have HB := Lib.hid hb1; have HS := Lib.hid (HS.out.trans hs1); clear hb1 hs1))
    all_goals exact HI.out _ _ ⟨g1, _, cap1, ⟨rfl, rfl, rfl, rfl, rfl, rfl, rfl, rfl, rfl, rfl, rfl, rfl, rfl, rfl, rfl, rfl⟩, by (have h := HB.out; rw [HT2.out]; first | exact h | (simp only [List.append_assoc] at h ⊢; exact h)), HS.out⟩
  by_cases hneg : 0 ≤ off
  · obtain ⟨a, HA⟩ : ∃ a, a = off := ⟨_, rfl⟩
    subst HA
    have ha0 : 0 ≤ a := hneg
    have ha1 : a ≤ 86399 := hz1
    obtain ⟨z, HZ⟩ : ∃ z, Hid (z = a / 60) := ⟨_, Lib.hid rfl⟩
    obtain ⟨p, HP⟩ : ∃ p, Hid (p = a / 3600) := ⟨_, Lib.hid rfl⟩
    obtain ⟨q, HQ⟩ : ∃ q, Hid (q = a / 60 % 60) := ⟨_, Lib.hid rfl⟩
    obtain ⟨s1, HS1⟩ : ∃ s1, Hid (s1 = a % 60) := ⟨_, Lib.hid rfl⟩
    have t1 : a.tdiv 60 = z := by rw [HZ.out]; exact Int.tdiv_eq_ediv_of_nonneg (by omega)
    have hzb : 0 ≤ z ∧ z ≤ 1440 := by rw [HZ.out]; omega
    have hpb : 0 ≤ p ∧ p ≤ 24 := by rw [HP.out]; omega
    have hqb : 0 ≤ q ∧ q ≤ 59 := by rw [HQ.out]; omega
    have hsb : 0 ≤ s1 ∧ s1 ≤ 59 := by rw [HS1.out]; omega
    have t2 : z.tdiv 60 = p := by rw [Int.tdiv_eq_ediv_of_nonneg hzb.1, HZ.out, HP.out]; omega
    have t3 : z.tmod 60 = q := by rw [Int.tmod_eq_emod_of_nonneg hzb.1, HZ.out, HQ.out]
    have t4 : a.tmod 60 = s1 := by rw [Int.tmod_eq_emod_of_nonneg (by omega), HS1.out]
    have t5 : z / 60 = p := by rw [HZ.out, HP.out]; omega
    have t6 : z % 60 = q := by rw [HZ.out, HQ.out]
    have t7 : a % 60 = s1 := by rw [HS1.out]
    have hpl := digs_len120 p 2 (by omega) (by omega)
    have hql := digs_len120 q 2 (by omega) (by omega)
    have hsl := digs_len120 s1 2 (by omega) (by omega)
    have t8 : a / 60 = z := by rw [HZ.out]
    have HT2 : Hid ((offsetText a false false false : Bytes) = [43] ++ digits p 2) := by
      show _ = _
      simp only [HP.out, HQ.out, HS1.out]
      simp [offsetText, show ¬ a < 0 by omega]
    have hne : (a == 0) = false := by rw [beq_eq_false_iff_ne]; exact h0
    clear HZ HP HQ HS1
    unfold fr85s
    conv => arg 2; whnf
    go_wp2_with (first
      | (go_at_call 78; refine (appendInt_c _ 2 _ _ _ _ _ HB.out (by omega) (by omega) (by omega) (by omega)).mono ?_; rintro e w1 ⟨g1, n1, cap1, rfl, hb1, hs1⟩; have hl1 := hb1.len; simp only [List.length_append, List.length_singleton] at hl1; have HB := Lib.hid hb1; have HS := Lib.hid (HS.out.trans hs1); clear hb1 hs1)
      | (at_builtin; refine wpList_append_bufL _ rfl _ _ rfl _ _ _ _ rfl HB.out 1 [43] _ rfl rfl rfl (by omega) (by omega) ?_; intro g1 cap1 w1 hb1 hs1; have hl1 := hb1.len; have HB := Lib.hid hb1; have HS := Lib.hid (HS.out.trans hs1); clear hb1 hs1) | (at_builtin; refine wpList_append_bufL _ rfl _ _ rfl _ _ _ _ rfl HB.out 1 [58] _ rfl rfl rfl (by omega) (by omega) ?_; intro g1 cap1 w1 hb1 hs1; have hl1 := hb1.len; have HB := Lib.hid hb1; have HS := Lib.hid (HS.out.trans hs1); clear hb1 hs1))
    all_goals exact HI.out _ _ ⟨g1, _, cap1, ⟨rfl, rfl, rfl, rfl, rfl, rfl, rfl, rfl, rfl, rfl, rfl, rfl, rfl, rfl, rfl, rfl⟩, by (have h := HB.out; rw [HT2.out]; first | exact h | (simp only [List.append_assoc] at h ⊢; exact h)), HS.out⟩
  · obtain ⟨a, HA⟩ : ∃ a, Hid (a = -off) := ⟨_, Lib.hid rfl⟩
    have ha0 : 60 ≤ a := by rw [HA.out]; omega
    have ha1 : a ≤ 86399 := by rw [HA.out]; omega
    obtain rfl : off = -a := by rw [HA.out]; omega
    clear HA
    obtain ⟨z, HZ⟩ : ∃ z, Hid (z = a / 60) := ⟨_, Lib.hid rfl⟩
    obtain ⟨p, HP⟩ : ∃ p, Hid (p = a / 3600) := ⟨_, Lib.hid rfl⟩
    obtain ⟨q, HQ⟩ : ∃ q, Hid (q = a / 60 % 60) := ⟨_, Lib.hid rfl⟩
    obtain ⟨s1, HS1⟩ : ∃ s1, Hid (s1 = a % 60) := ⟨_, Lib.hid rfl⟩
    have t1 : (-a).tdiv 60 = -z := by rw [HZ.out, Int.neg_tdiv, Int.tdiv_eq_ediv_of_nonneg (by omega)]
    have hzb : 0 ≤ z ∧ z ≤ 1440 := by rw [HZ.out]; omega
    have hpb : 0 ≤ p ∧ p ≤ 24 := by rw [HP.out]; omega
    have hqb : 0 ≤ q ∧ q ≤ 59 := by rw [HQ.out]; omega
    have hsb : 0 ≤ s1 ∧ s1 ≤ 59 := by rw [HS1.out]; omega
    have t2 : z.tdiv 60 = p := by rw [Int.tdiv_eq_ediv_of_nonneg hzb.1, HZ.out, HP.out]; omega
    have t3 : z.tmod 60 = q := by rw [Int.tmod_eq_emod_of_nonneg hzb.1, HZ.out, HQ.out]
    have t4 : a.tmod 60 = s1 := by rw [Int.tmod_eq_emod_of_nonneg (by omega), HS1.out]
    have t5 : z / 60 = p := by rw [HZ.out, HP.out]; omega
    have t6 : z % 60 = q := by rw [HZ.out, HQ.out]
    have t7 : a % 60 = s1 := by rw [HS1.out]
    have hpl := digs_len120 p 2 (by omega) (by omega)
    have hql := digs_len120 q 2 (by omega) (by omega)
    have hsl := digs_len120 s1 2 (by omega) (by omega)
    have hzp : 1 ≤ z := by rw [HZ.out]; omega
    have HT2 : Hid ((offsetText (-a) false false false : Bytes) = [45] ++ digits p 2) := by
      show _ = _
      simp only [HP.out, HQ.out, HS1.out]
      simp [offsetText, show -a < 0 by omega, show 0 < a by omega]
    have hne : (-a == 0) = false := by rw [beq_eq_false_iff_ne]; omega
    clear HZ HP HQ HS1
    unfold fr85s
    conv => arg 2; whnf
    go_wp2_with (first
      | (go_at_call 78; refine (appendInt_c _ 2 _ _ _ _ _ HB.out (by omega) (by omega) (by omega) (by omega)).mono ?_; rintro e w1 ⟨g1, n1, cap1, rfl, hb1, hs1⟩; have hl1 := hb1.len; simp only [List.length_append, List.length_singleton] at hl1; have HB := Lib.hid hb1; have HS := Lib.hid (HS.out.trans hs1); clear hb1 hs1)
      | (at_builtin; refine wpList_append_bufL _ rfl _ _ rfl _ _ _ _ rfl HB.out 1 [45] _ rfl rfl rfl (by omega) (by omega) ?_; intro g1 cap1 w1 hb1 hs1; have hl1 := hb1.len; have HB := Lib.hid hb1; have HS := Lib.hid (HS.out.trans hs1); clear hb1 hs1) | (at_builtin; refine wpList_append_bufL _ rfl _ _ rfl _ _ _ _ rfl HB.out 1 [58] _ rfl rfl rfl (by omega) (by omega) ?_; intro g1 cap1 w1 hb1 hs1; have hl1 := hb1.len; have HB := Lib.hid hb1; have HS := Lib.hid (HS.out.trans hs1); clear hb1 hs1))
    all_goals exact HI.out _ _ ⟨g1, _, cap1, ⟨rfl, rfl, rfl, rfl, rfl, rfl, rfl, rfl, rfl, rfl, rfl, rfl, rfl, rfl, rfl, rfl⟩, by (have h := HB.out; rw [HT2.out]; first | exact h | (simp only [List.append_assoc] at h ⊢; exact h)), HS.out⟩
set_option maxRecDepth 100000 in
set_option maxHeartbeats 4000000 in
theorem tail85_25 : Tail85 30 30 (fun c v _ => v.off = c.zone.off) (fun c => offsetText c.zone.off true true false) := by
  intro c v g n cap l w I Q u hc h1 hvb hb hn hI
  obtain ⟨b, lay, pb, name, off, abs, y, m, d, yd, h, mi, s⟩ := v
  simp only at hvb h1
  subst hvb
  dsimp only at hI
  have hz := znB hc.z
  have hz0 := hz.o0
  have hz1 := hz.o1
  have hzf := hz.far
  clear hz hc
  generalize c.zone.off = o at *
  subst h1
  have hl0 := hb.len
  have HB := Lib.hid hb
  have HS : Hid (BufStep w g w g) := Lib.hid (BufStep.refl w g)
  have HI := Lib.hid hI
  clear hb hI
  by_cases h0 : off = 0
  · subst h0
    have hpl := digs_len120 0 2 (by omega) (by omega)
    have HT2 : Hid ((offsetText 0 true true false : Bytes) = [43] ++ digits 0 2 ++ (digits 0 2) ++ (digits 0 2)) := by
      show _ = _
      simp [offsetText]
    unfold fr85s
    conv => arg 2; whnf
    go_wp2_with (first
      | (go_at_call 78; refine (appendInt_c _ 2 _ _ _ _ _ HB.out (by omega) (by omega) (by omega) (by omega)).mono ?_; rintro e w1 ⟨g1, n1, cap1, rfl, hb1, hs1⟩; have hl1 := hb1.len; simp only [List.length_append, List.length_singleton] at hl1; have HB := Lib.hid hb1; have HS := Lib.hid (HS.out.trans hs1); clear hb1 hs1)
      | (at_builtin; refine wpList_append_bufL _ rfl _ _ rfl _ _ _ _ rfl HB.out 1 [43] _ rfl rfl rfl (by omega) (by omega) ?_; intro g1 cap1 w1 hb1 hs1; have hl1 := hb1.len; have HB := Lib.hid hb1; have HS := Lib.hid (HS.out.trans hs1); clear hb1 hs1) | (at_builtin; refine wpList_append_bufL _ rfl _ _ rfl _ _ _ _ rfl HB.out 1 [58] _ rfl rfl rfl (by omega) (by omega) ?_; intro g1 cap1 w1 hb1 hs1; have hl1 := hb1.len; have HB := Lib.hid hb1; have HS := Lib.hid (HS.out.trans hs1); clear hb1 hs1))
    all_goals exact HI.out _ _ ⟨g1, _, cap1, ⟨rfl, rfl, rfl, rfl, rfl, rfl, rfl, rfl, rfl, rfl, rfl, rfl, rfl, rfl, rfl, rfl⟩, by (have h := HB.out; rw [HT2.out]; first | exact h | (simp only [List.append_assoc] at h ⊢; exact h)), HS.out⟩
  by_cases hneg : 0 ≤ off
  · obtain ⟨a, HA⟩ : ∃ a, a = off := ⟨_, rfl⟩
    subst HA
    have ha0 : 0 ≤ a := hneg
    have ha1 : a ≤ 86399 := hz1
    obtain ⟨z, HZ⟩ : ∃ z, Hid (z = a / 60) := ⟨_, Lib.hid rfl⟩
    obtain ⟨p, HP⟩ : ∃ p, Hid (p = a / 3600) := ⟨_, Lib.hid rfl⟩
    obtain ⟨q, HQ⟩ : ∃ q, Hid (q = a / 60 % 60) := ⟨_, Lib.hid rfl⟩
    obtain ⟨s1, HS1⟩ : ∃ s1, Hid (s1 = a % 60) := ⟨_, Lib.hid rfl⟩
    have t1 : a.tdiv 60 = z := by rw [HZ.out]; exact Int.tdiv_eq_ediv_of_nonneg (by omega)
    have hzb : 0 ≤ z ∧ z ≤ 1440 := by rw [HZ.out]; omega
    have hpb : 0 ≤ p ∧ p ≤ 24 := by rw [HP.out]; omega
    have hqb : 0 ≤ q ∧ q ≤ 59 := by rw [HQ.out]; omega
    have hsb : 0 ≤ s1 ∧ s1 ≤ 59 := by rw [HS1.out]; omega
    have t2 : z.tdiv 60 = p := by rw [Int.tdiv_eq_ediv_of_nonneg hzb.1, HZ.out, HP.out]; omega
    have t3 : z.tmod 60 = q := by rw [Int.tmod_eq_emod_of_nonneg hzb.1, HZ.out, HQ.out]
    have t4 : a.tmod 60 = s1 := by rw [Int.tmod_eq_emod_of_nonneg (by omega), HS1.out]
    have t5 : z / 60 = p := by rw [HZ.out, HP.out]; omega
    have t6 : z % 60 = q := by rw [HZ.out, HQ.out]
    have t7 : a % 60 = s1 := by rw [HS1.out]
    have hpl := digs_len120 p 2 (by omega) (by omega)
    have hql := digs_len120 q 2 (by omega) (by omega)
    have hsl := digs_len120 s1 2 (by omega) (by omega)
    have t8 : a / 60 = z := by rw [HZ.out]
    have HT2 : Hid ((offsetText a true true false : Bytes) = [43] ++ digits p 2 ++ (digits q 2) ++ (digits s1 2)) := by
      show _ = _
      simp only [HP.out, HQ.out, HS1.out]
      simp [offsetText, show ¬ a < 0 by omega]
    have hne : (a == 0) = false := by rw [beq_eq_false_iff_ne]; exact h0
    clear HZ HP HQ HS1
    unfold fr85s
    conv => arg 2; whnf
    go_wp2_with (first
      | (go_at_call 78; refine (appendInt_c _ 2 _ _ _ _ _ HB.out (by omega) (by omega) (by omega) (by omega)).mono ?_; rintro e w1 ⟨g1, n1, cap1, rfl, hb1, hs1⟩; have hl1 := hb1.len; simp only [List.length_append, List.length_singleton] at hl1; have HB := Lib.hid hb1; have HS := Lib.hid (HS.out.trans hs1); clear hb1 hs1)
      | (at_builtin; refine wpList_append_bufL _ rfl _ _ rfl _ _ _ _ rfl HB.out 1 [43] _ rfl rfl rfl (by omega) (by omega) ?_; intro g1 cap1 w1 hb1 hs1; have hl1 := hb1.len; have HB := Lib.hid hb1; have HS := Lib.hid (HS.out.trans hs1); clear hb1 hs1) | (at_builtin; refine wpList_append_bufL _ rfl _ _ rfl _ _ _ _ rfl HB.out 1 [58] _ rfl rfl rfl (by omega) (by omega) ?_; intro g1 cap1 w1 hb1 hs1; have hl1 := hb1.len; have HB := Lib.hid hb1; have HS := Lib.hid (HS.out.trans hs1); clear hb1 hs1))
    all_goals exact HI.out _ _ ⟨g1, _, cap1, ⟨rfl, rfl, rfl, rfl, rfl, rfl, rfl, rfl, rfl, rfl, rfl, rfl, rfl, rfl, rfl, rfl⟩, by (have h := HB.out; rw [HT2.out]; first | exact h | (simp only [List.append_assoc] at h ⊢; exact h)), HS.out⟩
  · obtain ⟨a, HA⟩ : ∃ a, Hid (a = -off) := ⟨_, Lib.hid rfl⟩
    have ha0 : 60 ≤ a := by rw [HA.out]; omega
    have ha1 : a ≤ 86399 := by rw [HA.out]; omega
    obtain rfl : off = -a := by rw [HA.out]; omega
    clear HA
    obtain ⟨z, HZ⟩ : ∃ z, Hid (z = a / 60) := ⟨_, Lib.hid rfl⟩
    obtain ⟨p, HP⟩ : ∃ p, Hid (p = a / 3600) := ⟨_, Lib.hid rfl⟩
    obtain ⟨q, HQ⟩ : ∃ q, Hid (q = a / 60 % 60) := ⟨_, Lib.hid rfl⟩
    obtain ⟨s1, HS1⟩ : ∃ s1, Hid (s1 = a % 60) := ⟨_, Lib.hid rfl⟩
    have t1 : (-a).tdiv 60 = -z := by rw [HZ.out, Int.neg_tdiv, Int.tdiv_eq_ediv_of_nonneg (by omega)]
    have hzb : 0 ≤ z ∧ z ≤ 1440 := by rw [HZ.out]; omega
    have hpb : 0 ≤ p ∧ p ≤ 24 := by rw [HP.out]; omega
    have hqb : 0 ≤ q ∧ q ≤ 59 := by rw [HQ.out]; omega
    have hsb : 0 ≤ s1 ∧ s1 ≤ 59 := by rw [HS1.out]; omega
    have t2 : z.tdiv 60 = p := by rw [Int.tdiv_eq_ediv_of_nonneg hzb.1, HZ.out, HP.out]; omega
    have t3 : z.tmod 60 = q := by rw [Int.tmod_eq_emod_of_nonneg hzb.1, HZ.out, HQ.out]
    have t4 : a.tmod 60 = s1 := by rw [Int.tmod_eq_emod_of_nonneg (by omega), HS1.out]
    have t5 : z / 60 = p := by rw [HZ.out, HP.out]; omega
    have t6 : z % 60 = q := by rw [HZ.out, HQ.out]
    have t7 : a % 60 = s1 := by rw [HS1.out]
    have hpl := digs_len120 p 2 (by omega) (by omega)
    have hql := digs_len120 q 2 (by omega) (by omega)
    have hsl := digs_len120 s1 2 (by omega) (by omega)
    have hzp : 1 ≤ z := by rw [HZ.out]; omega
    have HT2 : Hid ((offsetText (-a) true true false : Bytes) = [45] ++ digits p 2 ++ (digits q 2) ++ (digits s1 2)) := by
      show _ = _
      simp only [HP.out, HQ.out, HS1.out]
      simp [offsetText, show -a < 0 by omega, show 0 < a by omega]
    have hne : (-a == 0) = false := by rw [beq_eq_false_iff_ne]; omega
    clear HZ HP HQ HS1
    unfold fr85s
    conv => arg 2; whnf
    go_wp2_with (first
      | (go_at_call 78; refine (appendInt_c _ 2 _ _ _ _ _ HB.out (by omega) (by omega) (by omega) (by omega)).mono ?_; rintro e w1 ⟨g1, n1, cap1, rfl, hb1, hs1⟩; have hl1 := hb1.len; simp only [List.length_append, List.length_singleton] at hl1; have HB := Lib.hid hb1; have HS := Lib.hid (HS.out.trans hs1); clear hb1 hs1)
      | (at_builtin; refine wpList_append_bufL _ rfl _ _ rfl _ _ _ _ rfl HB.out 1 [45] _ rfl rfl rfl (by omega) (by omega) ?_; intro g1 cap1 w1 hb1 hs1; have hl1 := hb1.len; have HB := Lib.hid hb1; have HS := Lib.hid (HS.out.trans hs1); clear hb1 hs1) | (at_builtin; refine wpList_append_bufL _ rfl _ _ rfl _ _ _ _ rfl HB.out 1 [58] _ rfl rfl rfl (by omega) (by omega) ?_; intro g1 cap1 w1 hb1 hs1; have hl1 := hb1.len; have HB := Lib.hid hb1; have HS := Lib.hid (HS.out.trans hs1); clear hb1 hs1))
    all_goals exact HI.out _ _ ⟨g1, _, cap1, ⟨rfl, rfl, rfl, rfl, rfl, rfl, rfl, rfl, rfl, rfl, rfl, rfl, rfl, rfl, rfl, rfl⟩, by (have h := HB.out; rw [HT2.out]; first | exact h | (simp only [List.append_assoc] at h ⊢; exact h)), HS.out⟩
set_option maxRecDepth 100000 in
set_option maxHeartbeats 4000000 in
theorem tail85_26 : Tail85 33 33 (fun c v _ => v.off = c.zone.off) (fun c => offsetText c.zone.off true true true) := by
  intro c v g n cap l w I Q u hc h1 hvb hb hn hI
  obtain ⟨b, lay, pb, name, off, abs, y, m, d, yd, h, mi, s⟩ := v
  simp only at hvb h1
  subst hvb
  dsimp only at hI
  have hz := znB hc.z
  have hz0 := hz.o0
  have hz1 := hz.o1
  have hzf := hz.far
  clear hz hc
  generalize c.zone.off = o at *
  subst h1
  have hl0 := hb.len
  have HB := Lib.hid hb
  have HS : Hid (BufStep w g w g) := Lib.hid (BufStep.refl w g)
  have HI := Lib.hid hI
  clear hb hI
  by_cases h0 : off = 0
  · subst h0
    have hpl := digs_len120 0 2 (by omega) (by omega)
    have HT2 : Hid ((offsetText 0 true true true : Bytes) = [43] ++ digits 0 2 ++ ([58] ++ digits 0 2) ++ ([58] ++ digits 0 2)) := by
      show _ = _
      simp [offsetText]
    unfold fr85s
    conv => arg 2; whnf
    go_wp2_with (first
      | (go_at_call 78; refine (appendInt_c _ 2 _ _ _ _ _ HB.out (by omega) (by omega) (by omega) (by omega)).mono ?_; rintro e w1 ⟨g1, n1, cap1, rfl, hb1, hs1⟩; have hl1 := hb1.len; simp only [List.length_append, List.length_singleton] at hl1; have HB := Lib.hid hb1; have HS := Lib.hid (HS.out.trans hs1); clear hb1 hs1)
      | (at_builtin; refine wpList_append_bufL _ rfl _ _ rfl _ _ _ _ rfl HB.out 1 [43] _ rfl rfl rfl (by omega) (by omega) ?_; intro g1 cap1 w1 hb1 hs1; have hl1 := hb1.len; have HB := Lib.hid hb1; have HS := Lib.hid (HS.out.trans hs1); clear hb1 hs1) | (at_builtin; refine wpList_append_bufL _ rfl _ _ rfl _ _ _ _ rfl HB.out 1 [58] _ rfl rfl rfl (by omega) (by omega) ?_; intro g1 cap1 w1 hb1 hs1; have hl1 := hb1.len; have HB := Lib.hid hb1; have HS := Lib.hid (HS.out.trans hs1); clear hb1 hs1))
    all_goals exact HI.out _ _ ⟨g1, _, cap1, ⟨rfl, rfl, rfl, rfl, rfl, rfl, rfl, rfl, rfl, rfl, rfl, rfl, rfl, rfl, rfl, rfl⟩, by (have h := HB.out; rw [HT2.out]; first | exact h | (simp only [List.append_assoc] at h ⊢; exact h)), HS.out⟩
  by_cases hneg : 0 ≤ off
  · obtain ⟨a, HA⟩ : ∃ a, a = off := ⟨_, rfl⟩
    subst HA
    have ha0 : 0 ≤ a := hneg
    have ha1 : a ≤ 86399 := hz1
    obtain ⟨z, HZ⟩ : ∃ z, Hid (z = a / 60) := ⟨_, Lib.hid rfl⟩
    obtain ⟨p, HP⟩ : ∃ p, Hid (p = a / 3600) := ⟨_, Lib.hid rfl⟩
    obtain ⟨q, HQ⟩ : ∃ q, Hid (q = a / 60 % 60) := ⟨_, Lib.hid rfl⟩
    obtain ⟨s1, HS1⟩ : ∃ s1, Hid (s1 = a % 60) := ⟨_, Lib.hid rfl⟩
    have t1 : a.tdiv 60 = z := by rw [HZ.out]; exact Int.tdiv_eq_ediv_of_nonneg (by omega)
    have hzb : 0 ≤ z ∧ z ≤ 1440 := by rw [HZ.out]; omega
    have hpb : 0 ≤ p ∧ p ≤ 24 := by rw [HP.out]; omega
    have hqb : 0 ≤ q ∧ q ≤ 59 := by rw [HQ.out]; omega
    have hsb : 0 ≤ s1 ∧ s1 ≤ 59 := by rw [HS1.out]; omega
    have t2 : z.tdiv 60 = p := by rw [Int.tdiv_eq_ediv_of_nonneg hzb.1, HZ.out, HP.out]; omega
    have t3 : z.tmod 60 = q := by rw [Int.tmod_eq_emod_of_nonneg hzb.1, HZ.out, HQ.out]
    have t4 : a.tmod 60 = s1 := by rw [Int.tmod_eq_emod_of_nonneg (by omega), HS1.out]
    have t5 : z / 60 = p := by rw [HZ.out, HP.out]; omega
    have t6 : z % 60 = q := by rw [HZ.out, HQ.out]
    have t7 : a % 60 = s1 := by rw [HS1.out]
    have hpl := digs_len120 p 2 (by omega) (by omega)
    have hql := digs_len120 q 2 (by omega) (by omega)
    have hsl := digs_len120 s1 2 (by omega) (by omega)
    have t8 : a / 60 = z := by rw [HZ.out]
    have HT2 : Hid ((offsetText a true true true : Bytes) = [43] ++ digits p 2 ++ ([58] ++ digits q 2) ++ ([58] ++ digits s1 2)) := by
      show _ = _
      simp only [HP.out, HQ.out, HS1.out]
      simp [offsetText, show ¬ a < 0 by omega]
    have hne : (a == 0) = false := by rw [beq_eq_false_iff_ne]; exact h0
    clear HZ HP HQ HS1
    unfold fr85s
    conv => arg 2; whnf
    go_wp2_with (first
      | (go_at_call 78; refine (appendInt_c _ 2 _ _ _ _ _ HB.out (by omega) (by omega) (by omega) (by omega)).mono ?_; rintro e w1 ⟨g1, n1, cap1, rfl, hb1, hs1⟩; have hl1 := hb1.len; simp only [List.length_append, List.length_singleton] at hl1; have HB := Lib.hid hb1; have HS := Lib.hid (HS.out.trans hs1); clear hb1 hs1)
      | (at_builtin; refine wpList_append_bufL _ rfl _ _ rfl _ _ _ _ rfl HB.out 1 [43] _ rfl rfl rfl (by omega) (by omega) ?_; intro g1 cap1 w1 hb1 hs1; have hl1 := hb1.len; have HB := Lib.hid hb1; have HS := Lib.hid (HS.out.trans hs1); clear hb1 hs1) | (at_builtin; refine wpList_append_bufL _ rfl _ _ rfl _ _ _ _ rfl HB.out 1 [58] _ rfl rfl rfl (by omega) (by omega) ?_; intro g1 cap1 w1 hb1 hs1; have hl1 := hb1.len; have HB := Lib.hid hb1; have HS := Lib.hid (HS.out.trans hs1); clear hb1 hs1))
    all_goals exact HI.out _ _ ⟨g1, _, cap1, ⟨rfl, rfl, rfl, rfl, rfl, rfl, rfl, rfl, rfl, rfl, rfl, rfl, rfl, rfl, rfl, rfl⟩, by (have h := HB.out; rw [HT2.out]; first | exact h | (simp only [List.append_assoc] at h ⊢; exact h)), HS.out⟩
  · obtain ⟨a, HA⟩ : ∃ a, Hid (a = -off) := ⟨_, Lib.hid rfl⟩
    have ha0 : 60 ≤ a := by rw [HA.out]; omega
    have ha1 : a ≤ 86399 := by rw [HA.out]; omega
    obtain rfl : off = -a := by rw [HA.out]; omega
    clear HA
    obtain ⟨z, HZ⟩ : ∃ z, Hid (z = a / 60) := ⟨_, Lib.hid rfl⟩
    obtain ⟨p, HP⟩ : ∃ p, Hid (p = a / 3600) := ⟨_, Lib.hid rfl⟩
    obtain ⟨q, HQ⟩ : ∃ q, Hid (q = a / 60 % 60) := ⟨_, Lib.hid rfl⟩
    obtain ⟨s1, HS1⟩ : ∃ s1, Hid (s1 = a % 60) := ⟨_, Lib.hid rfl⟩
    have t1 : (-a).tdiv 60 = -z := by rw [HZ.out, Int.neg_tdiv, Int.tdiv_eq_ediv_of_nonneg (by omega)]
    have hzb : 0 ≤ z ∧ z ≤ 1440 := by rw [HZ.out]; omega
    have hpb : 0 ≤ p ∧ p ≤ 24 := by rw [HP.out]; omega
    have hqb : 0 ≤ q ∧ q ≤ 59 := by rw [HQ.out]; omega
    have hsb : 0 ≤ s1 ∧ s1 ≤ 59 := by rw [HS1.out]; omega
    have t2 : z.tdiv 60 = p := by rw [Int.tdiv_eq_ediv_of_nonneg hzb.1, HZ.out, HP.out]; omega
    have t3 : z.tmod 60 = q := by rw [Int.tmod_eq_emod_of_nonneg hzb.1, HZ.out, HQ.out]
    have t4 : a.tmod 60 = s1 := by rw [Int.tmod_eq_emod_of_nonneg (by omega), HS1.out]
    have t5 : z / 60 = p := by rw [HZ.out, HP.out]; omega
    have t6 : z % 60 = q := by rw [HZ.out, HQ.out]
    have t7 : a % 60 = s1 := by rw [HS1.out]
    have hpl := digs_len120 p 2 (by omega) (by omega)
    have hql := digs_len120 q 2 (by omega) (by omega)
    have hsl := digs_len120 s1 2 (by omega) (by omega)
    have hzp : 1 ≤ z := by rw [HZ.out]; omega
    have HT2 : Hid ((offsetText (-a) true true true : Bytes) = [45] ++ digits p 2 ++ ([58] ++ digits q 2) ++ ([58] ++ digits s1 2)) := by
      show _ = _
      simp only [HP.out, HQ.out, HS1.out]
      simp [offsetText, show -a < 0 by omega, show 0 < a by omega]
    have hne : (-a == 0) = false := by rw [beq_eq_false_iff_ne]; omega
    clear HZ HP HQ HS1
    unfold fr85s
    conv => arg 2; whnf
    go_wp2_with (first
      | (go_at_call 78; refine (appendInt_c _ 2 _ _ _ _ _ HB.out (by omega) (by omega) (by omega) (by omega)).mono ?_; rintro e w1 ⟨g1, n1, cap1, rfl, hb1, hs1⟩; have hl1 := hb1.len; simp only [List.length_append, List.length_singleton] at hl1; have HB := Lib.hid hb1; have HS := Lib.hid (HS.out.trans hs1); clear hb1 hs1)
      | (at_builtin; refine wpList_append_bufL _ rfl _ _ rfl _ _ _ _ rfl HB.out 1 [45] _ rfl rfl rfl (by omega) (by omega) ?_; intro g1 cap1 w1 hb1 hs1; have hl1 := hb1.len; have HB := Lib.hid hb1; have HS := Lib.hid (HS.out.trans hs1); clear hb1 hs1) | (at_builtin; refine wpList_append_bufL _ rfl _ _ rfl _ _ _ _ rfl HB.out 1 [58] _ rfl rfl rfl (by omega) (by omega) ?_; intro g1 cap1 w1 hb1 hs1; have hl1 := hb1.len; have HB := Lib.hid hb1; have HS := Lib.hid (HS.out.trans hs1); clear hb1 hs1))
    all_goals exact HI.out _ _ ⟨g1, _, cap1, ⟨rfl, rfl, rfl, rfl, rfl, rfl, rfl, rfl, rfl, rfl, rfl, rfl, rfl, rfl, rfl, rfl⟩, by (have h := HB.out; rw [HT2.out]; first | exact h | (simp only [List.append_assoc] at h ⊢; exact h)), HS.out⟩
end Go.Proofs.YtndhiemagankeaaGreatDoor
