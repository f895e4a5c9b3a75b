/-
  FnLayout (the statement: for every list of pieces, every time and every zone the call returns true, and its arguments read afterwards as they did), part 35 of 41. In this part: The walk of package time: a time is read by a layout: days of the year behind the loop. The walk of package time: a time is read by a layout: days of the year behind the loop. The plain law: what the reader makes of its slots behind the loop is what the pieces tell.
-/
import Derived.Test.YtndhiemagankeaaGreatDoorG22
import Derived.Test.YtndhiemagankeaaGreatDoorG34
/- The walk of package time: a time is read by a layout: days of the year behind the loop. -/
namespace Go.Proofs.YtndhiemagankeaaGreatDoor
open Go.RowKit
set_option linter.unusedVariables false
set_option linter.unusedSimpArgs false
attribute [local simp] bs_size bs_toList bs_append bs_data bs_extract
set_option maxRecDepth 100000 in
set_option maxHeartbeats 1000000 in
theorem yday69_Au (v : V69) (x : Int) (f : Int → Int) (h1 : v.yd = x + 1) (x0 : 1 ≤ x) (x1 : x ≤ 365) (hl : leap v.y = true) (hlx : 60 ≤ x) (y0 : 0 ≤ v.y) (y1 : v.y ≤ 9999) (HF : ∀ e w, 1 ≤ e → e ≤ 13 → Calls Tryz.prog 110 #[.int .i64 e] w fun r w' => r = .returned (.int .i64 (f e)) ∧ w' = w) (hB : f ((x - 1) / 31 + 1 + 1) < x) (b0 : 0 ≤ f ((x - 1) / 31 + 1 + 1)) (b1 : f ((x - 1) / 31 + 1 + 1) ≤ 400) (hm : v.m = -1 ∨ v.m = (x - 1) / 31 + 1 + 1) (hd : v.d = -1 ∨ v.d = x - f ((x - 1) / 31 + 1 + 1)) (w : World) (a : Act) (hA : At69 v a) (K : Act → World → Prop) (Qx : Exit → Act → World → Prop) (hK : ∀ a2 n, At69 { v with yd := x, m := (x - 1) / 31 + 1 + 1, d := x - f ((x - 1) / 31 + 1 + 1) } a2 → K a2 (w.drewN n)) :
    (st69 1).wp Tryz.prog (Exit.then K Qx) a w := by
  obtain ⟨u, rfl⟩ := hA.open
  obtain ⟨lay, val, loc, p, am, pm, y, m, d, yd, h, mi, s, ns, z, zo, zn⟩ := v
  simp only at h1 hl y0 y1 hm hd
  subst h1
  have HIL : Hid (∀ w, Calls Tryz.prog 109 #[.int .i64 y] w fun e w' => e = .returned (.bool true) ∧ w' = w) := fun w => by
    have := isLeap_c y w y0 (by omega)
    rwa [hl] at this
  have HDB := Lib.hid HF
  clear hl HF
  have HK := Lib.hid hK
  clear hK hA
  unfold fr69
  conv => arg 2; whnf
  go_wp2_with (first
    | (guard_target =~ Code.wp _ (Code.region _ _ true) _ _ _; go_quiet (fail))
    | (go_at_call 109; refine (HIL.out _).mono ?_; rintro e w1 ⟨rfl, rfl⟩)
    | (go_at_call 110; refine (HDB.out _ _ (by omega) (by omega)).mono ?_; rintro e w1 ⟨rfl, rfl⟩))
  all_goals first | exact HK.out _ 0 ⟨rfl, rfl, rfl, rfl, rfl, rfl, rfl, rfl, rfl, rfl, rfl, rfl, rfl, rfl, rfl, rfl, rfl, rfl, rfl, rfl, rfl, rfl⟩ | exact HK.out _ _ ⟨rfl, rfl, rfl, rfl, rfl, rfl, rfl, rfl, rfl, rfl, rfl, rfl, rfl, rfl, rfl, rfl, rfl, rfl, rfl, rfl, rfl, rfl⟩ | (exfalso; omega)
set_option maxRecDepth 100000 in
set_option maxHeartbeats 1000000 in
theorem yday69_Al (v : V69) (x : Int) (f : Int → Int) (h1 : v.yd = x + 1) (x0 : 1 ≤ x) (x1 : x ≤ 365) (hl : leap v.y = true) (hlx : 60 ≤ x) (y0 : 0 ≤ v.y) (y1 : v.y ≤ 9999) (HF : ∀ e w, 1 ≤ e → e ≤ 13 → Calls Tryz.prog 110 #[.int .i64 e] w fun r w' => r = .returned (.int .i64 (f e)) ∧ w' = w) (hB : ¬ f ((x - 1) / 31 + 1 + 1) < x) (b0 : 0 ≤ f ((x - 1) / 31 + 1)) (b1 : f ((x - 1) / 31 + 1) ≤ 400) (hm : v.m = -1 ∨ v.m = (x - 1) / 31 + 1) (hd : v.d = -1 ∨ v.d = x - f ((x - 1) / 31 + 1)) (w : World) (a : Act) (hA : At69 v a) (K : Act → World → Prop) (Qx : Exit → Act → World → Prop) (hK : ∀ a2 n, At69 { v with yd := x, m := (x - 1) / 31 + 1, d := x - f ((x - 1) / 31 + 1) } a2 → K a2 (w.drewN n)) :
    (st69 1).wp Tryz.prog (Exit.then K Qx) a w := by
  obtain ⟨u, rfl⟩ := hA.open
  obtain ⟨lay, val, loc, p, am, pm, y, m, d, yd, h, mi, s, ns, z, zo, zn⟩ := v
  simp only at h1 hl y0 y1 hm hd
  subst h1
  have HIL : Hid (∀ w, Calls Tryz.prog 109 #[.int .i64 y] w fun e w' => e = .returned (.bool true) ∧ w' = w) := fun w => by
    have := isLeap_c y w y0 (by omega)
    rwa [hl] at this
  have HDB := Lib.hid HF
  clear hl HF
  have HK := Lib.hid hK
  clear hK hA
  unfold fr69
  conv => arg 2; whnf
  go_wp2_with (first
    | (guard_target =~ Code.wp _ (Code.region _ _ true) _ _ _; go_quiet (fail))
    | (go_at_call 109; refine (HIL.out _).mono ?_; rintro e w1 ⟨rfl, rfl⟩)
    | (go_at_call 110; refine (HDB.out _ _ (by omega) (by omega)).mono ?_; rintro e w1 ⟨rfl, rfl⟩))
  all_goals first | exact HK.out _ 0 ⟨rfl, rfl, rfl, rfl, rfl, rfl, rfl, rfl, rfl, rfl, rfl, rfl, rfl, rfl, rfl, rfl, rfl, rfl, rfl, rfl, rfl, rfl⟩ | exact HK.out _ _ ⟨rfl, rfl, rfl, rfl, rfl, rfl, rfl, rfl, rfl, rfl, rfl, rfl, rfl, rfl, rfl, rfl, rfl, rfl, rfl, rfl, rfl, rfl⟩ | (exfalso; omega)
set_option maxRecDepth 100000 in
set_option maxHeartbeats 1000000 in
theorem yday69_Bu (v : V69) (x : Int) (f : Int → Int) (h1 : v.yd = x) (x0 : 1 ≤ x) (x1 : x ≤ 365) (hl : leap v.y = true) (hlx : x < 60) (y0 : 0 ≤ v.y) (y1 : v.y ≤ 9999) (HF : ∀ e w, 1 ≤ e → e ≤ 13 → Calls Tryz.prog 110 #[.int .i64 e] w fun r w' => r = .returned (.int .i64 (f e)) ∧ w' = w) (hB : f ((x - 1) / 31 + 1 + 1) < x) (b0 : 0 ≤ f ((x - 1) / 31 + 1 + 1)) (b1 : f ((x - 1) / 31 + 1 + 1) ≤ 400) (hm : v.m = -1 ∨ v.m = (x - 1) / 31 + 1 + 1) (hd : v.d = -1 ∨ v.d = x - f ((x - 1) / 31 + 1 + 1)) (w : World) (a : Act) (hA : At69 v a) (K : Act → World → Prop) (Qx : Exit → Act → World → Prop) (hK : ∀ a2 n, At69 { v with yd := x, m := (x - 1) / 31 + 1 + 1, d := x - f ((x - 1) / 31 + 1 + 1) } a2 → K a2 (w.drewN n)) :
    (st69 1).wp Tryz.prog (Exit.then K Qx) a w := by
  obtain ⟨u, rfl⟩ := hA.open
  obtain ⟨lay, val, loc, p, am, pm, y, m, d, yd, h, mi, s, ns, z, zo, zn⟩ := v
  simp only at h1 hl y0 y1 hm hd
  subst h1
  have HIL : Hid (∀ w, Calls Tryz.prog 109 #[.int .i64 y] w fun e w' => e = .returned (.bool true) ∧ w' = w) := fun w => by
    have := isLeap_c y w y0 (by omega)
    rwa [hl] at this
  have HDB := Lib.hid HF
  clear hl HF
  have HK := Lib.hid hK
  clear hK hA
  unfold fr69
  conv => arg 2; whnf
  go_wp2_with (first
    | (guard_target =~ Code.wp _ (Code.region _ _ true) _ _ _; go_quiet (fail))
    | (go_at_call 109; refine (HIL.out _).mono ?_; rintro e w1 ⟨rfl, rfl⟩)
    | (go_at_call 110; refine (HDB.out _ _ (by omega) (by omega)).mono ?_; rintro e w1 ⟨rfl, rfl⟩))
  all_goals first | exact HK.out _ 0 ⟨rfl, rfl, rfl, rfl, rfl, rfl, rfl, rfl, rfl, rfl, rfl, rfl, rfl, rfl, rfl, rfl, rfl, rfl, rfl, rfl, rfl, rfl⟩ | exact HK.out _ _ ⟨rfl, rfl, rfl, rfl, rfl, rfl, rfl, rfl, rfl, rfl, rfl, rfl, rfl, rfl, rfl, rfl, rfl, rfl, rfl, rfl, rfl, rfl⟩ | (exfalso; omega)
set_option maxRecDepth 100000 in
set_option maxHeartbeats 1000000 in
theorem yday69_Bl (v : V69) (x : Int) (f : Int → Int) (h1 : v.yd = x) (x0 : 1 ≤ x) (x1 : x ≤ 365) (hl : leap v.y = true) (hlx : x < 60) (y0 : 0 ≤ v.y) (y1 : v.y ≤ 9999) (HF : ∀ e w, 1 ≤ e → e ≤ 13 → Calls Tryz.prog 110 #[.int .i64 e] w fun r w' => r = .returned (.int .i64 (f e)) ∧ w' = w) (hB : ¬ f ((x - 1) / 31 + 1 + 1) < x) (b0 : 0 ≤ f ((x - 1) / 31 + 1)) (b1 : f ((x - 1) / 31 + 1) ≤ 400) (hm : v.m = -1 ∨ v.m = (x - 1) / 31 + 1) (hd : v.d = -1 ∨ v.d = x - f ((x - 1) / 31 + 1)) (w : World) (a : Act) (hA : At69 v a) (K : Act → World → Prop) (Qx : Exit → Act → World → Prop) (hK : ∀ a2 n, At69 { v with yd := x, m := (x - 1) / 31 + 1, d := x - f ((x - 1) / 31 + 1) } a2 → K a2 (w.drewN n)) :
    (st69 1).wp Tryz.prog (Exit.then K Qx) a w := by
  obtain ⟨u, rfl⟩ := hA.open
  obtain ⟨lay, val, loc, p, am, pm, y, m, d, yd, h, mi, s, ns, z, zo, zn⟩ := v
  simp only at h1 hl y0 y1 hm hd
  subst h1
  have HIL : Hid (∀ w, Calls Tryz.prog 109 #[.int .i64 y] w fun e w' => e = .returned (.bool true) ∧ w' = w) := fun w => by
    have := isLeap_c y w y0 (by omega)
    rwa [hl] at this
  have HDB := Lib.hid HF
  clear hl HF
  have HK := Lib.hid hK
  clear hK hA
  unfold fr69
  conv => arg 2; whnf
  go_wp2_with (first
    | (guard_target =~ Code.wp _ (Code.region _ _ true) _ _ _; go_quiet (fail))
    | (go_at_call 109; refine (HIL.out _).mono ?_; rintro e w1 ⟨rfl, rfl⟩)
    | (go_at_call 110; refine (HDB.out _ _ (by omega) (by omega)).mono ?_; rintro e w1 ⟨rfl, rfl⟩))
  all_goals first | exact HK.out _ 0 ⟨rfl, rfl, rfl, rfl, rfl, rfl, rfl, rfl, rfl, rfl, rfl, rfl, rfl, rfl, rfl, rfl, rfl, rfl, rfl, rfl, rfl, rfl⟩ | exact HK.out _ _ ⟨rfl, rfl, rfl, rfl, rfl, rfl, rfl, rfl, rfl, rfl, rfl, rfl, rfl, rfl, rfl, rfl, rfl, rfl, rfl, rfl, rfl, rfl⟩ | (exfalso; omega)
end Go.Proofs.YtndhiemagankeaaGreatDoor
/- The walk of package time: a time is read by a layout: days of the year behind the loop. -/
namespace Go.Proofs.YtndhiemagankeaaGreatDoor
open Go.RowKit
set_option linter.unusedVariables false
set_option linter.unusedSimpArgs false
attribute [local simp] bs_size bs_toList bs_append bs_data bs_extract
set_option maxRecDepth 100000 in
set_option maxHeartbeats 1000000 in
theorem yday69_Cu (v : V69) (x : Int) (f : Int → Int) (h1 : v.yd = x) (x0 : 1 ≤ x) (x1 : x ≤ 365) (hl : leap v.y = false) (y0 : 0 ≤ v.y) (y1 : v.y ≤ 9999) (HF : ∀ e w, 1 ≤ e → e ≤ 13 → Calls Tryz.prog 110 #[.int .i64 e] w fun r w' => r = .returned (.int .i64 (f e)) ∧ w' = w) (hB : f ((x - 1) / 31 + 1 + 1) < x) (b0 : 0 ≤ f ((x - 1) / 31 + 1 + 1)) (b1 : f ((x - 1) / 31 + 1 + 1) ≤ 400) (hm : v.m = -1 ∨ v.m = (x - 1) / 31 + 1 + 1) (hd : v.d = -1 ∨ v.d = x - f ((x - 1) / 31 + 1 + 1)) (w : World) (a : Act) (hA : At69 v a) (K : Act → World → Prop) (Qx : Exit → Act → World → Prop) (hK : ∀ a2 n, At69 { v with yd := x, m := (x - 1) / 31 + 1 + 1, d := x - f ((x - 1) / 31 + 1 + 1) } a2 → K a2 (w.drewN n)) :
    (st69 1).wp Tryz.prog (Exit.then K Qx) a w := by
  obtain ⟨u, rfl⟩ := hA.open
  obtain ⟨lay, val, loc, p, am, pm, y, m, d, yd, h, mi, s, ns, z, zo, zn⟩ := v
  simp only at h1 hl y0 y1 hm hd
  subst h1
  have HIL : Hid (∀ w, Calls Tryz.prog 109 #[.int .i64 y] w fun e w' => e = .returned (.bool false) ∧ w' = w) := fun w => by
    have := isLeap_c y w y0 (by omega)
    rwa [hl] at this
  have HDB := Lib.hid HF
  clear hl HF
  have HK := Lib.hid hK
  clear hK hA
  unfold fr69
  conv => arg 2; whnf
  go_wp2_with (first
    | (guard_target =~ Code.wp _ (Code.region _ _ true) _ _ _; go_quiet (fail))
    | (go_at_call 109; refine (HIL.out _).mono ?_; rintro e w1 ⟨rfl, rfl⟩)
    | (go_at_call 110; refine (HDB.out _ _ (by omega) (by omega)).mono ?_; rintro e w1 ⟨rfl, rfl⟩))
  all_goals first | exact HK.out _ 0 ⟨rfl, rfl, rfl, rfl, rfl, rfl, rfl, rfl, rfl, rfl, rfl, rfl, rfl, rfl, rfl, rfl, rfl, rfl, rfl, rfl, rfl, rfl⟩ | exact HK.out _ _ ⟨rfl, rfl, rfl, rfl, rfl, rfl, rfl, rfl, rfl, rfl, rfl, rfl, rfl, rfl, rfl, rfl, rfl, rfl, rfl, rfl, rfl, rfl⟩ | (exfalso; omega)
set_option maxRecDepth 100000 in
set_option maxHeartbeats 1000000 in
theorem yday69_Cl (v : V69) (x : Int) (f : Int → Int) (h1 : v.yd = x) (x0 : 1 ≤ x) (x1 : x ≤ 365) (hl : leap v.y = false) (y0 : 0 ≤ v.y) (y1 : v.y ≤ 9999) (HF : ∀ e w, 1 ≤ e → e ≤ 13 → Calls Tryz.prog 110 #[.int .i64 e] w fun r w' => r = .returned (.int .i64 (f e)) ∧ w' = w) (hB : ¬ f ((x - 1) / 31 + 1 + 1) < x) (b0 : 0 ≤ f ((x - 1) / 31 + 1)) (b1 : f ((x - 1) / 31 + 1) ≤ 400) (hm : v.m = -1 ∨ v.m = (x - 1) / 31 + 1) (hd : v.d = -1 ∨ v.d = x - f ((x - 1) / 31 + 1)) (w : World) (a : Act) (hA : At69 v a) (K : Act → World → Prop) (Qx : Exit → Act → World → Prop) (hK : ∀ a2 n, At69 { v with yd := x, m := (x - 1) / 31 + 1, d := x - f ((x - 1) / 31 + 1) } a2 → K a2 (w.drewN n)) :
    (st69 1).wp Tryz.prog (Exit.then K Qx) a w := by
  obtain ⟨u, rfl⟩ := hA.open
  obtain ⟨lay, val, loc, p, am, pm, y, m, d, yd, h, mi, s, ns, z, zo, zn⟩ := v
  simp only at h1 hl y0 y1 hm hd
  subst h1
  have HIL : Hid (∀ w, Calls Tryz.prog 109 #[.int .i64 y] w fun e w' => e = .returned (.bool false) ∧ w' = w) := fun w => by
    have := isLeap_c y w y0 (by omega)
    rwa [hl] at this
  have HDB := Lib.hid HF
  clear hl HF
  have HK := Lib.hid hK
  clear hK hA
  unfold fr69
  conv => arg 2; whnf
  go_wp2_with (first
    | (guard_target =~ Code.wp _ (Code.region _ _ true) _ _ _; go_quiet (fail))
    | (go_at_call 109; refine (HIL.out _).mono ?_; rintro e w1 ⟨rfl, rfl⟩)
    | (go_at_call 110; refine (HDB.out _ _ (by omega) (by omega)).mono ?_; rintro e w1 ⟨rfl, rfl⟩))
  all_goals first | exact HK.out _ 0 ⟨rfl, rfl, rfl, rfl, rfl, rfl, rfl, rfl, rfl, rfl, rfl, rfl, rfl, rfl, rfl, rfl, rfl, rfl, rfl, rfl, rfl, rfl⟩ | exact HK.out _ _ ⟨rfl, rfl, rfl, rfl, rfl, rfl, rfl, rfl, rfl, rfl, rfl, rfl, rfl, rfl, rfl, rfl, rfl, rfl, rfl, rfl, rfl, rfl⟩ | (exfalso; omega)
end Go.Proofs.YtndhiemagankeaaGreatDoor
/- The plain law: what the reader makes of its slots behind the loop is what the pieces tell. -/
namespace Go.Proofs.YtndhiemagankeaaGreatDoor
open Go.RowKit
set_option linter.unusedVariables false
set_option linter.unusedSimpArgs false
def dbf (e : Int) : Int := (214 * e - 211) / 7 + if 3 ≤ e then -2 else 0
/-- A day of a year without its leap day: the month and the day. -/
theorem month_law (m d x : Int) (m0 : 1 ≤ m) (m1 : m ≤ 12) (d0 : 1 ≤ d) (h : d ≤ dbf (m + 1) - dbf m) (hx : x = dbf m + d) :
    1 ≤ x ∧ x ≤ 365 ∧ ((dbf ((x - 1) / 31 + 1 + 1) < x ∧ m = (x - 1) / 31 + 1 + 1) ∨ (¬ dbf ((x - 1) / 31 + 1 + 1) < x ∧ m = (x - 1) / 31 + 1)) := by
  have hm : m = 1 ∨ m = 2 ∨ m = 3 ∨ m = 4 ∨ m = 5 ∨ m = 6 ∨ m = 7 ∨ m = 8 ∨ m = 9 ∨ m = 10 ∨ m = 11 ∨ m = 12 := by omega
  obtain ⟨q, hq⟩ : ∃ q, q = (x - 1) / 31 := ⟨_, rfl⟩
  rw [← hq]
  rcases hm with rfl | rfl | rfl | rfl | rfl | rfl | rfl | rfl | rfl | rfl | rfl | rfl
  · have e1 : dbf 1 = 0 := rfl
    have e2 : dbf (1 + 1) = 31 := rfl
    rw [e2, e1] at h
    rw [e1] at hx
    have hq2 : q = 0 := by omega
    subst hq2
    have e3 : dbf (0 + 1 + 1) = 31 := rfl
    rw [e3]
    omega
  · have e1 : dbf 2 = 31 := rfl
    have e2 : dbf (2 + 1) = 59 := rfl
    rw [e2, e1] at h
    rw [e1] at hx
    have hq2 : q = 1 := by omega
    subst hq2
    have e3 : dbf (1 + 1 + 1) = 59 := rfl
    rw [e3]
    omega
  · have e1 : dbf 3 = 59 := rfl
    have e2 : dbf (3 + 1) = 90 := rfl
    rw [e2, e1] at h
    rw [e1] at hx
    have hq2 : q = 1 ∨ q = 2 := by omega
    rcases hq2 with rfl | rfl
    · have e3 : dbf (1 + 1 + 1) = 59 := rfl
      rw [e3]
      omega
    · have e3 : dbf (2 + 1 + 1) = 90 := rfl
      rw [e3]
      omega
  · have e1 : dbf 4 = 90 := rfl
    have e2 : dbf (4 + 1) = 120 := rfl
    rw [e2, e1] at h
    rw [e1] at hx
    have hq2 : q = 2 ∨ q = 3 := by omega
    rcases hq2 with rfl | rfl
    · have e3 : dbf (2 + 1 + 1) = 90 := rfl
      rw [e3]
      omega
    · have e3 : dbf (3 + 1 + 1) = 120 := rfl
      rw [e3]
      omega
  · have e1 : dbf 5 = 120 := rfl
    have e2 : dbf (5 + 1) = 151 := rfl
    rw [e2, e1] at h
    rw [e1] at hx
    have hq2 : q = 3 ∨ q = 4 := by omega
    rcases hq2 with rfl | rfl
    · have e3 : dbf (3 + 1 + 1) = 120 := rfl
      rw [e3]
      omega
    · have e3 : dbf (4 + 1 + 1) = 151 := rfl
      rw [e3]
      omega
  · have e1 : dbf 6 = 151 := rfl
    have e2 : dbf (6 + 1) = 181 := rfl
    rw [e2, e1] at h
    rw [e1] at hx
    have hq2 : q = 4 ∨ q = 5 := by omega
    rcases hq2 with rfl | rfl
    · have e3 : dbf (4 + 1 + 1) = 151 := rfl
      rw [e3]
      omega
    · have e3 : dbf (5 + 1 + 1) = 181 := rfl
      rw [e3]
      omega
  · have e1 : dbf 7 = 181 := rfl
    have e2 : dbf (7 + 1) = 212 := rfl
    rw [e2, e1] at h
    rw [e1] at hx
    have hq2 : q = 5 ∨ q = 6 := by omega
    rcases hq2 with rfl | rfl
    · have e3 : dbf (5 + 1 + 1) = 181 := rfl
      rw [e3]
      omega
    · have e3 : dbf (6 + 1 + 1) = 212 := rfl
      rw [e3]
      omega
  · have e1 : dbf 8 = 212 := rfl
    have e2 : dbf (8 + 1) = 243 := rfl
    rw [e2, e1] at h
    rw [e1] at hx
    have hq2 : q = 6 ∨ q = 7 := by omega
    rcases hq2 with rfl | rfl
    · have e3 : dbf (6 + 1 + 1) = 212 := rfl
      rw [e3]
      omega
    · have e3 : dbf (7 + 1 + 1) = 243 := rfl
      rw [e3]
      omega
  · have e1 : dbf 9 = 243 := rfl
    have e2 : dbf (9 + 1) = 273 := rfl
    rw [e2, e1] at h
    rw [e1] at hx
    have hq2 : q = 7 ∨ q = 8 := by omega
    rcases hq2 with rfl | rfl
    · have e3 : dbf (7 + 1 + 1) = 243 := rfl
      rw [e3]
      omega
    · have e3 : dbf (8 + 1 + 1) = 273 := rfl
      rw [e3]
      omega
  · have e1 : dbf 10 = 273 := rfl
    have e2 : dbf (10 + 1) = 304 := rfl
    rw [e2, e1] at h
    rw [e1] at hx
    have hq2 : q = 8 ∨ q = 9 := by omega
    rcases hq2 with rfl | rfl
    · have e3 : dbf (8 + 1 + 1) = 273 := rfl
      rw [e3]
      omega
    · have e3 : dbf (9 + 1 + 1) = 304 := rfl
      rw [e3]
      omega
  · have e1 : dbf 11 = 304 := rfl
    have e2 : dbf (11 + 1) = 334 := rfl
    rw [e2, e1] at h
    rw [e1] at hx
    have hq2 : q = 9 ∨ q = 10 := by omega
    rcases hq2 with rfl | rfl
    · have e3 : dbf (9 + 1 + 1) = 304 := rfl
      rw [e3]
      omega
    · have e3 : dbf (10 + 1 + 1) = 334 := rfl
      rw [e3]
      omega
  · have e1 : dbf 12 = 334 := rfl
    have e2 : dbf (12 + 1) = 365 := rfl
    rw [e2, e1] at h
    rw [e1] at hx
    have hq2 : q = 10 ∨ q = 11 := by omega
    rcases hq2 with rfl | rfl
    · have e3 : dbf (10 + 1 + 1) = 334 := rfl
      rw [e3]
      omega
    · have e3 : dbf (11 + 1 + 1) = 365 := rfl
      rw [e3]
      omega
/-- A day of the year, its number without the leap day. -/
theorem yearDay_dbf (y m d : Int) (m0 : 1 ≤ m) (m1 : m ≤ 12) (d0 : 1 ≤ d) (d1 : d ≤ days y m) :
    (leap y = true ∧ m = 2 ∧ d = 29 ∧ yearDay y m d = 60) ∨
    (d ≤ dbf (m + 1) - dbf m ∧ ((leap y = true ∧ 60 ≤ dbf m + d ∧ yearDay y m d = dbf m + d + 1) ∨ (leap y = true ∧ dbf m + d < 60 ∧ yearDay y m d = dbf m + d) ∨ (leap y = false ∧ yearDay y m d = dbf m + d))) := by
  have hl := yearDay_law y m d m0 m1
  have hm : m = 1 ∨ m = 2 ∨ m = 3 ∨ m = 4 ∨ m = 5 ∨ m = 6 ∨ m = 7 ∨ m = 8 ∨ m = 9 ∨ m = 10 ∨ m = 11 ∨ m = 12 := by omega
  unfold marchDay at hl
  rcases hm with rfl | rfl | rfl | rfl | rfl | rfl | rfl | rfl | rfl | rfl | rfl | rfl
  · have e1 : dbf 1 = 0 := rfl
    have e2 : dbf (1 + 1) = 31 := rfl
    rw [e1, e2]
    have e3 : days y 1 = 31 := rfl
    rw [e3] at d1
    cases hlp : leap y
    all_goals
      simp [hlp] at hl
      simp
      omega
  · have e1 : dbf 2 = 31 := rfl
    have e2 : dbf (2 + 1) = 59 := rfl
    rw [e1, e2]
    rw [days_2] at d1
    cases hlp : leap y
    all_goals
      simp [hlp] at hl d1
      simp
      omega
  · have e1 : dbf 3 = 59 := rfl
    have e2 : dbf (3 + 1) = 90 := rfl
    rw [e1, e2]
    have e3 : days y 3 = 31 := rfl
    rw [e3] at d1
    cases hlp : leap y
    all_goals
      simp [hlp] at hl
      simp
      omega
  · have e1 : dbf 4 = 90 := rfl
    have e2 : dbf (4 + 1) = 120 := rfl
    rw [e1, e2]
    have e3 : days y 4 = 30 := rfl
    rw [e3] at d1
    cases hlp : leap y
    all_goals
      simp [hlp] at hl
      simp
      omega
  · have e1 : dbf 5 = 120 := rfl
    have e2 : dbf (5 + 1) = 151 := rfl
    rw [e1, e2]
    have e3 : days y 5 = 31 := rfl
    rw [e3] at d1
    cases hlp : leap y
    all_goals
      simp [hlp] at hl
      simp
      omega
  · have e1 : dbf 6 = 151 := rfl
    have e2 : dbf (6 + 1) = 181 := rfl
    rw [e1, e2]
    have e3 : days y 6 = 30 := rfl
    rw [e3] at d1
    cases hlp : leap y
    all_goals
      simp [hlp] at hl
      simp
      omega
  · have e1 : dbf 7 = 181 := rfl
    have e2 : dbf (7 + 1) = 212 := rfl
    rw [e1, e2]
    have e3 : days y 7 = 31 := rfl
    rw [e3] at d1
    cases hlp : leap y
    all_goals
      simp [hlp] at hl
      simp
      omega
  · have e1 : dbf 8 = 212 := rfl
    have e2 : dbf (8 + 1) = 243 := rfl
    rw [e1, e2]
    have e3 : days y 8 = 31 := rfl
    rw [e3] at d1
    cases hlp : leap y
    all_goals
      simp [hlp] at hl
      simp
      omega
  · have e1 : dbf 9 = 243 := rfl
    have e2 : dbf (9 + 1) = 273 := rfl
    rw [e1, e2]
    have e3 : days y 9 = 30 := rfl
    rw [e3] at d1
    cases hlp : leap y
    all_goals
      simp [hlp] at hl
      simp
      omega
  · have e1 : dbf 10 = 273 := rfl
    have e2 : dbf (10 + 1) = 304 := rfl
    rw [e1, e2]
    have e3 : days y 10 = 31 := rfl
    rw [e3] at d1
    cases hlp : leap y
    all_goals
      simp [hlp] at hl
      simp
      omega
  · have e1 : dbf 11 = 304 := rfl
    have e2 : dbf (11 + 1) = 334 := rfl
    rw [e1, e2]
    have e3 : days y 11 = 30 := rfl
    rw [e3] at d1
    cases hlp : leap y
    all_goals
      simp [hlp] at hl
      simp
      omega
  · have e1 : dbf 12 = 334 := rfl
    have e2 : dbf (12 + 1) = 365 := rfl
    rw [e1, e2]
    have e3 : days y 12 = 31 := rfl
    rw [e3] at d1
    cases hlp : leap y
    all_goals
      simp [hlp] at hl
      simp
      omega
theorem days_more (y m : Int) : days y m ≤ days 0 m := by
  unfold days
  have : leap 0 = true := by decide
  rw [this]
  split
  · split <;> simp
  · exact Int.le_refl _
/-- The day that is told is a day. -/
theorem told_day (ps : List Pc) (c : Civ) (z : Zn) (hc : CivB c) : 1 ≤ (told ps c z).day ∧ (told ps c z).day ≤ days (told ps c z).year (told ps c z).month := by
  have h1 := hc.d0
  have h2 := hc.d1
  have h3 := days_more c.year c.month
  have h4 := days_bd' c.year c.month
  have h5 : days c.year 1 = 31 := rfl
  have h6 : days 0 1 = 31 := rfl
  have h7 := days_bd' 0 c.month
  unfold told
  simp only
  split <;> split <;> split <;> omega
theorem cut_bd (n : Int) (k : Nat) (h0 : 0 ≤ n) (h1 : n ≤ 999999999) : 0 ≤ cut n k ∧ cut n k ≤ 999999999 := by
  unfold cut
  have hp := power_pos (9 - k)
  have h2 : 0 ≤ n / power (9 - k) := Int.ediv_nonneg h0 (by omega)
  have h3 : n / power (9 - k) * power (9 - k) ≤ n := Int.ediv_mul_le n (by omega)
  refine ⟨Int.mul_nonneg h2 (by omega), by omega⟩
/-- The numbers that are told are those of a time. -/
theorem told_w (ps : List Pc) (c : Civ) (z : Zn) (nm : Bytes) (hc : CivB c) (hz : ZnB z) : CivW { told ps c z with zone := { name := nm, off := (told ps c z).zone.off } } := by
  obtain ⟨t1, t2⟩ := told_day ps c z hc
  obtain ⟨f0, f1⟩ := cut_bd c.nano (digitsN ps).toNat hc.f0 hc.f1
  have hcz := znB hc.z
  have y0 := hc.y0
  have y1 := hc.y1
  have m0 := hc.m0
  have m1 := hc.m1
  have h0 := hc.h0
  have h1 := hc.h1
  have n0 := hc.n0
  have n1 := hc.n1
  have s0 := hc.s0
  have s1 := hc.s1
  have o0 := hcz.o0
  have o1 := hcz.o1
  have p0 := hz.o0
  have p1 := hz.o1
  refine ⟨?_, ?_, ?_, ?_, t1, t2, ?_, ?_, ?_, ?_, ?_, ?_, f0, f1, ?_, ?_⟩
  all_goals
    unfold told
    simp only
    (repeat' split) <;> (try simp only) <;> omega
end Go.Proofs.YtndhiemagankeaaGreatDoor
