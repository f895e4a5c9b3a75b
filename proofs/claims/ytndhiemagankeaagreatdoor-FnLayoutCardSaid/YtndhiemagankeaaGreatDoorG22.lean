/-
  FnLayout (the statement: for every list of pieces, every time and every zone the call returns true, and its arguments read afterwards as they did), part 22 of 41. In this part: The walks of package time: what is read of a time.
-/
import Derived.Test.YtndhiemagankeaaGreatDoorG17
import Derived.Test.YtndhiemagankeaaGreatDoorG18
/- The walks of package time: what is read of a time. -/
namespace Go.Proofs.YtndhiemagankeaaGreatDoor
open Go.RowKit
set_option linter.unusedVariables false
set_option linter.unusedSimpArgs false
attribute [local simp] bs_size bs_toList bs_append bs_data bs_extract
theorem absdays_c (a : Int) (w : World) (a0 : 0 ≤ a) (a1 : a < 18446744073709551616) : Calls Tryz.prog 115 #[.int .u64 a] w fun e w' => e = .returned (.int .u64 (a / 86400)) ∧ w' = w := by
  go_enter Tryz.func115, Tryz.ntmps115
  go_wp2
  go_ret
  exact ⟨ret_int (by first | rfl | omega), rfl⟩
theorem clock_c (a : Int) (w : World) (a0 : 0 ≤ a) (a1 : a < 18446744073709551616) : Calls Tryz.prog 117 #[.int .u64 a] w fun e w' => e = .returned (.tuple #[.int .i64 (a % 86400 / 3600), .int .i64 (a % 3600 / 60), .int .i64 (a % 60)]) ∧ w' = w := by
  go_enter Tryz.func117, Tryz.ntmps117
  go_wp2
  go_ret3
  exact ⟨by simp; omega, rfl⟩
theorem weekdayOf_c (a : Int) (w : World) (a0 : 0 ≤ a) (a1 : a < 1000000000000000000) : Calls Tryz.prog 127 #[.int .u64 a] w fun e w' => e = .returned (.int .i64 ((a + 3) % 7)) ∧ w' = w := by
  go_enter Tryz.func127, Tryz.ntmps127
  go_wp2
  go_ret
  exact ⟨ret_int (by first | rfl | omega), rfl⟩
/-- A time that is told as c, at its location. -/
def cext (c : Civ) : Int := extOf c.year c.month c.day c.hour c.minute c.second c.zone.off
def ctv (c : Civ) (lo : Value) : Value := tv c.nano (cext c) lo
def cabs (c : Civ) : Int := absDay c.year c.month c.day * 86400 + (c.hour * 3600 + c.minute * 60 + c.second)
theorem cabs_eq (c : Civ) : cext c + c.zone.off + 9223371966606163200 = cabs c := by unfold cext extOf cabs; omega
/-- A time whose zone may have no name. -/
structure CivW (c : Civ) : Prop where
  y0 : 0 ≤ c.year
  y1 : c.year ≤ 9999
  m0 : 1 ≤ c.month
  m1 : c.month ≤ 12
  d0 : 1 ≤ c.day
  d1 : c.day ≤ days c.year c.month
  h0 : 0 ≤ c.hour
  h1 : c.hour ≤ 23
  n0 : 0 ≤ c.minute
  n1 : c.minute ≤ 59
  s0 : 0 ≤ c.second
  s1 : c.second ≤ 59
  f0 : 0 ≤ c.nano
  f1 : c.nano ≤ 999999999
  o0 : -86399 ≤ c.zone.off
  o1 : c.zone.off ≤ 86399
theorem CivB.w {c : Civ} (h : CivB c) : CivW c :=
  ⟨h.y0, h.y1, h.m0, h.m1, h.d0, h.d1, h.h0, h.h1, h.n0, h.n1, h.s0, h.s1, h.f0, h.f1, (znB h.z).o0, (znB h.z).o1⟩
instance {c : Civ} : Coe (CivB c) (CivW c) := ⟨CivB.w⟩
theorem cabs_bdw {c : Civ} (hc : CivW c) : 0 ≤ cabs c ∧ cabs c < 18446744073709551616 ∧ cabs c / 86400 = absDay c.year c.month c.day ∧ cabs c % 86400 / 3600 = c.hour ∧ cabs c % 3600 / 60 = c.minute ∧ cabs c % 60 = c.second ∧ -1000000000000 ≤ cext c ∧ cext c ≤ 1000000000000 := by
  obtain ⟨y0, y1, m0, m1, d0, d1, h0, h1, n0, n1, s0, s1, f0, f1, o0, o1⟩ := hc
  have hd := days_bd c.year c.month
  obtain ⟨r0, r1⟩ := absDay_rng c.year c.month c.day y0 y1 m0 m1 d0 (by omega)
  unfold cext extOf cabs
  omega
theorem cabs_bd {c : Civ} (hc : CivB c) : 0 ≤ cabs c ∧ cabs c < 18446744073709551616 ∧ cabs c / 86400 = absDay c.year c.month c.day ∧ cabs c % 86400 / 3600 = c.hour ∧ cabs c % 3600 / 60 = c.minute ∧ cabs c % 60 = c.second ∧ -1000000000000 ≤ cext c ∧ cext c ≤ 1000000000000 := cabs_bdw hc.w
section
variable (c : Civ) (lo : Value) (w : World) (hc : CivW c) (H : TimeLoc w lo c.zone)
include hc H
theorem cabsSec_c : Calls Tryz.prog 114 #[ctv c lo] w fun e w' => e = .returned (.int .u64 (cabs c)) ∧ Below w.heap.size w w' := by
  have hb := cabs_bdw hc
  have := absSec_c c.nano (cext c) lo c.zone w hc.f0 hc.f1 hb.2.2.2.2.2.2.1 hb.2.2.2.2.2.2.2 hc.o0 hc.o1 H
  rwa [cabs_eq] at this
theorem clocabs_c : Calls Tryz.prog 122 #[ctv c lo] w fun e w' => e = .returned (.tuple #[S c.zone.name, .int .i64 c.zone.off, .int .u64 (cabs c)]) ∧ Below w.heap.size w w' := by
  have hb := cabs_bdw hc
  have := locabs_c c.nano (cext c) lo c.zone w hc.f0 hc.f1 hb.2.2.2.2.2.2.1 hb.2.2.2.2.2.2.2 hc.o0 hc.o1 H
  rwa [cabs_eq] at this
end
theorem cdays_c (c : Civ) (w : World) (hc : CivW c) : Calls Tryz.prog 115 #[.int .u64 (cabs c)] w fun e w' => e = .returned (.int .u64 (absDay c.year c.month c.day)) ∧ w' = w := by
  have hb := cabs_bdw hc
  have := absdays_c (cabs c) w hb.1 hb.2.1
  rwa [hb.2.2.1] at this
theorem cclock_c (c : Civ) (w : World) (hc : CivW c) : Calls Tryz.prog 117 #[.int .u64 (cabs c)] w fun e w' => e = .returned (.tuple #[.int .i64 c.hour, .int .i64 c.minute, .int .i64 c.second]) ∧ w' = w := by
  have hb := cabs_bdw hc
  have := clock_c (cabs c) w hb.1 hb.2.1
  rwa [hb.2.2.2.1, hb.2.2.2.2.1, hb.2.2.2.2.2.1] at this
section
variable (c : Civ) (lo : Value) (w : World) (hc : CivW c) (H : TimeLoc w lo c.zone)
include hc
theorem Nanosecond_c : Calls Tryz.prog 72 #[ctv c lo] w fun e w' => e = .returned (.int .i64 c.nano) ∧ Below w.heap.size w w' := by
  have hf0 := hc.f0
  have hf1 := hc.f1
  have HN : Hid (∀ b nano ext lo w, 0 ≤ nano → nano ≤ 999999999 → TAt w b nano ext lo → Calls Tryz.prog 113 #[.pointer (some ⟨b, 0, none⟩)] w fun e w' => e = .returned (.int .i32 nano) ∧ w' = w) := fun b nano ext lo w n0 n1 H => nsec_c b nano ext lo w n0 n1 H
  unfold ctv tv
  obtain ⟨x, HX⟩ : ∃ x, Hid (x = cext c) := ⟨_, Lib.hid rfl⟩
  rw [← HX.out]
  clear hc
  go_enter Tryz.func72, Tryz.ntmps72
  go_wp2_with (go_at_call 113; refine (HN.out _ _ _ _ _ hf0 hf1 (TAt.new w c.nano x lo)).mono ?_; rintro e w' ⟨rfl, rfl⟩)
  go_ret
  exact ⟨rfl, below_new _ _⟩
include H
theorem DateOf_c : Calls Tryz.prog 73 #[ctv c lo] w fun e w' => e = .returned (.tuple #[.int .i64 c.year, .int .i64 c.month, .int .i64 c.day]) ∧ Below w.heap.size w w' := by
  have HA : Hid (∀ o, Calls Tryz.prog 114 #[ctv c lo] (w.alloc o) fun e w' => e = .returned (.int .u64 (cabs c)) ∧ Below (w.alloc o).heap.size (w.alloc o) w') := fun o => cabsSec_c c lo _ hc (H.below (below_new _ _))
  have HD := Lib.hid (fun w => cdays_c c w hc)
  have HT := Lib.hid (fun w => date_c c.year c.month c.day w hc.y0 hc.y1 hc.m0 hc.m1 hc.d0 hc.d1)
  unfold ctv tv at HA ⊢
  obtain ⟨x, HX⟩ : ∃ x, Hid (x = cext c) := ⟨_, Lib.hid rfl⟩
  rw [← HX.out] at HA ⊢
  clear hc
  go_enter Tryz.func73, Tryz.ntmps73
  go_wp2_with (first | (go_at_call 114; refine (HA.out _).mono ?_; rintro e w1 ⟨rfl, hb⟩) | (go_at_call 115; refine (HD.out _).mono ?_; rintro e w' ⟨rfl, rfl⟩) | (go_at_call 116; refine (HT.out _).mono ?_; rintro e w' ⟨rfl, rfl⟩))
  go_ret3
  exact ⟨rfl, below_next (below_new _ _) hb⟩
theorem ClockOf_c : Calls Tryz.prog 74 #[ctv c lo] w fun e w' => e = .returned (.tuple #[.int .i64 c.hour, .int .i64 c.minute, .int .i64 c.second]) ∧ Below w.heap.size w w' := by
  have HA : Hid (∀ o, Calls Tryz.prog 114 #[ctv c lo] (w.alloc o) fun e w' => e = .returned (.int .u64 (cabs c)) ∧ Below (w.alloc o).heap.size (w.alloc o) w') := fun o => cabsSec_c c lo _ hc (H.below (below_new _ _))
  have HD := Lib.hid (fun w => cclock_c c w hc)
  unfold ctv tv at HA ⊢
  obtain ⟨x, HX⟩ : ∃ x, Hid (x = cext c) := ⟨_, Lib.hid rfl⟩
  rw [← HX.out] at HA ⊢
  clear hc
  go_enter Tryz.func74, Tryz.ntmps74
  go_wp2_with (first | (go_at_call 114; refine (HA.out _).mono ?_; rintro e w1 ⟨rfl, hb⟩) | (go_at_call 117; refine (HD.out _).mono ?_; rintro e w' ⟨rfl, rfl⟩))
  go_ret3
  exact ⟨rfl, below_next (below_new _ _) hb⟩
end
end Go.Proofs.YtndhiemagankeaaGreatDoor
