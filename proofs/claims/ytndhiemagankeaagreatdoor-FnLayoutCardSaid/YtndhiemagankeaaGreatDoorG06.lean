/-
  FnLayout (the statement: for every list of pieces, every time and every zone the call returns true, and its arguments read afterwards as they did), part 6 of 41. In this part: The walks of package time: the calendar's functions. The walks of package time: a day's year, month and day. The calendar's law: a day's number tells its year, month and day; the walks that tell them.
-/
import Derived.OwnWalk
import Derived.Laws.BitsAllLaws
import Derived.Test.YtndhiemagankeaaGreatDoorG02
/- The walks of package time: the calendar's functions. -/
namespace Go.Proofs.YtndhiemagankeaaGreatDoor
open Go.RowKit
set_option linter.unusedVariables false
set_option linter.unusedSimpArgs false
theorem wraps_i64 (n : Int) (h0 : 0 ≤ n) (h1 : n < 2 ^ 63) : IntKind.i64.wrap n = n := by rw [IntKind.wrap_i64]; omega
theorem wraps_u32 (n : Int) (h0 : 0 ≤ n) (h1 : n < 2 ^ 32) : IntKind.u32.wrap n = n := by rw [IntKind.wrap_u32]; omega
theorem wraps_u64 (n : Int) (h0 : 0 ≤ n) (h1 : n < 2 ^ 64) : IntKind.u64.wrap n = n := by
  simp [IntKind.wrap, IntKind.bits, IntKind.signed]; omega
theorem wrapU (n : Int) : IntKind.u64.wrap n = n % 18446744073709551616 := by simp [IntKind.wrap, IntKind.bits, IntKind.signed]
theorem mask_i64 (i : Nat) (hi : i ≤ 63) (x : Int) (h0 : 0 ≤ x) (h1 : x < 2 ^ 63) : bits .and .i64 x (2 ^ i - 1) = x % 2 ^ i := bits_mask .i64 63 (by decide) wraps_i64 i hi x h0 h1
theorem mask_u32 (i : Nat) (hi : i ≤ 32) (x : Int) (h0 : 0 ≤ x) (h1 : x < 2 ^ 32) : bits .and .u32 x (2 ^ i - 1) = x % 2 ^ i := bits_mask .u32 32 (by decide) wraps_u32 i hi x h0 h1
theorem mask_u64 (i : Nat) (hi : i ≤ 64) (x : Int) (h0 : 0 ≤ x) (h1 : x < 2 ^ 64) : bits .and .u64 x (2 ^ i - 1) = x % 2 ^ i := bits_mask .u64 64 (by decide) wraps_u64 i hi x h0 h1
theorem join_i64 (i : Nat) (x y : Int) (hx0 : 0 ≤ x) (hx : x % 2 ^ i = 0) (hx1 : x < 2 ^ 63) (hy0 : 0 ≤ y) (hy : y < 2 ^ i) (hy1 : y < 2 ^ 63) : bits .or .i64 x y = x + y := bits_join .i64 63 (by decide) wraps_i64 i x y hx0 hx hx1 hy0 hy hy1
theorem isLeap_c (y : Int) (w : World) (h0 : 0 ≤ y) (h1 : y ≤ 1000000) : Calls Tryz.prog 109 #[.int .i64 y] w fun e w' => e = .returned (.bool (leap y)) ∧ w' = w := by
  have a1 : bits .and .i64 y 15 = y % 16 := mask_i64 4 (by decide) y h0 (by omega)
  have a2 : bits .and .i64 y 3 = y % 4 := mask_i64 2 (by decide) y h0 (by omega)
  have a3 : y.tmod 25 = y % 25 := Int.tmod_eq_emod_of_nonneg h0
  by_cases e : y % 25 = 0
  all_goals
    go_enter Tryz.func109, Tryz.ntmps109
    go_wp2
    go_ret
    exact ⟨ret_bool (by rw [Bool.eq_iff_iff]; simp [leap]; omega), rfl⟩
theorem daysBefore_c (m : Int) (w : World) (h0 : 1 ≤ m) (h1 : m ≤ 13) : Calls Tryz.prog 110 #[.int .i64 m] w fun e w' => e = .returned (.int .i64 ((214 * m - 211) / 7 + if 3 ≤ m then -2 else 0)) ∧ w' = w := by
  have a3 : (214 * m - 211).tdiv 7 = (214 * m - 211) / 7 := Int.tdiv_eq_ediv_of_nonneg (by omega)
  by_cases e : 3 ≤ m
  all_goals
    go_enter Tryz.func110, Tryz.ntmps110
    go_wp2
    go_ret
    exact ⟨ret_int (by simp [e]), rfl⟩
theorem and1 (x : Int) (h0 : 0 ≤ x) (h1 : x < 100) : bits .and .i64 x 1 = x % 2 := mask_i64 1 (by decide) x h0 (by omega)
theorem daysIn_c (m y : Int) (w : World) (h0 : 1 ≤ m) (h1 : m ≤ 12) (y0 : 0 ≤ y) (y1 : y ≤ 1000000) : Calls Tryz.prog 89 #[.int .i64 m, .int .i64 y] w fun e w' => e = .returned (.int .i64 (days y m)) ∧ w' = w := by
  have HL := Lib.hid (fun w => isLeap_c y w y0 y1)
  obtain ⟨b, HB⟩ : ∃ b, Hid (leap y = b) := ⟨_, Lib.hid rfl⟩
  simp only [HB.out] at HL
  have hm : m = 1 ∨ m = 2 ∨ m = 3 ∨ m = 4 ∨ m = 5 ∨ m = 6 ∨ m = 7 ∨ m = 8 ∨ m = 9 ∨ m = 10 ∨ m = 11 ∨ m = 12 := by omega
  rcases hm with rfl | rfl | rfl | rfl | rfl | rfl | rfl | rfl | rfl | rfl | rfl | rfl <;> cases b
  all_goals
    go_enter Tryz.func89, Tryz.ntmps89
    go_wp2_with (go_at_call 109; refine (HL.out _).mono ?_; rintro e w' ⟨rfl, rfl⟩)
    go_ret
    exact ⟨ret_int (by first | (simp [days, HB.out]; done) | (rw [and1 _ (by decide) (by decide)]; simp [days] <;> (unfold wrap64; omega))), rfl⟩
theorem norm_c (hi lo base : Int) (w : World) (h0 : 0 ≤ lo) (h1 : lo < base) : Calls Tryz.prog 79 #[.int .i64 hi, .int .i64 lo, .int .i64 base] w fun e w' => e = .returned (.tuple #[.int .i64 hi, .int .i64 lo]) ∧ w' = w := by
  go_enter Tryz.func79, Tryz.ntmps79
  go_wp2
  go_ret2
  exact ⟨rfl, rfl⟩
/-- The number of a day, counted as the package counts. -/
def absDay (y m d : Int) : Int :=
  let j : Int := if m < 3 then 1 else 0
  let a := m + 12 * j
  let u := y - j + 292277022400
  146097 * (u / 100) / 4 + (1461 * (u % 100) / 4 + (979 * a - 2919) / 32) + d - 1
set_option maxHeartbeats 1000000 in
theorem dateToAbsDays_c (y m d : Int) (w : World) (y0 : 0 ≤ y) (y1 : y ≤ 9999) (m0 : 1 ≤ m) (m1 : m ≤ 12) (d0 : 1 ≤ d) (d1 : d ≤ 31) :
    Calls Tryz.prog 80 #[.int .i64 y, .int .i64 m, .int .i64 d] w fun e w' => e = .returned (.int .u64 (absDay y m d)) ∧ w' = w := by
  by_cases e : m < 3
  · have HA : Hid (absDay y m d = 146097 * ((y - 1 + 292277022400) / 100) / 4 + (1461 * ((y - 1 + 292277022400) % 100) / 4 + (979 * (m + 12) - 2919) / 32) + d - 1) := by
      show _ = _; simp [absDay, e]
    rw [HA.out]
    by_cases ey : y = 0
    · go_enter Tryz.func80, Tryz.ntmps80
      go_wp2
      go_ret
      exact ⟨ret_int (by subst ey; simp [wrapU]; omega), rfl⟩
    · have hy : 1 ≤ y := by omega
      go_enter Tryz.func80, Tryz.ntmps80
      go_wp2
      go_ret
      exact ⟨ret_int (by omega), rfl⟩
  · have HA : Hid (absDay y m d = 146097 * ((y + 292277022400) / 100) / 4 + (1461 * ((y + 292277022400) % 100) / 4 + (979 * m - 2919) / 32) + d - 1) := by
      show _ = _; simp [absDay, e]
    rw [HA.out]
    go_enter Tryz.func80, Tryz.ntmps80
    go_wp2
    go_ret
    exact ⟨ret_int (by omega), rfl⟩
end Go.Proofs.YtndhiemagankeaaGreatDoor
/- The walks of package time: a day's year, month and day. -/
namespace Go.Proofs.YtndhiemagankeaaGreatDoor
open Go.RowKit
set_option linter.unusedVariables false
set_option linter.unusedSimpArgs false
theorem or3_u32 (x : Int) (h0 : 0 ≤ x) (h1 : x < 4294967296) : bits .or .u32 x 3 = x / 4 * 4 + 3 := by
  obtain ⟨n, rfl⟩ := Int.eq_ofNat_of_zero_le h0
  rw [show (3 : Int) = ((3 : Nat) : Int) from rfl, u32_or_nat n 3 (by omega) (by decide)]
  have h : n ||| 3 = n / 4 * 4 + 3 := by
    have e : n ||| 3 = 2 ^ 2 * (n / 4) + 3 := by
      rw [Nat.two_pow_add_eq_or_of_lt (by decide)]
      apply Nat.eq_of_testBit_eq
      intro i
      have hx : n = 2 ^ 2 * (n / 4) + n % 4 := by omega
      rw [Nat.testBit_or, Nat.testBit_or]
      by_cases hi : i < 2
      · have : i = 0 ∨ i = 1 := by omega
        rcases this with rfl | rfl <;> simp [Nat.testBit]
      · rw [Nat.testBit_two_pow_mul]
        have h3 : Nat.testBit 3 i = false := by
          apply Nat.testBit_lt_two_pow
          have := Nat.pow_le_pow_right (n := 2) (by decide) (show 2 ≤ i by omega)
          omega
        rw [h3]
        simp only [Bool.or_false]
        have : n / 4 = n >>> 2 := by rw [Nat.shiftRight_eq_div_pow]
        rw [this, Nat.testBit_shiftRight]
        have e2 : 2 + (i - 2) = i := by omega
        rw [e2]
        simp; omega
    omega
  rw [h]
  simp
/-- A day's century, its year there, its day there. -/
def cday (n : Int) : Int := (4 * n + 3) % 146097 / 4 * 4 + 3
def centuryOf (n : Int) : Int := (4 * n + 3) / 146097
def cyearOf (n : Int) : Int := 2939745 * cday n / 4294967296
def aydayOf (n : Int) : Int := 2939745 * cday n % 4294967296 / 2939745 / 4
theorem mul32_c (x y : Int) (w : World) (x0 : 0 ≤ x) (x1 : x < 4294967296) (y0 : 0 ≤ y) (y1 : y < 4294967296) (hb : 0 ≤ x * y ∧ x * y < 18446744073709551616) : Calls Tryz.prog 146 #[.int .u32 x, .int .u32 y] w fun e w' => e = .returned (.tuple #[.int .u32 (x * y / 4294967296), .int .u32 (x * y % 4294967296)]) ∧ w' = w := by
  obtain ⟨p, HP⟩ : ∃ p, Hid (p = x * y) := ⟨_, Lib.hid rfl⟩
  have hp : x * y = p := HP.out.symm
  rw [hp] at hb ⊢
  obtain ⟨b0, b1⟩ := hb
  go_enter Tryz.func146, Tryz.ntmps146
  go_wp2
  go_ret2
  exact ⟨by simp, rfl⟩
theorem split_c (n : Int) (w : World) (n0 : 0 ≤ n) (n1 : n < 1000000000000000000) : Calls Tryz.prog 136 #[.int .u64 n] w fun e w' => e = .returned (.tuple #[.int .u64 (centuryOf n), .int .i64 (cyearOf n), .int .i64 (aydayOf n)]) ∧ w' = w := by
  have hc : 0 ≤ cday n ∧ cday n < 146100 := by unfold cday; omega
  have HM : Hid (∀ w, Calls Tryz.prog 146 #[.int .u32 2939745, .int .u32 (cday n)] w fun e w' => e = .returned (.tuple #[.int .u32 (cyearOf n), .int .u32 (2939745 * cday n % 4294967296)]) ∧ w' = w) := fun w => mul32_c 2939745 (cday n) w (by decide) (by decide) hc.1 (by omega) (by omega)
  have hcy : 0 ≤ cyearOf n ∧ cyearOf n < 1000 := by unfold cyearOf; omega
  rw [show cday n = (4 * n + 3) % 146097 / 4 * 4 + 3 from rfl] at HM
  obtain ⟨hc0, hc1⟩ := hc
  obtain ⟨hy0, hy1⟩ := hcy
  go_enter Tryz.func136, Tryz.ntmps136
  go_wp2_with (go_at_call 146; rw [or3_u32 _ (by omega) (by omega)]; refine (HM.out _).mono ?_; rintro e w' ⟨rfl, rfl⟩)
  go_ret3
  exact ⟨by simp [centuryOf, aydayOf, cday], rfl⟩
theorem yearOf_c (c y j : Int) (w : World) (c0 : 0 ≤ c) (c1 : c < 10000000000000000) (y0 : 0 ≤ y) (y1 : y < 1000) (j0 : 0 ≤ j) (j1 : j ≤ 1) (hc : 2922770224 ≤ c + 1) : Calls Tryz.prog 139 #[.int .u64 c, .int .i64 y, .int .i64 j] w fun e w' => e = .returned (.int .i64 (100 * c - 292277022400 + y + j)) ∧ w' = w := by
  by_cases h : 2922770224 ≤ c
  · go_enter Tryz.func139, Tryz.ntmps139
    go_wp2
    go_ret
    exact ⟨ret_int (by omega), rfl⟩
  · obtain rfl : c = 2922770223 := by omega
    go_enter Tryz.func139, Tryz.ntmps139
    go_wp2
    go_ret
    exact ⟨ret_int (by simp [wrapU, wrap64]; omega), rfl⟩
theorem janFeb_c (a : Int) (w : World) (a0 : 0 ≤ a) (a1 : a < 1000) : Calls Tryz.prog 138 #[.int .i64 a] w fun e w' => e = .returned (.int .i64 (if 306 ≤ a then 1 else 0)) ∧ w' = w := by
  by_cases h : 306 ≤ a
  all_goals
    go_enter Tryz.func138, Tryz.ntmps138
    go_wp2
    go_ret
    exact ⟨ret_int (by simp [h]), rfl⟩
theorem monthOf_c (a j : Int) (w : World) (a0 : 0 ≤ a) (a1 : a < 1000) (j0 : 0 ≤ j) (j1 : j ≤ 1) : Calls Tryz.prog 140 #[.int .i64 a, .int .i64 j] w fun e w' => e = .returned (.int .i64 (a - 12 * j)) ∧ w' = w := by
  go_enter Tryz.func140, Tryz.ntmps140
  go_wp2
  go_ret
  exact ⟨ret_int (by omega), rfl⟩
theorem ysplit_c (a : Int) (w : World) (a0 : 0 ≤ a) (a1 : a < 366) : Calls Tryz.prog 137 #[.int .i64 a] w fun e w' => e = .returned (.tuple #[.int .i64 ((2141 * a + 197913) / 65536), .int .i64 ((2141 * a + 197913) % 65536 / 2141 + 1)]) ∧ w' = w := by
  have hm : bits .and .u32 (2141 * a + 197913) 65535 = (2141 * a + 197913) % 65536 := mask_u32 16 (by decide) _ (by omega) (by omega)
  go_enter Tryz.func137, Tryz.ntmps137
  go_wp2
  go_ret2
  exact ⟨by simp; omega, rfl⟩
theorem leapC_c (c y : Int) (w : World) (c0 : 0 ≤ c) (y0 : 0 ≤ y) (y1 : y < 1000) : Calls Tryz.prog 144 #[.int .u64 c, .int .i64 y] w fun e w' => e = .returned (.int .i64 (if y % 4 = 0 ∧ (y ≠ 0 ∨ c % 4 = 0) then 1 else 0)) ∧ w' = w := by
  have o1 : bits .or .i64 0 0 = 0 := by decide
  have o2 : bits .or .i64 0 1 = 1 := by decide
  have o3 : bits .or .i64 1 0 = 1 := by decide
  have o4 : bits .or .i64 1 1 = 1 := by decide
  have p1 : bits .and .i64 0 0 = 0 := by decide
  have p2 : bits .and .i64 0 1 = 0 := by decide
  have p3 : bits .and .i64 1 0 = 0 := by decide
  have p4 : bits .and .i64 1 1 = 1 := by decide
  have t1 : y.tmod 4 = y % 4 := Int.tmod_eq_emod_of_nonneg y0
  have t2 : c.tmod 4 = c % 4 := Int.tmod_eq_emod_of_nonneg c0
  by_cases h1 : y % 4 = 0 <;> by_cases h2 : y = 0 <;> by_cases h3 : c % 4 = 0
  all_goals first
    | (exfalso; omega)
    | (go_enter Tryz.func144, Tryz.ntmps144
       go_wp2
       go_ret
       exact ⟨ret_int (by simp [h1, h2, h3]), rfl⟩)
theorem ydayOf_c (a j l : Int) (w : World) (a0 : 0 ≤ a) (a1 : a < 1000) (j0 : j = 0 ∨ j = 1) (l0 : l = 0 ∨ l = 1) : Calls Tryz.prog 143 #[.int .i64 a, .int .i64 j, .int .i64 l] w fun e w' => e = .returned (.int .i64 (a + 60 + (if j = 0 then l else 0) - 365 * j)) ∧ w' = w := by
  have p1 : bits .andNot .i64 0 0 = 0 := by decide
  have p2 : bits .andNot .i64 0 1 = 0 := by decide
  have p3 : bits .andNot .i64 1 0 = 1 := by decide
  have p4 : bits .andNot .i64 1 1 = 0 := by decide
  rcases j0 with rfl | rfl <;> rcases l0 with rfl | rfl
  all_goals
    go_enter Tryz.func143, Tryz.ntmps143
    go_wp2
    go_ret
    exact ⟨ret_int (by simp <;> omega), rfl⟩
end Go.Proofs.YtndhiemagankeaaGreatDoor
/- The calendar's law: a day's number tells its year, month and day; the walks that tell them. -/
namespace Go.Proofs.YtndhiemagankeaaGreatDoor
open Go.RowKit
set_option linter.unusedVariables false
set_option linter.unusedSimpArgs false
theorem mod_part (m q r x : Int) (hx : x = m * q + r) (h0 : 0 ≤ r) (h1 : r < m) : x % m = r ∧ x / m = q := by
  subst hx
  have hm : 0 < m := by omega
  constructor
  · rw [Int.add_comm, Int.add_mul_emod_self_left]; exact Int.emod_eq_of_lt h0 h1
  · rw [Int.add_comm, Int.add_mul_ediv_left _ _ (by omega), Int.ediv_eq_zero_of_lt h0 h1]; omega
theorem split_law (C Y a : Int) (Y0 : 0 ≤ Y) (Y1 : Y ≤ 99) (a0 : 0 ≤ a) (a1 : a ≤ 365) (h : a = 365 → Y % 4 = 3 ∧ (Y = 99 → C % 4 = 3)) :
    centuryOf (146097 * C / 4 + (1461 * Y / 4 + a)) = C ∧ cyearOf (146097 * C / 4 + (1461 * Y / 4 + a)) = Y ∧ aydayOf (146097 * C / 4 + (1461 * Y / 4 + a)) = a := by
  obtain ⟨n, hn⟩ : ∃ n, n = 146097 * C / 4 + (1461 * Y / 4 + a) := ⟨_, rfl⟩
  rw [← hn]
  obtain ⟨e, he⟩ : ∃ e, 1461 * Y - Y % 4 = 4 * e := ⟨(1461 * Y - Y % 4) / 4, by omega⟩
  obtain ⟨R, hR⟩ : ∃ R, R = 4 * e - C % 4 + 4 * a + 3 := ⟨_, rfl⟩
  have h1 : 4 * n + 3 = 146097 * C + R := by omega
  obtain ⟨q1, q2⟩ := mod_part 146097 C R (4 * n + 3) h1 (by omega) (by omega)
  have h4 : cday n = 4 * e + 4 * a + 3 := by unfold cday; rw [q1]; omega
  obtain ⟨s, hs⟩ : ∃ s, s = 4 * a + 3 - Y % 4 := ⟨_, rfl⟩
  have h5 : s ≤ 1460 := by omega
  obtain ⟨r1, r2⟩ := mod_part 4294967296 Y (149 * Y + 2939745 * s) (2939745 * cday n) (by rw [h4]; omega) (by omega) (by omega)
  refine ⟨q2, r2, ?_⟩
  unfold aydayOf
  rw [r1]
  obtain ⟨_, t2⟩ := mod_part 2939745 s (149 * Y) (149 * Y + 2939745 * s) (by omega) (by omega) (by omega)
  rw [t2]
  omega
/-- The day of the year that begins with March. -/
def marchDay (m d : Int) : Int := (979 * (if m < 3 then m + 12 else m) - 2919) / 32 + d - 1
def janB (m : Int) : Int := if m < 3 then 1 else 0
theorem leap_iff (y : Int) : leap y = true ↔ (y % 4 = 0 ∧ y % 100 ≠ 0) ∨ y % 400 = 0 := by simp [leap]
theorem days_2 (y : Int) : days y 2 = if leap y = true then 29 else 28 := by simp [days]
theorem days_bd' (y m : Int) : 28 ≤ days y m ∧ days y m ≤ 31 := by
  unfold days
  split
  · split <;> omega
  · split <;> omega
theorem abs_law (y m d : Int) (m0 : 1 ≤ m) (m1 : m ≤ 12) (d0 : 1 ≤ d) (d1 : d ≤ days y m) :
    centuryOf (absDay y m d) = (y - janB m + 292277022400) / 100 ∧ cyearOf (absDay y m d) = (y - janB m + 292277022400) % 100 ∧ aydayOf (absDay y m d) = marchDay m d := by
  have hd := days_bd' y m
  have ha : absDay y m d = 146097 * ((y - janB m + 292277022400) / 100) / 4 + (1461 * ((y - janB m + 292277022400) % 100) / 4 + marchDay m d) := by
    unfold absDay janB marchDay
    by_cases e : m < 3 <;> simp [e] <;> omega
  rw [ha]
  have h2 : m = 2 → d ≤ 29 ∧ (d = 29 → (y % 4 = 0 ∧ y % 100 ≠ 0) ∨ y % 400 = 0) := by
    rintro rfl
    rw [days_2] at d1
    split at d1
    · rename_i hl; exact ⟨by omega, fun _ => (leap_iff y).1 hl⟩
    · exact ⟨by omega, fun _ => by omega⟩
  refine split_law _ _ _ ?_ ?_ ?_ ?_ ?_
  · omega
  · omega
  · unfold marchDay; split <;> omega
  · unfold marchDay
    by_cases e : m = 2
    · have := (h2 e).1; subst e; simp; omega
    · split <;> omega
  · intro h
    have hm : m = 2 ∧ d = 29 := by
      unfold marchDay at h
      by_cases e : m = 2
      · have := (h2 e).1; subst e; simp at h; omega
      · split at h <;> omega
    have hl := (h2 hm.1).2 hm.2
    obtain ⟨rfl, rfl⟩ := hm
    simp only [janB]
    simp only [show ((2 : Int) < 3) = True by simp, if_true]
    omega
/-- The month and day of a day of the year that begins with March. -/
theorem march_law (m d : Int) (m0 : 1 ≤ m) (m1 : m ≤ 12) (d0 : 1 ≤ d) (d1 : d ≤ 31) (h2 : m = 2 → d ≤ 29) (h30 : m = 4 ∨ m = 6 ∨ m = 9 ∨ m = 11 → d ≤ 30) :
    0 ≤ marchDay m d ∧ marchDay m d < 366 ∧ (306 ≤ marchDay m d ↔ m < 3) ∧ (2141 * marchDay m d + 197913) / 65536 = m + 12 * janB m ∧ (2141 * marchDay m d + 197913) % 65536 / 2141 + 1 = d := by
  have hm : m = 1 ∨ m = 2 ∨ m = 3 ∨ m = 4 ∨ m = 5 ∨ m = 6 ∨ m = 7 ∨ m = 8 ∨ m = 9 ∨ m = 10 ∨ m = 11 ∨ m = 12 := by omega
  rcases hm with rfl | rfl | rfl | rfl | rfl | rfl | rfl | rfl | rfl | rfl | rfl | rfl
  all_goals
    simp [marchDay, janB] at h2 h30 ⊢
    omega
theorem yearDay_law (y m d : Int) (m0 : 1 ≤ m) (m1 : m ≤ 12) : yearDay y m d = marchDay m d + 60 + (if m < 3 then -365 else if leap y = true then 1 else 0) := by
  have hm : m = 1 ∨ m = 2 ∨ m = 3 ∨ m = 4 ∨ m = 5 ∨ m = 6 ∨ m = 7 ∨ m = 8 ∨ m = 9 ∨ m = 10 ∨ m = 11 ∨ m = 12 := by omega
  rcases hm with rfl | rfl | rfl | rfl | rfl | rfl | rfl | rfl | rfl | rfl | rfl | rfl
  all_goals
    simp [yearDay, marchDay, days, List.range_succ]
    try split
    all_goals omega
theorem leap_back (y : Int) : leap y = decide ((y + 292277022400) % 100 % 4 = 0 ∧ ((y + 292277022400) % 100 ≠ 0 ∨ (y + 292277022400) / 100 % 4 = 0)) := by
  rw [Bool.eq_iff_iff, leap_iff]
  simp
  omega
section
variable (y m d : Int) (w : World) (y0 : 0 ≤ y) (y1 : y ≤ 9999) (m0 : 1 ≤ m) (m1 : m ≤ 12) (d0 : 1 ≤ d) (d1 : d ≤ days y m)
include y0 y1 m0 m1 d0 d1
theorem absDay_bd : 0 ≤ absDay y m d ∧ absDay y m d < 1000000000000000000 := by
  have := days_bd' y m
  unfold absDay
  by_cases e : m < 3 <;> simp [e] <;> omega
omit y0 y1 in
theorem march_of : 0 ≤ marchDay m d ∧ marchDay m d < 366 ∧ (306 ≤ marchDay m d ↔ m < 3) ∧ (2141 * marchDay m d + 197913) / 65536 = m + 12 * janB m ∧ (2141 * marchDay m d + 197913) % 65536 / 2141 + 1 = d := by
  have hd := days_bd' y m
  refine march_law m d m0 m1 d0 (by omega) (fun e => ?_) (fun e => ?_)
  · subst e; rw [days_2] at d1; split at d1 <;> omega
  · have : days y m = 30 := by unfold days; rcases e with rfl | rfl | rfl | rfl <;> simp
    omega
theorem split_at : Calls Tryz.prog 136 #[.int .u64 (absDay y m d)] w fun e w' => e = .returned (.tuple #[.int .u64 ((y - janB m + 292277022400) / 100), .int .i64 ((y - janB m + 292277022400) % 100), .int .i64 (marchDay m d)]) ∧ w' = w := by
  obtain ⟨b0, b1⟩ := absDay_bd y m d y0 y1 m0 m1 d0 d1
  obtain ⟨l1, l2, l3⟩ := abs_law y m d m0 m1 d0 d1
  have := split_c (absDay y m d) w b0 b1
  rwa [l1, l2, l3] at this
set_option maxHeartbeats 1000000 in
theorem date_c : Calls Tryz.prog 116 #[.int .u64 (absDay y m d)] w fun e w' => e = .returned (.tuple #[.int .i64 y, .int .i64 m, .int .i64 d]) ∧ w' = w := by
  have HS := Lib.hid (fun w => split_at y m d w y0 y1 m0 m1 d0 d1)
  obtain ⟨k0, k1, k2, k3, k4⟩ := march_of y m d m0 m1 d0 d1
  have hj : janB m = if 306 ≤ marchDay m d then 1 else 0 := by unfold janB; by_cases e : m < 3 <;> simp [e, k2]
  have hj2 : janB m = 0 ∨ janB m = 1 := by unfold janB; split <;> simp
  have HM : Hid (∀ w, Calls Tryz.prog 137 #[.int .i64 (marchDay m d)] w fun e w' => e = .returned (.tuple #[.int .i64 (m + 12 * janB m), .int .i64 d]) ∧ w' = w) := fun w => by
    have := ysplit_c (marchDay m d) w k0 k1
    rwa [k3, k4] at this
  have HJ : Hid (∀ w, Calls Tryz.prog 138 #[.int .i64 (marchDay m d)] w fun e w' => e = .returned (.int .i64 (janB m)) ∧ w' = w) := fun w => by
    have := janFeb_c (marchDay m d) w k0 (by omega)
    rwa [← hj] at this
  have HY : Hid (∀ w, Calls Tryz.prog 139 #[.int .u64 ((y - janB m + 292277022400) / 100), .int .i64 ((y - janB m + 292277022400) % 100), .int .i64 (janB m)] w fun e w' => e = .returned (.int .i64 y) ∧ w' = w) := fun w => by
    have := yearOf_c ((y - janB m + 292277022400) / 100) ((y - janB m + 292277022400) % 100) (janB m) w (by omega) (by omega) (by omega) (by omega) (by omega) (by omega) (by omega)
    rwa [show 100 * ((y - janB m + 292277022400) / 100) - 292277022400 + (y - janB m + 292277022400) % 100 + janB m = y by omega] at this
  have HN : Hid (∀ w, Calls Tryz.prog 140 #[.int .i64 (m + 12 * janB m), .int .i64 (janB m)] w fun e w' => e = .returned (.int .i64 m) ∧ w' = w) := fun w => by
    have := monthOf_c (m + 12 * janB m) (janB m) w (by omega) (by omega) (by omega) (by omega)
    rwa [show m + 12 * janB m - 12 * janB m = m by omega] at this
  clear hj
  go_enter Tryz.func116, Tryz.ntmps116
  go_wp2_with (first | (go_at_call 136; refine (HS.out _).mono ?_; rintro e w' ⟨rfl, rfl⟩) | (go_at_call 137; refine (HM.out _).mono ?_; rintro e w' ⟨rfl, rfl⟩) | (go_at_call 138; refine (HJ.out _).mono ?_; rintro e w' ⟨rfl, rfl⟩) | (go_at_call 139; refine (HY.out _).mono ?_; rintro e w' ⟨rfl, rfl⟩) | (go_at_call 140; refine (HN.out _).mono ?_; rintro e w' ⟨rfl, rfl⟩))
  go_ret3
  exact ⟨rfl, rfl⟩
set_option maxHeartbeats 1000000 in
theorem yearYday_c : Calls Tryz.prog 125 #[.int .u64 (absDay y m d)] w fun e w' => e = .returned (.tuple #[.int .i64 y, .int .i64 (yearDay y m d)]) ∧ w' = w := by
  have HS := Lib.hid (fun w => split_at y m d w y0 y1 m0 m1 d0 d1)
  obtain ⟨k0, k1, k2, k3, k4⟩ := march_of y m d m0 m1 d0 d1
  have hj : janB m = if 306 ≤ marchDay m d then 1 else 0 := by unfold janB; by_cases e : m < 3 <;> simp [e, k2]
  have hj2 : janB m = 0 ∨ janB m = 1 := by unfold janB; split <;> simp
  have HJ : Hid (∀ w, Calls Tryz.prog 138 #[.int .i64 (marchDay m d)] w fun e w' => e = .returned (.int .i64 (janB m)) ∧ w' = w) := fun w => by
    have := janFeb_c (marchDay m d) w k0 (by omega)
    rwa [← hj] at this
  have HY : Hid (∀ w, Calls Tryz.prog 139 #[.int .u64 ((y - janB m + 292277022400) / 100), .int .i64 ((y - janB m + 292277022400) % 100), .int .i64 (janB m)] w fun e w' => e = .returned (.int .i64 y) ∧ w' = w) := fun w => by
    have := yearOf_c ((y - janB m + 292277022400) / 100) ((y - janB m + 292277022400) % 100) (janB m) w (by omega) (by omega) (by omega) (by omega) (by omega) (by omega) (by omega)
    rwa [show 100 * ((y - janB m + 292277022400) / 100) - 292277022400 + (y - janB m + 292277022400) % 100 + janB m = y by omega] at this
  obtain ⟨l, HL⟩ : ∃ l : Int, Hid (l = if (y - janB m + 292277022400) % 100 % 4 = 0 ∧ ((y - janB m + 292277022400) % 100 ≠ 0 ∨ (y - janB m + 292277022400) / 100 % 4 = 0) then 1 else 0) := ⟨_, Lib.hid rfl⟩
  have HLC : Hid (∀ w, Calls Tryz.prog 144 #[.int .u64 ((y - janB m + 292277022400) / 100), .int .i64 ((y - janB m + 292277022400) % 100)] w fun e w' => e = .returned (.int .i64 l) ∧ w' = w) := fun w => by
    have := leapC_c ((y - janB m + 292277022400) / 100) ((y - janB m + 292277022400) % 100) w (by omega) (by omega) (by omega)
    rwa [← HL.out] at this
  have hl : l = 0 ∨ l = 1 := by rw [HL.out]; split <;> simp
  have HD : Hid (∀ w, Calls Tryz.prog 143 #[.int .i64 (marchDay m d), .int .i64 (janB m), .int .i64 l] w fun e w' => e = .returned (.int .i64 (yearDay y m d)) ∧ w' = w) := fun w => by
    have := ydayOf_c (marchDay m d) (janB m) l w k0 (by omega) hj2 hl
    have e : marchDay m d + 60 + (if janB m = 0 then l else 0) - 365 * janB m = yearDay y m d := by
      rw [yearDay_law y m d m0 m1]
      unfold janB at HL ⊢
      by_cases e : m < 3
      · simp [e]; omega
      · have h2 := HL.out
        simp only [e, if_false, Int.sub_zero] at h2
        rw [leap_back]
        simp [e, h2]
    rwa [e] at this
  clear hj hl
  go_enter Tryz.func125, Tryz.ntmps125
  go_wp2_with (first | (go_at_call 136; refine (HS.out _).mono ?_; rintro e w' ⟨rfl, rfl⟩) | (go_at_call 138; refine (HJ.out _).mono ?_; rintro e w' ⟨rfl, rfl⟩) | (go_at_call 139; refine (HY.out _).mono ?_; rintro e w' ⟨rfl, rfl⟩) | (go_at_call 144; refine (HLC.out _).mono ?_; rintro e w' ⟨rfl, rfl⟩) | (go_at_call 143; refine (HD.out _).mono ?_; rintro e w' ⟨rfl, rfl⟩))
  go_ret2
  exact ⟨rfl, rfl⟩
end
end Go.Proofs.YtndhiemagankeaaGreatDoor
