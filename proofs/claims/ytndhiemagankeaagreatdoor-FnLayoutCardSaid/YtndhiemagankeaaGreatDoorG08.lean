/-
  FnLayout (the statement: for every list of pieces, every time and every zone the call returns true, and its arguments read afterwards as they did), part 8 of 41. In this part: The walks of the reference: numbers as digits. The walks of the reference: fractions, offsets, names of days and months, days of the year. The walks of the reference: names, days of the year, days of the week.
-/
import Derived.Laws.IdiomStrings
import Derived.Test.YtndhiemagankeaaGreatDoorG04
/- The walks of the reference: numbers as digits. -/
namespace Go.Proofs.YtndhiemagankeaaGreatDoor
open Go.RowKit
set_option linter.unusedVariables false
set_option linter.unusedSimpArgs false
attribute [local simp] bs_size bs_toList bs_append
theorem dec_step (n : Int) (h : 0 ≤ n) : dec n = (if n / 10 = 0 then [] else dec (n / 10)) ++ [digB (n % 10)] := by
  obtain ⟨k, rfl⟩ := Int.eq_ofNat_of_zero_le h
  unfold dec
  rw [Int.toNat_natCast, show ((k : Int) / 10).toNat = k / 10 by omega]
  conv => lhs; rw [decN]
  by_cases hk : k < 10
  · rw [dif_pos hk, if_pos (by omega), show ((k : Int) % 10) = (k : Int) by omega]; rfl
  · rw [dif_neg hk, if_neg (by omega)]; rfl
theorem conv1 (w : World) (x : Int) (h0 : 0 ≤ x) (h1 : x < 256) : (convert 69 9 (.slice (some ⟨w.heap.size, 0, none⟩) 1 1)).run Tryz.prog (w.alloc (.cells #[.int .u8 x] 5)) = .ok (S [UInt8.ofNat x.toNat]) (w.alloc (.cells #[.int .u8 x] 5)) := by
  refine run_convert_bytes_back (P := Tryz.prog) (w.alloc (.cells #[.int .u8 x] 5)) 69 9 5 ⟨w.heap.size, 0, none⟩ 1 [UInt8.ofNat x.toNat] Tryz.underlying69 Tryz.underlying5 Tryz.underlying9 ?_
  intro j hj
  obtain rfl : j = 0 := by simpa using hj
  have e : (((UInt8.ofNat x.toNat).toNat : Nat) : Int) = x := by
    rw [UInt8.toNat_ofNat', Nat.mod_eq_of_lt (by omega)]; omega
  have e2 : max x 0 % 256 = x := by omega
  simp [e, e2, Addr.add]
theorem decN_len (k n : Nat) (h : n < 10 ^ k) : (decN n).length ≤ max k 1 := by
  induction k generalizing n with
  | zero =>
    have h1 : n < 1 := by simpa using h
    rw [decN, dif_pos (by omega)]
    simp
  | succ k ih =>
    rw [decN]
    by_cases hn : n < 10
    · rw [dif_pos hn]; simp <;> omega
    · rw [dif_neg hn, List.length_append]
      have := ih (n / 10) (by rw [Nat.pow_succ] at h; omega)
      have hk : 1 ≤ k := by
        cases k with
        | zero => simp at h; omega
        | succ k => omega
      simp; omega
theorem dec_len (n : Int) (hn : n ≤ 9223372036854775807) : (dec n).length ≤ 20 := by
  have := decN_len 20 n.toNat (by omega)
  unfold dec; omega
/-- The rounds of the reference's 'padded': what stands in the slots at a round's head. -/
def PadR (n m : Int) (l : Bytes) (b : Bool) : Prop := if b = true then m = n ∧ l = [] else dec n = (if m = 0 then [] else dec m) ++ l
theorem PadR.next {n m : Int} {l : Bytes} {b : Bool} (h : PadR n m l b) (h0 : 0 ≤ m) (hm : b = false → 0 < m) : PadR n (m / 10) (UInt8.ofNat (48 + m % 10).toNat :: l) false := by
  unfold PadR at *
  have e : digB (m % 10) = UInt8.ofNat (48 + m % 10).toNat := rfl
  cases b
  · have := hm rfl
    simp only [Bool.false_eq_true, if_false] at h ⊢
    rw [if_neg (by omega), dec_step m h0, e] at h
    simpa using h
  · simp only [if_true] at h
    obtain ⟨rfl, rfl⟩ := h
    simp only [Bool.false_eq_true, if_false]
    rw [dec_step m h0, e]
theorem PadR.len {n m : Int} {l : Bytes} {b : Bool} (h : PadR n m l b) (hn : n ≤ 9223372036854775807) : l.length ≤ 20 := by
  unfold PadR at h
  cases b
  · simp only [Bool.false_eq_true, if_false] at h
    have := dec_len n hn
    rw [h, List.length_append] at this
    omega
  · simp only [if_true] at h
    simp [h.2]
set_option maxRecDepth 100000 in
set_option maxHeartbeats 1000000 in
theorem padded_c (n : Int) (wd : Nat) (c : UInt8) (w : World) (h0 : 0 ≤ n) (hn : n ≤ 9223372036854775807) (hwd : wd ≤ 100) :
    Calls Tryz.prog 86 #[.int .i64 n, .int .i64 wd, S [c]] w fun e w' => e = .returned (S (padB c wd (dec n))) ∧ Below w.heap.size w w' := by
  go_enter Tryz.func86, Tryz.ntmps86
  go_wp2
  go_loopw [0, 7, 8] (fun n' out first wr => ∃ (m : Int) (l : Bytes) (b : Bool), 0 ≤ m ∧ m ≤ n ∧ n' = .int .i64 m ∧ out = S l ∧ first = .bool b ∧ PadR n m l b ∧ Below w.heap.size w wr)
    (fun n' _ first _ => (2 * (intOf n').toNat) + (match first with | .bool true => 1 | _ => 0))
  case atStart => exact ⟨n, [], true, h0, Int.le_refl _, rfl, rfl, rfl, by simp [PadR], Below.refl _ _⟩
  case round =>
    obtain ⟨m, l, b, hm0, hmn, rfl, rfl, rfl, hb, hbel⟩ := hrel
    have hll := hb.len hn
    have HB := Lib.hid hb
    have HBEL := Lib.hid hbel
    clear hb hbel
    have hcv := conv1 wr (48 + m % 10) (by omega) (by omega)
    cases b
    · by_cases hm : 0 < m
      · go_wp2
        go_roundw
        case rel => exact ⟨m / 10, _, false, by omega, by omega, rfl, rfl, rfl, HB.out.next hm0 (fun _ => hm), below_next HBEL.out (below_new _ _)⟩
        case measure => simp [intOf]; omega
      · obtain rfl : m = 0 := by omega
        have hL : Hid (dec n = l) := by
          have := HB.out
          show dec n = l
          simpa [PadR] using this
        clear hcv
        go_wp2
        obtain ⟨wo, rfl⟩ : ∃ wo : World, wo = wr := ⟨_, rfl⟩
        go_loopw [7] (fun out wr => ∃ k : Nat, out = S (List.replicate k c ++ l) ∧ k ≤ wd - l.length ∧ wr = wo) (fun out _ => wd - (match out with | .string s => s.size | _ => 0))
        case atStart => exact ⟨0, rfl, Nat.zero_le _, by first | rfl | trivial⟩
        case round =>
          obtain ⟨k, rfl, hk, rfl⟩ := hrel
          by_cases hlt : k + l.length < wd
          · go_wp2
            go_roundw
            case rel => exact ⟨k + 1, by simp [List.replicate_succ], by omega, by first | rfl | trivial⟩
            case measure => simp; omega
          · go_wp2
            go_ret
            refine ⟨ret_str ?_, HBEL.out⟩
            rw [hL.out]
            unfold padB
            rw [show k = wd - l.length by omega]
    · go_wp2
      go_roundw
      case rel => exact ⟨m / 10, _, false, by omega, by omega, rfl, rfl, rfl, HB.out.next hm0 (fun h => by cases h), below_next HBEL.out (below_new _ _)⟩
      case measure => simp [intOf]; omega
set_option maxHeartbeats 400000 in
theorem digits_c (n : Int) (wd : Nat) (w : World) (h0 : 0 ≤ n) (hn : n ≤ 9223372036854775807) (hwd : wd ≤ 100) :
    Calls Tryz.prog 56 #[.int .i64 n, .int .i64 wd] w fun e w' => e = .returned (S (digits n wd)) ∧ Below w.heap.size w w' := by
  go_enter Tryz.func56, Tryz.ntmps56
  go_wp2_with (go_at_call 86; refine (padded_c n wd 48 _ h0 hn hwd).mono ?_; rintro e w1 ⟨rfl, hb⟩)
  go_ret
  exact ⟨rfl, hb⟩
set_option maxHeartbeats 400000 in
theorem blank_c (n : Int) (wd : Nat) (w : World) (h0 : 0 ≤ n) (hn : n ≤ 9223372036854775807) (hwd : wd ≤ 100) :
    Calls Tryz.prog 60 #[.int .i64 n, .int .i64 wd] w fun e w' => e = .returned (S (blank n wd)) ∧ Below w.heap.size w w' := by
  go_enter Tryz.func60, Tryz.ntmps60
  go_wp2_with (go_at_call 86; refine (padded_c n wd 32 _ h0 hn hwd).mono ?_; rintro e w1 ⟨rfl, hb⟩)
  go_ret
  exact ⟨rfl, hb⟩
set_option maxHeartbeats 400000 in
theorem hour12_c (h : Int) (w : World) (h0 : 0 ≤ h) : Calls Tryz.prog 62 #[.int .i64 h] w fun e w' => e = .returned (.int .i64 (hour12 h)) ∧ w = w' := by
  go_enter Tryz.func62, Tryz.ntmps62
  go_wp2
  all_goals
    go_ret
    exact ⟨ret_int (by simp_all [hour12]), rfl⟩
set_option maxHeartbeats 400000 in
theorem half_c (h : Int) (w : World) : Calls Tryz.prog 63 #[.int .i64 h] w fun e w' => e = .returned (S (halfB h)) ∧ w = w' := by
  by_cases hh : 12 ≤ h
  · go_enter Tryz.func63, Tryz.ntmps63
    go_wp2
    go_ret
    exact ⟨by simp only [halfB, if_pos hh]; rfl, rfl⟩
  · go_enter Tryz.func63, Tryz.ntmps63
    go_wp2
    go_ret
    exact ⟨by simp only [halfB, if_neg (show ¬ 12 ≤ h by omega)]; rfl, rfl⟩
set_option maxHeartbeats 400000 in
theorem mark_c (b : Bool) (w : World) : Calls Tryz.prog 55 #[.bool b] w fun e w' => e = .returned (S (mark b)) ∧ w = w' := by
  cases b
  all_goals
    go_enter Tryz.func55, Tryz.ntmps55
    go_wp2
    go_ret
    exact ⟨rfl, rfl⟩
theorem power_succ (k : Nat) : power (k + 1) = power k * 10 := by simp [power, Int.pow_succ]
theorem power_pos (k : Nat) : 1 ≤ power k := by
  induction k with
  | zero => simp [power]
  | succ k ih => rw [power_succ]; omega
theorem power_mono (k j : Nat) : power k ≤ power (k + j) := by
  induction j with
  | zero => exact Int.le_refl _
  | succ j ih =>
    have := power_pos (k + j)
    rw [← Nat.add_assoc, power_succ]
    omega
theorem power_le (k : Nat) (h : k ≤ 18) : power k ≤ 1000000000000000000 := by
  have := power_mono k (18 - k)
  rw [show k + (18 - k) = 18 by omega] at this
  exact Int.le_trans this (by decide)
set_option maxHeartbeats 400000 in
theorem power_c (n : Nat) (w : World) (hn : n ≤ 18) : Calls Tryz.prog 76 #[.int .i64 n] w fun e w' => e = .returned (.int .i64 (power n)) ∧ w = w' := by
  go_enter Tryz.func76, Tryz.ntmps76
  go_wp2
  go_loop [0, 3] (fun n' out => ∃ j k : Nat, j + k = n ∧ n' = .int .i64 k ∧ out = .int .i64 (power j)) (fun n' _ => (intOf n').toNat)
  case atStart => exact ⟨0, n, by omega, rfl, rfl⟩
  case round =>
    obtain ⟨j, k, hjk, rfl, rfl⟩ := hrel
    have hp0 := power_pos j
    have HJK := Lib.hid hjk
    by_cases hk : 0 < k
    · have hk18 : k ≤ 18 := by omega
      have hp1 := power_le (j + 1) (by omega)
      rw [power_succ] at hp1
      clear hjk
      go_wp2
      go_round
      case rel => exact ⟨j + 1, k - 1, by have := HJK.out; omega, by rw [show ((k - 1 : Nat) : Int) = (k : Int) - 1 by omega], by rw [power_succ]⟩
      case measure => simp [intOf]; omega
    · obtain rfl : k = 0 := by omega
      clear hjk
      go_wp2
      go_ret
      have := HJK.out
      exact ⟨ret_int (by rw [show j = n by omega]), rfl⟩
theorem power_ci (n : Int) (w : World) (h0 : 0 ≤ n) (hn : n ≤ 18) : Calls Tryz.prog 76 #[.int .i64 n] w fun e w' => e = .returned (.int .i64 (power n.toNat)) ∧ w = w' := by
  obtain ⟨k, rfl⟩ := Int.eq_ofNat_of_zero_le h0
  exact power_c k w (by omega)
set_option maxHeartbeats 400000 in
theorem cut_c (nano : Int) (d : Nat) (w : World) (hd : d ≤ 9) (h0 : 0 ≤ nano) (h1 : nano ≤ 999999999) : Calls Tryz.prog 45 #[.int .i64 nano, .int .i64 d] w fun e w' => e = .returned (.int .i64 (cut nano d)) ∧ w = w' := by
  have hq : Hid (cut nano d = nano / power (9 - d) * power (9 - d)) := rfl
  obtain ⟨p, HP⟩ : ∃ p, Hid (power (9 - d) = p) := ⟨power (9 - d), Lib.hid rfl⟩
  have hp0 := power_pos (9 - d)
  have hp1 := power_le (9 - d) (by omega)
  rw [HP.out] at hp0 hp1
  have hle : nano / p * p ≤ nano := Int.ediv_mul_le _ (by omega)
  have hge : 0 ≤ nano / p := Int.ediv_nonneg h0 (by omega)
  have hle2 : nano / p ≤ nano := Int.ediv_le_self _ h0
  have hge2 : 0 ≤ nano / p * p := Int.mul_nonneg hge (by omega)
  have e1 : Hid (((9 : Int) - d).toNat = 9 - d) := by show _ = _; omega
  have HC := fun w => power_ci ((9 : Int) - d) w (by omega) (by omega)
  rw [e1.out, HP.out] at HC
  have HC := Lib.hid HC
  go_enter Tryz.func45, Tryz.ntmps45
  go_wp2_with (go_at_call 76; refine (HC.out _).mono ?_; rintro e w' ⟨rfl, rfl⟩)
  go_ret
  refine ⟨ret_int ?_, rfl⟩
  rw [hq.out, HP.out]
end Go.Proofs.YtndhiemagankeaaGreatDoor
/- The walks of the reference: fractions, offsets, names of days and months, days of the year. -/
namespace Go.Proofs.YtndhiemagankeaaGreatDoor
open Go.RowKit
set_option linter.unusedVariables false
set_option linter.unusedSimpArgs false
attribute [local simp] bs_size bs_toList bs_append bs_data
theorem digits_len (n : Int) (wd : Nat) (hn : n ≤ 9223372036854775807) (hwd : wd ≤ 100) : (digits n wd).length ≤ 120 := by
  have := dec_len n hn
  simp [digits, padB]; omega
theorem digits_ci (n wd : Int) (w : World) (h0 : 0 ≤ n) (hn : n ≤ 9223372036854775807) (hw0 : 0 ≤ wd) (hwd : wd ≤ 100) :
    Calls Tryz.prog 56 #[.int .i64 n, .int .i64 wd] w fun e w' => e = .returned (S (digits n wd.toNat)) ∧ Below w.heap.size w w' := by
  obtain ⟨k, rfl⟩ := Int.eq_ofNat_of_zero_le hw0
  exact digits_c n k w h0 hn (by omega)
theorem mark_len (b : Bool) : (mark b).length = 1 := by cases b <;> rfl
theorem quo_bd (nano : Int) (d : Nat) (h0 : 0 ≤ nano) : 0 ≤ nano / power (9 - d) ∧ nano / power (9 - d) ≤ nano :=
  ⟨Int.ediv_nonneg h0 (by have := power_pos (9 - d); omega), Int.ediv_le_self _ h0⟩
set_option maxHeartbeats 400000 in
theorem fraction_c (nano : Int) (d : Nat) (b : Bool) (w : World) (hd : d ≤ 9) (h0 : 0 ≤ nano) (h1 : nano ≤ 999999999) : Calls Tryz.prog 64 #[.int .i64 nano, .int .i64 d, .bool b] w fun e w' => e = .returned (S (fraction nano d b)) ∧ Below w.heap.size w w' := by
  obtain ⟨p, HP⟩ : ∃ p, Hid (power (9 - d) = p) := ⟨power (9 - d), Lib.hid rfl⟩
  have hp0 := power_pos (9 - d)
  obtain ⟨hq0, hq1⟩ := quo_bd nano d h0
  have e1 : Hid (((9 : Int) - d).toNat = 9 - d) := by show _ = _; omega
  have HC := fun w => power_ci ((9 : Int) - d) w (by omega) (by omega)
  rw [e1.out, HP.out] at HC
  rw [HP.out] at hp0 hq0 hq1
  have HC := Lib.hid HC
  have hdl := digits_len (nano / p) d (by omega) (by omega)
  have hml := mark_len b
  go_enter Tryz.func64, Tryz.ntmps64
  go_wp2_with (first | (go_at_call 76; refine (HC.out _).mono ?_; rintro e w' ⟨rfl, rfl⟩) | (go_at_call 55; refine (mark_c _ _).mono ?_; rintro e w' ⟨rfl, rfl⟩) | (go_at_call 56; refine (digits_c (nano / p) d _ hq0 (by omega) (by omega)).mono ?_; rintro e w1 ⟨rfl, hb⟩))
  go_ret
  exact ⟨ret_str (by unfold fraction; rw [HP.out]), hb⟩
set_option maxRecDepth 100000 in
set_option maxHeartbeats 1000000 in
theorem trimmed_c (nano : Int) (d : Nat) (b : Bool) (w : World) (hd : d ≤ 9) (h0 : 0 ≤ nano) (h1 : nano ≤ 999999999) : Calls Tryz.prog 65 #[.int .i64 nano, .int .i64 d, .bool b] w fun e w' => e = .returned (S (trimmed nano d b)) ∧ Below w.heap.size w w' := by
  obtain ⟨p, HP⟩ : ∃ p, Hid (power (9 - d) = p) := ⟨power (9 - d), Lib.hid rfl⟩
  have hp0 := power_pos (9 - d)
  obtain ⟨hq0, hq1⟩ := quo_bd nano d h0
  have e1 : Hid (((9 : Int) - d).toNat = 9 - d) := by show _ = _; omega
  have HC := fun w => power_ci ((9 : Int) - d) w (by omega) (by omega)
  rw [e1.out, HP.out] at HC
  rw [HP.out] at hp0 hq0 hq1
  have HC := Lib.hid HC
  have hml := mark_len b
  go_enter Tryz.func65, Tryz.ntmps65
  go_wp2_with (go_at_call 76; refine (HC.out _).mono ?_; rintro e w' ⟨rfl, rfl⟩)
  go_loop [1, 7] (fun d' n' => ∃ (j : Nat) (m : Int), j ≤ d ∧ 0 ≤ m ∧ m ≤ nano ∧ d' = .int .i64 j ∧ n' = .int .i64 m ∧ trimD d (nano / p) = trimD j m) (fun d' _ => (intOf d').toNat)
  case atStart => exact ⟨d, _, Nat.le_refl _, hq0, hq1, rfl, rfl, rfl⟩
  case round =>
    obtain ⟨j, m, hj, hm0, hm1, rfl, rfl, ht⟩ := hrel
    have HT := Lib.hid ht
    clear ht
    have hdl := digits_len m j (by omega) (by omega)
    cases j with
    | zero =>
      have hfin : Hid (trimmed nano d b = []) := by
        show _ = _
        unfold trimmed
        rw [HP.out, HT.out]
        rfl
      go_wp2
      go_ret
      exact ⟨by rw [hfin.out]; rfl, Below.refl _ _⟩
    | succ j =>
      by_cases h10 : m % 10 = 0
      · go_wp2
        go_round
        case rel => exact ⟨j, m / 10, by omega, by omega, by omega, by first | rfl | go_num, rfl, by rw [HT.out, trimD, if_pos h10]⟩
        case measure => simp [intOf] <;> omega
      · have hfin : Hid (trimmed nano d b = mark b ++ digits m (j + 1)) := by
          show _ = _
          unfold trimmed
          rw [HP.out, HT.out, trimD, if_neg h10]
          rfl
        have HD := fun w => digits_ci m ((j : Int) + 1) w hm0 (by omega) (by omega) (by omega)
        rw [show (((j : Int) + 1)).toNat = j + 1 by omega] at HD
        have HD := Lib.hid HD
        go_wp2_with (first | (go_at_call 55; refine (mark_c _ _).mono ?_; rintro e w' ⟨rfl, rfl⟩) | (go_at_call 56; refine (HD.out _).mono ?_; rintro e w1 ⟨rfl, hb⟩))
        go_ret
        exact ⟨by rw [hfin.out]; rfl, hb⟩
/-- The absolute value of an offset. -/
def absI (off : Int) : Int := if off < 0 then -off else off
theorem offsetText_eq (off : Int) (m s c : Bool) : offsetText off m s c = (if off < 0 then [45] else [43]) ++ digits (absI off / 3600) 2 ++ (if m = true then (if c = true then [58] else []) ++ digits (absI off / 60 % 60) 2 else []) ++ (if s = true then (if c = true then [58] else []) ++ digits (absI off % 60) 2 else []) := rfl
theorem digits2_c (n : Int) (w : World) (h0 : 0 ≤ n) (hn : n ≤ 9223372036854775807) :
    Calls Tryz.prog 56 #[.int .i64 n, .int .i64 2] w fun e w' => e = .returned (S (digits n 2)) ∧ Below w.heap.size w w' := digits_ci n 2 w h0 hn (by omega) (by omega)
set_option maxRecDepth 100000 in
set_option maxHeartbeats 4000000 in
theorem offsetText_neg (a : Int) (m s c : Bool) (w : World) (h : 0 < a) (h1 : a ≤ 86399) : Calls Tryz.prog 87 #[.int .i64 (-a), .bool m, .bool s, .bool c] w fun e w' => e = .returned (S (offsetText (-a) m s c)) ∧ Below w.heap.size w w' := by
  have ha : Hid (absI (-a) = a) := by show _ = _; unfold absI; rw [if_pos (by omega)]; omega
  have hsg : Hid ((if (-a) < 0 then [45] else [43] : Bytes) = [45]) := by show _ = _; rw [if_pos (by omega)]
  have l1 := digits_len (a / 3600) 2 (by omega) (by omega)
  have l2 := digits_len (a / 60 % 60) 2 (by omega) (by omega)
  have l3 := digits_len (a % 60) 2 (by omega) (by omega)
  have D1 := Lib.hid (fun w => digits2_c (a / 3600) w (by omega) (by omega))
  have D2 := Lib.hid (fun w => digits2_c (a / 60 % 60) w (by omega) (by omega))
  have D3 := Lib.hid (fun w => digits2_c (a % 60) w (by omega) (by omega))
  cases m <;> cases s <;> cases c
  all_goals
    go_enter Tryz.func87, Tryz.ntmps87
    go_wp2_with fail
    refine (D1.out _).mono ?_
    rintro e w1 ⟨rfl, hb1⟩
    go_wp2_with fail
    first
      | (go_ret; exact ⟨ret_str (by rw [offsetText_eq, ha.out, hsg.out]; simp), hb1⟩)
      | ((with_reducible refine (D2.out _).mono ?_); rintro e w2 ⟨rfl, hb2⟩; go_wp2_with fail; first | (go_ret; exact ⟨ret_str (by rw [offsetText_eq, ha.out, hsg.out]; simp), below_next hb1 hb2⟩) | ((with_reducible refine (D3.out _).mono ?_); rintro e w3 ⟨rfl, hb3⟩; go_wp2_with fail; go_ret; exact ⟨ret_str (by rw [offsetText_eq, ha.out, hsg.out]; simp), below_next (below_next hb1 hb2) hb3⟩))
      | ((with_reducible refine (D3.out _).mono ?_); rintro e w2 ⟨rfl, hb2⟩; go_wp2_with fail; go_ret; exact ⟨ret_str (by rw [offsetText_eq, ha.out, hsg.out]; simp), below_next hb1 hb2⟩)
set_option maxRecDepth 100000 in
set_option maxHeartbeats 4000000 in
theorem offsetText_pos (a : Int) (m s c : Bool) (w : World) (h : 0 ≤ a) (h1 : a ≤ 86399) : Calls Tryz.prog 87 #[.int .i64 a, .bool m, .bool s, .bool c] w fun e w' => e = .returned (S (offsetText a m s c)) ∧ Below w.heap.size w w' := by
  have ha : Hid (absI a = a) := by show _ = _; unfold absI; rw [if_neg (by omega)]
  have hsg : Hid ((if a < 0 then [45] else [43] : Bytes) = [43]) := by show _ = _; rw [if_neg (by omega)]
  have l1 := digits_len (a / 3600) 2 (by omega) (by omega)
  have l2 := digits_len (a / 60 % 60) 2 (by omega) (by omega)
  have l3 := digits_len (a % 60) 2 (by omega) (by omega)
  have D1 := Lib.hid (fun w => digits2_c (a / 3600) w (by omega) (by omega))
  have D2 := Lib.hid (fun w => digits2_c (a / 60 % 60) w (by omega) (by omega))
  have D3 := Lib.hid (fun w => digits2_c (a % 60) w (by omega) (by omega))
  cases m <;> cases s <;> cases c
  all_goals
    go_enter Tryz.func87, Tryz.ntmps87
    go_wp2_with fail
    refine (D1.out _).mono ?_
    rintro e w1 ⟨rfl, hb1⟩
    go_wp2_with fail
    first
      | (go_ret; exact ⟨ret_str (by rw [offsetText_eq, ha.out, hsg.out]; simp), hb1⟩)
      | ((with_reducible refine (D2.out _).mono ?_); rintro e w2 ⟨rfl, hb2⟩; go_wp2_with fail; first | (go_ret; exact ⟨ret_str (by rw [offsetText_eq, ha.out, hsg.out]; simp), below_next hb1 hb2⟩) | ((with_reducible refine (D3.out _).mono ?_); rintro e w3 ⟨rfl, hb3⟩; go_wp2_with fail; go_ret; exact ⟨ret_str (by rw [offsetText_eq, ha.out, hsg.out]; simp), below_next (below_next hb1 hb2) hb3⟩))
      | ((with_reducible refine (D3.out _).mono ?_); rintro e w2 ⟨rfl, hb2⟩; go_wp2_with fail; go_ret; exact ⟨ret_str (by rw [offsetText_eq, ha.out, hsg.out]; simp), below_next hb1 hb2⟩)
theorem offsetText_c (off : Int) (m s c : Bool) (w : World) (h0 : -86399 ≤ off) (h1 : off ≤ 86399) : Calls Tryz.prog 87 #[.int .i64 off, .bool m, .bool s, .bool c] w fun e w' => e = .returned (S (offsetText off m s c)) ∧ Below w.heap.size w w' := by
  by_cases h : off < 0
  · have := offsetText_neg (-off) m s c w (by omega) (by omega)
    rwa [Int.neg_neg] at this
  · exact offsetText_pos off m s c w (by omega) h1
set_option maxHeartbeats 1000000 in
theorem zoneText_c (k off : Int) (w : World) (h0 : -86399 ≤ off) (h1 : off ≤ 86399) : Calls Tryz.prog 66 #[.int .i64 k, .int .i64 off] w fun e w' => e = .returned (S (zoneText k off)) ∧ Below w.heap.size w w' := by
  have O := fun m s c w => offsetText_c off m s c w h0 h1
  have O := Lib.hid O
  have hk : k = 22 ∨ k = 27 ∨ k = 23 ∨ k = 28 ∨ k = 24 ∨ k = 29 ∨ k = 25 ∨ k = 30 ∨ (k ≠ 22 ∧ k ≠ 27 ∧ k ≠ 23 ∧ k ≠ 28 ∧ k ≠ 24 ∧ k ≠ 29 ∧ k ≠ 25 ∧ k ≠ 30) := by omega
  rcases hk with rfl | rfl | rfl | rfl | rfl | rfl | rfl | rfl | ⟨e1, e2, e3, e4, e5, e6, e7, e8⟩
  all_goals
    go_enter Tryz.func66, Tryz.ntmps66
    go_wp2_with (go_at_call 87; refine (O.out _ _ _ _).mono ?_; rintro e w1 ⟨rfl, hb⟩)
    go_ret
    exact ⟨ret_str (by simp [zoneText, *]), hb⟩
end Go.Proofs.YtndhiemagankeaaGreatDoor
/- The walks of the reference: names, days of the year, days of the week. -/
namespace Go.Proofs.YtndhiemagankeaaGreatDoor
open Go.RowKit
set_option linter.unusedVariables false
set_option linter.unusedSimpArgs false
attribute [local simp] bs_size bs_toList bs_append bs_data
set_option maxHeartbeats 1000000 in
theorem monthName_c (m : Int) (w : World) (h0 : 1 ≤ m) (h1 : m ≤ 12) : Calls Tryz.prog 57 #[.int .i64 m] w fun e w' => e = .returned (S (monthName m)) ∧ w = w' := by
  have hm : m = 1 ∨ m = 2 ∨ m = 3 ∨ m = 4 ∨ m = 5 ∨ m = 6 ∨ m = 7 ∨ m = 8 ∨ m = 9 ∨ m = 10 ∨ m = 11 ∨ m = 12 := by omega
  rcases hm with rfl | rfl | rfl | rfl | rfl | rfl | rfl | rfl | rfl | rfl | rfl | rfl
  all_goals
    go_enter Tryz.func57, Tryz.ntmps57
    go_wp2
    go_ret
    exact ⟨rfl, rfl⟩
set_option maxHeartbeats 1000000 in
theorem dayName_c (m : Int) (w : World) (h0 : 0 ≤ m) (h1 : m ≤ 6) : Calls Tryz.prog 58 #[.int .i64 m] w fun e w' => e = .returned (S (dayName m)) ∧ w = w' := by
  have hm : m = 0 ∨ m = 1 ∨ m = 2 ∨ m = 3 ∨ m = 4 ∨ m = 5 ∨ m = 6 := by omega
  rcases hm with rfl | rfl | rfl | rfl | rfl | rfl | rfl
  all_goals
    go_enter Tryz.func58, Tryz.ntmps58
    go_wp2
    go_ret
    exact ⟨rfl, rfl⟩
/-- The days of the year ahead of the month behind k others. -/
def dsum (y : Int) (k : Nat) : Int := ((List.range k).map fun (k : Nat) => days y ((k : Int) + 1)).sum
theorem dsum_succ (y : Int) (k : Nat) : dsum y (k + 1) = dsum y k + days y ((k : Int) + 1) := by
  unfold dsum
  rw [List.range_succ]
  simp
theorem days_bd (y m : Int) : 28 ≤ days y m ∧ days y m ≤ 31 := by
  unfold days
  split
  · split <;> omega
  · split <;> omega
theorem dsum_bd (y : Int) (k : Nat) : 0 ≤ dsum y k ∧ dsum y k ≤ 31 * k := by
  induction k with
  | zero => simp [dsum]
  | succ k ih =>
    have := days_bd y ((k : Int) + 1)
    rw [dsum_succ]
    omega
theorem yearDay_eq (y m d : Int) : yearDay y m d = d + dsum y (m - 1).toNat := rfl
set_option maxRecDepth 100000 in
set_option maxHeartbeats 1000000 in
theorem yearDay_c (c : Civ) (w : World) (y0 : 0 ≤ c.year) (m0 : 1 ≤ c.month) (m1 : c.month ≤ 12) (d0 : 1 ≤ c.day) (d1 : c.day ≤ 31) :
    Calls Tryz.prog 61 #[c.val] w fun e w' => e = .returned (.int .i64 (yearDay c.year c.month c.day)) ∧ Below w.heap.size w w' := by
  unfold Civ.val
  go_enter Tryz.func61, Tryz.ntmps61
  go_wp2
  go_loop [3, 4] (fun n m => ∃ k : Nat, (k : Int) + 1 ≤ c.month ∧ m = .int .i64 ((k : Int) + 1) ∧ n = .int .i64 (c.day + dsum c.year k)) (fun _ m => (c.month - intOf m).toNat)
  case atStart => exact ⟨0, by omega, rfl, by simp [dsum]⟩
  case round =>
    obtain ⟨k, hk, rfl, rfl⟩ := hrel
    have hb := dsum_bd c.year k
    have hd := days_bd c.year ((k : Int) + 1)
    by_cases hlt : (k : Int) + 1 < c.month
    · go_wp2_with (go_at_call 51; refine (days_c _ _ _ y0).mono ?_; rintro e w' ⟨rfl, rfl⟩)
      go_round
      case rel => exact ⟨k + 1, by omega, by first | rfl | go_num, by rw [dsum_succ]; first | rfl | go_num⟩
      case measure => simp [intOf] <;> omega
    · have he : Hid (c.month = (k : Int) + 1) := by show _ = _; omega
      go_wp2
      go_ret
      refine ⟨ret_int ?_, below_new _ _⟩
      rw [yearDay_eq, he.out, show ((k : Int) + 1 - 1).toNat = k by omega]
theorem yearDay_bd (y m d : Int) (m0 : 1 ≤ m) (m1 : m ≤ 12) (d0 : 1 ≤ d) (d1 : d ≤ 31) : 1 ≤ yearDay y m d ∧ yearDay y m d ≤ 372 := by
  rw [yearDay_eq]
  have := dsum_bd y (m - 1).toNat
  omega
set_option maxRecDepth 100000 in
set_option maxHeartbeats 1000000 in
theorem weekday_c (c : Civ) (w : World) (y0 : 0 ≤ c.year) (y1 : c.year ≤ 9999) (m0 : 1 ≤ c.month) (m1 : c.month ≤ 12) (d0 : 1 ≤ c.day) (d1 : c.day ≤ 31) :
    Calls Tryz.prog 59 #[c.val] w fun e w' => e = .returned (.int .i64 (weekday c.year c.month c.day)) ∧ Below w.heap.size w w' := by
  have hy := fun w => yearDay_c c w y0 m0 m1 d0 d1
  unfold Civ.val at hy
  unfold Civ.val
  have hbd := yearDay_bd c.year c.month c.day m0 m1 d0 d1
  have HY := Lib.hid hy
  clear hy
  go_enter Tryz.func59, Tryz.ntmps59
  go_wp2_with (go_at_call 61; refine (HY.out _).mono ?_; rintro e w1 ⟨rfl, hb⟩)
  go_ret
  refine ⟨ret_int ?_, below_next (below_new _ _) hb⟩
  unfold weekday
  rfl
end Go.Proofs.YtndhiemagankeaaGreatDoor
