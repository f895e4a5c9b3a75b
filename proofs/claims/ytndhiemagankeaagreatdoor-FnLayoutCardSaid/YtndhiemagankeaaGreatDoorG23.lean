/-
  FnLayout (the statement: for every list of pieces, every time and every zone the call returns true, and its arguments read afterwards as they did), part 23 of 41. In this part: The walk of package time: a fraction is written onto a buffer. The plain law: what was written as digits is read as the number.
-/
import Derived.Test.YtndhiemagankeaaGreatDoorG12
import Derived.Test.YtndhiemagankeaaGreatDoorG19
/- The walk of package time: a fraction is written onto a buffer. -/
namespace Go.Proofs.YtndhiemagankeaaGreatDoor
open Go.RowKit
set_option linter.unusedVariables false
set_option linter.unusedSimpArgs false
attribute [local simp] bs_size bs_toList bs_append bs_data
/-- A number's last d digits. -/

def digs : Nat → Int → Bytes
  | 0, _ => []
  | d + 1, y => digs d (y / 10) ++ [digB (y % 10)]
theorem digs_len (d : Nat) (y : Int) : (digs d y).length = d := by
  induction d generalizing y with
  | zero => rfl
  | succ d ih => simp [digs, ih]
theorem digs_zero (d : Nat) : digs d 0 = List.replicate d 48 := by
  induction d with
  | zero => rfl
  | succ d ih =>
    have : digs (d + 1) 0 = digs d 0 ++ [48] := rfl
    rw [this, ih, ← List.replicate_succ']
theorem digs_digits (d : Nat) (y : Int) (h0 : 0 ≤ y) (h1 : y < 10 ^ (d + 1)) : digits y (d + 1) = digs (d + 1) y := by
  induction d generalizing y with
  | zero =>
    rw [Int.pow_succ] at h1
    simp only [Int.pow_zero] at h1
    unfold digits padB
    rw [dec_small y h0 (by omega)]
    simp [digs]
    rw [show y % 10 = y by omega]
  | succ d ih =>
    have e : digs (d + 2) y = digs (d + 1) (y / 10) ++ [digB (y % 10)] := rfl
    rw [e, ← ih (y / 10) (by omega) (by rw [Int.pow_succ] at h1; omega)]
    unfold digits padB
    by_cases hy : y / 10 = 0
    · rw [dec_small y h0 (by omega), hy, dec_small 0 (by omega) (by omega), show y % 10 = y by omega]
      have : digB 0 = 48 := rfl
      rw [this]
      simp [List.replicate_succ']
    · rw [dec_step y h0, if_neg hy]
      simp [← List.append_assoc]
theorem digs_take (d k : Nat) (x : Int) : (digs (d + k) x).take d = digs d (x / 10 ^ k) := by
  induction k generalizing x with
  | zero => simp [List.take_of_length_le (Nat.le_of_eq (digs_len d x))]
  | succ k ih =>
    have e : digs (d + (k + 1)) x = digs (d + k) (x / 10) ++ [digB (x % 10)] := rfl
    rw [e, List.take_append_of_le_length (by rw [digs_len]; omega), ih (x / 10), Int.pow_succ, Int.mul_comm, Int.ediv_ediv_of_nonneg (by decide)]
theorem Buf.cut {w : World} {g n cap : Nat} {l : Bytes} (h : Buf w g n cap l) (m : Nat) (hm : m ≤ n) : Buf w g m cap (l.take m) := by
  have hl := h.len
  refine ⟨by simp; omega, Nat.le_trans hm h.le, h.max, h.lt, fun j hj => ?_, h.room⟩
  simp at hj
  rw [h.cellAt j (by omega)]
  simp
theorem mark_one (b : Bool) : mark b = [if b = true then 44 else 46] := by cases b <;> rfl
theorem digs_dig (d : Nat) (y : Int) (h0 : 0 ≤ y) (h1 : y < 10 ^ d) (hd : 1 ≤ d) : digits y d = digs d y := by
  obtain ⟨k, rfl⟩ : ∃ k, d = k + 1 := ⟨d - 1, by omega⟩
  exact digs_digits k y h0 h1
theorem quo_lt (nano : Int) (d : Nat) (hd : d ≤ 9) (h1 : nano ≤ 999999999) : nano / 10 ^ (9 - d) < 10 ^ d := by
  have hp : (0 : Int) < 10 ^ (9 - d) := Int.pow_pos (by decide)
  rw [Int.ediv_lt_iff_lt_mul hp, ← Int.pow_add, show d + (9 - d) = 9 by omega]
  have : (10 : Int) ^ 9 = 1000000000 := by decide
  omega
theorem trimD_zero (d : Nat) : trimD d 0 = (0, 0) := by
  induction d with
  | zero => rfl
  | succ d ih => simpa [trimD] using ih
theorem trimD_stop (d : Nat) (y : Int) (h : d = 0 ∨ y % 10 ≠ 0) : trimD d y = (d, y) := by
  cases d with
  | zero => rfl
  | succ d =>
    have : y % 10 ≠ 0 := by omega
    simp [trimD, this]
theorem trimD_go (d : Nat) (y : Int) (h : y % 10 = 0) : trimD (d + 1) y = trimD d (y / 10) := by simp [trimD, h]
def nanoText (code : Int) (nano : Int) (d : Nat) (comma : Bool) : Bytes := if code = 34 then fraction nano d comma else trimmed nano d comma
theorem fstd_code (code : Int) (n : Nat) (comma : Bool) (hc : code = 34 ∨ code = 35) (h0 : 1 ≤ n) (h1 : n ≤ 9) : bits .and .i64 (fstd code n comma) 65535 = code := by
  have hn : n = 1 ∨ n = 2 ∨ n = 3 ∨ n = 4 ∨ n = 5 ∨ n = 6 ∨ n = 7 ∨ n = 8 ∨ n = 9 := by omega
  clear h0 h1
  rcases hc with rfl | rfl
  all_goals
    rcases hn with rfl | rfl | rfl | rfl | rfl | rfl | rfl | rfl | rfl
  all_goals
    cases comma
  all_goals decide
def ANano (code nano : Int) (d : Nat) (comma : Bool) (g n cap : Nat) (l : Bytes) (w : World) : Prop :=
  Calls Tryz.prog 124 #[.slice (some ⟨g, 0, none⟩) n cap, .int .i64 nano, .int .i64 (fstd code d comma)] w fun e w' => ∃ g' n' cap', e = .returned (.slice (some ⟨g', 0, none⟩) n' cap') ∧ Buf w' g' n' cap' (l ++ nanoText code nano d comma) ∧ BufStep w g w' g'
set_option maxRecDepth 100000 in
set_option maxHeartbeats 1000000 in
theorem appendNano_34 (nano : Int) (d : Nat) (comma : Bool) (g n cap : Nat) (l : Bytes) (w : World) (hb : Buf w g n cap l) (n0 : 0 ≤ nano) (n1 : nano ≤ 999999999) (d0 : 1 ≤ d) (d1 : d ≤ 9) (hn : n ≤ 549755813800) : ANano 34 nano d comma g n cap l w := by
  have HB := Lib.hid hb
  clear hb
  unfold ANano
  have a1 := fstd_code 34 d comma (.inl rfl) d0 d1
  have HL : Hid (∀ w, Calls Tryz.prog 108 #[.int .i64 (fstd 34 d comma)] w fun e w' => e = .returned (.int .i64 d) ∧ w' = w) := fun w => digitsLen_c 34 d comma w (.inl rfl) d0 d1
  have HS : Hid (∀ w, Calls Tryz.prog 142 #[.int .i64 (fstd 34 d comma)] w fun e w' => e = .returned (.int .u8 (if comma = true then 44 else 46)) ∧ w' = w) := fun w => separator_c 34 d comma w (.inl rfl) d0 d1
  have HT : Hid (nanoText 34 nano d comma = mark comma ++ digs d (nano / 10 ^ (9 - d))) := by
    show _ = _
    simp only [nanoText, if_true, fraction, power]
    rw [digs_dig d _ (Int.ediv_nonneg n0 (Int.le_of_lt (Int.pow_pos (by decide)))) (quo_lt nano d d1 n1) d0]
  have HTK : Hid (digs d (nano / 10 ^ (9 - d)) = (digits nano 9).take d) := by
    show _ = _
    rw [digs_dig 9 nano n0 (by have : (10 : Int) ^ 9 = 1000000000 := by decide
                               omega) (by omega), ← digs_take d (9 - d) nano, show d + (9 - d) = 9 by omega]
  have HD9 : Hid ((digits nano 9).length = 9) := by
    show _ = _
    rw [digs_dig 9 nano n0 (by have : (10 : Int) ^ 9 = 1000000000 := by decide
                               omega) (by omega), digs_len]
  obtain ⟨s, HSS⟩ : ∃ s, Hid (s = fstd 34 d comma) := ⟨_, Lib.hid rfl⟩
  rw [← HSS.out] at a1 HL HS ⊢
  obtain ⟨dot, HDot⟩ : ∃ dot : UInt8, Hid (dot = (if comma = true then 44 else 46)) := ⟨_, Lib.hid rfl⟩
  have HDI : Hid ((if comma = true then 44 else 46 : Int) = ((dot.toNat : Nat) : Int)) := by show _ = _; rw [HDot.out]; cases comma <;> rfl
  have HMK : Hid (mark comma = [dot]) := by show _ = _; rw [HDot.out]; exact mark_one comma
  rw [HDI.out] at HS
  go_enter Tryz.func124, Tryz.ntmps124
  go_wp2_with (first
    | (go_at_call 108; refine (HL.out _).mono ?_; rintro e w' ⟨rfl, rfl⟩)
    | (go_at_call 142; refine (HS.out _).mono ?_; rintro e w' ⟨rfl, rfl⟩)
    | (at_builtin; refine wpList_append_bufL _ rfl (.tmp 27) (.tmp 29) rfl g n cap _ rfl HB.out 1 [dot] _ rfl rfl rfl (by omega) (by omega) ?_; intro g1 cap1 w1 hbuf1 hst1; have HB1 := Lib.hid hbuf1; have HS1 := Lib.hid hst1; clear hbuf1 hst1)
    | (go_at_call 78; refine (appendInt_c nano 9 _ _ _ _ _ HB1.out n0 (by omega) (by omega) (by omega)).mono ?_; rintro e w2 ⟨g2, m2, cap2, rfl, hbuf2, hst2⟩; obtain rfl : m2 = n + 10 := by (have h1 := hbuf2.len; have h2 := HB.out.len; simp only [List.length_append, List.length_singleton, HD9.out] at h1; omega)
       have hle2 := hbuf2.le; have hmx2 := hbuf2.max; simp only [maxLen] at hmx2; have HB2 := Lib.hid hbuf2; have HS2 := Lib.hid hst2; clear hbuf2 hst2))
  all_goals
    go_ret
    refine ⟨g2, _, cap2, rfl, ?_, HS1.out.trans HS2.out⟩
    rw [HT.out, HTK.out, HMK.out]
    have h9 := HB2.out.cut (n + 1 + d) (by omega)
    rw [List.take_append, List.take_of_length_le (by have := HB1.out.len; omega)] at h9
    have hbl := HB.out.len
    rw [show n + 1 + d - List.length (l ++ [dot]) = d by simp; omega, List.append_assoc] at h9
    first
      | (rw [show n + 10 - 9 + d = n + 1 + d by omega]; exact h9)
      | (rw [show n + 10 = n + 1 + d by omega]; exact h9)
set_option maxRecDepth 100000 in
set_option maxHeartbeats 1000000 in
theorem appendNano_35z (d : Nat) (comma : Bool) (g n cap : Nat) (l : Bytes) (w : World) (hb : Buf w g n cap l) (d0 : 1 ≤ d) (d1 : d ≤ 9) : ANano 35 0 d comma g n cap l w := by
  have HB := Lib.hid hb
  clear hb
  unfold ANano
  have a1 := fstd_code 35 d comma (.inr rfl) d0 d1
  have HL : Hid (∀ w, Calls Tryz.prog 108 #[.int .i64 (fstd 35 d comma)] w fun e w' => e = .returned (.int .i64 d) ∧ w' = w) := fun w => digitsLen_c 35 d comma w (.inr rfl) d0 d1
  have HT : Hid (nanoText 35 0 d comma = []) := by
    show _ = _
    simp [nanoText, trimmed, trimD_zero]
  obtain ⟨s, HSS⟩ : ∃ s, Hid (s = fstd 35 d comma) := ⟨_, Lib.hid rfl⟩
  rw [← HSS.out] at a1 HL ⊢
  go_enter Tryz.func124, Tryz.ntmps124
  go_wp2_with (go_at_call 108; refine (HL.out _).mono ?_; rintro e w' ⟨rfl, rfl⟩)
  go_ret
  exact ⟨g, n, cap, rfl, by rw [HT.out, List.append_nil]; exact HB.out, BufStep.refl _ _⟩
set_option maxRecDepth 100000 in
set_option maxHeartbeats 4000000 in
theorem appendNano_35 (nano : Int) (d : Nat) (comma : Bool) (g n cap : Nat) (l : Bytes) (w : World) (hb : Buf w g n cap l) (n0 : 0 < nano) (n1 : nano ≤ 999999999) (d0 : 1 ≤ d) (d1 : d ≤ 9) (hn : n ≤ 549755813800) : ANano 35 nano d comma g n cap l w := by
  have HB := Lib.hid hb
  clear hb
  unfold ANano
  have a1 := fstd_code 35 d comma (.inr rfl) d0 d1
  have HL : Hid (∀ w, Calls Tryz.prog 108 #[.int .i64 (fstd 35 d comma)] w fun e w' => e = .returned (.int .i64 d) ∧ w' = w) := fun w => digitsLen_c 35 d comma w (.inr rfl) d0 d1
  have HS : Hid (∀ w, Calls Tryz.prog 142 #[.int .i64 (fstd 35 d comma)] w fun e w' => e = .returned (.int .u8 (if comma = true then 44 else 46)) ∧ w' = w) := fun w => separator_c 35 d comma w (.inr rfl) d0 d1
  obtain ⟨y, HY⟩ : ∃ y, Hid (y = nano / 10 ^ (9 - d)) := ⟨_, Lib.hid rfl⟩
  have HY0 : Hid (0 ≤ y ∧ y < 10 ^ d) := by
    rw [HY.out]
    exact ⟨Int.ediv_nonneg (by omega) (Int.le_of_lt (Int.pow_pos (by decide))), quo_lt nano d d1 n1⟩
  have HT : Hid (∀ d' y', trimD d y = (d', y') → 0 ≤ y' → y' < 10 ^ d' → nanoText 35 nano d comma = if d' = 0 then [] else mark comma ++ digs d' y') := by
    show ∀ d' y', _
    intro d' y' h h1 h2
    have e : nanoText 35 nano d comma = trimmed nano d comma := rfl
    rw [e]
    unfold trimmed power
    rw [← HY.out, h]
    simp only
    split
    · rfl
    · rw [digs_dig d' y' h1 h2 (by omega)]
  have HTK : Hid (digs d y = (digits nano 9).take d) := by
    show _ = _
    rw [HY.out, digs_dig 9 nano (by omega) (by have : (10 : Int) ^ 9 = 1000000000 := by decide
                                               omega) (by omega), ← digs_take d (9 - d) nano, show d + (9 - d) = 9 by omega]
  have HD9 : Hid ((digits nano 9).length = 9) := by
    show _ = _
    rw [digs_dig 9 nano (by omega) (by have : (10 : Int) ^ 9 = 1000000000 := by decide
                                       omega) (by omega), digs_len]
  obtain ⟨s, HSS⟩ : ∃ s, Hid (s = fstd 35 d comma) := ⟨_, Lib.hid rfl⟩
  rw [← HSS.out] at a1 HL HS ⊢
  obtain ⟨dot, HDot⟩ : ∃ dot : UInt8, Hid (dot = (if comma = true then 44 else 46)) := ⟨_, Lib.hid rfl⟩
  have HDI : Hid ((if comma = true then 44 else 46 : Int) = ((dot.toNat : Nat) : Int)) := by show _ = _; rw [HDot.out]; cases comma <;> rfl
  have hdot : dot.toNat < 48 := by rw [HDot.out]; cases comma <;> decide
  have HMK : Hid (mark comma = [dot]) := by show _ = _; rw [HDot.out]; exact mark_one comma
  rw [HDI.out] at HS
  have hz1 : (nano == 0) = false := by rw [beq_eq_false_iff_ne]; omega
  have hz2 : ((d : Int) == 0) = false := by rw [beq_eq_false_iff_ne]; omega
  go_enter Tryz.func124, Tryz.ntmps124
  go_wp2_with (first
    | (go_at_call 108; refine (HL.out _).mono ?_; rintro e w' ⟨rfl, rfl⟩)
    | (go_at_call 142; refine (HS.out _).mono ?_; rintro e w' ⟨rfl, rfl⟩)
    | (at_builtin; refine wpList_append_bufL _ rfl (.tmp 27) (.tmp 29) rfl g n cap _ rfl HB.out 1 [dot] _ rfl rfl rfl (by omega) (by omega) ?_; intro g1 cap1 w1 hbuf1 hst1; have HB1 := Lib.hid hbuf1; have HS1 := Lib.hid hst1; clear hbuf1 hst1)
    | (go_at_call 78; refine (appendInt_c nano 9 _ _ _ _ _ HB1.out (by omega) (by omega) (by omega) (by omega)).mono ?_; rintro e w2 ⟨g2, m2, cap2, rfl, hbuf2, hst2⟩; obtain rfl : m2 = n + 10 := by (have h1 := hbuf2.len; have h2 := HB.out.len; simp only [List.length_append, List.length_singleton, HD9.out] at h1; omega)
       have hle2 := hbuf2.le; have hmx2 := hbuf2.max; simp only [maxLen] at hmx2; have HB2 := Lib.hid hbuf2; have HS2 := Lib.hid hst2; clear hbuf2 hst2))
  all_goals
    have HB9 : Hid (Buf w2 g2 (n + d + 1) cap2 (l ++ [dot] ++ digs d y)) := by
      have h9 := HB2.out.cut (n + d + 1) (by omega)
      have hbl := HB.out.len
      rw [List.take_append, List.take_of_length_le (by simp; omega), show n + d + 1 - List.length (l ++ [dot]) = d by simp; omega, ← HTK.out] at h9
      exact h9
    go_loop [0] (fun b => ∃ (m : Nat) (y' : Int), m ≤ d ∧ 0 ≤ y' ∧ y' < 10 ^ m ∧ trimD m y' = trimD d y ∧ digs m y' = (digs d y).take m ∧ b = .slice (some ⟨g2, 0, none⟩) (n + m + 1) cap2) (fun b => match b with | .slice _ n _ => n | _ => 0)
    case atStart => exact ⟨d, y, Nat.le_refl _, HY0.out.1, HY0.out.2, rfl, by rw [List.take_of_length_le (by rw [digs_len]; omega)], by first | rfl | (congr 1; omega)⟩
    case round =>
      obtain ⟨m, y', hm, hy0, hy1, ht, hdg, rfl⟩ := hrel
      have HB8 : Hid (Buf w2 g2 (n + m + 1) cap2 (l ++ [dot] ++ digs m y')) := by
        have h8 := HB9.out.cut (n + m + 1) (by omega)
        have hbl := HB.out.len
        rw [List.take_append, List.take_of_length_le (by simp; omega), show n + m + 1 - List.length (l ++ [dot]) = m by simp; omega, ← hdg] at h8
        exact h8
      have hbl := HB.out.len
      cases m with
      | zero =>
        have hcell : w2.cell? ⟨g2, n, none⟩ = some (.int .u8 dot.toNat) := by
          have := HB8.out.cellAt n (by simp [digs]; omega)
          rw [this]
          simp [digs, hbl.symm]
        have HY1 := Lib.hid hy1
        have HTR := Lib.hid ht
        have HDG := Lib.hid hdg
        clear hy1 ht hdg
        go_wp2_with fail
        go_ret
        have hfin := HB8.out.cut n (by omega)
        rw [List.append_assoc, List.take_append, List.take_of_length_le (by omega), show n - l.length = 0 by omega, List.take_zero, List.append_nil] at hfin
        refine ⟨g2, _, cap2, rfl, ?_, HS1.out.trans HS2.out⟩
        rw [HT.out 0 y' (by rw [← HTR.out]; rfl) hy0 HY1.out, if_pos rfl, List.append_nil]
        exact hfin
      | succ m =>
        have hq : 0 ≤ y' % 10 ∧ y' % 10 ≤ 9 := by omega
        have hcell : w2.cell? ⟨g2, n + (m + 1), none⟩ = some (.int .u8 (48 + y' % 10)) := by
          have hlen : n + (m + 1) < (l ++ [dot] ++ digs (m + 1) y').length := by simp [digs_len]; omega
          rw [HB8.out.cellAt (n + (m + 1)) hlen]
          have : (l ++ [dot] ++ digs (m + 1) y')[n + (m + 1)]'hlen = digB (y' % 10) := by
            have e : l ++ [dot] ++ digs (m + 1) y' = (l ++ [dot] ++ digs m (y' / 10)) ++ [digB (y' % 10)] := by
              show l ++ [dot] ++ (digs m (y' / 10) ++ [digB (y' % 10)]) = _
              rw [List.append_assoc (l ++ [dot])]
            simp only [e]
            rw [List.getElem_append_right (by simp [digs_len]; omega)]
            simp
          rw [this, digB_nat _ hq.1 hq.2]
        obtain ⟨q, HQ⟩ : ∃ q, Hid (q = y' % 10) := ⟨_, Lib.hid rfl⟩
        rw [← HQ.out] at hcell hq
        have HNX : Hid (0 ≤ y' / 10 ∧ y' / 10 < 10 ^ m ∧ digs m (y' / 10) = (digs d y).take m ∧ (y' % 10 = 0 → trimD m (y' / 10) = trimD d y)) := by
          rw [Int.pow_succ] at hy1
          refine ⟨by omega, by omega, ?_, fun h => by rw [← ht, trimD_go m y' h]⟩
          have h1 := congrArg (List.take m) hdg
          have e : digs (m + 1) y' = digs m (y' / 10) ++ [digB (y' % 10)] := rfl
          rw [List.take_take, Nat.min_eq_left (by omega), e, List.take_append_of_le_length (by rw [digs_len]; omega), List.take_of_length_le (by rw [digs_len]; omega)] at h1
          exact h1
        have HY1 := Lib.hid hy1
        have HTR := Lib.hid ht
        have HDG := Lib.hid hdg
        clear hy1 ht hdg
        by_cases hq0 : q = 0
        · subst hq0
          go_wp2_with fail
          go_round
          first
            | (case rel => exact ⟨m, y' / 10, by omega, HNX.out.1, HNX.out.2.1, HNX.out.2.2.2 HQ.out.symm, HNX.out.2.2.1, rfl⟩
               case measure => simp <;> omega)
            | (case rel => exact m
               case measure => exact ⟨by omega, y' / 10, HNX.out.1, HNX.out.2.1, HNX.out.2.2.2 HQ.out.symm, HNX.out.2.2.1, by omega⟩)
        · go_wp2_with fail
          go_ret
          refine ⟨g2, _, cap2, rfl, ?_, HS1.out.trans HS2.out⟩
          rw [HT.out (m + 1) y' (by rw [← HTR.out]; exact trimD_stop (m + 1) y' (.inr (by rw [← HQ.out]; exact hq0))) hy0 HY1.out, if_neg (by omega), HMK.out, ← List.append_assoc]
          exact HB8.out
theorem appendNano_c (code nano : Int) (d : Nat) (comma : Bool) (g n cap : Nat) (l : Bytes) (w : World) (hc : code = 34 ∨ code = 35) (hb : Buf w g n cap l) (n0 : 0 ≤ nano) (n1 : nano ≤ 999999999) (d0 : 1 ≤ d) (d1 : d ≤ 9) (hn : n ≤ 549755813800) : ANano code nano d comma g n cap l w := by
  rcases hc with rfl | rfl
  · exact appendNano_34 nano d comma g n cap l w hb n0 n1 d0 d1 hn
  · by_cases h : nano = 0
    · subst h; exact appendNano_35z d comma g n cap l w hb d0 d1
    · exact appendNano_35 nano d comma g n cap l w hb (by omega) n1 d0 d1 hn
end Go.Proofs.YtndhiemagankeaaGreatDoor
/- The plain law: what was written as digits is read as the number. -/
namespace Go.Proofs.YtndhiemagankeaaGreatDoor
open Go.RowKit
set_option linter.unusedSimpArgs false
set_option linter.unusedVariables false
theorem isD_digB (k : Int) (h0 : 0 ≤ k) (h1 : k ≤ 9) : isD (digB k) = true := by
  have := digB_nat k h0 h1
  rw [isD_iff]
  omega
theorem dec_law (x : Int) (h0 : 0 ≤ x) : (∀ c ∈ dec x, isD c = true) ∧ numD (dec x) = x := by
  obtain ⟨n, rfl⟩ := Int.eq_ofNat_of_zero_le h0
  induction n using Nat.strongRecOn with
  | _ n ih =>
    by_cases hn : n < 10
    · rw [dec_small n (by omega) (by omega)]
      refine ⟨fun c hc => ?_, ?_⟩
      · rw [List.mem_singleton] at hc
        subst hc
        exact isD_digB n (by omega) (by omega)
      · have := numD_snoc [] (digB (n : Int))
        rw [List.nil_append, digB_nat _ (by omega) (by omega)] at this
        rw [this]
        show 10 * 0 + (48 + (n : Int) - 48) = n
        omega
    · obtain ⟨i1, i2⟩ := ih (n / 10) (by omega) (by omega)
      rw [dec_step n (by omega), if_neg (by omega)]
      have e : ((n : Int) / 10) = ((n / 10 : Nat) : Int) := by omega
      rw [e]
      refine ⟨fun c hc => ?_, ?_⟩
      · rcases List.mem_append.1 hc with hc | hc
        · exact i1 c hc
        · rw [List.mem_singleton] at hc
          subst hc
          exact isD_digB _ (by omega) (by omega)
      · rw [numD_snoc, i2, digB_nat _ (by omega) (by omega)]
        omega
theorem numD_zeros (k : Nat) (l : Bytes) : numD (List.replicate k 48 ++ l) = numD l := by
  induction k with
  | zero => rfl
  | succ k ih =>
    rw [List.replicate_succ, List.cons_append]
    show numD (48 :: (List.replicate k 48 ++ l)) = _
    rw [← ih]
    unfold numD
    rfl
theorem digits_law (x : Int) (w : Nat) (h0 : 0 ≤ x) : (∀ c ∈ digits x w, isD c = true) ∧ numD (digits x w) = x := by
  obtain ⟨h1, h2⟩ := dec_law x h0
  unfold digits padB
  refine ⟨fun c hc => ?_, by rw [numD_zeros, h2]⟩
  rcases List.mem_append.1 hc with hc | hc
  · have := List.eq_of_mem_replicate hc
    subst this
    decide
  · exact h1 c hc
end Go.Proofs.YtndhiemagankeaaGreatDoor
