/-
  FnLayout (the statement: for every list of pieces, every time and every zone the call returns true, and its arguments read afterwards as they did), part 12 of 41. In this part: The walks of package time: numbers read from texts. The walks of package time: names read from texts; fractions; zones. The plain law: a name that was written is found in its table. The walks of package time: fractions and zones read from texts. The walks of package time: names of months and days; what is packed into an element's number. The walk of package time: what the next element of a layout is: the loop's frame. The walk of package time: a byte of a layout that begins no element. The walk of package time: an element at a place of a layout. The walk of package time: an element at a place of a layout.
-/
import Derived.Deep.RegionWith
import Derived.Laws.BitsAllLaws
import Derived.Test.YtndhiemagankeaaGreatDoorG05
import Derived.Test.YtndhiemagankeaaGreatDoorG06
/- The walks of package time: numbers read from texts. -/
namespace Go.Proofs.YtndhiemagankeaaGreatDoor
open Go.RowKit
set_option linter.unusedVariables false
set_option linter.unusedSimpArgs false
attribute [local simp] bs_size bs_toList bs_append bs_data bs_extract
/-- The number that digits tell. -/
def numD (l : Bytes) : Int := l.foldl (fun a c => 10 * a + ((c.toNat : Int) - 48)) 0
theorem numD_snoc (l : Bytes) (c : UInt8) : numD (l ++ [c]) = 10 * numD l + ((c.toNat : Int) - 48) := by simp [numD]
theorem isD_iff (c : UInt8) : isD c = true ↔ 48 ≤ c.toNat ∧ c.toNat ≤ 57 := by simp [isD]
theorem numD_take {l : Bytes} {j : Nat} (h : j < l.length) : numD (l.take (j + 1)) = 10 * numD (l.take j) + ((l[j].toNat : Int) - 48) := by
  rw [List.take_succ_eq_append_getElem h, numD_snoc]
theorem numD_take_bd {l : Bytes} (h : ∀ c ∈ l, isD c = true) (j : Nat) (hj : j ≤ l.length) : 0 ≤ numD (l.take j) ∧ numD (l.take j) < 10 ^ j := by
  induction j with
  | zero => simp [numD]
  | succ j ih =>
    have h1 := ih (by omega)
    have h2 := (isD_iff _).1 (h (l[j]'(by omega)) (List.getElem_mem _))
    rw [numD_take (by omega), Int.pow_succ]
    omega
theorem numD_bd {l : Bytes} (h : ∀ c ∈ l, isD c = true) : 0 ≤ numD l ∧ numD l < 10 ^ l.length := by
  have := numD_take_bd h l.length (Nat.le_refl _)
  rwa [List.take_length] at this
theorem pow_le (j n : Nat) (h : j ≤ n) : (10 : Int) ^ j ≤ 10 ^ n := by
  have := Nat.pow_le_pow_right (n := 10) (by omega) h
  have e : ∀ k : Nat, ((10 ^ k : Nat) : Int) = 10 ^ k := fun k => by simp
  rw [← e, ← e]
  exact Int.ofNat_le.2 this
set_option maxRecDepth 100000 in
set_option maxHeartbeats 1000000 in
theorem leadingInt_c (ds r : Bytes) (w : World) (hd : ∀ c ∈ ds, isD c = true) (hr : digitAt r 0 = false) (hl : ds.length ≤ 18) (hrl : r.length ≤ 1099511627776) :
    Calls Tryz.prog 132 #[S (ds ++ r)] w fun e w' => e = .returned (.tuple #[.int .u64 (numD ds), S r, .nilIface]) ∧ ∃ n, w' = w.drewN n := by
  have HD := Lib.hid hd
  have HR := Lib.hid hr
  clear hd hr
  obtain ⟨l, HL⟩ : ∃ l, Hid (l = ds ++ r) := ⟨_, Lib.hid rfl⟩
  rw [← HL.out]
  have hll : l.length = ds.length + r.length := by rw [HL.out]; simp
  go_enter Tryz.func132, Tryz.ntmps132
  go_wp2_with fail
  go_loop [2, 5] (fun x i => ∃ j : Nat, j ≤ ds.length ∧ i = .int .i64 j ∧ x = .int .u64 (numD (ds.take j))) (fun _ i => ds.length - (intOf i).toNat)
  case atStart => exact ⟨0, Nat.zero_le _, rfl, rfl⟩
  case round =>
    obtain ⟨j, hj, rfl, rfl⟩ := hrel
    by_cases hlt : j < ds.length
    · obtain ⟨c, HC⟩ : ∃ c, Hid (c = ds[j]) := ⟨_, Lib.hid rfl⟩
      have hix : ∀ h : j < (bs l).size, (bs l)[j]'h = c := fun h => by
        rw [bs_get, HC.out]
        simp only [HL.out]
        exact List.getElem_append_left hlt
      obtain ⟨c1, c2⟩ : 48 ≤ c.toNat ∧ c.toNat ≤ 57 := (isD_iff _).1 (by rw [HC.out]; exact HD.out _ (List.getElem_mem _))
      have hb := numD_take_bd HD.out j hj
      have hp := pow_le j 17 (by omega)
      obtain ⟨x, HX⟩ : ∃ x, Hid (x = numD (ds.take j)) := ⟨_, Lib.hid rfl⟩
      rw [← HX.out] at hb ⊢
      have hx0 : 0 ≤ x := hb.1
      have hx1 : x < 100000000000000000 := by omega
      clear hb hp
      have HN : Hid (numD (ds.take (j + 1)) = 10 * x + ((c.toNat : Int) - 48)) := by
        show _ = _
        rw [numD_take hlt, HX.out, HC.out]
      go_wp2
      go_round
      case rel => exact ⟨j + 1, by omega, by go_num, by rw [HN.out]; go_num⟩
      case measure => simp [intOf] <;> omega
    · obtain rfl : j = ds.length := by omega
      have HT : Hid (numD (ds.take ds.length) = numD ds) := by show _ = _; rw [List.take_length]
      have HDr : Hid ((l.drop ds.length).take (l.length - ds.length) = r) := by
        show _ = _
        rw [HL.out, List.drop_left, List.length_append, List.take_of_length_le (by omega)]
      cases r with
      | nil =>
        have hll' : l.length = ds.length := hll
        go_wp2_with fail
        go_quiet (fail)
        go_wp2_with fail
        go_ret3
        exact ⟨rfl, _, rfl⟩
      | cons c t =>
        have hix : ∀ h : ds.length < (bs l).size, (bs l)[ds.length]'h = c := fun h => by
          rw [bs_get]
          simp only [HL.out]
          rw [List.getElem_append_right (Nat.le_refl _)]
          simp
        have hcb := c.toNat_lt
        have hc : c.toNat < 48 ∨ 57 < c.toNat := by
          have := HR.out
          simp [digitAt, isD] at this
          omega
        have hlt2 : ds.length < l.length := by rw [hll]; simp
        rcases hc with hc | hc
        all_goals
          go_wp2_with fail
          go_quiet (fail)
          go_wp2_with fail
          go_ret3
          exact ⟨by simp [HL.out], _, rfl⟩
set_option maxRecDepth 100000 in
set_option maxHeartbeats 200000 in
theorem atoi_c (ds : Bytes) (w : World) (hd : ∀ c ∈ ds, isD c = true) (h0 : 0 < ds.length) (hl : ds.length ≤ 18) :
    Calls Tryz.prog 98 #[S ds] w fun e w' => e = .returned (.tuple #[.int .i64 (numD ds), .nilIface]) ∧ ∃ n, w' = w.drewN n := by
  have HLI : Hid (∀ w, Calls Tryz.prog 132 #[S ds] w fun e w' => e = .returned (.tuple #[.int .u64 (numD ds), S [], .nilIface]) ∧ ∃ n, w' = w.drewN n) := by
    show ∀ w, _
    intro w
    have := leadingInt_c ds [] w hd rfl hl (by simp)
    rwa [List.append_nil] at this
  obtain ⟨c, HC⟩ : ∃ c, Hid (c = ds[0]) := ⟨_, Lib.hid rfl⟩
  have hix : ∀ h : 0 < (bs ds).size, (bs ds)[0]'h = c := fun h => by rw [bs_get, HC.out]
  obtain ⟨c1, c2⟩ : 48 ≤ c.toNat ∧ c.toNat ≤ 57 := (isD_iff _).1 (by rw [HC.out]; exact hd _ (List.getElem_mem _))
  have hb := numD_bd hd
  have hp := pow_le ds.length 18 hl
  obtain ⟨x, HX⟩ : ∃ x, Hid (x = numD ds) := ⟨_, Lib.hid rfl⟩
  rw [← HX.out] at hb HLI ⊢
  have hx0 : 0 ≤ x := hb.1
  have hx1 : x < 1000000000000000000 := by omega
  clear hb hp hd
  have hb1 : (((c.toNat : Nat) : Int) == 45) = false := by rw [beq_eq_false_iff_ne]; omega
  have hb2 : (((c.toNat : Nat) : Int) == 43) = false := by rw [beq_eq_false_iff_ne]; omega
  go_enter Tryz.func98, Tryz.ntmps98
  go_wp2_with (first | (go_at_call 132; refine (HLI.out _).mono ?_; rintro e w' ⟨rfl, n, rfl⟩))
  go_ret2
  exact ⟨by simp, _, rfl⟩
set_option maxHeartbeats 1000000 in
theorem getnum2_c (c0 c1 : UInt8) (r : Bytes) (b : Bool) (w : World) (h0 : isD c0 = true) (h1 : isD c1 = true) (hl : r.length ≤ 1099511627776) :
    Calls Tryz.prog 102 #[S (c0 :: c1 :: r), .bool b] w fun e w' => e = .returned (.tuple #[.int .i64 (10 * ((c0.toNat : Int) - 48) + ((c1.toNat : Int) - 48)), S r, .nilIface]) ∧ ∃ n, w' = w.drewN n := by
  have i0 : ∀ h : 0 < (bs (c0 :: c1 :: r)).size, (bs (c0 :: c1 :: r))[0]'h = c0 := fun h => by rw [bs_get]; rfl
  have i1 : ∀ h : 1 < (bs (c0 :: c1 :: r)).size, (bs (c0 :: c1 :: r))[1]'h = c1 := fun h => by rw [bs_get]; rfl
  have HD : Hid (digitAt (c0 :: c1 :: r) (0 : Int).toNat = true ∧ digitAt (c0 :: c1 :: r) (1 : Int).toNat = true) := ⟨by simpa [digitAt] using h0, by simpa [digitAt] using h1⟩
  obtain ⟨a0, a1⟩ := (isD_iff _).1 h0
  obtain ⟨b0, b1⟩ := (isD_iff _).1 h1
  clear h0 h1
  obtain ⟨l, HL⟩ : ∃ l, Hid (l = c0 :: c1 :: r) := ⟨_, Lib.hid rfl⟩
  rw [← HL.out] at i0 i1 HD ⊢
  have hll : l.length = r.length + 2 := by rw [HL.out]; simp
  go_enter Tryz.func102, Tryz.ntmps102
  go_wp2_with (go_at_call 90; refine (isDigit_c _ _ _ (by omega)).mono ?_; rintro e w' ⟨rfl, rfl⟩; first | rw [HD.out.1] | rw [HD.out.2])
  go_quiet (fail)
  go_wp2_with fail
  go_ret3
  exact ⟨by simp [HL.out] <;> omega, _, rfl⟩
set_option maxHeartbeats 1000000 in
theorem getnum1_c (c0 : UInt8) (r : Bytes) (w : World) (h0 : isD c0 = true) (h1 : digitAt r 0 = false) (hl : r.length ≤ 1099511627776) :
    Calls Tryz.prog 102 #[S (c0 :: r), .bool false] w fun e w' => e = .returned (.tuple #[.int .i64 ((c0.toNat : Int) - 48), S r, .nilIface]) ∧ ∃ n, w' = w.drewN n := by
  have i0 : ∀ h : 0 < (bs (c0 :: r)).size, (bs (c0 :: r))[0]'h = c0 := fun h => by rw [bs_get]; rfl
  have HD : Hid (digitAt (c0 :: r) (0 : Int).toNat = true ∧ digitAt (c0 :: r) (1 : Int).toNat = false) := ⟨by simpa [digitAt] using h0, by simpa [digitAt] using h1⟩
  obtain ⟨a0, a1⟩ := (isD_iff _).1 h0
  clear h0 h1
  obtain ⟨l, HL⟩ : ∃ l, Hid (l = c0 :: r) := ⟨_, Lib.hid rfl⟩
  rw [← HL.out] at i0 HD ⊢
  have hll : l.length = r.length + 1 := by rw [HL.out]; simp
  go_enter Tryz.func102, Tryz.ntmps102
  go_wp2_with (go_at_call 90; refine (isDigit_c _ _ _ (by omega)).mono ?_; rintro e w' ⟨rfl, rfl⟩; first | rw [HD.out.1] | rw [HD.out.2])
  go_quiet (fail)
  go_wp2_with fail
  go_ret3
  exact ⟨by simp [HL.out] <;> omega, _, rfl⟩
set_option maxRecDepth 100000 in
set_option maxHeartbeats 1000000 in
theorem getnum3_c (ds r : Bytes) (b : Bool) (w : World) (hd : ∀ c ∈ ds, isD c = true) (h0 : 0 < ds.length) (h3 : ds.length ≤ 3) (hr : ds.length = 3 ∨ (b = false ∧ digitAt r 0 = false)) (hrl : r.length ≤ 1099511627776) :
    Calls Tryz.prog 105 #[S (ds ++ r), .bool b] w fun e w' => e = .returned (.tuple #[.int .i64 (numD ds), S r, .nilIface]) ∧ ∃ n, w' = w.drewN n := by
  have HD := Lib.hid hd
  clear hd
  obtain ⟨l, HL⟩ : ∃ l, Hid (l = ds ++ r) := ⟨_, Lib.hid rfl⟩
  rw [← HL.out]
  have hll : l.length = ds.length + r.length := by rw [HL.out]; simp
  go_enter Tryz.func105, Tryz.ntmps105
  go_wp2_with fail
  go_loop [7, 8] (fun x i => ∃ j : Nat, j ≤ ds.length ∧ i = .int .i64 j ∧ x = .int .i64 (numD (ds.take j))) (fun _ i => ds.length - (intOf i).toNat)
  case atStart => exact ⟨0, Nat.zero_le _, rfl, rfl⟩
  case round =>
    obtain ⟨j, hj, rfl, rfl⟩ := hrel
    by_cases hlt : j < ds.length
    · obtain ⟨c, HC⟩ : ∃ c, Hid (c = ds[j]) := ⟨_, Lib.hid rfl⟩
      have hix : ∀ h : j < (bs l).size, (bs l)[j]'h = c := fun h => by
        rw [bs_get, HC.out]
        simp only [HL.out]
        exact List.getElem_append_left hlt
      have HDJ : Hid (digitAt l ((j : Int)).toNat = true) := by
        show _ = _
        rw [Int.toNat_natCast, HL.out]
        simp [digitAt, List.getElem?_append_left hlt, List.getElem?_eq_getElem hlt]
        exact HD.out _ (List.getElem_mem _)
      obtain ⟨c1, c2⟩ : 48 ≤ c.toNat ∧ c.toNat ≤ 57 := (isD_iff _).1 (by rw [HC.out]; exact HD.out _ (List.getElem_mem _))
      have hb := numD_take_bd HD.out j hj
      have hp := pow_le j 3 (by omega)
      obtain ⟨x, HX⟩ : ∃ x, Hid (x = numD (ds.take j)) := ⟨_, Lib.hid rfl⟩
      rw [← HX.out] at hb ⊢
      have hx0 : 0 ≤ x := hb.1
      have hx1 : x < 1000 := by omega
      clear hb hp hr
      have HN : Hid (numD (ds.take (j + 1)) = 10 * x + ((c.toNat : Int) - 48)) := by
        show _ = _
        rw [numD_take hlt, HX.out, HC.out]
      go_wp2_with (go_at_call 90; refine (isDigit_c _ _ _ (by omega)).mono ?_; rintro e w' ⟨rfl, rfl⟩; rw [HDJ.out])
      go_round
      case rel => exact ⟨j + 1, by omega, by go_num, by rw [HN.out]; go_num⟩
      case measure => simp [intOf] <;> omega
    · obtain rfl : j = ds.length := by omega
      have HT : Hid (numD (ds.take ds.length) = numD ds) := by show _ = _; rw [List.take_length]
      have hz : (((ds.length : Nat) : Int) == 0) = false := by rw [beq_eq_false_iff_ne]; omega
      by_cases h : ds.length = 3
      · clear hr
        have h' : (((ds.length : Nat) : Int) == 3) = true := by rw [h]; rfl
        have H3 : Hid (ds.take 3 = ds ∧ (ds ++ r).drop 3 = r) := ⟨List.take_of_length_le (by omega), by rw [← h, List.drop_left]⟩
        cases b
        all_goals
          go_wp2_with fail
          go_quiet (fail)
          go_wp2_with fail
          go_ret3
          exact ⟨by simp [HL.out, H3.out.1, H3.out.2], _, rfl⟩
      · obtain ⟨rfl, hr0⟩ := hr.resolve_left h
        clear hr
        have HDJ : Hid (digitAt l ((ds.length : Int)).toNat = false) := by
          show _ = _
          rw [Int.toNat_natCast, HL.out]
          unfold digitAt at hr0 ⊢
          rw [List.getElem?_append_right (Nat.le_refl _), Nat.sub_self]
          exact hr0
        clear hr0
        go_wp2_with (go_at_call 90; refine (isDigit_c _ _ _ (by omega)).mono ?_; rintro e w' ⟨rfl, rfl⟩; rw [HDJ.out])
        go_quiet (fail)
        go_wp2_with fail
        go_ret3
        exact ⟨by simp [HL.out], _, rfl⟩
def lowB (c : UInt8) : Nat := c.toNat ||| 32
theorem lowB_lt (c : UInt8) : lowB c < 256 := Nat.or_lt_two_pow (n := 8) c.toNat_lt (by decide)
@[local simp] theorem or32 (c : UInt8) : bits .or .u8 ((c.toNat : Nat) : Int) 32 = ((lowB c : Nat) : Int) := u8_or_nat c.toNat 32 c.toNat_lt (by decide)
def sameB (c d : UInt8) : Bool := c == d || (decide (lowB c = lowB d) && (decide (97 ≤ lowB c) && decide (lowB c ≤ 122)))
def matchB : Bytes → Bytes → Bool
  | [], _ => true
  | c :: r, d :: t => sameB c d && matchB r t
  | _ :: _, [] => false
set_option maxRecDepth 100000 in
set_option maxHeartbeats 1000000 in
theorem match_c (s t : Bytes) (w : World) (h : s.length = t.length) (hl : s.length ≤ 1099511627776) :
    Calls Tryz.prog 133 #[S s, S t] w fun e w' => e = .returned (.bool (matchB s t)) ∧ w' = w := by
  go_enter Tryz.func133, Tryz.ntmps133
  go_wp2_with fail
  go_loop [5] (fun i => ∃ j : Nat, j ≤ s.length ∧ i = .int .i64 j ∧ matchB (s.drop j) (t.drop j) = matchB s t) (fun i => s.length - (intOf i).toNat)
  case atStart => exact ⟨0, Nat.zero_le _, rfl, rfl⟩
  case round =>
    obtain ⟨j, hj, rfl, hm⟩ := hrel
    have HM := Lib.hid hm
    clear hm
    by_cases hlt : j < s.length
    · have hlt' : j < t.length := by omega
      obtain ⟨c, HC⟩ : ∃ c, Hid (c = s[j]) := ⟨_, Lib.hid rfl⟩
      obtain ⟨d, HD⟩ : ∃ d, Hid (d = t[j]) := ⟨_, Lib.hid rfl⟩
      have hix : ∀ h : j < (bs s).size, (bs s)[j]'h = c := fun h => by rw [bs_get, HC.out]
      have hiy : ∀ h : j < (bs t).size, (bs t)[j]'h = d := fun h => by rw [bs_get, HD.out]
      have HN : Hid (matchB s t = (sameB c d && matchB (s.drop (j + 1)) (t.drop (j + 1)))) := by
        show _ = _
        rw [← HM.out, List.drop_eq_getElem_cons hlt, List.drop_eq_getElem_cons hlt', matchB, HC.out, HD.out]
      have hcb := c.toNat_lt
      have hdb := d.toNat_lt
      have hcl := lowB_lt c
      have hdl := lowB_lt d
      by_cases h1 : c = d
      · subst h1
        have HS : Hid (sameB c c = true) := by show _ = _; simp [sameB]
        go_wp2
        go_round
        case rel => exact ⟨j + 1, by omega, by go_num, by rw [HN.out, HS.out]; rfl⟩
        case measure => simp [intOf] <;> omega
      · have h1' : ¬ c.toNat = d.toNat := fun e => h1 (by rw [← UInt8.toNat_inj]; exact e)
        have h1b : (c == d) = false := by simpa using h1
        by_cases h2 : lowB c = lowB d <;> by_cases h3 : 97 ≤ lowB c <;> by_cases h4 : lowB c ≤ 122
        all_goals
          have HS : Hid (sameB c d = (decide (lowB c = lowB d) && (decide (97 ≤ lowB c) && decide (lowB c ≤ 122)))) := by show _ = _; simp [sameB, h1b]
          clear h1 h1b
          go_wp2
          all_goals first
            | (go_ret; exact ⟨ret_bool (by rw [HN.out, HS.out]; (first | rw [decide_eq_true h2] | rw [decide_eq_false h2]); (first | rw [decide_eq_true h3] | rw [decide_eq_false h3]); (first | rw [decide_eq_true h4] | rw [decide_eq_false h4]); rfl), rfl⟩)
            | (go_round; (case rel => exact ⟨j + 1, by omega, by go_num, by rw [HN.out, HS.out]; (first | rw [decide_eq_true h2] | rw [decide_eq_false h2]); (first | rw [decide_eq_true h3] | rw [decide_eq_false h3]); (first | rw [decide_eq_true h4] | rw [decide_eq_false h4]); rfl⟩); (case measure => simp [intOf] <;> omega))
    · go_wp2
      go_ret
      refine ⟨ret_bool ?_, rfl⟩
      rw [← HM.out, List.drop_of_length_le (by omega)]
      rfl
end Go.Proofs.YtndhiemagankeaaGreatDoor
/- The walks of package time: names read from texts; fractions; zones. -/
namespace Go.Proofs.YtndhiemagankeaaGreatDoor
open Go.RowKit
set_option linter.unusedVariables false
set_option linter.unusedSimpArgs false
attribute [local simp] bs_size bs_toList bs_append bs_data bs_extract
theorem take_rest (l : Bytes) (n : Nat) : (l.drop n).take (l.length - n) = l.drop n := List.take_of_length_le (by simp)
/-- A slice of strings: where it lies and what it holds. -/
def StrsAt (w : World) (v : Value) (tab : List Bytes) : Prop :=
  ∃ g, v = .slice (some ⟨g, 0, none⟩) tab.length tab.length ∧ g < w.heap.size ∧ ∀ (i : Nat) (h : i < tab.length), w.cell? ⟨g, i, none⟩ = some (S tab[i])
theorem StrsAt.new (w : World) (tab : List Bytes) (t : TypeId) : StrsAt (w.alloc (.cells (tab.map S).toArray t)) (.slice (some ⟨w.heap.size, 0, none⟩) tab.length tab.length) tab := by
  refine ⟨_, rfl, by simp, fun i hi => ?_⟩
  have := World.cell?_alloc_mark w (tab.map S).toArray t (0, 0) i
  refine Eq.trans this ?_
  simp [hi]
theorem StrsAt.below {w w' : World} {v : Value} {tab : List Bytes} (h : StrsAt w v tab) (hb : Below w.heap.size w w') : StrsAt w' v tab := by
  obtain ⟨g, rfl, hg, hc⟩ := h
  exact ⟨g, rfl, Nat.lt_of_lt_of_le hg hb.size, fun i hi => by rw [hb.cell (p := ⟨g, i, none⟩) hg]; exact hc i hi⟩
def short (l : List Bytes) : List Bytes := l.map (List.take 3)
theorem shortMonths_c (w : World) : Calls Tryz.prog 100 #[] w fun e w' => (∃ v, e = .returned v ∧ StrsAt w' v (short monthNames)) ∧ Below w.heap.size w w' := by
  go_enter Tryz.func100, Tryz.ntmps100
  go_wp2
  go_ret
  exact ⟨⟨_, rfl, StrsAt.new w (short monthNames) _⟩, below_new _ _⟩
theorem longMonths_c (w : World) : Calls Tryz.prog 101 #[] w fun e w' => (∃ v, e = .returned v ∧ StrsAt w' v monthNames) ∧ Below w.heap.size w w' := by
  go_enter Tryz.func101, Tryz.ntmps101
  go_wp2
  go_ret
  exact ⟨⟨_, rfl, StrsAt.new w monthNames _⟩, below_new _ _⟩
theorem shortDays_c (w : World) : Calls Tryz.prog 103 #[] w fun e w' => (∃ v, e = .returned v ∧ StrsAt w' v (short dayNames)) ∧ Below w.heap.size w w' := by
  go_enter Tryz.func103, Tryz.ntmps103
  go_wp2
  go_ret
  exact ⟨⟨_, rfl, StrsAt.new w (short dayNames) _⟩, below_new _ _⟩
theorem longDays_c (w : World) : Calls Tryz.prog 104 #[] w fun e w' => (∃ v, e = .returned v ∧ StrsAt w' v dayNames) ∧ Below w.heap.size w w' := by
  go_enter Tryz.func104, Tryz.ntmps104
  go_wp2
  go_ret
  exact ⟨⟨_, rfl, StrsAt.new w dayNames _⟩, below_new _ _⟩
def hasName (v val : Bytes) : Bool := decide (v.length ≤ val.length) && matchB (val.take v.length) v
set_option maxRecDepth 100000 in
set_option maxHeartbeats 1000000 in
theorem lookup_c (v : Value) (tab : List Bytes) (val : Bytes) (k : Nat) (w : World) (H : StrsAt w v tab) (hn : tab.length ≤ 100) (ht : ∀ t ∈ tab, t.length ≤ 100) (_ : val.length ≤ 1099511627776)
    (hk : k < tab.length) (hat : hasName tab[k] val = true) (hno : ∀ i (h : i < k), hasName (tab[i]'(by omega)) val = false) :
    Calls Tryz.prog 99 #[v, S val] w fun e w' => e = .returned (.tuple #[.int .i64 k, S (val.drop tab[k].length), .nilIface]) ∧ ∃ n, w' = w.drewN n := by
  obtain ⟨g, rfl, hg, hc⟩ := H
  have HC := Lib.hid hc
  have HT := Lib.hid ht
  have HA := Lib.hid hat
  have HN := Lib.hid hno
  clear hc ht hat hno
  go_enter Tryz.func99, Tryz.ntmps99
  go_wp2_with fail
  go_loopw [11] (fun i wr => ∃ j : Nat, j ≤ k ∧ i = .int .i64 j ∧ ∃ n, wr = w.drewN n) (fun i _ => k - (intOf i).toNat)
  case atStart => exact ⟨0, Nat.zero_le _, rfl, 0, rfl⟩
  case round =>
    obtain ⟨j, hj, rfl, n, rfl⟩ := hrel
    have hjt : j < tab.length := by omega
    have hcell := HC.out j hjt
    obtain ⟨t, HTT⟩ : ∃ t, Hid (t = tab[j]) := ⟨_, Lib.hid rfl⟩
    rw [← HTT.out] at hcell
    have htl : t.length ≤ 100 := by rw [HTT.out]; exact HT.out _ (List.getElem_mem _)
    have HM : Hid (t.length ≤ val.length → ∀ w, Calls Tryz.prog 133 #[S (val.take t.length), S t] w fun e w' => e = .returned (.bool (matchB (val.take t.length) t)) ∧ w' = w) := fun h w => match_c _ _ w (by simp; omega) (by simp; omega)
    by_cases hlt : j < k
    · have hF : Hid (hasName t val = false) := by show _ = _; rw [HTT.out]; exact HN.out j hlt
      by_cases hlen : t.length ≤ val.length
      · have hm : matchB (val.take t.length) t = false := by have := hF.out; simpa [hasName, hlen] using this
        have HM := Lib.hid (HM.out hlen)
        rw [hm] at HM
        clear hm
        go_wp2_with (go_at_call 133; refine (HM.out _).mono ?_; rintro e w' ⟨rfl, rfl⟩)
        go_roundw
        case rel => exact ⟨j + 1, by omega, by go_num, _, rfl⟩
        case measure => simp [intOf] <;> omega
      · go_wp2_with fail
        go_roundw
        case rel => exact ⟨j + 1, by omega, by go_num, _, rfl⟩
        case measure => simp [intOf] <;> omega
    · obtain rfl : j = k := by omega
      have hA : Hid (hasName t val = true) := by show _ = _; rw [HTT.out]; exact HA.out
      obtain ⟨hlen, hm⟩ : t.length ≤ val.length ∧ matchB (val.take t.length) t = true := by have := hA.out; simpa [hasName] using this
      have HM := Lib.hid (HM.out hlen)
      rw [hm] at HM
      clear hm
      go_wp2_with (go_at_call 133; refine (HM.out _).mono ?_; rintro e w' ⟨rfl, rfl⟩)
      go_quiet (fail)
      go_wp2_with fail
      go_ret3
      exact ⟨by simp [HTT.out, take_rest], n + nq, by simp⟩
end Go.Proofs.YtndhiemagankeaaGreatDoor
/- The plain law: a name that was written is found in its table. -/
namespace Go.Proofs.YtndhiemagankeaaGreatDoor
open Go.RowKit
set_option linter.unusedSimpArgs false
set_option linter.unusedVariables false
theorem sameB_refl (c : UInt8) : sameB c c = true := by simp [sameB]
theorem matchB_refl (s : Bytes) : matchB s s = true := by
  induction s with
  | nil => rfl
  | cons c s ih => simp [matchB, sameB_refl, ih]
theorem hasName_self (t rest : Bytes) : hasName t (t ++ rest) = true := by
  simp [hasName, matchB_refl]
/-- Names that differ in their first three letters. -/
def diff3 (a b : Bytes) : Bool := !matchB (b.take 3) (a.take 3)
theorem matchB_take (s t : Bytes) (k : Nat) (h : matchB s t = true) : matchB (s.take k) (t.take k) = true := by
  induction k generalizing s t with
  | zero => simp [matchB]
  | succ k ih =>
    cases s with
    | nil => simp [matchB]
    | cons c s =>
      cases t with
      | nil => simp [matchB] at h
      | cons d t =>
        simp only [matchB, Bool.and_eq_true] at h
        simp only [List.take_succ_cons, matchB, Bool.and_eq_true]
        exact ⟨h.1, ih s t h.2⟩
theorem hasName_other (a b rest : Bytes) (ha : 3 ≤ a.length) (hb : 3 ≤ b.length) (h : diff3 a b = true) : hasName a (b ++ rest) = false := by
  unfold hasName
  by_cases hl : a.length ≤ (b ++ rest).length
  · simp only [hl, decide_true, Bool.true_and]
    cases hm : matchB ((b ++ rest).take a.length) a with
    | false => rfl
    | true =>
      have := matchB_take _ _ 3 hm
      rw [List.take_take, Nat.min_eq_left ha, List.take_append_of_le_length hb] at this
      simp [diff3, this] at h
  · rw [show decide (a.length ≤ (b ++ rest).length) = false by simpa using hl]; rfl
theorem look_law (tab : List Bytes) (rest : Bytes) (k : Nat) (hk : k < tab.length) (hn : tab.length ≤ 100) (hlen : ∀ t ∈ tab, 3 ≤ t.length ∧ t.length ≤ 100) (hd : ((List.range k).all fun i => diff3 (tab.getD i []) (tab.getD k [])) = true) (hr : rest.length ≤ 1000000000) :
    ∀ w sv, StrsAt w sv tab → Calls Tryz.prog 99 #[sv, S (tab[k] ++ rest)] w fun e w' => e = .returned (.tuple #[.int .i64 (k : Int), S rest, .nilIface]) ∧ ∃ n, w' = w.drewN n := by
  intro w sv H
  have hkl := hlen _ (List.getElem_mem hk)
  have := lookup_c sv tab (tab[k] ++ rest) k w H hn (fun t ht => (hlen t ht).2) (by simp; omega) hk (hasName_self _ _)
    (fun i hi => hasName_other _ _ _ (hlen _ (List.getElem_mem (by omega))).1 hkl.1 (by
      have h1 := List.all_eq_true.1 hd i (List.mem_range.2 hi)
      rw [List.getD_eq_getElem?_getD, List.getD_eq_getElem?_getD, List.getElem?_eq_getElem hk, List.getElem?_eq_getElem (show i < tab.length by omega)] at h1
      exact h1))
  rwa [List.drop_left] at this
theorem monthLook (tab : List Bytes) (ht : tab = monthNames ∨ tab = short monthNames) (m : Int) (m0 : 1 ≤ m) (m1 : m ≤ 12) (rest : Bytes) (hr : rest.length ≤ 1000000000) :
    ∀ w sv, StrsAt w sv tab → Calls Tryz.prog 99 #[sv, S (tab.getD (m - 1).toNat [] ++ rest)] w fun e w' => e = .returned (.tuple #[.int .i64 ((m - 1).toNat : Int), S rest, .nilIface]) ∧ ∃ n, w' = w.drewN n := by
  obtain ⟨k, hk⟩ : ∃ k : Nat, k = (m - 1).toNat := ⟨_, rfl⟩
  rw [← hk]
  have hk12 : k < 12 := by omega
  clear hk m0 m1
  have hl : tab.length = 12 := by rcases ht with rfl | rfl <;> rfl
  have hkt : k < tab.length := by omega
  rw [List.getD_eq_getElem?_getD, List.getElem?_eq_getElem hkt]
  refine look_law tab rest k hkt (by omega) ?_ ?_ hr
  · rcases ht with rfl | rfl <;> decide
  · have h1 : ∀ k, k < 12 → ((List.range k).all fun i => diff3 (monthNames.getD i []) (monthNames.getD k [])) = true := by decide
    have h2 : ∀ k, k < 12 → ((List.range k).all fun i => diff3 ((short monthNames).getD i []) ((short monthNames).getD k [])) = true := by decide
    rcases ht with rfl | rfl
    · exact h1 k hk12
    · exact h2 k hk12
theorem dayLook (tab : List Bytes) (ht : tab = dayNames ∨ tab = short dayNames) (d : Int) (d0 : 0 ≤ d) (d1 : d ≤ 6) (rest : Bytes) (hr : rest.length ≤ 1000000000) :
    ∀ w sv, StrsAt w sv tab → Calls Tryz.prog 99 #[sv, S (tab.getD d.toNat [] ++ rest)] w fun e w' => e = .returned (.tuple #[.int .i64 (d.toNat : Int), S rest, .nilIface]) ∧ ∃ n, w' = w.drewN n := by
  obtain ⟨k, hk⟩ : ∃ k : Nat, k = d.toNat := ⟨_, rfl⟩
  rw [← hk]
  have hk7 : k < 7 := by omega
  clear hk d0 d1
  have hl : tab.length = 7 := by rcases ht with rfl | rfl <;> rfl
  have hkt : k < tab.length := by omega
  rw [List.getD_eq_getElem?_getD, List.getElem?_eq_getElem hkt]
  refine look_law tab rest k hkt (by omega) ?_ ?_ hr
  · rcases ht with rfl | rfl <;> decide
  · have h1 : ∀ k, k < 7 → ((List.range k).all fun i => diff3 (dayNames.getD i []) (dayNames.getD k [])) = true := by decide
    have h2 : ∀ k, k < 7 → ((List.range k).all fun i => diff3 ((short dayNames).getD i []) ((short dayNames).getD k [])) = true := by decide
    rcases ht with rfl | rfl
    · exact h1 k hk7
    · exact h2 k hk7
end Go.Proofs.YtndhiemagankeaaGreatDoor
/- The walks of package time: fractions and zones read from texts. -/
namespace Go.Proofs.YtndhiemagankeaaGreatDoor
open Go.RowKit
set_option linter.unusedVariables false
set_option linter.unusedSimpArgs false
attribute [local simp] bs_size bs_toList bs_append bs_data bs_extract
theorem pow_bd (ds : Bytes) (hd : ∀ c ∈ ds, isD c = true) (j : Nat) (hj : ds.length + j ≤ 9) : 0 ≤ numD ds * 10 ^ j ∧ numD ds * 10 ^ j < 1000000000 := by
  obtain ⟨h0, h1⟩ := numD_bd hd
  have hp : (0 : Int) < 10 ^ j := Int.pow_pos (by decide)
  refine ⟨Int.mul_nonneg h0 (Int.le_of_lt hp), ?_⟩
  have h2 : numD ds * 10 ^ j < 10 ^ ds.length * 10 ^ j := Int.mul_lt_mul_of_pos_right h1 hp
  rw [← Int.pow_add] at h2
  have h3 := pow_le (ds.length + j) 9 hj
  omega
set_option maxRecDepth 100000 in
set_option maxHeartbeats 1000000 in
theorem parseNanoseconds_c (m : UInt8) (ds r : Bytes) (n : Int) (w : World) (hm : (m == 46 || m == 44) = true) (hd : ∀ c ∈ ds, isD c = true) (h0 : 0 < ds.length) (h9 : ds.length ≤ 9) (hn : n = ds.length + 1) (hr : r.length ≤ 1099511627776) :
    Calls Tryz.prog 91 #[S (m :: (ds ++ r)), .int .i64 n] w fun e w' => e = .returned (.tuple #[.int .i64 (numD ds * 10 ^ (9 - ds.length)), S [], .nilIface]) ∧ ∃ n, w' = w.drewN n := by
  subst hn
  have hix : ∀ h : 0 < (bs (m :: (ds ++ r))).size, (bs (m :: (ds ++ r)))[0]'h = m := fun h => by rw [bs_get]; rfl
  have HAT : Hid (∀ w, Calls Tryz.prog 98 #[S ds] w fun e w' => e = .returned (.tuple #[.int .i64 (numD ds), .nilIface]) ∧ ∃ n, w' = w.drewN n) := fun w => atoi_c ds w hd h0 (by omega)
  have HCP : Hid (∀ w, Calls Tryz.prog 106 #[.int .u8 m.toNat] w fun e w' => e = .returned (.bool true) ∧ w' = w) := fun w => by
    have := commaOrPeriod_c m w
    rwa [hm] at this
  have HP : Hid (∀ j, ds.length + j ≤ 9 → 0 ≤ numD ds * 10 ^ j ∧ numD ds * 10 ^ j < 1000000000) := fun j hj => pow_bd ds hd j hj
  obtain ⟨l, HL⟩ : ∃ l, Hid (l = m :: (ds ++ r)) := ⟨_, Lib.hid rfl⟩
  rw [← HL.out] at hix ⊢
  have hll : l.length = ds.length + r.length + 1 := by rw [HL.out]; simp
  have HE : Hid ((l.drop 1).take ds.length = ds) := by show _ = _; rw [HL.out]; simp
  have HE' : Hid ((l.tail).take ds.length = ds) := by show _ = _; rw [HL.out]; simp
  clear hm hd
  have hx := HP.out 0 (by omega)
  rw [Int.pow_zero, Int.mul_one] at hx
  obtain ⟨x, HX⟩ : ∃ x, Hid (x = numD ds) := ⟨_, Lib.hid rfl⟩
  rw [← HX.out] at hx HP HAT ⊢
  obtain ⟨hx0, hx1⟩ := hx
  go_enter Tryz.func91, Tryz.ntmps91
  go_wp2_with (first | (go_at_call 106; refine (HCP.out _).mono ?_; rintro e w' ⟨rfl, rfl⟩) | (go_at_call 98; (first | rw [HE.out] | rw [HE'.out] | simp [HE.out, HE'.out]); refine (HAT.out _).mono ?_; rintro e w' ⟨rfl, nn, rfl⟩))
  go_loop [4, 8] (fun x' i => ∃ j : Nat, ds.length + j ≤ 9 ∧ i = .int .i64 j ∧ x' = .int .i64 (x * 10 ^ j)) (fun _ i => 9 - ds.length - (intOf i).toNat)
  case atStart => exact ⟨0, by omega, rfl, by simp⟩
  case round =>
    obtain ⟨j, hj, rfl, rfl⟩ := hrel
    by_cases hlt : ds.length + j < 9
    · have hb := HP.out (j + 1) (by omega)
      have hp : Hid (x * 10 ^ (j + 1) = x * 10 ^ j * 10) := by show _ = _; rw [Int.pow_succ, Int.mul_assoc]
      rw [hp.out] at hb
      obtain ⟨y, HY⟩ : ∃ y, Hid (y = x * 10 ^ j) := ⟨_, Lib.hid rfl⟩
      rw [← HY.out] at hb hp ⊢
      go_wp2
      go_round
      case rel => exact ⟨j + 1, by omega, by go_num, by rw [hp.out]⟩
      case measure => simp [intOf] <;> omega
    · obtain rfl : j = 9 - ds.length := by omega
      go_wp2
      go_ret3
      exact ⟨rfl, _, rfl⟩
def upFirst (l : Bytes) : Bool := match l with
  | c :: _ => upperB c
  | [] => false
set_option maxRecDepth 100000 in
set_option maxHeartbeats 2000000 in
theorem parseTimeZone_c (a b c : UInt8) (r : Bytes) (w : World) (ha : upperB a = true) (hb : upperB b = true) (hc : upperB c = true) (hg : ([a, b, c] == gmtB) = false) (hr : upFirst r = false) (hl : r.length ≤ 1099511627776) :
    Calls Tryz.prog 107 #[S (a :: b :: c :: r)] w fun e w' => e = .returned (.tuple #[.int .i64 3, .bool true]) ∧ w' = w := by
  have i0 : ∀ h : 0 < (bs (a :: b :: c :: r)).size, (bs (a :: b :: c :: r))[0]'h = a := fun h => by rw [bs_get]; rfl
  have i1 : ∀ h : 1 < (bs (a :: b :: c :: r)).size, (bs (a :: b :: c :: r))[1]'h = b := fun h => by rw [bs_get]; rfl
  have i2 : ∀ h : 2 < (bs (a :: b :: c :: r)).size, (bs (a :: b :: c :: r))[2]'h = c := fun h => by rw [bs_get]; rfl
  obtain ⟨l, HL⟩ : ∃ l, Hid (l = a :: b :: c :: r) := ⟨_, Lib.hid rfl⟩
  rw [← HL.out] at i0 i1 i2 ⊢
  have hll : l.length = r.length + 3 := by rw [HL.out]; simp
  have g1 : (l.take 3 == [71, 77, 84]) = false := by rw [HL.out]; exact hg
  have g2 : (l.take 4 == [67, 104, 83, 84]) = false := by
    rw [HL.out]
    simp [upperB] at hb ⊢
    intro _ h; subst h; simp at hb
  have g3 : (l.take 4 == [77, 101, 83, 84]) = false := by
    rw [HL.out]
    simp [upperB] at hb ⊢
    intro _ h; subst h; simp at hb
  have ha' : 65 ≤ a.toNat ∧ a.toNat ≤ 90 := by simpa [upperB] using ha
  have hb' : 65 ≤ b.toNat ∧ b.toNat ≤ 90 := by simpa [upperB] using hb
  have hc' : 65 ≤ c.toNat ∧ c.toNat ≤ 90 := by simpa [upperB] using hc
  clear ha hb hc hg
  obtain ⟨a1, a2⟩ := ha'
  obtain ⟨b1, b2⟩ := hb'
  obtain ⟨c1, c2⟩ := hc'
  have e1 : (((a.toNat : Nat) : Int) == 43) = false := by rw [beq_eq_false_iff_ne]; omega
  have e2 : (((a.toNat : Nat) : Int) == 45) = false := by rw [beq_eq_false_iff_ne]; omega
  have HR : Hid (r = [] ∨ ∃ d t, r = d :: t ∧ (d.toNat < 65 ∨ 90 < d.toNat)) := by
    cases r with
    | nil => exact .inl rfl
    | cons d t => exact .inr ⟨d, t, rfl, by simp [upFirst, upperB] at hr; omega⟩
  clear hr
  by_cases h4 : 4 ≤ l.length
  all_goals
    go_enter Tryz.func107, Tryz.ntmps107
    go_wp2_with fail
    go_loop [5] (fun i => ∃ j : Nat, j ≤ 3 ∧ i = .int .i64 j) (fun i => 3 - (intOf i).toNat)
    case atStart => exact ⟨0, by omega, rfl⟩
    case round =>
      obtain ⟨j, hj, rfl⟩ := hrel
      have hj : j = 0 ∨ j = 1 ∨ j = 2 ∨ j = 3 := by omega
      rcases hj with rfl | rfl | rfl | rfl
      · go_wp2
        go_round
        case rel => exact ⟨1, by omega, by go_num⟩
        case measure => simp [intOf] <;> omega
      · go_wp2
        go_round
        case rel => exact ⟨2, by omega, by go_num⟩
        case measure => simp [intOf] <;> omega
      · go_wp2
        go_round
        case rel => exact ⟨3, by omega, by go_num⟩
        case measure => simp [intOf] <;> omega
      · rcases HR.out with rfl | ⟨d, t, rfl, hd⟩
        · first
            | (exfalso; simp at hll; omega)
            | (go_wp2; go_ret2; exact ⟨rfl, rfl⟩)
        · have i3 : ∀ h : 3 < (bs l).size, (bs l)[3]'h = d := fun h => by rw [bs_get]; simp only [HL.out]; rfl
          first
            | (exfalso; simp at hll; omega)
            | (have hdb := d.toNat_lt
               rcases hd with hd | hd
               all_goals
                 go_wp2
                 go_ret2
                 exact ⟨rfl, rfl⟩)
end Go.Proofs.YtndhiemagankeaaGreatDoor
/- The walks of package time: names of months and days; what is packed into an element's number. -/
namespace Go.Proofs.YtndhiemagankeaaGreatDoor
open Go.RowKit
set_option linter.unusedVariables false
set_option linter.unusedSimpArgs false
attribute [local simp] bs_size bs_toList bs_append bs_data
set_option maxRecDepth 100000 in
set_option maxHeartbeats 400000 in
theorem monthString_c (m : Int) (w : World) (h0 : 1 ≤ m) (h1 : m ≤ 12) :
    Calls Tryz.prog 126 #[.int .i64 m] w fun e w' => e = .returned (S (monthName m)) ∧ Below w.heap.size w w' := by
  obtain ⟨k, hk⟩ := Int.eq_ofNat_of_zero_le (show 0 ≤ m - 1 by omega)
  obtain rfl : m = (k : Int) + 1 := by omega
  have hk12 : k < monthNames.length := by show k < 12; omega
  have HN : Hid (monthName ((k : Int) + 1) = monthNames[k]) := by
    show _ = _
    unfold monthName
    rw [show ((k : Int) + 1 - 1).toNat = k by omega, List.getD_eq_getElem?_getD, List.getElem?_eq_getElem hk12]
    rfl
  rw [HN.out]
  have hlen : monthNames.length = 12 := rfl
  go_enter Tryz.func126, Tryz.ntmps126
  go_wp2_with (go_at_call 101; refine (longMonths_c _).mono ?_; rintro e w' ⟨⟨v, rfl, g, rfl, hg, hc⟩, hbel⟩; have hcell := hc k hk12; have HC := Lib.hid hc; have HBEL := Lib.hid hbel; clear hc hbel)
  go_ret
  exact ⟨rfl, HBEL.out⟩
set_option maxRecDepth 100000 in
set_option maxHeartbeats 400000 in
theorem dayString_c (d : Int) (w : World) (h0 : 0 ≤ d) (h1 : d ≤ 6) :
    Calls Tryz.prog 128 #[.int .i64 d] w fun e w' => e = .returned (S (dayName d)) ∧ Below w.heap.size w w' := by
  obtain ⟨k, rfl⟩ := Int.eq_ofNat_of_zero_le h0
  have hk12 : k < dayNames.length := by show k < 7; omega
  have HN : Hid (dayName (k : Int) = dayNames[k]) := by
    show _ = _
    unfold dayName
    rw [Int.toNat_natCast, List.getD_eq_getElem?_getD, List.getElem?_eq_getElem hk12]
    rfl
  rw [HN.out]
  have hlen : dayNames.length = 7 := rfl
  go_enter Tryz.func128, Tryz.ntmps128
  go_wp2_with (go_at_call 104; refine (longDays_c _).mono ?_; rintro e w' ⟨⟨v, rfl, g, rfl, hg, hc⟩, hbel⟩; have hcell := hc k hk12; have HC := Lib.hid hc; have HBEL := Lib.hid hbel; clear hc hbel)
  go_ret
  exact ⟨rfl, HBEL.out⟩
/-- An element's number for a fraction. -/
def fstd (code : Int) (n : Nat) (comma : Bool) : Int := code + (n : Int) * 65536 + (if comma = true then 268435456 else 0)
set_option maxRecDepth 100000 in
set_option maxHeartbeats 4000000 in
theorem stdFracSecond_c (code : Int) (n : Nat) (comma : Bool) (w : World) (hc : code = 34 ∨ code = 35) (h0 : 1 ≤ n) (h1 : n ≤ 9) :
    Calls Tryz.prog 123 #[.int .i64 code, .int .i64 n, .int .i64 (if comma = true then 44 else 46)] w fun e w' => e = .returned (.int .i64 (fstd code n comma)) ∧ w' = w := by
  have hn : n = 1 ∨ n = 2 ∨ n = 3 ∨ n = 4 ∨ n = 5 ∨ n = 6 ∨ n = 7 ∨ n = 8 ∨ n = 9 := by omega
  clear h0 h1
  rcases hc with rfl | rfl
  all_goals
    rcases hn with rfl | rfl | rfl | rfl | rfl | rfl | rfl | rfl | rfl
  all_goals
    cases comma
  all_goals
    go_enter Tryz.func123, Tryz.ntmps123
    go_wp2
    go_ret
    exact ⟨by kernel_rfl, rfl⟩
set_option maxRecDepth 100000 in
set_option maxHeartbeats 4000000 in
theorem digitsLen_c (code : Int) (n : Nat) (comma : Bool) (w : World) (hc : code = 34 ∨ code = 35) (h0 : 1 ≤ n) (h1 : n ≤ 9) :
    Calls Tryz.prog 108 #[.int .i64 (fstd code n comma)] w fun e w' => e = .returned (.int .i64 n) ∧ w' = w := by
  have hn : n = 1 ∨ n = 2 ∨ n = 3 ∨ n = 4 ∨ n = 5 ∨ n = 6 ∨ n = 7 ∨ n = 8 ∨ n = 9 := by omega
  clear h0 h1
  rcases hc with rfl | rfl
  all_goals
    rcases hn with rfl | rfl | rfl | rfl | rfl | rfl | rfl | rfl | rfl
  all_goals
    cases comma
  all_goals
    simp only [fstd, if_true, Bool.false_eq_true, if_false]
    go_enter Tryz.func108, Tryz.ntmps108
    go_wp2
    go_ret
    exact ⟨by kernel_rfl, rfl⟩
set_option maxRecDepth 100000 in
set_option maxHeartbeats 4000000 in
theorem separator_c (code : Int) (n : Nat) (comma : Bool) (w : World) (hc : code = 34 ∨ code = 35) (h0 : 1 ≤ n) (h1 : n ≤ 9) :
    Calls Tryz.prog 142 #[.int .i64 (fstd code n comma)] w fun e w' => e = .returned (.int .u8 (if comma = true then 44 else 46)) ∧ w' = w := by
  have hn : n = 1 ∨ n = 2 ∨ n = 3 ∨ n = 4 ∨ n = 5 ∨ n = 6 ∨ n = 7 ∨ n = 8 ∨ n = 9 := by omega
  clear h0 h1
  rcases hc with rfl | rfl
  all_goals
    rcases hn with rfl | rfl | rfl | rfl | rfl | rfl | rfl | rfl | rfl
  all_goals
    cases comma
  all_goals
    simp only [fstd, if_true, Bool.false_eq_true, if_false]
    go_enter Tryz.func142, Tryz.ntmps142
    go_wp2
    go_ret
    exact ⟨by kernel_rfl, rfl⟩
end Go.Proofs.YtndhiemagankeaaGreatDoor
/- The walk of package time: what the next element of a layout is: the loop's frame. -/
namespace Go.Proofs.YtndhiemagankeaaGreatDoor
open Go.RowKit
set_option linter.unusedSimpArgs false
set_option linter.unusedVariables false
/-- The body of the first loop in a code. -/
noncomputable def firstLoop : Code → Option Code
  | .seq a b => (firstLoop a).or (firstLoop b)
  | .cond _ a b => (firstLoop a).or (firstLoop b)
  | .block _ a => firstLoop a
  | .scope a => firstLoop a
  | .loop a => some a
  | _ => none
noncomputable def body94 : Code := (Tryz.f94.body.bind firstLoop).getD .skip
/-- A frame of the loop: the layout, the place, and whatever lies in the other slots. -/
noncomputable def fr94 (l : Bytes) (i : Int) (u : Nat → Value) : Act := { tmps := #[S l, u 1, u 2, u 3, u 4, .int .i64 i, u 6, u 7, u 8, u 9, u 10, u 11, u 12, u 13, u 14, u 15, u 16, u 17, u 18, u 19, u 20, u 21, u 22, u 23, u 24, u 25, u 26, u 27, u 28, u 29, u 30, u 31, u 32, u 33, u 34, u 35, u 36, u 37, u 38, u 39, u 40, u 41, u 42, u 43, u 44, u 45, u 46, u 47, u 48, u 49, u 50, u 51, u 52, u 53, u 54, u 55, u 56, u 57, u 58, u 59, u 60, u 61, u 62, u 63, u 64, u 65, u 66, u 67, u 68, u 69, u 70, u 71, u 72, u 73, u 74, u 75, u 76, u 77, u 78, u 79, u 80, u 81, u 82, u 83, u 84, u 85, u 86, u 87, u 88, u 89, u 90, u 91, u 92, u 93, u 94, u 95, u 96, u 97, u 98, u 99, u 100, u 101, u 102, u 103, u 104, u 105, u 106, u 107, u 108, u 109, u 110, u 111, u 112, u 113, u 114, u 115, u 116, u 117, u 118, u 119, u 120, u 121, u 122, u 123, u 124, u 125, u 126, u 127, u 128, u 129, u 130, u 131, u 132, u 133, u 134, u 135, u 136, u 137, u 138, u 139, u 140, u 141, u 142, u 143, u 144, u 145, u 146, u 147, u 148, u 149, u 150, u 151, u 152, u 153, u 154, u 155, u 156, u 157, u 158, u 159, u 160, u 161, u 162, u 163, u 164, u 165, u 166, u 167, u 168, u 169, u 170, u 171, u 172, u 173, u 174, u 175, u 176, u 177, u 178, u 179, u 180, u 181, u 182, u 183, u 184, u 185, u 186, u 187, u 188, u 189, u 190, u 191, u 192, u 193, u 194, u 195, u 196, u 197, u 198, u 199, u 200, u 201, u 202, u 203, u 204, u 205, u 206, u 207, u 208, u 209, u 210, u 211, u 212, u 213, u 214, u 215, u 216, u 217, u 218, u 219, u 220, u 221, u 222, u 223, u 224, u 225, u 226, u 227, u 228, u 229, u 230, u 231, u 232, u 233, u 234, u 235, u 236, u 237, u 238, u 239, u 240, u 241, u 242, u 243, u 244, u 245, u 246, u 247, u 248, u 249, u 250, u 251, u 252, u 253, u 254, u 255, u 256, u 257, u 258, u 259, u 260, u 261, u 262, u 263, u 264, u 265, u 266, u 267, u 268, u 269, u 270, u 271, u 272, u 273, u 274, u 275, u 276, u 277, u 278, u 279, u 280, u 281, u 282, u 283, u 284, u 285, u 286, u 287, u 288, u 289, u 290, u 291, u 292, u 293, u 294, u 295, u 296, u 297, u 298, u 299, u 300, u 301, u 302, u 303, u 304, u 305, u 306, u 307, u 308, u 309, u 310, u 311, u 312, u 313, u 314, u 315, u 316, u 317, u 318, u 319, u 320, u 321, u 322, u 323, u 324, u 325, u 326, u 327, u 328, u 329, u 330, u 331, u 332, u 333, u 334, u 335, u 336, u 337, u 338, u 339, u 340, u 341, u 342, u 343, u 344, u 345, u 346, u 347, u 348, u 349, u 350, u 351, u 352, u 353, u 354, u 355, u 356, u 357, u 358, u 359, u 360, u 361, u 362, u 363, u 364, u 365, u 366, u 367, u 368, u 369, u 370, u 371, u 372, u 373, u 374, u 375, u 376, u 377, u 378, u 379, u 380, u 381, u 382, u 383, u 384, u 385, u 386, u 387, u 388, u 389, u 390, u 391, u 392, u 393, u 394, u 395, u 396, u 397, u 398, u 399, u 400, u 401, u 402, u 403, u 404, u 405, u 406, u 407, u 408, u 409, u 410, u 411, u 412, u 413, u 414, u 415, u 416, u 417, u 418, u 419, u 420, u 421, u 422, u 423, u 424, u 425, u 426, u 427, u 428, u 429, u 430, u 431, u 432, u 433, u 434, u 435, u 436, u 437, u 438, u 439, u 440, u 441, u 442, u 443, u 444, u 445, u 446, u 447, u 448, u 449, u 450, u 451, u 452, u 453, u 454, u 455, u 456, u 457, u 458, u 459, u 460, u 461, u 462, u 463, u 464, u 465, u 466, u 467, u 468, u 469, u 470, u 471, u 472, u 473, u 474, u 475, u 476, u 477, u 478, u 479, u 480, u 481, u 482, u 483, u 484, u 485, u 486, u 487, u 488, u 489, u 490, u 491, u 492, u 493, u 494, u 495, u 496, u 497, u 498, u 499, u 500, u 501, u 502, u 503, u 504, u 505, u 506, u 507, u 508, u 509, u 510, u 511, u 512, u 513, u 514, u 515, u 516, u 517, u 518, u 519, u 520, u 521, u 522, u 523, u 524, u 525, u 526, u 527, u 528, u 529, u 530, u 531, u 532, u 533, u 534, u 535, u 536, u 537, u 538, u 539, u 540, u 541, u 542, u 543, u 544, u 545, u 546, u 547, u 548, u 549, u 550, u 551, u 552, u 553, u 554, u 555, u 556, u 557, u 558, u 559, u 560, u 561, u 562, u 563, u 564, u 565, u 566, u 567, u 568, u 569, u 570, u 571, u 572, u 573, u 574, u 575, u 576, u 577, u 578, u 579, u 580, u 581, u 582, u 583, u 584, u 585, u 586, u 587, u 588, u 589, u 590, u 591, u 592, u 593, u 594, u 595, u 596, u 597, u 598, u 599, u 600, u 601, u 602, u 603, u 604, u 605, u 606, u 607, u 608, u 609, u 610, u 611, u 612, u 613, u 614, u 615, u 616, u 617, u 618, u 619, u 620, u 621, u 622, u 623, u 624, u 625, u 626, u 627, u 628, u 629, u 630, u 631, u 632, u 633, u 634, u 635, u 636, u 637, u 638, u 639, u 640, u 641, u 642, u 643, u 644, u 645, u 646, u 647, u 648, u 649, u 650, u 651, u 652, u 653], defers := [] }
/-- What a frame holds at a round's head. -/
structure At94 (l : Bytes) (i : Int) (a : Act) : Prop where
  size : a.tmps.size = 654
  defers : a.defers = []
  lay : a.tmps.getD 0 undef = S l
  place : a.tmps.getD 5 undef = .int .i64 i
set_option maxRecDepth 100000 in
theorem range94 (u : Nat → Value) : (#[u 0, u 1, u 2, u 3, u 4, u 5, u 6, u 7, u 8, u 9, u 10, u 11, u 12, u 13, u 14, u 15, u 16, u 17, u 18, u 19, u 20, u 21, u 22, u 23, u 24, u 25, u 26, u 27, u 28, u 29, u 30, u 31, u 32, u 33, u 34, u 35, u 36, u 37, u 38, u 39, u 40, u 41, u 42, u 43, u 44, u 45, u 46, u 47, u 48, u 49, u 50, u 51, u 52, u 53, u 54, u 55, u 56, u 57, u 58, u 59, u 60, u 61, u 62, u 63, u 64, u 65, u 66, u 67, u 68, u 69, u 70, u 71, u 72, u 73, u 74, u 75, u 76, u 77, u 78, u 79, u 80, u 81, u 82, u 83, u 84, u 85, u 86, u 87, u 88, u 89, u 90, u 91, u 92, u 93, u 94, u 95, u 96, u 97, u 98, u 99, u 100, u 101, u 102, u 103, u 104, u 105, u 106, u 107, u 108, u 109, u 110, u 111, u 112, u 113, u 114, u 115, u 116, u 117, u 118, u 119, u 120, u 121, u 122, u 123, u 124, u 125, u 126, u 127, u 128, u 129, u 130, u 131, u 132, u 133, u 134, u 135, u 136, u 137, u 138, u 139, u 140, u 141, u 142, u 143, u 144, u 145, u 146, u 147, u 148, u 149, u 150, u 151, u 152, u 153, u 154, u 155, u 156, u 157, u 158, u 159, u 160, u 161, u 162, u 163, u 164, u 165, u 166, u 167, u 168, u 169, u 170, u 171, u 172, u 173, u 174, u 175, u 176, u 177, u 178, u 179, u 180, u 181, u 182, u 183, u 184, u 185, u 186, u 187, u 188, u 189, u 190, u 191, u 192, u 193, u 194, u 195, u 196, u 197, u 198, u 199, u 200, u 201, u 202, u 203, u 204, u 205, u 206, u 207, u 208, u 209, u 210, u 211, u 212, u 213, u 214, u 215, u 216, u 217, u 218, u 219, u 220, u 221, u 222, u 223, u 224, u 225, u 226, u 227, u 228, u 229, u 230, u 231, u 232, u 233, u 234, u 235, u 236, u 237, u 238, u 239, u 240, u 241, u 242, u 243, u 244, u 245, u 246, u 247, u 248, u 249, u 250, u 251, u 252, u 253, u 254, u 255, u 256, u 257, u 258, u 259, u 260, u 261, u 262, u 263, u 264, u 265, u 266, u 267, u 268, u 269, u 270, u 271, u 272, u 273, u 274, u 275, u 276, u 277, u 278, u 279, u 280, u 281, u 282, u 283, u 284, u 285, u 286, u 287, u 288, u 289, u 290, u 291, u 292, u 293, u 294, u 295, u 296, u 297, u 298, u 299, u 300, u 301, u 302, u 303, u 304, u 305, u 306, u 307, u 308, u 309, u 310, u 311, u 312, u 313, u 314, u 315, u 316, u 317, u 318, u 319, u 320, u 321, u 322, u 323, u 324, u 325, u 326, u 327, u 328, u 329, u 330, u 331, u 332, u 333, u 334, u 335, u 336, u 337, u 338, u 339, u 340, u 341, u 342, u 343, u 344, u 345, u 346, u 347, u 348, u 349, u 350, u 351, u 352, u 353, u 354, u 355, u 356, u 357, u 358, u 359, u 360, u 361, u 362, u 363, u 364, u 365, u 366, u 367, u 368, u 369, u 370, u 371, u 372, u 373, u 374, u 375, u 376, u 377, u 378, u 379, u 380, u 381, u 382, u 383, u 384, u 385, u 386, u 387, u 388, u 389, u 390, u 391, u 392, u 393, u 394, u 395, u 396, u 397, u 398, u 399, u 400, u 401, u 402, u 403, u 404, u 405, u 406, u 407, u 408, u 409, u 410, u 411, u 412, u 413, u 414, u 415, u 416, u 417, u 418, u 419, u 420, u 421, u 422, u 423, u 424, u 425, u 426, u 427, u 428, u 429, u 430, u 431, u 432, u 433, u 434, u 435, u 436, u 437, u 438, u 439, u 440, u 441, u 442, u 443, u 444, u 445, u 446, u 447, u 448, u 449, u 450, u 451, u 452, u 453, u 454, u 455, u 456, u 457, u 458, u 459, u 460, u 461, u 462, u 463, u 464, u 465, u 466, u 467, u 468, u 469, u 470, u 471, u 472, u 473, u 474, u 475, u 476, u 477, u 478, u 479, u 480, u 481, u 482, u 483, u 484, u 485, u 486, u 487, u 488, u 489, u 490, u 491, u 492, u 493, u 494, u 495, u 496, u 497, u 498, u 499, u 500, u 501, u 502, u 503, u 504, u 505, u 506, u 507, u 508, u 509, u 510, u 511, u 512, u 513, u 514, u 515, u 516, u 517, u 518, u 519, u 520, u 521, u 522, u 523, u 524, u 525, u 526, u 527, u 528, u 529, u 530, u 531, u 532, u 533, u 534, u 535, u 536, u 537, u 538, u 539, u 540, u 541, u 542, u 543, u 544, u 545, u 546, u 547, u 548, u 549, u 550, u 551, u 552, u 553, u 554, u 555, u 556, u 557, u 558, u 559, u 560, u 561, u 562, u 563, u 564, u 565, u 566, u 567, u 568, u 569, u 570, u 571, u 572, u 573, u 574, u 575, u 576, u 577, u 578, u 579, u 580, u 581, u 582, u 583, u 584, u 585, u 586, u 587, u 588, u 589, u 590, u 591, u 592, u 593, u 594, u 595, u 596, u 597, u 598, u 599, u 600, u 601, u 602, u 603, u 604, u 605, u 606, u 607, u 608, u 609, u 610, u 611, u 612, u 613, u 614, u 615, u 616, u 617, u 618, u 619, u 620, u 621, u 622, u 623, u 624, u 625, u 626, u 627, u 628, u 629, u 630, u 631, u 632, u 633, u 634, u 635, u 636, u 637, u 638, u 639, u 640, u 641, u 642, u 643, u 644, u 645, u 646, u 647, u 648, u 649, u 650, u 651, u 652, u 653] : Array Value) = ((List.range 654).map u).toArray := by kernel_rfl
set_option maxRecDepth 100000 in
theorem fr94_eq (l : Bytes) (i : Int) (u : Nat → Value) (h0 : u 0 = S l) (h5 : u 5 = .int .i64 i) : fr94 l i u = { tmps := ((List.range 654).map u).toArray, defers := [] } := by
  rw [← range94, h0, h5]
  rfl
set_option maxRecDepth 100000 in
theorem At94.open {l : Bytes} {i : Int} {a : Act} (h : At94 l i a) : ∃ u, a = fr94 l i u := by
  obtain ⟨h1, h2, h3, h4⟩ := h
  cases a with
  | mk tmps defers =>
    simp only at h1 h2 h3 h4
    subst h2
    refine ⟨fun k => tmps.getD k undef, ?_⟩
    rw [fr94_eq l i _ h3 h4]
    congr 1
    apply Array.ext
    · simp [h1]
    · intro j j1 j2
      simp [j1]
theorem at_of_drop {l s : Bytes} {i : Nat} (h : l.drop i = s) (j : Nat) (hj : j < s.length) (hi : i + j < (bs l).size) : (bs l)[i + j]'hi = s[j] := by
  subst h
  rw [bs_get, List.getElem_drop]
theorem rest_of_drop {l e r : Bytes} {i n : Nat} (h : l.drop i = e ++ r) (hlen : l.length = i + n + r.length) : Hid (List.take (i + n + r.length - (i + n)) (List.drop (i + n) l) = r) := by
  show _ = _
  have he : e.length = n := by
    have := congrArg List.length h
    simp at this
    omega
  rw [← List.drop_drop, h, ← he, List.drop_left, show i + e.length + r.length - (i + e.length) = r.length by omega, List.take_length]
theorem rest2_of_drop {l e r : Bytes} {i n : Nat} (h : l.drop i = e ++ r) (hlen : l.length = i + n + r.length) : Hid (List.take r.length (List.drop (i + n) l) = r) := by
  have := (rest_of_drop h hlen).out
  rwa [show i + n + r.length - (i + n) = r.length by omega] at this
theorem pre_ne (e r s : Bytes) (d : UInt8) (h : ∀ c, r.head? = some c → c ≠ d) {m : Nat} (hs : s.head? = some d := by rfl) (hm : m = e.length + s.length := by rfl) : (List.take m (e ++ r) == e ++ s) = false := by
  subst hm
  rw [beq_eq_false_iff_ne]
  intro hh
  rw [List.take_append, List.take_of_length_le (by omega), show e.length + s.length - e.length = s.length by omega] at hh
  have hh := List.append_cancel_left hh
  cases s with
  | nil => simp at hs
  | cons x s =>
    cases r with
    | nil => simp at hh
    | cons c r =>
      simp at hh hs
      exact h c rfl (by rw [hh.1, hs])
/-- What may stand behind an element in a layout. -/
structure Fol (z : Bool) (r : Bytes) : Prop where
  digit : ∀ c, r.head? = some c → isD c = false
  lower : ∀ c, r.head? = some c → isLow c = false
  colon : z = true → ∀ c, r.head? = some c → (c == 58) = false
/-- What the loop hands back at an element. -/
def Ret94 (t : Bytes) (std : Int) (r : Bytes) (w : World) (Q : Exit → Act → World → Prop) : Prop :=
  ∀ a' n, a'.defers = [] → a'.tmps.getD 2 undef = S t → a'.tmps.getD 3 undef = .int .i64 std → a'.tmps.getD 4 undef = S r → Q .ret a' (w.drewN n)
end Go.Proofs.YtndhiemagankeaaGreatDoor
/- The walk of package time: a byte of a layout that begins no element. -/
namespace Go.Proofs.YtndhiemagankeaaGreatDoor
open Go.RowKit
set_option linter.unusedVariables false
set_option linter.unusedSimpArgs false
attribute [local simp] bs_size bs_toList bs_append bs_data bs_extract
/-- A byte that begins no element. -/
def quietB (c : Nat) : Prop := c ≠ 74 ∧ c ≠ 77 ∧ c ≠ 48 ∧ c ≠ 49 ∧ c ≠ 50 ∧ c ≠ 95 ∧ c ≠ 51 ∧ c ≠ 52 ∧ c ≠ 53 ∧ c ≠ 80 ∧ c ≠ 112 ∧ c ≠ 45 ∧ c ≠ 90 ∧ c ≠ 46 ∧ c ≠ 44
set_option maxRecDepth 100000 in
set_option maxHeartbeats 4000000 in
theorem quiet94 (l : Bytes) (i : Nat) (c : UInt8) (u : Nat → Value) (w : World) (Q : Exit → Act → World → Prop) (hi : i < l.length) (hl : l.length ≤ 1099511627776) (hc : l[i] = c) (hq : quietB c.toNat) :
    body94.wp Tryz.prog (Exit.then (fun a' w' => At94 l ((i : Int) + 1) a' ∧ w' = w) Q) (fr94 l i u) w := by
  have hix : ∀ h : i < (bs l).size, (bs l)[i]'h = c := fun h => by rw [bs_get]; exact hc
  obtain ⟨c1, c2, c3, c4, c5, c6, c7, c8, c9, c10, c11, c12, c13, c14, c15⟩ := hq
  have hcb := c.toNat_lt
  clear hc
  unfold fr94
  conv => arg 2; whnf
  go_wp2_with fail
  exact ⟨⟨rfl, rfl, rfl, rfl⟩, trivial⟩
end Go.Proofs.YtndhiemagankeaaGreatDoor
/- The walk of package time: an element at a place of a layout. -/
namespace Go.Proofs.YtndhiemagankeaaGreatDoor
open Go.RowKit
set_option linter.unusedSimpArgs false
set_option linter.unusedVariables false
attribute [local simp] bs_size bs_toList bs_append bs_data bs_extract
set_option maxRecDepth 100000 in
set_option maxHeartbeats 4000000 in
theorem el94_1 (l r : Bytes) (i : Nat) (u : Nat → Value) (w : World) (I : Act → World → Prop) (Q : Exit → Act → World → Prop) (hl : l.length ≤ 1099511627776)
    (hd : l.drop i = [50, 48, 48, 54] ++ r) (hlen : l.length = i + 4 + r.length) (hf : Fol false r)
    (hQ : Ret94 (l.take i) 275 r w Q) :
    body94.wp Tryz.prog (Exit.then I Q) (fr94 l i u) w := by
  have hix : ∀ h : i < (bs l).size, (bs l)[i]'h = 50 := fun h => at_of_drop hd 0 (by simp) h
  have f0 : (List.take 4 (List.drop i l) == [50, 48, 48, 54]) = true := by
    rw [hd]
    rfl
  have HR : Hid (List.take (i + 4 + r.length - (i + 4)) (List.drop (i + 4) l) = r) := rest_of_drop hd hlen
  have HR2 : Hid (List.take r.length (List.drop (i + 4) l) = r) := rest2_of_drop hd hlen
  have HQ := Lib.hid hQ
  have HD := Lib.hid hd
  clear hd hQ hf
  unfold fr94
  conv => arg 2; whnf
  go_wp2_with fail
  all_goals
    go_quiet (fail)
    go_wp2_with fail
    first | exact HQ.out _ _ rfl rfl rfl (congrArg S HR2.out) | exact HQ.out _ _ rfl rfl rfl (congrArg S HR.out)
set_option maxRecDepth 100000 in
set_option maxHeartbeats 4000000 in
theorem el94_2 (l r : Bytes) (i : Nat) (u : Nat → Value) (w : World) (I : Act → World → Prop) (Q : Exit → Act → World → Prop) (hl : l.length ≤ 1099511627776)
    (hd : l.drop i = [48, 54] ++ r) (hlen : l.length = i + 2 + r.length) (hf : Fol false r) (hg : w.cell? ⟨1, 5, none⟩ = some (.int .i64 276))
    (hQ : Ret94 (l.take i) 276 r w Q) :
    body94.wp Tryz.prog (Exit.then I Q) (fr94 l i u) w := by
  have hix : ∀ h : i < (bs l).size, (bs l)[i]'h = 48 := fun h => at_of_drop hd 0 (by simp) h
  have hix1 : ∀ h : i + 1 < (bs l).size, (bs l)[i + 1]'h = 54 := fun h => at_of_drop hd 1 (by simp) h
  have HR : Hid (List.take (i + 2 + r.length - (i + 2)) (List.drop (i + 2) l) = r) := rest_of_drop hd hlen
  have HR2 : Hid (List.take r.length (List.drop (i + 2) l) = r) := rest2_of_drop hd hlen
  have HQ := Lib.hid hQ
  have HD := Lib.hid hd
  clear hd hQ hf
  unfold fr94
  conv => arg 2; whnf
  go_wp2_with fail
  all_goals
    go_quiet (fail)
    go_wp2_with fail
    first | exact HQ.out _ _ rfl rfl rfl (congrArg S HR2.out) | exact HQ.out _ _ rfl rfl rfl (congrArg S HR.out)
set_option maxRecDepth 100000 in
set_option maxHeartbeats 4000000 in
theorem el94_5 (l r : Bytes) (i : Nat) (u : Nat → Value) (w : World) (I : Act → World → Prop) (Q : Exit → Act → World → Prop) (hl : l.length ≤ 1099511627776)
    (hd : l.drop i = [48, 49] ++ r) (hlen : l.length = i + 2 + r.length) (hf : Fol false r) (hg : w.cell? ⟨1, 0, none⟩ = some (.int .i64 260))
    (hQ : Ret94 (l.take i) 260 r w Q) :
    body94.wp Tryz.prog (Exit.then I Q) (fr94 l i u) w := by
  have hix : ∀ h : i < (bs l).size, (bs l)[i]'h = 48 := fun h => at_of_drop hd 0 (by simp) h
  have hix1 : ∀ h : i + 1 < (bs l).size, (bs l)[i + 1]'h = 49 := fun h => at_of_drop hd 1 (by simp) h
  have HR : Hid (List.take (i + 2 + r.length - (i + 2)) (List.drop (i + 2) l) = r) := rest_of_drop hd hlen
  have HR2 : Hid (List.take r.length (List.drop (i + 2) l) = r) := rest2_of_drop hd hlen
  have HQ := Lib.hid hQ
  have HD := Lib.hid hd
  clear hd hQ hf
  unfold fr94
  conv => arg 2; whnf
  go_wp2_with fail
  all_goals
    go_quiet (fail)
    go_wp2_with fail
    first | exact HQ.out _ _ rfl rfl rfl (congrArg S HR2.out) | exact HQ.out _ _ rfl rfl rfl (congrArg S HR.out)
set_option maxRecDepth 100000 in
set_option maxHeartbeats 4000000 in
theorem el94_11 (l r : Bytes) (i : Nat) (u : Nat → Value) (w : World) (I : Act → World → Prop) (Q : Exit → Act → World → Prop) (hl : l.length ≤ 1099511627776)
    (hd : l.drop i = [48, 50] ++ r) (hlen : l.length = i + 2 + r.length) (hf : Fol false r) (hg : w.cell? ⟨1, 1, none⟩ = some (.int .i64 265))
    (hQ : Ret94 (l.take i) 265 r w Q) :
    body94.wp Tryz.prog (Exit.then I Q) (fr94 l i u) w := by
  have hix : ∀ h : i < (bs l).size, (bs l)[i]'h = 48 := fun h => at_of_drop hd 0 (by simp) h
  have hix1 : ∀ h : i + 1 < (bs l).size, (bs l)[i + 1]'h = 50 := fun h => at_of_drop hd 1 (by simp) h
  have HR : Hid (List.take (i + 2 + r.length - (i + 2)) (List.drop (i + 2) l) = r) := rest_of_drop hd hlen
  have HR2 : Hid (List.take r.length (List.drop (i + 2) l) = r) := rest2_of_drop hd hlen
  have HQ := Lib.hid hQ
  have HD := Lib.hid hd
  clear hd hQ hf
  unfold fr94
  conv => arg 2; whnf
  go_wp2_with fail
  all_goals
    go_quiet (fail)
    go_wp2_with fail
    first | exact HQ.out _ _ rfl rfl rfl (congrArg S HR2.out) | exact HQ.out _ _ rfl rfl rfl (congrArg S HR.out)
set_option maxRecDepth 100000 in
set_option maxHeartbeats 4000000 in
theorem el94_16 (l r : Bytes) (i : Nat) (u : Nat → Value) (w : World) (I : Act → World → Prop) (Q : Exit → Act → World → Prop) (hl : l.length ≤ 1099511627776)
    (hd : l.drop i = [48, 51] ++ r) (hlen : l.length = i + 2 + r.length) (hf : Fol false r) (hg : w.cell? ⟨1, 2, none⟩ = some (.int .i64 1038))
    (hQ : Ret94 (l.take i) 1038 r w Q) :
    body94.wp Tryz.prog (Exit.then I Q) (fr94 l i u) w := by
  have hix : ∀ h : i < (bs l).size, (bs l)[i]'h = 48 := fun h => at_of_drop hd 0 (by simp) h
  have hix1 : ∀ h : i + 1 < (bs l).size, (bs l)[i + 1]'h = 51 := fun h => at_of_drop hd 1 (by simp) h
  have HR : Hid (List.take (i + 2 + r.length - (i + 2)) (List.drop (i + 2) l) = r) := rest_of_drop hd hlen
  have HR2 : Hid (List.take r.length (List.drop (i + 2) l) = r) := rest2_of_drop hd hlen
  have HQ := Lib.hid hQ
  have HD := Lib.hid hd
  clear hd hQ hf
  unfold fr94
  conv => arg 2; whnf
  go_wp2_with fail
  all_goals
    go_quiet (fail)
    go_wp2_with fail
    first | exact HQ.out _ _ rfl rfl rfl (congrArg S HR2.out) | exact HQ.out _ _ rfl rfl rfl (congrArg S HR.out)
set_option maxRecDepth 100000 in
set_option maxHeartbeats 4000000 in
theorem el94_18 (l r : Bytes) (i : Nat) (u : Nat → Value) (w : World) (I : Act → World → Prop) (Q : Exit → Act → World → Prop) (hl : l.length ≤ 1099511627776)
    (hd : l.drop i = [48, 52] ++ r) (hlen : l.length = i + 2 + r.length) (hf : Fol false r) (hg : w.cell? ⟨1, 3, none⟩ = some (.int .i64 1040))
    (hQ : Ret94 (l.take i) 1040 r w Q) :
    body94.wp Tryz.prog (Exit.then I Q) (fr94 l i u) w := by
  have hix : ∀ h : i < (bs l).size, (bs l)[i]'h = 48 := fun h => at_of_drop hd 0 (by simp) h
  have hix1 : ∀ h : i + 1 < (bs l).size, (bs l)[i + 1]'h = 52 := fun h => at_of_drop hd 1 (by simp) h
  have HR : Hid (List.take (i + 2 + r.length - (i + 2)) (List.drop (i + 2) l) = r) := rest_of_drop hd hlen
  have HR2 : Hid (List.take r.length (List.drop (i + 2) l) = r) := rest2_of_drop hd hlen
  have HQ := Lib.hid hQ
  have HD := Lib.hid hd
  clear hd hQ hf
  unfold fr94
  conv => arg 2; whnf
  go_wp2_with fail
  all_goals
    go_quiet (fail)
    go_wp2_with fail
    first | exact HQ.out _ _ rfl rfl rfl (congrArg S HR2.out) | exact HQ.out _ _ rfl rfl rfl (congrArg S HR.out)
set_option maxRecDepth 100000 in
set_option maxHeartbeats 4000000 in
theorem el94_20 (l r : Bytes) (i : Nat) (u : Nat → Value) (w : World) (I : Act → World → Prop) (Q : Exit → Act → World → Prop) (hl : l.length ≤ 1099511627776)
    (hd : l.drop i = [48, 53] ++ r) (hlen : l.length = i + 2 + r.length) (hf : Fol false r) (hg : w.cell? ⟨1, 4, none⟩ = some (.int .i64 1042))
    (hQ : Ret94 (l.take i) 1042 r w Q) :
    body94.wp Tryz.prog (Exit.then I Q) (fr94 l i u) w := by
  have hix : ∀ h : i < (bs l).size, (bs l)[i]'h = 48 := fun h => at_of_drop hd 0 (by simp) h
  have hix1 : ∀ h : i + 1 < (bs l).size, (bs l)[i + 1]'h = 53 := fun h => at_of_drop hd 1 (by simp) h
  have HR : Hid (List.take (i + 2 + r.length - (i + 2)) (List.drop (i + 2) l) = r) := rest_of_drop hd hlen
  have HR2 : Hid (List.take r.length (List.drop (i + 2) l) = r) := rest2_of_drop hd hlen
  have HQ := Lib.hid hQ
  have HD := Lib.hid hd
  clear hd hQ hf
  unfold fr94
  conv => arg 2; whnf
  go_wp2_with fail
  all_goals
    go_quiet (fail)
    go_wp2_with fail
    first | exact HQ.out _ _ rfl rfl rfl (congrArg S HR2.out) | exact HQ.out _ _ rfl rfl rfl (congrArg S HR.out)
set_option maxRecDepth 100000 in
set_option maxHeartbeats 4000000 in
theorem el94_13 (l r : Bytes) (i : Nat) (u : Nat → Value) (w : World) (I : Act → World → Prop) (Q : Exit → Act → World → Prop) (hl : l.length ≤ 1099511627776)
    (hd : l.drop i = [48, 48, 50] ++ r) (hlen : l.length = i + 3 + r.length) (hf : Fol false r)
    (hQ : Ret94 (l.take i) 523 r w Q) :
    body94.wp Tryz.prog (Exit.then I Q) (fr94 l i u) w := by
  have hix : ∀ h : i < (bs l).size, (bs l)[i]'h = 48 := fun h => at_of_drop hd 0 (by simp) h
  have hix1 : ∀ h : i + 1 < (bs l).size, (bs l)[i + 1]'h = 48 := fun h => at_of_drop hd 1 (by simp) h
  have hix2 : ∀ h : i + 2 < (bs l).size, (bs l)[i + 2]'h = 50 := fun h => at_of_drop hd 2 (by simp) h
  have HR : Hid (List.take (i + 3 + r.length - (i + 3)) (List.drop (i + 3) l) = r) := rest_of_drop hd hlen
  have HR2 : Hid (List.take r.length (List.drop (i + 3) l) = r) := rest2_of_drop hd hlen
  have HQ := Lib.hid hQ
  have HD := Lib.hid hd
  clear hd hQ hf
  unfold fr94
  conv => arg 2; whnf
  go_wp2_with fail
  all_goals
    go_quiet (fail)
    go_wp2_with fail
    first | exact HQ.out _ _ rfl rfl rfl (congrArg S HR2.out) | exact HQ.out _ _ rfl rfl rfl (congrArg S HR.out)
set_option maxRecDepth 100000 in
set_option maxHeartbeats 4000000 in
theorem el94_14 (l r : Bytes) (i : Nat) (u : Nat → Value) (w : World) (I : Act → World → Prop) (Q : Exit → Act → World → Prop) (hl : l.length ≤ 1099511627776)
    (hd : l.drop i = [49, 53] ++ r) (hlen : l.length = i + 2 + r.length) (hf : Fol false r)
    (hQ : Ret94 (l.take i) 1036 r w Q) :
    body94.wp Tryz.prog (Exit.then I Q) (fr94 l i u) w := by
  have hix : ∀ h : i < (bs l).size, (bs l)[i]'h = 49 := fun h => at_of_drop hd 0 (by simp) h
  have hix1 : ∀ h : i + 1 < (bs l).size, (bs l)[i + 1]'h = 53 := fun h => at_of_drop hd 1 (by simp) h
  have HR : Hid (List.take (i + 2 + r.length - (i + 2)) (List.drop (i + 2) l) = r) := rest_of_drop hd hlen
  have HR2 : Hid (List.take r.length (List.drop (i + 2) l) = r) := rest2_of_drop hd hlen
  have HQ := Lib.hid hQ
  have HD := Lib.hid hd
  clear hd hQ hf
  unfold fr94
  conv => arg 2; whnf
  go_wp2_with fail
  all_goals
    go_quiet (fail)
    go_wp2_with fail
    first | exact HQ.out _ _ rfl rfl rfl (congrArg S HR2.out) | exact HQ.out _ _ rfl rfl rfl (congrArg S HR.out)
set_option maxRecDepth 100000 in
set_option maxHeartbeats 4000000 in
theorem el94_6 (l r : Bytes) (i : Nat) (u : Nat → Value) (w : World) (I : Act → World → Prop) (Q : Exit → Act → World → Prop) (hl : l.length ≤ 1099511627776)
    (hd : l.drop i = [49] ++ r) (hlen : l.length = i + 1 + r.length) (hf : Fol false r)
    (hQ : Ret94 (l.take i) 259 r w Q) :
    body94.wp Tryz.prog (Exit.then I Q) (fr94 l i u) w := by
  have hix : ∀ h : i < (bs l).size, (bs l)[i]'h = 49 := fun h => at_of_drop hd 0 (by simp) h
  have HR : Hid (List.take (i + 1 + r.length - (i + 1)) (List.drop (i + 1) l) = r) := rest_of_drop hd hlen
  have HR2 : Hid (List.take r.length (List.drop (i + 1) l) = r) := rest2_of_drop hd hlen
  have hnd : ∀ h : i + 1 < (bs l).size, (bs l)[i + 1]'h = (r[0]?).getD 0 := by
    intro h
    cases r with
    | nil => rw [bs_size] at h; simp at hlen; omega
    | cons c r => exact at_of_drop hd 1 (by simp) h
  have hn5 : ((r[0]?).getD 0).toNat ≠ 53 := by
    cases r with
    | nil => decide
    | cons c r =>
      have := hf.digit c rfl
      intro h
      simp at h
      simp [isD, h] at this
  obtain ⟨c1, HC1⟩ : ∃ c1, Hid (c1 = (r[0]?).getD 0) := ⟨_, Lib.hid rfl⟩
  rw [← HC1.out] at hnd hn5
  have HQ := Lib.hid hQ
  have HD := Lib.hid hd
  clear hd hQ hf
  unfold fr94
  conv => arg 2; whnf
  go_wp2_with fail
  all_goals
    go_quiet (fail)
    go_wp2_with fail
    first | exact HQ.out _ _ rfl rfl rfl (congrArg S HR2.out) | exact HQ.out _ _ rfl rfl rfl (congrArg S HR.out)
end Go.Proofs.YtndhiemagankeaaGreatDoor
/- The walk of package time: an element at a place of a layout. -/
namespace Go.Proofs.YtndhiemagankeaaGreatDoor
open Go.RowKit
set_option linter.unusedSimpArgs false
set_option linter.unusedVariables false
attribute [local simp] bs_size bs_toList bs_append bs_data bs_extract
set_option maxRecDepth 100000 in
set_option maxHeartbeats 4000000 in
theorem el94_3 (l r : Bytes) (i : Nat) (u : Nat → Value) (w : World) (I : Act → World → Prop) (Q : Exit → Act → World → Prop) (hl : l.length ≤ 1099511627776)
    (hd : l.drop i = [74, 97, 110, 117, 97, 114, 121] ++ r) (hlen : l.length = i + 7 + r.length) (hf : Fol false r)
    (hQ : Ret94 (l.take i) 257 r w Q) :
    body94.wp Tryz.prog (Exit.then I Q) (fr94 l i u) w := by
  have hix : ∀ h : i < (bs l).size, (bs l)[i]'h = 74 := fun h => at_of_drop hd 0 (by simp) h
  have f0 : (List.take 3 (List.drop i l) == [74, 97, 110]) = true := by
    rw [hd]
    rfl
  have f1 : (List.take 7 (List.drop i l) == [74, 97, 110, 117, 97, 114, 121]) = true := by
    rw [hd]
    rfl
  have HR : Hid (List.take (i + 7 + r.length - (i + 7)) (List.drop (i + 7) l) = r) := rest_of_drop hd hlen
  have HR2 : Hid (List.take r.length (List.drop (i + 7) l) = r) := rest2_of_drop hd hlen
  have HQ := Lib.hid hQ
  have HD := Lib.hid hd
  clear hd hQ hf
  unfold fr94
  conv => arg 2; whnf
  go_wp2_with fail
  all_goals
    go_quiet (fail)
    go_wp2_with fail
    first | exact HQ.out _ _ rfl rfl rfl (congrArg S HR2.out) | exact HQ.out _ _ rfl rfl rfl (congrArg S HR.out)
set_option maxRecDepth 100000 in
set_option maxHeartbeats 4000000 in
theorem el94_4 (l r : Bytes) (i : Nat) (u : Nat → Value) (w : World) (I : Act → World → Prop) (Q : Exit → Act → World → Prop) (hl : l.length ≤ 1099511627776)
    (hd : l.drop i = [74, 97, 110] ++ r) (hlen : l.length = i + 3 + r.length) (hf : Fol false r)
    (hQ : Ret94 (l.take i) 258 r w Q) :
    body94.wp Tryz.prog (Exit.then I Q) (fr94 l i u) w := by
  have hix : ∀ h : i < (bs l).size, (bs l)[i]'h = 74 := fun h => at_of_drop hd 0 (by simp) h
  have f0 : (List.take 3 (List.drop i l) == [74, 97, 110]) = true := by
    rw [hd]
    rfl
  have f1 : (List.take 7 (List.drop i l) == [74, 97, 110, 117, 97, 114, 121]) = false := by
    rw [hd]
    exact pre_ne [74, 97, 110] r [117, 97, 114, 121] 117 (fun c hc => by rintro rfl; exact absurd (hf.lower _ hc) (by decide))
  have HR : Hid (List.take (i + 3 + r.length - (i + 3)) (List.drop (i + 3) l) = r) := rest_of_drop hd hlen
  have HR2 : Hid (List.take r.length (List.drop (i + 3) l) = r) := rest2_of_drop hd hlen
  have HLF : Hid (lowFirst r = false) := by
    show _ = _
    cases r with
    | nil => rfl
    | cons c r => exact hf.lower c rfl
  have HQ := Lib.hid hQ
  have HD := Lib.hid hd
  clear hd hQ hf
  unfold fr94
  conv => arg 2; whnf
  go_wp2_with (go_at_call 130; refine (startsWithLowerCase_c _ _).mono ?_; rintro e w' ⟨rfl, rfl⟩; first | rw [HR2.out, HLF.out] | rw [HR.out, HLF.out])
  all_goals
    go_quiet (fail)
    go_wp2_with fail
    first | exact HQ.out _ _ rfl rfl rfl (congrArg S HR2.out) | exact HQ.out _ _ rfl rfl rfl (congrArg S HR.out)
set_option maxRecDepth 100000 in
set_option maxHeartbeats 4000000 in
theorem el94_7 (l r : Bytes) (i : Nat) (u : Nat → Value) (w : World) (I : Act → World → Prop) (Q : Exit → Act → World → Prop) (hl : l.length ≤ 1099511627776)
    (hd : l.drop i = [77, 111, 110, 100, 97, 121] ++ r) (hlen : l.length = i + 6 + r.length) (hf : Fol false r)
    (hQ : Ret94 (l.take i) 261 r w Q) :
    body94.wp Tryz.prog (Exit.then I Q) (fr94 l i u) w := by
  have hix : ∀ h : i < (bs l).size, (bs l)[i]'h = 77 := fun h => at_of_drop hd 0 (by simp) h
  have f0 : (List.take 3 (List.drop i l) == [77, 111, 110]) = true := by
    rw [hd]
    rfl
  have f1 : (List.take 6 (List.drop i l) == [77, 111, 110, 100, 97, 121]) = true := by
    rw [hd]
    rfl
  have HR : Hid (List.take (i + 6 + r.length - (i + 6)) (List.drop (i + 6) l) = r) := rest_of_drop hd hlen
  have HR2 : Hid (List.take r.length (List.drop (i + 6) l) = r) := rest2_of_drop hd hlen
  have HQ := Lib.hid hQ
  have HD := Lib.hid hd
  clear hd hQ hf
  unfold fr94
  conv => arg 2; whnf
  go_wp2_with fail
  all_goals
    go_quiet (fail)
    go_wp2_with fail
    first | exact HQ.out _ _ rfl rfl rfl (congrArg S HR2.out) | exact HQ.out _ _ rfl rfl rfl (congrArg S HR.out)
set_option maxRecDepth 100000 in
set_option maxHeartbeats 4000000 in
theorem el94_8 (l r : Bytes) (i : Nat) (u : Nat → Value) (w : World) (I : Act → World → Prop) (Q : Exit → Act → World → Prop) (hl : l.length ≤ 1099511627776)
    (hd : l.drop i = [77, 111, 110] ++ r) (hlen : l.length = i + 3 + r.length) (hf : Fol false r)
    (hQ : Ret94 (l.take i) 262 r w Q) :
    body94.wp Tryz.prog (Exit.then I Q) (fr94 l i u) w := by
  have hix : ∀ h : i < (bs l).size, (bs l)[i]'h = 77 := fun h => at_of_drop hd 0 (by simp) h
  have f0 : (List.take 3 (List.drop i l) == [77, 111, 110]) = true := by
    rw [hd]
    rfl
  have f1 : (List.take 6 (List.drop i l) == [77, 111, 110, 100, 97, 121]) = false := by
    rw [hd]
    exact pre_ne [77, 111, 110] r [100, 97, 121] 100 (fun c hc => by rintro rfl; exact absurd (hf.lower _ hc) (by decide))
  have HR : Hid (List.take (i + 3 + r.length - (i + 3)) (List.drop (i + 3) l) = r) := rest_of_drop hd hlen
  have HR2 : Hid (List.take r.length (List.drop (i + 3) l) = r) := rest2_of_drop hd hlen
  have HLF : Hid (lowFirst r = false) := by
    show _ = _
    cases r with
    | nil => rfl
    | cons c r => exact hf.lower c rfl
  have HQ := Lib.hid hQ
  have HD := Lib.hid hd
  clear hd hQ hf
  unfold fr94
  conv => arg 2; whnf
  go_wp2_with (go_at_call 130; refine (startsWithLowerCase_c _ _).mono ?_; rintro e w' ⟨rfl, rfl⟩; first | rw [HR2.out, HLF.out] | rw [HR.out, HLF.out])
  all_goals
    go_quiet (fail)
    go_wp2_with fail
    first | exact HQ.out _ _ rfl rfl rfl (congrArg S HR2.out) | exact HQ.out _ _ rfl rfl rfl (congrArg S HR.out)
set_option maxRecDepth 100000 in
set_option maxHeartbeats 4000000 in
theorem el94_32 (l r : Bytes) (i : Nat) (u : Nat → Value) (w : World) (I : Act → World → Prop) (Q : Exit → Act → World → Prop) (hl : l.length ≤ 1099511627776)
    (hd : l.drop i = [77, 83, 84] ++ r) (hlen : l.length = i + 3 + r.length) (hf : Fol false r)
    (hQ : Ret94 (l.take i) 23 r w Q) :
    body94.wp Tryz.prog (Exit.then I Q) (fr94 l i u) w := by
  have hix : ∀ h : i < (bs l).size, (bs l)[i]'h = 77 := fun h => at_of_drop hd 0 (by simp) h
  have f0 : (List.take 3 (List.drop i l) == [77, 111, 110]) = false := by
    rw [hd]
    rfl
  have f1 : (List.take 3 (List.drop i l) == [77, 83, 84]) = true := by
    rw [hd]
    rfl
  have HR : Hid (List.take (i + 3 + r.length - (i + 3)) (List.drop (i + 3) l) = r) := rest_of_drop hd hlen
  have HR2 : Hid (List.take r.length (List.drop (i + 3) l) = r) := rest2_of_drop hd hlen
  have HQ := Lib.hid hQ
  have HD := Lib.hid hd
  clear hd hQ hf
  unfold fr94
  conv => arg 2; whnf
  go_wp2_with fail
  all_goals
    go_quiet (fail)
    go_wp2_with fail
    first | exact HQ.out _ _ rfl rfl rfl (congrArg S HR2.out) | exact HQ.out _ _ rfl rfl rfl (congrArg S HR.out)
set_option maxRecDepth 100000 in
set_option maxHeartbeats 4000000 in
theorem el94_9 (l r : Bytes) (i : Nat) (u : Nat → Value) (w : World) (I : Act → World → Prop) (Q : Exit → Act → World → Prop) (hl : l.length ≤ 1099511627776)
    (hd : l.drop i = [50] ++ r) (hlen : l.length = i + 1 + r.length) (hf : Fol false r)
    (hQ : Ret94 (l.take i) 263 r w Q) :
    body94.wp Tryz.prog (Exit.then I Q) (fr94 l i u) w := by
  have hix : ∀ h : i < (bs l).size, (bs l)[i]'h = 50 := fun h => at_of_drop hd 0 (by simp) h
  have f0 : (List.take 4 (List.drop i l) == [50, 48, 48, 54]) = false := by
    rw [hd]
    exact pre_ne [50] r [48, 48, 54] 48 (fun c hc => by rintro rfl; exact absurd (hf.digit _ hc) (by decide))
  have HR : Hid (List.take (i + 1 + r.length - (i + 1)) (List.drop (i + 1) l) = r) := rest_of_drop hd hlen
  have HR2 : Hid (List.take r.length (List.drop (i + 1) l) = r) := rest2_of_drop hd hlen
  have HQ := Lib.hid hQ
  have HD := Lib.hid hd
  clear hd hQ hf
  unfold fr94
  conv => arg 2; whnf
  go_wp2_with fail
  all_goals
    go_quiet (fail)
    go_wp2_with fail
    first | exact HQ.out _ _ rfl rfl rfl (congrArg S HR2.out) | exact HQ.out _ _ rfl rfl rfl (congrArg S HR.out)
set_option maxRecDepth 100000 in
set_option maxHeartbeats 4000000 in
theorem el94_10 (l r : Bytes) (i : Nat) (u : Nat → Value) (w : World) (I : Act → World → Prop) (Q : Exit → Act → World → Prop) (hl : l.length ≤ 1099511627776)
    (hd : l.drop i = [95, 50] ++ r) (hlen : l.length = i + 2 + r.length) (hf : Fol false r)
    (hQ : Ret94 (l.take i) 264 r w Q) :
    body94.wp Tryz.prog (Exit.then I Q) (fr94 l i u) w := by
  have hix : ∀ h : i < (bs l).size, (bs l)[i]'h = 95 := fun h => at_of_drop hd 0 (by simp) h
  have hix1 : ∀ h : i + 1 < (bs l).size, (bs l)[i + 1]'h = 50 := fun h => at_of_drop hd 1 (by simp) h
  have hd1 : l.drop (i + 1) = [50] ++ r := by rw [← List.drop_drop, hd]; rfl
  have f0 : (List.take 4 (List.drop (i + 1) l) == [50, 48, 48, 54]) = false := by
    rw [hd1]
    exact pre_ne [50] r [48, 48, 54] 48 (fun c hc => by rintro rfl; exact absurd (hf.digit _ hc) (by decide))
  have HR : Hid (List.take (i + 2 + r.length - (i + 2)) (List.drop (i + 2) l) = r) := rest_of_drop hd hlen
  have HR2 : Hid (List.take r.length (List.drop (i + 2) l) = r) := rest2_of_drop hd hlen
  have HQ := Lib.hid hQ
  have HD := Lib.hid hd
  clear hd hQ hf hd1
  unfold fr94
  conv => arg 2; whnf
  go_wp2_with fail
  all_goals
    go_quiet (fail)
    go_wp2_with fail
    first | exact HQ.out _ _ rfl rfl rfl (congrArg S HR2.out) | exact HQ.out _ _ rfl rfl rfl (congrArg S HR.out)
set_option maxRecDepth 100000 in
set_option maxHeartbeats 4000000 in
theorem el94_12 (l r : Bytes) (i : Nat) (u : Nat → Value) (w : World) (I : Act → World → Prop) (Q : Exit → Act → World → Prop) (hl : l.length ≤ 1099511627776)
    (hd : l.drop i = [95, 95, 50] ++ r) (hlen : l.length = i + 3 + r.length) (hf : Fol false r)
    (hQ : Ret94 (l.take i) 522 r w Q) :
    body94.wp Tryz.prog (Exit.then I Q) (fr94 l i u) w := by
  have hix : ∀ h : i < (bs l).size, (bs l)[i]'h = 95 := fun h => at_of_drop hd 0 (by simp) h
  have hix1 : ∀ h : i + 1 < (bs l).size, (bs l)[i + 1]'h = 95 := fun h => at_of_drop hd 1 (by simp) h
  have hix2 : ∀ h : i + 2 < (bs l).size, (bs l)[i + 2]'h = 50 := fun h => at_of_drop hd 2 (by simp) h
  have HR : Hid (List.take (i + 3 + r.length - (i + 3)) (List.drop (i + 3) l) = r) := rest_of_drop hd hlen
  have HR2 : Hid (List.take r.length (List.drop (i + 3) l) = r) := rest2_of_drop hd hlen
  have HQ := Lib.hid hQ
  have HD := Lib.hid hd
  clear hd hQ hf
  unfold fr94
  conv => arg 2; whnf
  go_wp2_with fail
  all_goals
    go_quiet (fail)
    go_wp2_with fail
    first | exact HQ.out _ _ rfl rfl rfl (congrArg S HR2.out) | exact HQ.out _ _ rfl rfl rfl (congrArg S HR.out)
set_option maxRecDepth 100000 in
set_option maxHeartbeats 4000000 in
theorem el94_15 (l r : Bytes) (i : Nat) (u : Nat → Value) (w : World) (I : Act → World → Prop) (Q : Exit → Act → World → Prop) (hl : l.length ≤ 1099511627776)
    (hd : l.drop i = [51] ++ r) (hlen : l.length = i + 1 + r.length) (hf : Fol false r)
    (hQ : Ret94 (l.take i) 1037 r w Q) :
    body94.wp Tryz.prog (Exit.then I Q) (fr94 l i u) w := by
  have hix : ∀ h : i < (bs l).size, (bs l)[i]'h = 51 := fun h => at_of_drop hd 0 (by simp) h
  have HR : Hid (List.take (i + 1 + r.length - (i + 1)) (List.drop (i + 1) l) = r) := rest_of_drop hd hlen
  have HR2 : Hid (List.take r.length (List.drop (i + 1) l) = r) := rest2_of_drop hd hlen
  have HQ := Lib.hid hQ
  have HD := Lib.hid hd
  clear hd hQ hf
  unfold fr94
  conv => arg 2; whnf
  go_wp2_with fail
  all_goals
    go_quiet (fail)
    go_wp2_with fail
    first | exact HQ.out _ _ rfl rfl rfl (congrArg S HR2.out) | exact HQ.out _ _ rfl rfl rfl (congrArg S HR.out)
set_option maxRecDepth 100000 in
set_option maxHeartbeats 4000000 in
theorem el94_17 (l r : Bytes) (i : Nat) (u : Nat → Value) (w : World) (I : Act → World → Prop) (Q : Exit → Act → World → Prop) (hl : l.length ≤ 1099511627776)
    (hd : l.drop i = [52] ++ r) (hlen : l.length = i + 1 + r.length) (hf : Fol false r)
    (hQ : Ret94 (l.take i) 1039 r w Q) :
    body94.wp Tryz.prog (Exit.then I Q) (fr94 l i u) w := by
  have hix : ∀ h : i < (bs l).size, (bs l)[i]'h = 52 := fun h => at_of_drop hd 0 (by simp) h
  have HR : Hid (List.take (i + 1 + r.length - (i + 1)) (List.drop (i + 1) l) = r) := rest_of_drop hd hlen
  have HR2 : Hid (List.take r.length (List.drop (i + 1) l) = r) := rest2_of_drop hd hlen
  have HQ := Lib.hid hQ
  have HD := Lib.hid hd
  clear hd hQ hf
  unfold fr94
  conv => arg 2; whnf
  go_wp2_with fail
  all_goals
    go_quiet (fail)
    go_wp2_with fail
    first | exact HQ.out _ _ rfl rfl rfl (congrArg S HR2.out) | exact HQ.out _ _ rfl rfl rfl (congrArg S HR.out)
set_option maxRecDepth 100000 in
set_option maxHeartbeats 4000000 in
theorem el94_19 (l r : Bytes) (i : Nat) (u : Nat → Value) (w : World) (I : Act → World → Prop) (Q : Exit → Act → World → Prop) (hl : l.length ≤ 1099511627776)
    (hd : l.drop i = [53] ++ r) (hlen : l.length = i + 1 + r.length) (hf : Fol false r)
    (hQ : Ret94 (l.take i) 1041 r w Q) :
    body94.wp Tryz.prog (Exit.then I Q) (fr94 l i u) w := by
  have hix : ∀ h : i < (bs l).size, (bs l)[i]'h = 53 := fun h => at_of_drop hd 0 (by simp) h
  have HR : Hid (List.take (i + 1 + r.length - (i + 1)) (List.drop (i + 1) l) = r) := rest_of_drop hd hlen
  have HR2 : Hid (List.take r.length (List.drop (i + 1) l) = r) := rest2_of_drop hd hlen
  have HQ := Lib.hid hQ
  have HD := Lib.hid hd
  clear hd hQ hf
  unfold fr94
  conv => arg 2; whnf
  go_wp2_with fail
  all_goals
    go_quiet (fail)
    go_wp2_with fail
    first | exact HQ.out _ _ rfl rfl rfl (congrArg S HR2.out) | exact HQ.out _ _ rfl rfl rfl (congrArg S HR.out)
set_option maxRecDepth 100000 in
set_option maxHeartbeats 4000000 in
theorem el94_21 (l r : Bytes) (i : Nat) (u : Nat → Value) (w : World) (I : Act → World → Prop) (Q : Exit → Act → World → Prop) (hl : l.length ≤ 1099511627776)
    (hd : l.drop i = [80, 77] ++ r) (hlen : l.length = i + 2 + r.length) (hf : Fol false r)
    (hQ : Ret94 (l.take i) 1045 r w Q) :
    body94.wp Tryz.prog (Exit.then I Q) (fr94 l i u) w := by
  have hix : ∀ h : i < (bs l).size, (bs l)[i]'h = 80 := fun h => at_of_drop hd 0 (by simp) h
  have hix1 : ∀ h : i + 1 < (bs l).size, (bs l)[i + 1]'h = 77 := fun h => at_of_drop hd 1 (by simp) h
  have HR : Hid (List.take (i + 2 + r.length - (i + 2)) (List.drop (i + 2) l) = r) := rest_of_drop hd hlen
  have HR2 : Hid (List.take r.length (List.drop (i + 2) l) = r) := rest2_of_drop hd hlen
  have HQ := Lib.hid hQ
  have HD := Lib.hid hd
  clear hd hQ hf
  unfold fr94
  conv => arg 2; whnf
  go_wp2_with fail
  all_goals
    go_quiet (fail)
    go_wp2_with fail
    first | exact HQ.out _ _ rfl rfl rfl (congrArg S HR2.out) | exact HQ.out _ _ rfl rfl rfl (congrArg S HR.out)
end Go.Proofs.YtndhiemagankeaaGreatDoor
