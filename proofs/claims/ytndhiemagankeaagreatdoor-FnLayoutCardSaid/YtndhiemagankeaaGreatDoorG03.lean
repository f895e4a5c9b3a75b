/-
  FnLayout (the statement: for every list of pieces, every time and every zone the call returns true, and its arguments read afterwards as they did), part 3 of 41. In this part: The walks of the reference: zones and plain texts. The walks of the reference: pieces.
-/
import Derived.Deep.DeepCutAuto
import Derived.Test.YtndhiemagankeaaGreatDoorG02
/- The walks of the reference: zones and plain texts. -/
namespace Go.Proofs.YtndhiemagankeaaGreatDoor
open Go.RowKit
set_option linter.unusedSimpArgs false
set_option linter.unusedVariables false
attribute [local simp] bs_size bs_toList
set_option maxHeartbeats 1000000 in
theorem zoneOk_c (z : Zn) (w : World) (hl : z.name.length ≤ 9223372036854775807) : Calls Tryz.prog 9 #[z.val] w fun e w' => e = .returned (.bool (zoneOk z)) ∧ Below w.heap.size w w' := by
  unfold Zn.val
  go_enter Tryz.func9, Tryz.ntmps9
  go_wp2_with (go_at_call 26; refine (within_c _ _ _ _).mono ?_; rintro e w' ⟨rfl, rfl⟩)
  all_goals
    go_ret
    refine ⟨ret_bool ?_, (Below.refl _ _).alloc (Nat.le_refl _) _⟩
    rw [Bool.eq_iff_iff]
    simp_all [zoneOk, utcB]
    try omega
/-- A plain text's first signs. -/
def plainG (j : Nat) (c : UInt8) : Bool := signB c || (letterB c && !(j == 0))
def plainTo (s : Bytes) (j : Nat) : Bool := (List.range j).all fun i => plainG i (s.getD i 0)
theorem plainTo_succ {s : Bytes} {j : Nat} : plainTo s (j + 1) = (plainTo s j && plainG j (s.getD j 0)) := by
  simp [plainTo, List.range_succ]
theorem plain_eq (s : Bytes) : plain s = (plainTo s s.length && decide (s.length ≤ 1000)) := by
  unfold plain
  congr 1
  cases s with
  | nil => rfl
  | cons c r =>
    rw [Bool.eq_iff_iff]
    simp only [plainTo, List.length_cons, Bool.and_eq_true, List.all_eq_true, List.mem_range]
    constructor
    · rintro ⟨h1, h2⟩ i hi
      cases i with
      | zero => simp [plainG, h1]
      | succ i =>
        have := h2 (r.getD i 0) (by rw [List.getD_eq_getElem?_getD, List.getElem?_eq_getElem (by omega)]; exact List.getElem_mem _)
        simpa [plainG] using this
    · intro h
      refine ⟨by simpa [plainG] using h 0 (by omega), fun x hx => ?_⟩
      obtain ⟨i, hi, rfl⟩ := List.getElem_of_mem hx
      have := h (i + 1) (by omega)
      simpa [plainG, hi] using this
theorem plainTo_mono {s : Bytes} {j k : Nat} (h : j ≤ k) (h0 : plainTo s j = false) : plainTo s k = false := by
  induction k with
  | zero => obtain rfl : j = 0 := by omega
            exact h0
  | succ k ih =>
    by_cases e : j = k + 1
    · subst e; exact h0
    · rw [plainTo_succ, ih (by omega)]; rfl
theorem plain_no {s : Bytes} {j : Nat} (h : j < s.length) (h0 : plainTo s (j + 1) = false) : plain s = false := by
  rw [plain_eq, plainTo_mono (by omega) h0]; rfl
set_option maxRecDepth 100000 in
set_option maxHeartbeats 2000000 in
theorem plain_c (s : Bytes) (w : World) (hl : s.length ≤ 9223372036854775807) : Calls Tryz.prog 48 #[S s] w fun e w' => e = .returned (.bool (plain s)) ∧ w = w' := by
  go_enter Tryz.func48, Tryz.ntmps48
  go_wp2_with fail
  go_loop [3] (fun i => ∃ j : Nat, j ≤ s.length ∧ i = .int .i64 j ∧ plainTo s j = true) (fun i => s.length - (intOf i).toNat)
  case atStart => exact ⟨0, Nat.zero_le _, rfl, rfl⟩
  case round =>
    obtain ⟨j, hj, rfl, hnot⟩ := hrel
    have HN := Lib.hid hnot
    clear hnot
    by_cases hlt : j < s.length
    · obtain ⟨c, HC⟩ : ∃ c, Hid (s.getD j 0 = c) := ⟨_, rfl⟩
      have hix : ∀ h : j < (bs s).size, (bs s)[j]'h = c := fun h => by
        rw [bs_get]
        have := HC.out
        rw [List.getD_eq_getElem?_getD, List.getElem?_eq_getElem hlt] at this
        exact this
      have hcb := c.toNat_lt
      go_upto_region 5 with fail
      go_cut [4, 5] (fun s4 s5 w' => s4 = .int .u8 c.toNat ∧ s5 = .bool (letterB c) ∧ w' = w)
      case first =>
        go_wp2
        all_goals
          go_meet
          case rel =>
            refine ⟨by simp [*], congrArg Value.bool ?_, rfl⟩
            rw [Bool.eq_iff_iff]
            simp [letterB, ← UInt8.toNat_inj]
            omega
      case rest =>
        obtain ⟨rfl, rfl, rfl⟩ := hcut
        go_upto_region 6 with fail
        go_cut [4, 6] (fun s4 s6 w' => s4 = .int .u8 c.toNat ∧ s6 = .bool (signB c) ∧ w' = wc)
        case first =>
          go_wp2
          all_goals
            go_meet
            case rel =>
              refine ⟨by simp [*], congrArg Value.bool ?_, rfl⟩
              rw [Bool.eq_iff_iff]
              simp [signB, ← UInt8.toNat_inj]
              omega
        case rest =>
          obtain ⟨rfl, rfl, rfl⟩ := hcut
          have hg : Hid (plainTo s (j + 1) = plainG j c) := by
            show _ = _
            rw [plainTo_succ, HN.out, HC.out]; rfl
          cases h1 : signB c <;> cases h2 : letterB c <;> by_cases h3 : j = 0
          all_goals
            have h3' : ((j : Int) == 0) = decide (j = 0) := by rw [Bool.eq_iff_iff]; simp
            go_wp2
            first
              | (go_ret; exact ⟨ret_bool (plain_no hlt (by rw [hg.out]; simp [plainG, *])).symm, rfl⟩)
              | (go_round; (case rel => exact ⟨j + 1, by omega, by go_num, by rw [hg.out]; simp [plainG, *]⟩); (case measure => simp [intOf]; omega))
    · go_wp2
      go_ret
      exact ⟨ret_bool (by have := HN.out; obtain rfl : j = s.length := by omega
                          rw [Bool.eq_iff_iff, plain_eq, this]; simp; omega), rfl⟩
end Go.Proofs.YtndhiemagankeaaGreatDoor
/- The walks of the reference: pieces. -/
namespace Go.Proofs.YtndhiemagankeaaGreatDoor
open Go.RowKit
set_option linter.unusedVariables false
set_option linter.unusedSimpArgs false
attribute [local simp] bs_size bs_toList
set_option maxHeartbeats 2000000 in
theorem pieceOk_c (p : Pc) (w : World) (hl : p.text.length ≤ 9223372036854775807) : Calls Tryz.prog 21 #[p.val] w fun e w' => e = .returned (.bool (pieceOk p)) ∧ Below w.heap.size w w' := by
  unfold Pc.val
  go_enter Tryz.func21, Tryz.ntmps21
  go_wp2_with (first | (go_at_call 26; refine (within_c _ _ _ _).mono ?_; rintro e w' ⟨rfl, rfl⟩) | (go_at_call 22; refine (isFraction_c _ _).mono ?_; rintro e w' ⟨rfl, rfl⟩) | (go_at_call 48; refine (plain_c _ _ hl).mono ?_; rintro e w' ⟨rfl, rfl⟩))
  all_goals
    go_ret
    refine ⟨ret_bool ?_, (Below.refl _ _).alloc (Nat.le_refl _) _⟩
    rw [Bool.eq_iff_iff]
    simp_all [pieceOk]
set_option maxHeartbeats 2000000 in
theorem civilOk_c (c : Civ) (w : World) (hl : c.zone.name.length ≤ 9223372036854775807) : Calls Tryz.prog 8 #[c.val] w fun e w' => e = .returned (.bool (civilOk c)) ∧ Below w.heap.size w w' := by
  unfold Civ.val
  have hz := zoneOk_c c.zone
  unfold Zn.val at hz
  have HZ := Lib.hid hz
  clear hz
  go_enter Tryz.func8, Tryz.ntmps8
  go_wp2_with (first | (go_at_call 26; refine (within_c _ _ _ _).mono ?_; rintro e w' ⟨rfl, rfl⟩) | (go_at_call 25; refine (dateOk_c _ _ _ _).mono ?_; rintro e w' ⟨rfl, rfl⟩) | (go_at_call 9; refine (HZ.out _ hl).mono ?_; rintro e w' ⟨rfl, hb⟩))
  all_goals
    go_ret
    refine ⟨ret_bool ?_, ?_⟩
    · rw [Bool.eq_iff_iff]
      simp_all [civilOk]
    · first
        | exact below_new _ _
        | exact below_next (below_new _ _) hb
set_option maxHeartbeats 400000 in
theorem has_c (v : Value) (ps : List Pc) (k : Int) (w : World) (H : PcsAt w v ps) (hn : ps.length ≤ 2147483647) :
    Calls Tryz.prog 33 #[v, .int .i64 k] w fun e w' => e = .returned (.bool (hasK ps k)) ∧ w = w' := by
  obtain ⟨ao, cap, rfl, hcap, hc⟩ := H
  have HC := Lib.hid hc
  clear hc
  go_enter Tryz.func33, Tryz.ntmps33
  go_wp2
  go_loop [5] (fun i => ∃ j : Nat, j ≤ ps.length ∧ i = .int .i64 j ∧ (ps.take j).any (fun p => p.kind == k) = false) (fun i => ps.length - (intOf i).toNat)
  case atStart => exact ⟨0, Nat.zero_le _, rfl, rfl⟩
  case round =>
    obtain ⟨j, hj, rfl, hnot⟩ := hrel
    have HN := Lib.hid hnot
    clear hnot
    by_cases hlt : j < ps.length
    · obtain ⟨b, off, rfl, _, q2, q3, q4, q5, _⟩ := HC.out j hlt
      by_cases hk : ps[j].kind = k
      · have hk' : (ps[j].kind == k) = true := by simpa using hk
        go_wp2
        go_ret
        exact ⟨ret_bool (any_of_get (f := fun p : Pc => p.kind == k) hlt hk').symm, rfl⟩
      · have hk' : (ps[j].kind == k) = false := by simpa using hk
        go_wp2
        go_round
        case rel => exact ⟨j + 1, by omega, by go_num, any_take_succ hlt HN.out hk'⟩
        case measure => simp [intOf]; omega
    · go_wp2
      go_ret
      exact ⟨ret_bool (by have := HN.out; rw [List.take_of_length_le (by omega)] at this; exact this.symm), rfl⟩
set_option maxHeartbeats 400000 in
theorem any_c (v : Value) (ps : List Pc) (lo hi : Int) (w : World) (H : PcsAt w v ps) (hn : ps.length ≤ 2147483647) :
    Calls Tryz.prog 67 #[v, .int .i64 lo, .int .i64 hi] w fun e w' => e = .returned (.bool (anyK ps lo hi)) ∧ w = w' := by
  obtain ⟨ao, cap, rfl, hcap, hc⟩ := H
  have HC := Lib.hid hc
  clear hc
  go_enter Tryz.func67, Tryz.ntmps67
  go_wp2
  go_loop [7] (fun i => ∃ j : Nat, j ≤ ps.length ∧ i = .int .i64 j ∧ (ps.take j).any (fun p => within p.kind lo hi) = false) (fun i => ps.length - (intOf i).toNat)
  case atStart => exact ⟨0, Nat.zero_le _, rfl, rfl⟩
  case round =>
    obtain ⟨j, hj, rfl, hnot⟩ := hrel
    have HN := Lib.hid hnot
    clear hnot
    by_cases hlt : j < ps.length
    · obtain ⟨b, off, rfl, _, q2, q3, q4, q5, _⟩ := HC.out j hlt
      cases hk : within ps[j].kind lo hi
      · go_wp2_with (go_at_call 26; refine (within_c _ _ _ _).mono ?_; rintro e w' ⟨rfl, rfl⟩)
        go_round
        case rel => exact ⟨j + 1, by omega, by go_num, any_take_succ hlt HN.out hk⟩
        case measure => simp [intOf]; omega
      · go_wp2_with (go_at_call 26; refine (within_c _ _ _ _).mono ?_; rintro e w' ⟨rfl, rfl⟩)
        go_ret
        exact ⟨ret_bool (any_of_get (f := fun p : Pc => within p.kind lo hi) hlt hk).symm, rfl⟩
    · go_wp2
      go_ret
      exact ⟨ret_bool (by have := HN.out; rw [List.take_of_length_le (by omega)] at this; exact this.symm), rfl⟩
set_option maxHeartbeats 400000 in
theorem hHalf_c (v : Value) (ps : List Pc) (w : World) (H : PcsAt w v ps) (hn : ps.length ≤ 2147483647) : Calls Tryz.prog 32 #[v] w fun e w' => e = .returned (.bool (anyK ps 15 16)) ∧ w = w' := by
  go_enter Tryz.func32, Tryz.ntmps32
  go_wp2_with (go_at_call 67; refine (any_c _ _ _ _ _ H hn).mono ?_; rintro e w' ⟨rfl, rfl⟩)
  go_ret
  exact ⟨rfl, rfl⟩
set_option maxHeartbeats 400000 in
theorem hHour_c (v : Value) (ps : List Pc) (w : World) (H : PcsAt w v ps) (hn : ps.length ≤ 2147483647) : Calls Tryz.prog 34 #[v] w fun e w' => e = .returned (.bool (anyK ps 14 16)) ∧ w = w' := by
  go_enter Tryz.func34, Tryz.ntmps34
  go_wp2_with (go_at_call 67; refine (any_c _ _ _ _ _ H hn).mono ?_; rintro e w' ⟨rfl, rfl⟩)
  go_ret
  exact ⟨rfl, rfl⟩
set_option maxHeartbeats 400000 in
theorem hYearDay_c (v : Value) (ps : List Pc) (w : World) (H : PcsAt w v ps) (hn : ps.length ≤ 2147483647) : Calls Tryz.prog 35 #[v] w fun e w' => e = .returned (.bool (anyK ps 12 13)) ∧ w = w' := by
  go_enter Tryz.func35, Tryz.ntmps35
  go_wp2_with (go_at_call 67; refine (any_c _ _ _ _ _ H hn).mono ?_; rintro e w' ⟨rfl, rfl⟩)
  go_ret
  exact ⟨rfl, rfl⟩
set_option maxHeartbeats 400000 in
theorem hYear_c (v : Value) (ps : List Pc) (w : World) (H : PcsAt w v ps) (hn : ps.length ≤ 2147483647) : Calls Tryz.prog 36 #[v] w fun e w' => e = .returned (.bool (anyK ps 1 2)) ∧ w = w' := by
  go_enter Tryz.func36, Tryz.ntmps36
  go_wp2_with (go_at_call 67; refine (any_c _ _ _ _ _ H hn).mono ?_; rintro e w' ⟨rfl, rfl⟩)
  go_ret
  exact ⟨rfl, rfl⟩
set_option maxHeartbeats 400000 in
theorem hMonth_c (v : Value) (ps : List Pc) (w : World) (H : PcsAt w v ps) (hn : ps.length ≤ 2147483647) : Calls Tryz.prog 41 #[v] w fun e w' => e = .returned (.bool (anyK ps 3 6)) ∧ w = w' := by
  go_enter Tryz.func41, Tryz.ntmps41
  go_wp2_with (go_at_call 67; refine (any_c _ _ _ _ _ H hn).mono ?_; rintro e w' ⟨rfl, rfl⟩)
  go_ret
  exact ⟨rfl, rfl⟩
set_option maxHeartbeats 400000 in
theorem hDay_c (v : Value) (ps : List Pc) (w : World) (H : PcsAt w v ps) (hn : ps.length ≤ 2147483647) : Calls Tryz.prog 42 #[v] w fun e w' => e = .returned (.bool (anyK ps 9 11)) ∧ w = w' := by
  go_enter Tryz.func42, Tryz.ntmps42
  go_wp2_with (go_at_call 67; refine (any_c _ _ _ _ _ H hn).mono ?_; rintro e w' ⟨rfl, rfl⟩)
  go_ret
  exact ⟨rfl, rfl⟩
set_option maxHeartbeats 400000 in
theorem hMinute_c (v : Value) (ps : List Pc) (w : World) (H : PcsAt w v ps) (hn : ps.length ≤ 2147483647) : Calls Tryz.prog 43 #[v] w fun e w' => e = .returned (.bool (anyK ps 17 18)) ∧ w = w' := by
  go_enter Tryz.func43, Tryz.ntmps43
  go_wp2_with (go_at_call 67; refine (any_c _ _ _ _ _ H hn).mono ?_; rintro e w' ⟨rfl, rfl⟩)
  go_ret
  exact ⟨rfl, rfl⟩
set_option maxHeartbeats 400000 in
theorem hSecond_c (v : Value) (ps : List Pc) (w : World) (H : PcsAt w v ps) (hn : ps.length ≤ 2147483647) : Calls Tryz.prog 44 #[v] w fun e w' => e = .returned (.bool (anyK ps 19 20)) ∧ w = w' := by
  go_enter Tryz.func44, Tryz.ntmps44
  go_wp2_with (go_at_call 67; refine (any_c _ _ _ _ _ H hn).mono ?_; rintro e w' ⟨rfl, rfl⟩)
  go_ret
  exact ⟨rfl, rfl⟩
set_option maxHeartbeats 400000 in
theorem hZone_c (v : Value) (ps : List Pc) (w : World) (H : PcsAt w v ps) (hn : ps.length ≤ 2147483647) : Calls Tryz.prog 47 #[v] w fun e w' => e = .returned (.bool (anyK ps 22 31)) ∧ w = w' := by
  go_enter Tryz.func47, Tryz.ntmps47
  go_wp2_with (go_at_call 67; refine (any_c _ _ _ _ _ H hn).mono ?_; rintro e w' ⟨rfl, rfl⟩)
  go_ret
  exact ⟨rfl, rfl⟩
end Go.Proofs.YtndhiemagankeaaGreatDoor
