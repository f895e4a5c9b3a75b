/-
  FnLayout (the statement: for every list of pieces, every time and every zone the call returns true, and its arguments read afterwards as they did), part 5 of 41. In this part: The walks of package time: digits, signs, spaces, small numbers. The plain law: a text of the layout is skipped in what was written by it.
-/
import Derived.OwnWalk
import Derived.Deep.DeepCutAuto
import Derived.Test.YtndhiemagankeaaGreatDoorG02
/- The walks of package time: digits, signs, spaces, small numbers. -/
namespace Go.Proofs.YtndhiemagankeaaGreatDoor
open Go.RowKit
set_option linter.unusedVariables false
set_option linter.unusedSimpArgs false
attribute [local simp] bs_size bs_toList bs_append bs_data bs_extract
def isD (c : UInt8) : Bool := decide (48 ≤ c.toNat) && decide (c.toNat ≤ 57)
def digitAt (l : Bytes) (i : Nat) : Bool := match l[i]? with
  | some c => isD c
  | none => false
theorem isDigit_c (l : Bytes) (i : Int) (w : World) (h0 : 0 ≤ i) : Calls Tryz.prog 90 #[S l, .int .i64 i] w fun e w' => e = .returned (.bool (digitAt l i.toNat)) ∧ w' = w := by
  obtain ⟨j, rfl⟩ := Int.eq_ofNat_of_zero_le h0
  rw [show ((j : Int)).toNat = j by omega]
  by_cases hj : j < l.length
  · obtain ⟨c, hc⟩ : ∃ c, l[j]? = some c := ⟨_, List.getElem?_eq_getElem hj⟩
    have hix : ∀ h : j < (bs l).size, (bs l)[j]'h = c := fun h => by
      rw [bs_get]
      rw [List.getElem?_eq_getElem hj] at hc
      simpa using hc
    have hd : digitAt l j = isD c := by simp [digitAt, hc]
    have HD := Lib.hid hd
    clear hd hc
    by_cases h1 : 48 ≤ c.toNat <;> by_cases h2 : c.toNat ≤ 57
    all_goals
      go_enter Tryz.func90, Tryz.ntmps90
      go_wp2
      all_goals
        go_ret
        exact ⟨ret_bool (by rw [HD.out]; simp [isD, *] <;> omega), rfl⟩
  · have hd : digitAt l j = false := by simp [digitAt, List.getElem?_eq_none (Nat.le_of_not_lt hj)]
    have HD := Lib.hid hd
    clear hd
    go_enter Tryz.func90, Tryz.ntmps90
    go_wp2
    go_ret
    exact ⟨ret_bool HD.out.symm, rfl⟩
theorem commaOrPeriod_c (c : UInt8) (w : World) : Calls Tryz.prog 106 #[.int .u8 c.toNat] w fun e w' => e = .returned (.bool (c == 46 || c == 44)) ∧ w' = w := by
  have h : (c == 46 || c == 44) = (decide (c.toNat = 46) || decide (c.toNat = 44)) := by
    rw [Bool.eq_iff_iff]; simp [← UInt8.toNat_inj]
  rw [h]
  have hcb := c.toNat_lt
  by_cases h1 : c.toNat = 46 <;> by_cases h2 : c.toNat = 44
  all_goals
    go_enter Tryz.func106, Tryz.ntmps106
    go_wp2
    go_ret
    exact ⟨ret_bool (by simp [*] <;> omega), rfl⟩
def isLow (c : UInt8) : Bool := decide (97 ≤ c.toNat) && decide (c.toNat ≤ 122)
def lowFirst (l : Bytes) : Bool := match l with
  | c :: _ => isLow c
  | [] => false
theorem startsWithLowerCase_c (l : Bytes) (w : World) : Calls Tryz.prog 130 #[S l] w fun e w' => e = .returned (.bool (lowFirst l)) ∧ w' = w := by
  cases l with
  | nil =>
    go_enter Tryz.func130, Tryz.ntmps130
    go_wp2
    go_ret
    exact ⟨rfl, rfl⟩
  | cons c r =>
    have hix : ∀ h : 0 < (bs (c :: r)).size, (bs (c :: r))[0]'h = c := fun h => by rw [bs_get]; rfl
    have hl0 : ((((c :: r).length : Nat) : Int) == 0) = false := by simp; omega
    obtain ⟨l, HL⟩ : ∃ l, Hid (l = c :: r) := ⟨_, Lib.hid rfl⟩
    rw [← HL.out] at hix hl0 ⊢
    have hlp : 0 < l.length := by rw [HL.out]; simp
    have hcb := c.toNat_lt
    by_cases h1 : 97 ≤ c.toNat <;> by_cases h2 : c.toNat ≤ 122
    all_goals
      go_enter Tryz.func130, Tryz.ntmps130
      go_wp2
      all_goals
        go_ret
        exact ⟨ret_bool (by rw [HL.out]; simp [lowFirst, isLow, *] <;> omega), rfl⟩
/-- A text without the spaces at its head. -/
def unspace (l : Bytes) : Bytes := l.dropWhile (· == 32)
set_option maxRecDepth 100000 in
theorem cutspace_c (l : Bytes) (w : World) (_ : l.length ≤ 9223372036854775807) : Calls Tryz.prog 131 #[S l] w fun e w' => e = .returned (S (unspace l)) ∧ w' = w := by
  go_enter Tryz.func131, Tryz.ntmps131
  go_wp2_with fail
  go_loop [0] (fun s => ∃ x : Bytes, s = S x ∧ x.length ≤ l.length ∧ unspace x = unspace l) (fun s => match s with
    | .string b => b.size
    | _ => 0)
  case atStart => exact ⟨l, rfl, Nat.le_refl _, rfl⟩
  case round =>
    obtain ⟨x, rfl, hx, hu⟩ := hrel
    have HU := Lib.hid hu
    clear hu
    cases x with
    | nil =>
      go_wp2
      go_ret
      exact ⟨ret_str HU.out, rfl⟩
    | cons c r =>
      have hix : ∀ h : 0 < (bs (c :: r)).size, (bs (c :: r))[0]'h = c := fun h => by rw [bs_get]; rfl
      have HR : Hid (((c :: r).drop 1).take ((c :: r).length - 1) = r) := by show _ = _; simp
      have hxl : r.length + 1 ≤ l.length := hx
      obtain ⟨x, HX⟩ : ∃ x, Hid (x = c :: r) := ⟨_, Lib.hid rfl⟩
      rw [← HX.out] at hix hx HU HR ⊢
      have hlx : x.length = r.length + 1 := by rw [HX.out]; simp
      have hcb := c.toNat_lt
      by_cases h1 : c.toNat = 32
      · have hrc : Hid (unspace r = unspace l) := by
          show _ = _
          rw [← HU.out, HX.out]
          obtain rfl : c = 32 := by rw [← UInt8.toNat_inj]; simpa using h1
          rfl
        go_wp2
        go_round
        case rel => exact ⟨r, by rw [HX.out]; simp, by omega, hrc.out⟩
        case measure => simp; omega
      · go_wp2
        go_ret
        refine ⟨ret_str ?_, rfl⟩
        rw [← HU.out, HX.out]
        have : (c == 32) = false := by
          rw [beq_eq_false_iff_ne]; rintro rfl; exact h1 rfl
        simp [unspace, this]
theorem unspace_len (l : Bytes) : (unspace l).length ≤ l.length := by
  unfold unspace
  exact (List.dropWhile_sublist _).length_le
def leadB (v : Bytes) : Bool := match v with
  | [] => true
  | d :: _ => d == 32
/-- What is left of a value behind a prefix; 'none' where the value does not bear it. -/
def skipB (p v : Bytes) : Option Bytes := match p with
  | [] => some v
  | c :: r => if c = 32 then (if leadB v = true then skipB (unspace r) (unspace v) else none)
    else match v with
      | [] => none
      | d :: t => if d = c then skipB r t else none
termination_by p.length
decreasing_by
  · have := unspace_len r; simp; omega
  · simp
theorem skipB_sp (r v : Bytes) : skipB (32 :: r) v = if leadB v = true then skipB (unspace r) (unspace v) else none := by
  rw [skipB.eq_def]; simp
theorem skipB_ne {c : UInt8} (h : ¬ c = 32) (r : Bytes) (d : UInt8) (t : Bytes) : skipB (c :: r) (d :: t) = if d = c then skipB r t else none := by
  rw [skipB.eq_def]; simp [h]
theorem skipB_none {c : UInt8} (h : ¬ c = 32) (r : Bytes) : skipB (c :: r) [] = none := by
  rw [skipB.eq_def]; simp [h]
theorem skipB_nil (v : Bytes) : skipB [] v = some v := by
  rw [skipB.eq_def]
theorem unspace_cons (r : Bytes) : unspace (32 :: r) = unspace r := rfl
set_option maxRecDepth 100000 in
set_option maxHeartbeats 1000000 in
theorem skip_c (v p r : Bytes) (w : World) (hv : v.length ≤ 9223372036854775807) (hp : p.length ≤ 9223372036854775807) (h : skipB p v = some r) :
    Calls Tryz.prog 95 #[S v, S p] w fun e w' => e = .returned (.tuple #[S r, .nilIface]) ∧ ∃ n, w' = w.drewN n := by
  have H := Lib.hid h
  clear h
  go_enter Tryz.func95, Tryz.ntmps95
  go_wp2_with fail
  go_loopw [0, 1] (fun sv sp wr => ∃ x q : Bytes, sv = S x ∧ sp = S q ∧ x.length ≤ v.length ∧ q.length ≤ p.length ∧ Hid (skipB q x = some r) ∧ ∃ n, wr = w.drewN n) (fun _ s _ => match s with
    | .string b => b.size
    | _ => 0)
  case atStart => exact ⟨v, p, rfl, rfl, Nat.le_refl _, Nat.le_refl _, H, 0, rfl⟩
  case round =>
    obtain ⟨x, q, rfl, rfl, hx, hq, HS, n, rfl⟩ := hrel
    cases q with
    | nil =>
      have hxr : x = r := by have := HS.out; rw [skipB_nil] at this; simpa using this
      subst hxr
      go_wp2_with fail
      go_ret2
      exact ⟨rfl, n, rfl⟩
    | cons c q' =>
      have hix : ∀ h : 0 < (bs (c :: q')).size, (bs (c :: q'))[0]'h = c := fun h => by rw [bs_get]; rfl
      have hql : q'.length + 1 ≤ p.length := hq
      have hcu := unspace_len q'
      have hxu := unspace_len x
      have HE : Hid (unspace (c :: q') = if c = 32 then unspace q' else c :: q') := by
        show _ = _
        split
        · subst_vars; rfl
        · have : (c == 32) = false := by simpa using ‹¬c = 32›
          simp [unspace, this]
      have hcb := c.toNat_lt
      by_cases h1 : c = 32
      · have h1' : c.toNat = 32 := by subst h1; rfl
        have HL : Hid (leadB x = true ∧ skipB (unspace q') (unspace x) = some r) := by
          have := HS.out
          rw [h1, skipB_sp] at this
          by_cases hl : leadB x = true
          · rw [if_pos hl] at this; exact ⟨hl, this⟩
          · rw [if_neg hl] at this; exact absurd this (by simp)
        have HE' : Hid (unspace (c :: q') = unspace q') := by have := HE.out; rw [if_pos h1] at this; exact this
        obtain ⟨q, HQ⟩ : ∃ q, Hid (q = c :: q') := ⟨_, Lib.hid rfl⟩
        rw [← HQ.out] at hix hq HS HE' ⊢
        have hlq : q.length = q'.length + 1 := by rw [HQ.out]; simp
        clear HE h1
        cases x with
        | nil =>
          go_wp2_with (go_at_call 131; refine (cutspace_c _ _ (by first | omega | simp)).mono ?_; rintro e w' ⟨rfl, rfl⟩)
          go_roundw
          case rel => exact ⟨_, _, rfl, by rw [HE'.out], by omega, by omega, Lib.hid HL.out.2, n, rfl⟩
          case measure => simp; rw [HE'.out]; omega
        | cons d t =>
          have hiy : ∀ h : 0 < (bs (d :: t)).size, (bs (d :: t))[0]'h = d := fun h => by rw [bs_get]; rfl
          have hd : d.toNat = 32 := by have := HL.out.1; simp [leadB] at this; subst this; rfl
          obtain ⟨x, HX⟩ : ∃ x, Hid (x = d :: t) := ⟨_, Lib.hid rfl⟩
          rw [← HX.out] at hiy hx HS HL hxu ⊢
          have hlx : 0 < x.length := by rw [HX.out]; simp
          go_wp2_with (go_at_call 131; refine (cutspace_c _ _ (by omega)).mono ?_; rintro e w' ⟨rfl, rfl⟩)
          go_roundw
          case rel => exact ⟨_, _, rfl, by rw [HE'.out], by omega, by omega, Lib.hid HL.out.2, n, rfl⟩
          case measure => simp; rw [HE'.out]; omega
      · have h1' : ¬ c.toNat = 32 := fun e => h1 (by rw [← UInt8.toNat_inj]; exact e)
        cases x with
        | nil =>
          exfalso
          have := HS.out
          rw [skipB_none h1] at this
          simp at this
        | cons d t =>
          have HL : Hid (skipB q' t = some r ∧ d = c) := by
            have := HS.out
            rw [skipB_ne h1] at this
            by_cases hl : d = c
            · rw [if_pos hl] at this; exact ⟨this, hl⟩
            · rw [if_neg hl] at this; exact absurd this (by simp)
          obtain rfl : d = c := HL.out.2
          have hiy : ∀ h : 0 < (bs (d :: t)).size, (bs (d :: t))[0]'h = d := fun h => by rw [bs_get]; rfl
          have hxl : t.length + 1 ≤ v.length := hx
          clear HE h1
          obtain ⟨q, HQ⟩ : ∃ q, Hid (q = d :: q') := ⟨_, Lib.hid rfl⟩
          rw [← HQ.out] at hix hq HS ⊢
          have hlq : q.length = q'.length + 1 := by rw [HQ.out]; simp
          obtain ⟨x, HX⟩ : ∃ x, Hid (x = d :: t) := ⟨_, Lib.hid rfl⟩
          rw [← HX.out] at hiy hx HS hxu ⊢
          have hlx : x.length = t.length + 1 := by rw [HX.out]; simp
          have hz : (((x.length : Nat) : Int) == 0) = false := by rw [beq_eq_false_iff_ne]; omega
          go_wp2_with fail
          go_quiet (fail)
          go_wp2_with fail
          go_roundw
          case rel => exact ⟨t, q', by rw [HX.out]; simp, by rw [HQ.out]; simp, by omega, by omega, Lib.hid HL.out.1, _, rfl⟩
          case measure => simp; omega
end Go.Proofs.YtndhiemagankeaaGreatDoor
/- The plain law: a text of the layout is skipped in what was written by it. -/
namespace Go.Proofs.YtndhiemagankeaaGreatDoor
open Go.RowKit
set_option linter.unusedSimpArgs false
set_option linter.unusedVariables false
/-- What is left behind a text: blanks are cut where the text ends with one. -/
def behind (T v : Bytes) : Bytes := if T.getLast? = some 32 then unspace v else v
theorem unspace_append (T v : Bytes) : unspace (T ++ v) = if unspace T = [] then unspace v else unspace T ++ v := by
  induction T with
  | nil => simp [unspace]
  | cons c T ih =>
    by_cases hc : c = 32
    · subst hc
      rw [List.cons_append, unspace_cons, unspace_cons, ih]
    · have h1 : ∀ s, unspace (c :: s) = c :: s := by
        intro s
        unfold unspace
        rw [List.dropWhile_cons]
        simp [hc]
      rw [List.cons_append, h1, h1]
      simp
theorem unspace_last (T : Bytes) (h : unspace T ≠ []) : (unspace T).getLast? = T.getLast? := by
  induction T with
  | nil => simp [unspace] at h
  | cons c T ih =>
    by_cases hc : c = 32
    · subst hc
      rw [unspace_cons] at h ⊢
      rw [ih h]
      cases T with
      | nil => simp [unspace] at h
      | cons d T => rfl
    · have h1 : unspace (c :: T) = c :: T := by
        unfold unspace
        rw [List.dropWhile_cons]
        simp [hc]
      rw [h1]
theorem unspace_all (T : Bytes) (hne : T ≠ []) (h : unspace T = []) : T.getLast? = some 32 := by
  induction T with
  | nil => exact absurd rfl hne
  | cons c T ih =>
    by_cases hc : c = 32
    · subst hc
      rw [unspace_cons] at h
      cases T with
      | nil => rfl
      | cons d T => rw [List.getLast?_cons_cons]; exact ih (by simp) h
    · have h1 : unspace (c :: T) = c :: T := by
        unfold unspace
        rw [List.dropWhile_cons]
        simp [hc]
      rw [h1] at h
      simp at h
theorem skip_law (n : Nat) (T v : Bytes) (hn : T.length ≤ n) : skipB T (T ++ v) = some (behind T v) := by
  induction n generalizing T with
  | zero =>
    have : T = [] := List.eq_nil_of_length_eq_zero (by omega)
    subst this
    rw [List.nil_append, skipB_nil]
    rfl
  | succ n ih =>
    cases T with
    | nil => rw [List.nil_append, skipB_nil]; rfl
    | cons c T =>
      by_cases hc : c = 32
      · subst hc
        rw [List.cons_append, skipB_sp, if_pos (by simp [leadB]), unspace_cons, unspace_append]
        by_cases hu : unspace T = []
        · rw [if_pos hu, hu, skipB_nil]
          unfold behind
          rw [if_pos (unspace_all (32 :: T) (by simp) (by rw [unspace_cons]; exact hu))]
        · rw [if_neg hu, ih (unspace T) (by have := unspace_len T; simp at hn; omega)]
          unfold behind
          rw [unspace_last T hu]
          cases T with
          | nil => simp [unspace] at hu
          | cons d T => rfl
      · rw [List.cons_append, skipB_ne hc, if_pos rfl, ih T (by simp at hn; omega)]
        unfold behind
        cases T with
        | nil => simp [hc]
        | cons d T => rfl
end Go.Proofs.YtndhiemagankeaaGreatDoor
