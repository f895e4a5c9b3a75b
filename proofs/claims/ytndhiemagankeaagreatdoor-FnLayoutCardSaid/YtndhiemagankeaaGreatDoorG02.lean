/-
  FnLayout (the statement: for every list of pieces, every time and every zone the call returns true, and its arguments read afterwards as they did), part 2 of 41. In this part: Base words for the claim on FnLayout: byte lists as strings, and small laws on them. The walks of the reference's small functions: each says what the Go function computes. The walks of the reference: whether the arguments fit the machine.
-/
import Derived.Test.YtndhiemagankeaaGreatDoorProg
import Derived.WalkKit
import Derived.Outline
import Derived.WalkSpells
import Derived.WalkLawsBesides
import Derived.Deep.QuietTactic
import Derived.BigQuiet
import Derived.KernelRfl
import Derived.Lib.Hide
import Derived.Lib.Strings
import Derived.Test.YtndhiemagankeaaGreatDoorG01
/- Base words for the claim on FnLayout: byte lists as strings, and small laws on them. -/
namespace Go.Proofs.YtndhiemagankeaaGreatDoor
open Go.RowKit
set_option linter.unusedSimpArgs false
set_option linter.unusedVariables false

/-- A list of bytes as the model's string. -/
def bs (l : List UInt8) : ByteArray := ⟨l.toArray⟩
/-- The string value of a list of bytes. -/
abbrev S (l : List UInt8) : Value := .string (bs l)

theorem bs_size (l : List UInt8) : (bs l).size = l.length := by simp [bs, ByteArray.size]
theorem bs_data (l : List UInt8) : (bs l).data.toList = l := by simp [bs]
theorem bs_of (s : ByteArray) : bs s.data.toList = s := by simp [bs]
theorem bs_inj {a b : List UInt8} (h : bs a = bs b) : a = b := by
  have := congrArg (fun s : ByteArray => s.data.toList) h
  simpa [bs] using this
theorem bs_ext {a b : ByteArray} (h : a.data.toList = b.data.toList) : a = b := by
  have := congrArg bs h
  rwa [bs_of, bs_of] at this
theorem bs_toList (l : List UInt8) : (bs l).toList = l := by rw [Lib.toList_data, bs_data]
theorem bs_get (l : List UInt8) (i : Nat) (h : i < (bs l).size) : (bs l)[i]'h = l[i]'(by rwa [bs_size] at h) := by
  show (bs l).data[i] = _
  simp [bs]
theorem bs_extract (l : List UInt8) (i j : Nat) : (bs l).extract i j = bs ((l.drop i).take (j - i)) :=
  bs_ext (by rw [Lib.extract_data, bs_data, bs_data])
theorem bs_append (a b : List UInt8) : bs a ++ bs b = bs (a ++ b) :=
  bs_ext (by simp [bs])
theorem ret_bool {a b : Bool} (h : a = b) : Ending.returned (.bool a) = Ending.returned (.bool b) := by rw [h]
theorem ret_int {k : IntKind} {a b : Int} (h : a = b) : Ending.returned (.int k a) = Ending.returned (.int k b) := by rw [h]
theorem ret_str {a b : Bytes} (h : a = b) : Ending.returned (S a) = Ending.returned (S b) := by rw [h]

/-- A slice value of pieces: where its cells lie and what they hold. -/
def PcsAt (w : World) (v : Value) (ps : List Pc) : Prop :=
  ∃ ao cap, v = .slice ao ps.length cap ∧ ps.length ≤ cap ∧ ∀ (i : Nat) (h : i < ps.length), ∃ b off, ao = some ⟨b, off, none⟩ ∧ b < w.heap.size ∧
    w.cell? ⟨b, off + i * 4, none⟩ = some (.int .i64 ps[i].kind) ∧ w.cell? ⟨b, off + i * 4 + 1, none⟩ = some (S ps[i].text) ∧
    w.cell? ⟨b, off + i * 4 + 2, none⟩ = some (.int .i64 ps[i].n) ∧ w.cell? ⟨b, off + i * 4 + 3, none⟩ = some (.bool ps[i].comma) ∧ ps[i].text.length ≤ 9223372036854775807
theorem PcsAt.below {w w' : World} {v : Value} {ps : List Pc} (h : PcsAt w v ps) (hb : Below w.heap.size w w') : PcsAt w' v ps := by
  obtain ⟨ao, cap, h1, h2, h3⟩ := h
  refine ⟨ao, cap, h1, h2, fun i hi => ?_⟩
  obtain ⟨b, off, q0, q1, q2, q3, q4, q5, q6⟩ := h3 i hi
  have hc : ∀ o, w'.cell? ⟨b, o, none⟩ = w.cell? ⟨b, o, none⟩ := fun o => hb.cell (p := ⟨b, o, none⟩) q1
  exact ⟨b, off, q0, Nat.lt_of_lt_of_le q1 hb.size, by rw [hc]; exact q2, by rw [hc]; exact q3, by rw [hc]; exact q4, by rw [hc]; exact q5, q6⟩
theorem below_next {w w1 w2 : World} (h : Below w.heap.size w w1) (k : Below w1.heap.size w1 w2) : Below w.heap.size w w2 := h.trans (k.mono h.size)
theorem below_new (w : World) (o : Obj) : Below w.heap.size w (w.alloc o) := (Below.refl _ _).alloc (Nat.le_refl _) _
theorem below_drew (w : World) : Below w.heap.size w w.drew := (Below.refl _ _).drew
theorem below_drewN (w : World) (n : Nat) : Below w.heap.size w (w.drewN n) := ⟨rfl, rfl, rfl, Nat.le_refl _, fun _ _ => rfl⟩
theorem below_dN {w w1 : World} (h : Below w.heap.size w w1) (n : Nat) : Below w.heap.size w (w1.drewN n) := h.trans ⟨rfl, rfl, rfl, Nat.le_refl _, fun _ _ => rfl⟩
theorem quiet_same {P : Program} {f : FuncId} {args : Array Value} {w : World} {n : Nat} {v : Value}
    (h : Calls P f args (w.drewN n) fun e w' => e = .returned v ∧ w.drewN n = w') : Calls P f args (w.drewN n) fun e w'' => e = .returned v ∧ ∃ m, w'' = w.drewN m :=
  h.mono fun _ _ ⟨he, hm⟩ => ⟨he, n, hm.symm⟩
/-- The values of a zone, a time, a piece. -/
def Zn.val (z : Zn) : Value := .agg #[S z.name, .int .i64 z.off]
def Civ.val (c : Civ) : Value := .agg #[.int .i64 c.year, .int .i64 c.month, .int .i64 c.day, .int .i64 c.hour, .int .i64 c.minute, .int .i64 c.second, .int .i64 c.nano, S c.zone.name, .int .i64 c.zone.off]
def Pc.val (p : Pc) : Value := .agg #[.int .i64 p.kind, S p.text, .int .i64 p.n, .bool p.comma]
end Go.Proofs.YtndhiemagankeaaGreatDoor
/- The walks of the reference's small functions: each says what the Go function computes. -/
namespace Go.Proofs.YtndhiemagankeaaGreatDoor
open Go.RowKit
set_option linter.unusedVariables false
set_option linter.unusedSimpArgs false

theorem any_take_succ {α : Type} {f : α → Bool} {l : List α} {i : Nat} (h : i < l.length) (h0 : (l.take i).any f = false) (h1 : f l[i] = false) : (l.take (i + 1)).any f = false := by
  rw [List.take_succ_eq_append_getElem h, List.any_append, h0]
  simp [h1]
theorem any_of_get {α : Type} {f : α → Bool} {l : List α} {i : Nat} (h : i < l.length) (h1 : f l[i] = true) : l.any f = true :=
  List.any_eq_true.2 ⟨l[i], List.getElem_mem h, h1⟩
theorem all_take_succ {α : Type} {f : α → Bool} {l : List α} {i : Nat} (h : i < l.length) (h0 : (l.take i).all f = true) (h1 : f l[i] = true) : (l.take (i + 1)).all f = true := by
  rw [List.take_succ_eq_append_getElem h, List.all_append, h0]
  simp [h1]
theorem all_of_get {α : Type} {f : α → Bool} {l : List α} {i : Nat} (h : i < l.length) (h1 : f l[i] = false) : l.all f = false :=
  List.all_eq_false.2 ⟨l[i], List.getElem_mem h, by simp [h1]⟩

set_option maxHeartbeats 400000 in
theorem within_c (n lo hi : Int) (w : World) : Calls Tryz.prog 26 #[.int .i64 n, .int .i64 lo, .int .i64 hi] w fun e w' => e = .returned (.bool (within n lo hi)) ∧ w = w' := by
  go_enter Tryz.func26, Tryz.ntmps26
  go_wp2
  all_goals
    go_ret
    exact ⟨ret_bool (by rw [Bool.eq_iff_iff]; simp [within]; omega), rfl⟩
set_option maxHeartbeats 400000 in
theorem isSecond_c (n : Int) (w : World) : Calls Tryz.prog 49 #[.int .i64 n] w fun e w' => e = .returned (.bool (isSecond n)) ∧ w = w' := by
  go_enter Tryz.func49, Tryz.ntmps49
  go_wp2
  all_goals
    go_ret
    exact ⟨ret_bool (by rw [Bool.eq_iff_iff]; simp [isSecond]; try omega), rfl⟩
set_option maxHeartbeats 400000 in
theorem isFraction_c (n : Int) (w : World) : Calls Tryz.prog 22 #[.int .i64 n] w fun e w' => e = .returned (.bool (isFraction n)) ∧ w = w' := by
  go_enter Tryz.func22, Tryz.ntmps22
  go_wp2
  all_goals
    go_ret
    exact ⟨ret_bool (by rw [Bool.eq_iff_iff]; simp [isFraction]; try omega), rfl⟩
set_option maxHeartbeats 400000 in
theorem isZone_c (n : Int) (w : World) : Calls Tryz.prog 23 #[.int .i64 n] w fun e w' => e = .returned (.bool (isZone n)) ∧ w = w' := by
  go_enter Tryz.func23, Tryz.ntmps23
  go_wp2_with (go_at_call 26; refine (within_c _ _ _ _).mono ?_; rintro e w' ⟨rfl, rfl⟩)
  go_ret
  exact ⟨rfl, rfl⟩
set_option maxHeartbeats 400000 in
theorem isISO_c (n : Int) (w : World) : Calls Tryz.prog 50 #[.int .i64 n] w fun e w' => e = .returned (.bool (isISO n)) ∧ w = w' := by
  go_enter Tryz.func50, Tryz.ntmps50
  go_wp2_with (go_at_call 26; refine (within_c _ _ _ _).mono ?_; rintro e w' ⟨rfl, rfl⟩)
  go_ret
  exact ⟨rfl, rfl⟩
set_option maxHeartbeats 400000 in
theorem leap_c (n : Int) (w : World) (h0 : 0 ≤ n) : Calls Tryz.prog 77 #[.int .i64 n] w fun e w' => e = .returned (.bool (leap n)) ∧ w = w' := by
  go_enter Tryz.func77, Tryz.ntmps77
  go_wp2
  all_goals
    go_ret
    exact ⟨ret_bool (by rw [Bool.eq_iff_iff]; simp [leap]; try omega), rfl⟩
set_option maxHeartbeats 400000 in
theorem days_c (y m : Int) (w : World) (h0 : 0 ≤ y) : Calls Tryz.prog 51 #[.int .i64 y, .int .i64 m] w fun e w' => e = .returned (.int .i64 (days y m)) ∧ w = w' := by
  go_enter Tryz.func51, Tryz.ntmps51
  go_wp2_with (go_at_call 77; refine (leap_c _ _ h0).mono ?_; rintro e w' ⟨rfl, rfl⟩)
  all_goals
    go_ret
    exact ⟨ret_int (by simp_all [days]), rfl⟩
set_option maxHeartbeats 400000 in
theorem dateOk_c (y m d : Int) (w : World) : Calls Tryz.prog 25 #[.int .i64 y, .int .i64 m, .int .i64 d] w fun e w' => e = .returned (.bool (dateOk y m d)) ∧ w = w' := by
  by_cases h : within y 0 9999 = true
  · have h0 : 0 ≤ y := by simp [within] at h; omega
    go_enter Tryz.func25, Tryz.ntmps25
    go_wp2_with (first | (go_at_call 26; refine (within_c _ _ _ _).mono ?_; rintro e w' ⟨rfl, rfl⟩) | (go_at_call 51; refine (days_c _ _ _ h0).mono ?_; rintro e w' ⟨rfl, rfl⟩))
    all_goals
      go_ret
      exact ⟨ret_bool (by simp [dateOk, *]), rfl⟩
  · have h' : within y 0 9999 = false := by simpa using h
    go_enter Tryz.func25, Tryz.ntmps25
    go_wp2_with (go_at_call 26; refine (within_c _ _ _ _).mono ?_; rintro e w' ⟨rfl, rfl⟩)
    all_goals
      go_ret
      exact ⟨ret_bool (by simp [dateOk, *]), rfl⟩
set_option maxHeartbeats 400000 in
theorem touch_c (a b : Int) (w : World) : Calls Tryz.prog 24 #[.int .i64 a, .int .i64 b] w fun e w' => e = .returned (.bool (touch a b)) ∧ w = w' := by
  go_enter Tryz.func24, Tryz.ntmps24
  go_wp2_with (first | (go_at_call 22; refine (isFraction_c _ _).mono ?_; rintro e w' ⟨rfl, rfl⟩) | (go_at_call 49; refine (isSecond_c _ _).mono ?_; rintro e w' ⟨rfl, rfl⟩) | (go_at_call 26; refine (within_c _ _ _ _).mono ?_; rintro e w' ⟨rfl, rfl⟩) | (go_at_call 50; refine (isISO_c _ _).mono ?_; rintro e w' ⟨rfl, rfl⟩))
  all_goals
    go_ret
    exact ⟨ret_bool (by simp_all [touch, Bool.or_assoc]), rfl⟩
end Go.Proofs.YtndhiemagankeaaGreatDoor
/- The walks of the reference: whether the arguments fit the machine. -/
namespace Go.Proofs.YtndhiemagankeaaGreatDoor
open Go.RowKit
set_option linter.unusedVariables false
set_option linter.unusedSimpArgs false
attribute [local simp] bs_size bs_toList bs_append bs_data bs_extract
theorem zzFits2_c (p : Pc) (w : World) (h : p.text.length ≤ 9223372036854775807) : Calls Tryz.prog 20 #[p.val] w fun e w' => (∃ b, e = .returned (.bool b)) ∧ Below w.heap.size w w' := by
  unfold Pc.val
  by_cases hl : p.text.length ≤ 2147483647
  all_goals
    go_enter Tryz.func20, Tryz.ntmps20
    go_wp2
    go_ret
    exact ⟨⟨_, rfl⟩, below_new _ _⟩
theorem zzFits4_c (z : Zn) (w : World) (h : z.name.length ≤ 9223372036854775807) : Calls Tryz.prog 6 #[z.val] w fun e w' => (∃ b, e = .returned (.bool b) ∧ (b = true → z.name.length ≤ 2147483647)) ∧ Below w.heap.size w w' := by
  unfold Zn.val
  by_cases hl : z.name.length ≤ 2147483647
  all_goals
    go_enter Tryz.func6, Tryz.ntmps6
    go_wp2
    go_ret
    first
      | exact ⟨⟨_, rfl, fun _ => hl⟩, below_new _ _⟩
      | exact ⟨⟨_, rfl, fun h => by simp at h⟩, below_new _ _⟩
theorem zzFits3_c (c : Civ) (w : World) (h : c.zone.name.length ≤ 9223372036854775807) : Calls Tryz.prog 5 #[c.val] w fun e w' => (∃ b, e = .returned (.bool b) ∧ (b = true → c.zone.name.length ≤ 2147483647)) ∧ Below w.heap.size w w' := by
  have HZ : Hid (∀ w, Calls Tryz.prog 6 #[c.zone.val] w fun e w' => (∃ b, e = .returned (.bool b) ∧ (b = true → c.zone.name.length ≤ 2147483647)) ∧ Below w.heap.size w w') := fun w => zzFits4_c _ w h
  unfold Zn.val at HZ
  unfold Civ.val
  go_enter Tryz.func5, Tryz.ntmps5
  go_wp2_with (first | (go_at_call 6; refine (HZ.out _).mono ?_; rintro e w1 ⟨⟨b, rfl, hb⟩, hw⟩))
  all_goals
    go_ret
    refine ⟨⟨_, rfl, fun h => ?_⟩, below_next (below_new _ _) hw⟩
    first
      | (exfalso; simp at h; done)
      | (apply hb; simp_all)
set_option maxHeartbeats 1000000 in
theorem zzFits1_c (v : Value) (ps : List Pc) (w : World) (H : PcsAt w v ps) (hn : ps.length ≤ 9223372036854775807) :
    Calls Tryz.prog 4 #[v] w fun e w' => (∃ b, e = .returned (.bool b) ∧ (b = true → ps.length ≤ 2147483647)) ∧ Below w.heap.size w w' := by
  have H0 := Lib.hid H
  obtain ⟨ao, cap, rfl, hcap, hcc⟩ := H
  clear hcc
  by_cases hl : ps.length ≤ 2147483647
  · go_enter Tryz.func4, Tryz.ntmps4
    go_wp2
    go_loopw [10] (fun i wr => ∃ j : Nat, j ≤ ps.length ∧ i = .int .i64 j ∧ Below w.heap.size w wr) (fun i _ => ps.length - (intOf i).toNat)
    case atStart => exact ⟨0, Nat.zero_le _, rfl, Below.refl _ _⟩
    case round =>
      obtain ⟨j, hj, rfl, hb⟩ := hrel
      have HB := Lib.hid hb
      by_cases hlt : j < ps.length
      · obtain ⟨ao', cap', hv, _, hc⟩ := H0.out.below HB.out
        obtain ⟨rfl, rfl⟩ : ao = ao' ∧ cap = cap' := by simpa using hv
        obtain ⟨b, off, rfl, hbk, q2, q3, q4, q5, q6⟩ := hc j hlt
        have hpk := fun w => zzFits2_c ps[j] w q6
        unfold Pc.val at hpk
        have HPK := Lib.hid hpk
        clear hpk hc hv hb
        go_wp2_with (first | (go_at_call 20; refine (HPK.out _).mono ?_; rintro e w1 ⟨⟨b, rfl⟩, hw⟩))
        · go_ret
          exact ⟨⟨_, rfl, fun h => by simp at h⟩, below_next HB.out (below_next (below_new _ _) hw)⟩
        · go_roundw
          case rel => exact ⟨j + 1, by omega, by go_num, below_next HB.out (below_next (below_new _ _) hw)⟩
          case measure => simp [intOf] <;> omega
      · go_wp2
        go_ret
        exact ⟨⟨_, rfl, fun _ => hl⟩, HB.out⟩
  · go_enter Tryz.func4, Tryz.ntmps4
    go_wp2
    go_ret
    exact ⟨⟨_, rfl, fun h => by simp at h⟩, Below.refl _ _⟩
end Go.Proofs.YtndhiemagankeaaGreatDoor
