/-
  FnLayout (the statement: for every list of pieces, every time and every zone the call returns true, and its arguments read afterwards as they did), part 36 of 41. In this part: The walks of the package impl, and of the statement's own use of it: a time is written.
-/
import Derived.Test.YtndhiemagankeaaGreatDoorG24
import Derived.Test.YtndhiemagankeaaGreatDoorG33
/- The walks of the package impl, and of the statement's own use of it: a time is written. -/
namespace Go.Proofs.YtndhiemagankeaaGreatDoor
open Go.RowKit
set_option linter.unusedSimpArgs false
set_option linter.unusedVariables false
attribute [local simp] bs_size bs_toList bs_append bs_data bs_extract
set_option maxRecDepth 100000 in
set_option maxHeartbeats 1000000 in
theorem implFormat_c (ps : List Pc) (c : Civ) (w : World) (hok : SufOk ps) (hps : ps.length ≤ 100) (hlay : (layout ps).length ≤ 1073741824) (hc : CivB c) (hs : StdAt w) :
    Calls Tryz.prog 13 #[c.val, S (layout ps)] w fun e w' => e = .returned (S (writtenAll ps c)) ∧ Below w.heap.size w w' := by
  have HAT : Hid (∀ w, Calls Tryz.prog 28 #[c.val] w fun e w' => (∃ lo, e = .returned (ctv c lo) ∧ TimeLoc w' lo c.zone) ∧ Below w.heap.size w w') := fun w => at_c c w hc
  have HF : Hid (∀ lo w1, TimeLoc w1 lo c.zone → Below w.heap.size w w1 → Calls Tryz.prog 29 #[ctv c lo, S (layout ps)] w1 fun e w' => e = .returned (S (writtenAll ps c)) ∧ Below w1.heap.size w1 w') := fun lo w1 hl hb =>
    Format_c ps c lo w1 hok hps hlay hc hl (hs.below hb)
  unfold Civ.val at HAT ⊢
  clear hs hc
  go_enter Tryz.func13, Tryz.ntmps13
  go_wp2_with (first
    | (go_at_call 28; refine (HAT.out _).mono ?_; rintro e w1 ⟨⟨lo, rfl, hl⟩, hb⟩; have HL := Lib.hid hl; have HB := Lib.hid (below_next (below_new _ _) hb); clear hl hb)
    | (go_at_call 29; refine (HF.out _ _ HL.out HB.out).mono ?_; rintro e w2 ⟨rfl, hb⟩; have HB := Lib.hid (below_next HB.out hb); clear hb))
  go_ret
  exact ⟨rfl, HB.out⟩
def strPs : List Pc := [⟨1, [], 0, false⟩, ⟨0, [45], 0, false⟩, ⟨5, [], 0, false⟩, ⟨0, [45], 0, false⟩, ⟨11, [], 0, false⟩, ⟨0, [32], 0, false⟩, ⟨14, [], 0, false⟩, ⟨0, [58], 0, false⟩, ⟨18, [], 0, false⟩, ⟨0, [58], 0, false⟩, ⟨20, [], 0, false⟩, ⟨34, [], 9, false⟩, ⟨0, [32], 0, false⟩, ⟨22, [], 0, false⟩, ⟨0, [32], 0, false⟩, ⟨32, [], 0, false⟩]
theorem strPs_lay : layout strPs = [50, 48, 48, 54, 45, 48, 49, 45, 48, 50, 32, 49, 53, 58, 48, 52, 58, 48, 53, 46, 57, 57, 57, 57, 57, 57, 57, 57, 57, 32, 45, 48, 55, 48, 48, 32, 77, 83, 84] := by decide
theorem strPs_ok : SufOk strPs := SufOk.of strPs (by decide)
set_option maxRecDepth 100000 in
set_option maxHeartbeats 1000000 in
theorem timeString_c (c : Civ) (lo : Value) (w : World) (hc : CivB c) (H : TimeLoc w lo c.zone) (hs : StdAt w) :
    Calls Tryz.prog 52 #[ctv c lo] w fun e w' => e = .returned (S (writtenAll strPs c)) ∧ Below w.heap.size w w' := by
  have HF : Hid (∀ w1, Below w.heap.size w w1 → Calls Tryz.prog 29 #[ctv c lo, S (layout strPs)] w1 fun e w' => e = .returned (S (writtenAll strPs c)) ∧ Below w1.heap.size w1 w') := fun w1 hb =>
    Format_c strPs c lo w1 strPs_ok (by decide) (by rw [strPs_lay]; decide) hc (H.below hb) (hs.below hb)
  rw [strPs_lay] at HF
  have ht : bits .and .u64 c.nano 9223372036854775808 = 0 := by
    have := hc.f0
    have := hc.f1
    exact top_u64 c.nano (by omega) (by omega)
  unfold ctv tv at HF ⊢
  obtain ⟨x, HX⟩ : ∃ x, Hid (x = cext c) := ⟨_, Lib.hid rfl⟩
  rw [← HX.out] at HF ⊢
  have hcells : ∀ o, (w.alloc (.cells #[.int .u64 c.nano, .int .i64 x, lo] 51)).cell? ⟨w.heap.size, o, none⟩ = #[.int .u64 c.nano, .int .i64 x, lo][o]? := fun o => World.cell?_alloc_mark w _ 51 (0, 0) o
  have h0 := hcells 0
  have h1 := hcells 1
  have h2 := hcells 2
  clear hcells H hs hc
  go_enter Tryz.func52, Tryz.ntmps52
  go_wp2_with (go_at_call 29; refine (HF.out _ (below_new _ _)).mono ?_; rintro e w2 ⟨rfl, hb⟩; have k0 := (hb.cell (p := ⟨w.heap.size, 0, none⟩) (by simp)).trans h0; have HB := Lib.hid (below_next (below_new _ _) hb); clear hb)
  go_ret
  exact ⟨rfl, HB.out⟩
set_option maxRecDepth 100000 in
set_option maxHeartbeats 1000000 in
theorem implString_c (c : Civ) (w : World) (hc : CivB c) (hs : StdAt w) :
    Calls Tryz.prog 27 #[c.val] w fun e w' => e = .returned (S (writtenAll strPs c)) ∧ Below w.heap.size w w' := by
  have HAT : Hid (∀ w, Calls Tryz.prog 28 #[c.val] w fun e w' => (∃ lo, e = .returned (ctv c lo) ∧ TimeLoc w' lo c.zone) ∧ Below w.heap.size w w') := fun w => at_c c w hc
  have HF : Hid (∀ lo w1, TimeLoc w1 lo c.zone → Below w.heap.size w w1 → Calls Tryz.prog 52 #[ctv c lo] w1 fun e w' => e = .returned (S (writtenAll strPs c)) ∧ Below w1.heap.size w1 w') := fun lo w1 hl hb =>
    timeString_c c lo w1 hc hl (hs.below hb)
  unfold Civ.val at HAT ⊢
  clear hs hc
  go_enter Tryz.func27, Tryz.ntmps27
  go_wp2_with (first
    | (go_at_call 28; refine (HAT.out _).mono ?_; rintro e w1 ⟨⟨lo, rfl, hl⟩, hb⟩; have HL := Lib.hid hl; have HB := Lib.hid (below_next (below_new _ _) hb); clear hl hb)
    | (go_at_call 52; refine (HF.out _ _ HL.out HB.out).mono ?_; rintro e w2 ⟨rfl, hb⟩; have HB := Lib.hid (below_next HB.out hb); clear hb))
  go_ret
  exact ⟨rfl, HB.out⟩
def wrPs : List Pc := [⟨1, [], 0, false⟩, ⟨0, [32], 0, false⟩, ⟨14, [], 0, false⟩]
def wrC (h : Int) : Civ := { year := 2006, month := 1, day := 2, hour := h, minute := 0, second := 0, nano := 0, zone := { name := utcB, off := 0 } }
theorem wrC_ok (h : Int) (h0 : 0 ≤ h) (h1 : h ≤ 23) : CivB (wrC h) := by
  exact ⟨show (0 : Int) ≤ 2006 by decide, show (2006 : Int) ≤ 9999 by decide, show (1 : Int) ≤ 1 by decide, show (1 : Int) ≤ 12 by decide, show (1 : Int) ≤ 2 by decide, show (2 : Int) ≤ days 2006 1 by decide, h0, h1,
    show (0 : Int) ≤ 0 by decide, show (0 : Int) ≤ 59 by decide, show (0 : Int) ≤ 0 by decide, show (0 : Int) ≤ 59 by decide, show (0 : Int) ≤ 0 by decide, show (0 : Int) ≤ 999999999 by decide, show zoneOk ⟨utcB, 0⟩ = true by decide⟩
theorem wr_text : writtenAll wrPs (wrC 15) = [50, 48, 48, 54, 32, 49, 53] := by
  have e1 : digits 2006 4 = [50, 48, 48, 54] := by rw [digits_four 2006 (by omega) (by omega)]; rfl
  have e2 : digits 15 2 = [49, 53] := by rw [digits_two 15 (by omega) (by omega)]; rfl
  simp [writtenAll, wrPs, written, wrC, e1, e2]
theorem str_ne (c : Civ) : ∃ a t, writtenAll strPs c = a :: t := by
  have h : (45 : UInt8) ∈ writtenAll strPs c := by simp [writtenAll, strPs, written]
  cases hw : writtenAll strPs c with
  | nil => rw [hw] at h; simp at h
  | cons a t => exact ⟨a, t, rfl⟩
set_option maxRecDepth 100000 in
set_option maxHeartbeats 1000000 in
theorem writes_c (w : World) (hs : StdAt w) : Calls Tryz.prog 12 #[] w fun e w' => e = .returned (.bool true) ∧ Below w.heap.size w w' := by
  have HF : Hid (Calls Tryz.prog 13 #[(wrC 15).val, S (layout wrPs)] w fun e w' => e = .returned (S (writtenAll wrPs (wrC 15))) ∧ Below w.heap.size w w') := implFormat_c wrPs (wrC 15) w (SufOk.of _ (by decide)) (by decide) (by decide) (wrC_ok 15 (by omega) (by omega)) hs
  have HS : Hid (∀ w1, Below w.heap.size w w1 → Calls Tryz.prog 27 #[(wrC 0).val] w1 fun e w' => e = .returned (S (writtenAll strPs (wrC 0))) ∧ Below w1.heap.size w1 w') := fun w1 hb => implString_c (wrC 0) w1 (wrC_ok 0 (by omega) (by omega)) (hs.below hb)
  rw [wr_text] at HF
  obtain ⟨a, t, hat⟩ := str_ne (wrC 0)
  rw [hat] at HS
  clear hat
  clear hs
  go_enter Tryz.func12, Tryz.ntmps12
  go_wp2_with (first
    | (go_at_call 13; refine HF.out.mono ?_; rintro e w1 ⟨rfl, hb⟩; have HB := Lib.hid hb; clear hb)
    | (go_at_call 27; refine (HS.out _ HB.out).mono ?_; rintro e w2 ⟨rfl, hb⟩; have HB := Lib.hid (below_next HB.out hb); clear hb))
  go_ret
  exact ⟨by simp, HB.out⟩
end Go.Proofs.YtndhiemagankeaaGreatDoor
