/-
  FnLayout (the statement: for every list of pieces, every time and every zone the call returns true, and its arguments read afterwards as they did), part 24 of 41. In this part: The walk of package time: the zone of a time. The walk of the package impl: a time is told. The walk of the package impl: a time is made of what it is told as.
-/
import Derived.Deep.RegionHeld3
import Derived.Test.YtndhiemagankeaaGreatDoorG22
/- The walk of package time: the zone of a time. -/
namespace Go.Proofs.YtndhiemagankeaaGreatDoor
open Go.RowKit
set_option linter.unusedVariables false
set_option linter.unusedSimpArgs false
attribute [local simp] bs_size bs_toList bs_append bs_data bs_extract
set_option maxHeartbeats 2000000 in
theorem ZoneOf_c (c : Civ) (lo : Value) (w : World) (hc : CivW c) (H : TimeLoc w lo c.zone) : Calls Tryz.prog 75 #[ctv c lo] w fun e w' => e = .returned (.tuple #[S c.zone.name, .int .i64 c.zone.off]) ∧ Below w.heap.size w w' := by
  have hf0 := hc.f0
  have hf1 := hc.f1
  have hb := cabs_bdw hc
  have he0 := hb.2.2.2.2.2.2.1
  have he1 := hb.2.2.2.2.2.2.2
  unfold ctv tv
  obtain ⟨x, HX⟩ : ∃ x, Hid (x = cext c) := ⟨_, Lib.hid rfl⟩
  rw [← HX.out] at he0 he1 ⊢
  clear hc hb
  obtain ⟨w0, HW0⟩ : ∃ w0, Hid (w0 = w.alloc (.cells #[.int .u64 c.nano, .int .i64 x, lo] 51)) := ⟨_, Lib.hid rfl⟩
  have HB0 : Hid (Below w.heap.size w w0) := by show Below _ _ _; rw [HW0.out]; exact below_new _ _
  have HTA : Hid (TAt w0 w.heap.size c.nano x lo) := by show TAt _ _ _ _ _; rw [HW0.out]; exact TAt.new w c.nano x lo
  have HU : Hid (∀ w', Below w0.heap.size w0 w' → Calls Tryz.prog 93 #[.pointer (some ⟨w.heap.size, 0, none⟩)] w' fun e w'' => e = .returned (.int .i64 (x - 62135596800)) ∧ w' = w'') :=
    fun w' hb => (unixSec_c _ _ _ lo _ hf0 hf1 he0 he1 (HTA.out.below hb)).mono fun _ _ ⟨a, b⟩ => ⟨a, b.symm⟩
  have HL : Hid (∀ w' sec, Below w0.heap.size w0 w' → -9223372036854775808 ≤ sec → sec < 9223372036854775807 → Calls Tryz.prog 81 #[lo, .int .i64 sec] w' fun e w'' => e = .returned (zoneTuple c.zone) ∧ (w''.cell? ⟨w.heap.size, 2, none⟩ = some lo ∧ Below w0.heap.size w0 w'')) := fun w' sec hb a b =>
    (lookup_t lo c.zone sec _ (H.below (below_next HB0.out hb)) a b).mono fun _ _ ⟨h1, h2⟩ => ⟨h1, (HTA.out.below (below_next hb h2)).c2, below_next hb h2⟩
  have hc2 : w0.cell? ⟨w.heap.size, 2, none⟩ = some lo := HTA.out.c2
  have hbr : Below w0.heap.size w0 w0.drew := below_drew _
  go_enter Tryz.func75, Tryz.ntmps75
  go_upto_region 1 with fail
  rw [← HW0.out]
  go_region_held3 (fun w' => w'.cell? ⟨w.heap.size, 2, none⟩ = some lo ∧ Below w0.heap.size w0 w') (first | exact ⟨by assumption, by assumption⟩ | (go_split_ands; exact ⟨by assumption, by assumption⟩) | go_keep)
    (first
      | (go_at_call 93; refine (HU.out _ (by assumption)).mono ?_; rintro e w' ⟨rfl, rfl⟩)
      | (go_at_call 81; refine (HL.out _ _ (by assumption) (by omega) (by omega)).mono ?_; rintro e w1 ⟨rfl, hk1, hk2⟩; unfold zoneTuple))
  go_wp2_with fail
  go_ret2
  exact ⟨rfl, below_next HB0.out hk2⟩
end Go.Proofs.YtndhiemagankeaaGreatDoor
/- The walk of the package impl: a time is told. -/
namespace Go.Proofs.YtndhiemagankeaaGreatDoor
open Go.RowKit
set_option linter.unusedVariables false
set_option linter.unusedSimpArgs false
attribute [local simp] bs_size bs_toList bs_append bs_data bs_extract
/-- A block's cells, that may be written. -/
def CAt (w : World) (b : Nat) (f : List Value) : Prop := b < w.heap.size ∧ ∀ i (h : i < f.length), w.cell? ⟨b, i, none⟩ = some f[i] ∧ w.frozen? ⟨b, i, none⟩ = false
theorem CAt.below {w w' : World} {b : Nat} {f : List Value} (h : CAt w b f) (hb : Below w.heap.size w w') : CAt w' b f :=
  ⟨Nat.lt_of_lt_of_le h.1 hb.size, fun i hi => by rw [hb.cell (p := ⟨b, i, none⟩) h.1, hb.frozen (p := ⟨b, i, none⟩) h.1]; exact h.2 i hi⟩
theorem CAt.new (w : World) (f : List Value) (t : TypeId) : CAt (w.alloc (.cells f.toArray t)) w.heap.size f := by
  refine ⟨by simp, fun i hi => ⟨?_, ?_⟩⟩
  · refine (World.cell?_alloc_mark w f.toArray t (0, 0) i).trans ?_
    simp [hi]
  · refine (World.frozen?_alloc_mark w f.toArray t 0 0 i).trans ?_
    simp
theorem CAt.set {w : World} {b : Nat} {f : List Value} (h : CAt w b f) (i : Nat) (v : Value) (hi : i < f.length) : CAt (w.setCell ⟨b, i, none⟩ v) b (f.set i v) := by
  refine ⟨by simpa using h.1, fun j hj => ⟨?_, ?_⟩⟩
  · rw [List.length_set] at hj
    by_cases e : i = j
    · subst e
      rw [World.cell?_setCell_same (h := (h.2 i hi).1)]
      simp
    · rw [World.cell?_setCell_other (h := by simp [e]), (h.2 j hj).1, List.getElem_set_ne e]
  · rw [List.length_set] at hj
    rw [World.frozen?_setCell]; exact (h.2 j hj).2
theorem CAt.far {w : World} {b b' i : Nat} {f : List Value} (h : CAt w b f) (v : Value) (hn : b' ≠ b) : CAt (w.setCell ⟨b', i, none⟩ v) b f := by
  refine ⟨by simpa using h.1, fun j hj => ⟨?_, ?_⟩⟩
  · rw [World.cell?_setCell_other (h := by intro e; exact hn (by simpa using congrArg Addr.block e))]; exact (h.2 j hj).1
  · rw [World.frozen?_setCell]; exact (h.2 j hj).2
theorem CAt.of_TAt {w : World} {b : Nat} {nano ext : Int} {lo : Value} : CAt w b [.int .u64 nano, .int .i64 ext, lo] ↔ TAt w b nano ext lo := by
  constructor
  · rintro ⟨h, hc⟩
    exact ⟨h, (hc 0 (by simp)).1, (hc 1 (by simp)).1, (hc 2 (by simp)).1, (hc 0 (by simp)).2, (hc 1 (by simp)).2, (hc 2 (by simp)).2⟩
  · rintro ⟨h, c0, c1, c2, f0, f1, f2⟩
    refine ⟨h, fun i hi => ?_⟩
    have : i = 0 ∨ i = 1 ∨ i = 2 := by simp at hi; omega
    rcases this with rfl | rfl | rfl
    · exact ⟨c0, f0⟩
    · exact ⟨c1, f1⟩
    · exact ⟨c2, f2⟩
theorem CAt.cells9 {w : World} {b : Nat} {v0 v1 v2 v3 v4 v5 v6 v7 v8 : Value} (h : CAt w b [v0, v1, v2, v3, v4, v5, v6, v7, v8]) :
    (w.cell? ⟨b, 0, none⟩ = some v0 ∧ w.cell? ⟨b, 1, none⟩ = some v1 ∧ w.cell? ⟨b, 2, none⟩ = some v2 ∧ w.cell? ⟨b, 3, none⟩ = some v3 ∧ w.cell? ⟨b, 4, none⟩ = some v4 ∧ w.cell? ⟨b, 5, none⟩ = some v5 ∧ w.cell? ⟨b, 6, none⟩ = some v6 ∧ w.cell? ⟨b, 7, none⟩ = some v7 ∧ w.cell? ⟨b, 8, none⟩ = some v8) ∧
    (w.frozen? ⟨b, 0, none⟩ = false ∧ w.frozen? ⟨b, 1, none⟩ = false ∧ w.frozen? ⟨b, 2, none⟩ = false ∧ w.frozen? ⟨b, 3, none⟩ = false ∧ w.frozen? ⟨b, 4, none⟩ = false ∧ w.frozen? ⟨b, 5, none⟩ = false ∧ w.frozen? ⟨b, 6, none⟩ = false ∧ w.frozen? ⟨b, 7, none⟩ = false ∧ w.frozen? ⟨b, 8, none⟩ = false) := by
  obtain ⟨_, h⟩ := h
  exact ⟨⟨(h 0 (by simp)).1, (h 1 (by simp)).1, (h 2 (by simp)).1, (h 3 (by simp)).1, (h 4 (by simp)).1, (h 5 (by simp)).1, (h 6 (by simp)).1, (h 7 (by simp)).1, (h 8 (by simp)).1⟩,
    (h 0 (by simp)).2, (h 1 (by simp)).2, (h 2 (by simp)).2, (h 3 (by simp)).2, (h 4 (by simp)).2, (h 5 (by simp)).2, (h 6 (by simp)).2, (h 7 (by simp)).2, (h 8 (by simp)).2⟩
set_option maxRecDepth 100000 in
set_option maxHeartbeats 4000000 in
theorem civil_c (c : Civ) (lo : Value) (w : World) (hc : CivW c) (H : TimeLoc w lo c.zone) : Calls Tryz.prog 40 #[ctv c lo] w fun e w' => e = .returned c.val ∧ Below w.heap.size w w' := by
  have HN : Hid (∀ w', Below w.heap.size w w' → Calls Tryz.prog 72 #[ctv c lo] w' fun e w'' => e = .returned (.int .i64 c.nano) ∧ Below w'.heap.size w' w'') := fun w' _ => Nanosecond_c c lo w' hc
  have HD : Hid (∀ w', Below w.heap.size w w' → Calls Tryz.prog 73 #[ctv c lo] w' fun e w'' => e = .returned (.tuple #[.int .i64 c.year, .int .i64 c.month, .int .i64 c.day]) ∧ Below w'.heap.size w' w'') := fun w' hb => DateOf_c c lo w' hc (H.below hb)
  have HC : Hid (∀ w', Below w.heap.size w w' → Calls Tryz.prog 74 #[ctv c lo] w' fun e w'' => e = .returned (.tuple #[.int .i64 c.hour, .int .i64 c.minute, .int .i64 c.second]) ∧ Below w'.heap.size w' w'') := fun w' hb => ClockOf_c c lo w' hc (H.below hb)
  have HZ : Hid (∀ w', Below w.heap.size w w' → Calls Tryz.prog 75 #[ctv c lo] w' fun e w'' => e = .returned (.tuple #[S c.zone.name, .int .i64 c.zone.off]) ∧ Below w'.heap.size w' w'') := fun w' hb => ZoneOf_c c lo w' hc (H.below hb)
  unfold ctv tv at HN HD HC HZ ⊢
  obtain ⟨x, HX⟩ : ∃ x, Hid (x = cext c) := ⟨_, Lib.hid rfl⟩
  rw [← HX.out] at HN HD HC HZ ⊢
  clear hc
  go_enter Tryz.func40, Tryz.ntmps40
  go_upto_region 2 with (go_at_call 72; refine (HN.out _ (below_next (below_new _ _) (below_new _ _))).mono ?_; rintro e w1 ⟨rfl, hb1⟩)
  have T1 := (CAt.new w [.int .u64 c.nano, .int .i64 x, lo] 51).below (below_next (below_new _ _) hb1)
  have R1 := (CAt.new (w.alloc (.cells #[.int .u64 c.nano, .int .i64 x, lo] 51)) [.int .i64 0, .int .i64 0, .int .i64 0, .int .i64 0, .int .i64 0, .int .i64 0, .int .i64 0, .string ⟨#[]⟩, .int .i64 0] 26).below hb1
  rw [World.size_alloc] at R1
  have B1 := below_next (below_next (below_new w (.cells #[.int .u64 c.nano, .int .i64 x, lo] 51)) (below_new _ _)) hb1
  have hl1 : w.heap.size + 1 < w1.heap.size := R1.1
  obtain ⟨b3, HB3⟩ : ∃ b3, Hid (b3 = w1.heap.size) := ⟨_, Lib.hid rfl⟩
  obtain ⟨W1, HW1⟩ : ∃ W1, Hid (W1 = w1.alloc (Obj.cells #[.int .i64 0, .int .i64 0, .int .i64 0, .int .i64 0, .int .i64 0, .int .i64 0, .int .i64 c.nano, .string ⟨#[]⟩, .int .i64 0] 26)) := ⟨_, Lib.hid rfl⟩
  have O1 : CAt W1 b3 [.int .i64 0, .int .i64 0, .int .i64 0, .int .i64 0, .int .i64 0, .int .i64 0, .int .i64 c.nano, .string ⟨#[]⟩, .int .i64 0] := by rw [HW1.out, HB3.out]; exact CAt.new w1 _ 26
  have T1 : CAt W1 w.heap.size [.int .u64 c.nano, .int .i64 x, lo] := by rw [HW1.out]; exact T1.below (below_new _ _)
  have R1 : CAt W1 (w.heap.size + 1) [.int .i64 0, .int .i64 0, .int .i64 0, .int .i64 0, .int .i64 0, .int .i64 0, .int .i64 0, .string ⟨#[]⟩, .int .i64 0] := by rw [HW1.out]; exact R1.below (below_new _ _)
  have B1 : Below w.heap.size w W1 := by rw [HW1.out]; exact below_next B1 (below_new _ _)
  have hl : w.heap.size + 1 < b3 := by rw [HB3.out]; exact hl1
  rw [← HB3.out, ← HW1.out]
  clear hb1 hl1
  have T0 := CAt.of_TAt.1 T1
  obtain ⟨_, t0, t1, t2, _, _, _⟩ := T0
  go_upto_region 5 with (go_at_call 73; refine (HD.out _ B1).mono ?_; rintro e w2 ⟨rfl, hb2⟩; obtain ⟨⟨o0, o1, o2, o3, o4, o5, o6, o7, o8⟩, ⟨g0, g1, g2, g3, g4, g5, g6, g7, g8⟩⟩ := (O1.below hb2).cells9)
  have O2 := ((((O1.below hb2).set 0 (.int .i64 c.year) (by simp)).set 2 (.int .i64 c.day) (by simp)).set 1 (.int .i64 c.month) (by simp))
  have T2 := ((((T1.below hb2).far (i := 0) (.int .i64 c.year) (show b3 ≠ _ by omega)).far (i := 2) (.int .i64 c.day) (show b3 ≠ _ by omega)).far (i := 1) (.int .i64 c.month) (show b3 ≠ _ by omega))
  have R2 := ((((R1.below hb2).far (i := 0) (.int .i64 c.year) (show b3 ≠ _ by omega)).far (i := 2) (.int .i64 c.day) (show b3 ≠ _ by omega)).far (i := 1) (.int .i64 c.month) (show b3 ≠ _ by omega))
  have B2 := ((((below_next B1 hb2).setCell (p := ⟨b3, 0, none⟩) (show w.heap.size ≤ b3 by omega) (.int .i64 c.year)).setCell (p := ⟨b3, 2, none⟩) (show w.heap.size ≤ b3 by omega) (.int .i64 c.day)).setCell (p := ⟨b3, 1, none⟩) (show w.heap.size ≤ b3 by omega) (.int .i64 c.month))
  simp only [List.set] at O2
  generalize (((w2.setCell ⟨b3, 0, none⟩ (.int .i64 c.year)).setCell ⟨b3, 2, none⟩ (.int .i64 c.day)).setCell ⟨b3, 1, none⟩ (.int .i64 c.month)) = W2 at O2 T2 R2 B2 ⊢
  clear hb2 o0 o1 o2 o3 o4 o5 o6 o7 o8 g0 g1 g2 g3 g4 g5 g6 g7 g8 t0 t1 t2 O1 T1 R1 B1
  obtain ⟨_, t0, t1, t2, _, _, _⟩ := CAt.of_TAt.1 T2
  go_upto_region 6 with (go_at_call 74; refine (HC.out _ B2).mono ?_; rintro e w3 ⟨rfl, hb3⟩; obtain ⟨⟨o0, o1, o2, o3, o4, o5, o6, o7, o8⟩, ⟨g0, g1, g2, g3, g4, g5, g6, g7, g8⟩⟩ := (O2.below hb3).cells9)
  have O3 := ((((O2.below hb3).set 3 (.int .i64 c.hour) (by simp)).set 4 (.int .i64 c.minute) (by simp)).set 5 (.int .i64 c.second) (by simp))
  have T3 := ((((T2.below hb3).far (i := 3) (.int .i64 c.hour) (show b3 ≠ _ by omega)).far (i := 4) (.int .i64 c.minute) (show b3 ≠ _ by omega)).far (i := 5) (.int .i64 c.second) (show b3 ≠ _ by omega))
  have R3 := ((((R2.below hb3).far (i := 3) (.int .i64 c.hour) (show b3 ≠ _ by omega)).far (i := 4) (.int .i64 c.minute) (show b3 ≠ _ by omega)).far (i := 5) (.int .i64 c.second) (show b3 ≠ _ by omega))
  have B3 := ((((below_next B2 hb3).setCell (p := ⟨b3, 3, none⟩) (show w.heap.size ≤ b3 by omega) (.int .i64 c.hour)).setCell (p := ⟨b3, 4, none⟩) (show w.heap.size ≤ b3 by omega) (.int .i64 c.minute)).setCell (p := ⟨b3, 5, none⟩) (show w.heap.size ≤ b3 by omega) (.int .i64 c.second))
  simp only [List.set] at O3
  generalize (((w3.setCell ⟨b3, 3, none⟩ (.int .i64 c.hour)).setCell ⟨b3, 4, none⟩ (.int .i64 c.minute)).setCell ⟨b3, 5, none⟩ (.int .i64 c.second)) = W3 at O3 T3 R3 B3 ⊢
  clear hb3 o0 o1 o2 o3 o4 o5 o6 o7 o8 g0 g1 g2 g3 g4 g5 g6 g7 g8 t0 t1 t2 O2 T2 R2 B2
  obtain ⟨_, t0, t1, t2, _, _, _⟩ := CAt.of_TAt.1 T3
  go_upto_region 7 with (go_at_call 75; refine (HZ.out _ B3).mono ?_; rintro e w4 ⟨rfl, hb4⟩; obtain ⟨⟨o0, o1, o2, o3, o4, o5, o6, o7, o8⟩, ⟨g0, g1, g2, g3, g4, g5, g6, g7, g8⟩⟩ := (O3.below hb4).cells9)
  have O4 := (((O3.below hb4).set 7 (S c.zone.name) (by simp)).set 8 (.int .i64 c.zone.off) (by simp))
  have T4 := (((T3.below hb4).far (i := 7) (S c.zone.name) (show b3 ≠ _ by omega)).far (i := 8) (.int .i64 c.zone.off) (show b3 ≠ _ by omega))
  have R4 := (((R3.below hb4).far (i := 7) (S c.zone.name) (show b3 ≠ _ by omega)).far (i := 8) (.int .i64 c.zone.off) (show b3 ≠ _ by omega))
  have B4 := (((below_next B3 hb4).setCell (p := ⟨b3, 7, none⟩) (show w.heap.size ≤ b3 by omega) (S c.zone.name)).setCell (p := ⟨b3, 8, none⟩) (show w.heap.size ≤ b3 by omega) (.int .i64 c.zone.off))
  simp only [List.set] at O4
  generalize ((w4.setCell ⟨b3, 7, none⟩ (S c.zone.name)).setCell ⟨b3, 8, none⟩ (.int .i64 c.zone.off)) = W4 at O4 T4 R4 B4 ⊢
  clear hb4 o0 o1 o2 o3 o4 o5 o6 o7 o8 g0 g1 g2 g3 g4 g5 g6 g7 g8 t0 t1 t2 O3 T3 R3 B3
  obtain ⟨_, t0, t1, t2, _, _, _⟩ := CAt.of_TAt.1 T4
  obtain ⟨⟨o0, o1, o2, o3, o4, o5, o6, o7, o8⟩, ⟨g0, g1, g2, g3, g4, g5, g6, g7, g8⟩⟩ := O4.cells9
  obtain ⟨⟨r0, r1, r2, r3, r4, r5, r6, r7, r8⟩, ⟨k0, k1, k2, k3, k4, k5, k6, k7, k8⟩⟩ := R4.cells9
  have HSC : Hid (∀ (x : World) (p : Addr) (u : Value), w.heap.size ≤ p.block → Below w.heap.size w x → Below w.heap.size w (x.setCell p u)) := fun x p u hp h => h.setCell hp u
  have HB := Lib.hid B4
  clear O4 R4 T4 B4
  go_wp2_with fail
  refine bodyPost_ret (v := c.val) ?_ rfl ⟨rfl, ?_⟩
  · simp [results, Tryz.results40, go_sem, Civ.val, r0, r1, r2, r3, r4, r5, r6, r7, r8]
  · repeat (with_reducible refine HSC.out _ _ _ (by simp) ?_)
    exact HB.out
end Go.Proofs.YtndhiemagankeaaGreatDoor
/- The walk of the package impl: a time is made of what it is told as. -/
namespace Go.Proofs.YtndhiemagankeaaGreatDoor
open Go.RowKit
set_option linter.unusedVariables false
set_option linter.unusedSimpArgs false
attribute [local simp] bs_size bs_toList bs_append bs_data bs_extract
theorem TimeLoc.far3 {w : World} {lo : Value} {z : Zn} {B : Nat} {k : Int} {u v t : Value} (h : TimeLoc w lo z) (hB : w.cell? ⟨B, 0, none⟩ = some (.int .u64 k)) :
    TimeLoc (((w.setCell ⟨B, 0, none⟩ u).setCell ⟨B, 1, none⟩ v).setCell ⟨B, 2, none⟩ t) lo z := by
  rcases h with h | ⟨b, g, rfl, h1, h1', h2, h3, h4, h5, h6, h7, h8, h9⟩
  · exact .inl h
  · have n1 : b ≠ B := by rintro rfl; rw [h2] at hB; simp at hB
    have n2 : g ≠ B := by rintro rfl; rw [h7] at hB; simp at hB
    have hc : ∀ c o, c ≠ B → (((w.setCell ⟨B, 0, none⟩ u).setCell ⟨B, 1, none⟩ v).setCell ⟨B, 2, none⟩ t).cell? ⟨c, o, none⟩ = w.cell? ⟨c, o, none⟩ := fun c o hn => by
      rw [World.cell?_setCell_other (h := by intro e; exact hn (by simpa using (congrArg Addr.block e).symm)), World.cell?_setCell_other (h := by intro e; exact hn (by simpa using (congrArg Addr.block e).symm)), World.cell?_setCell_other (h := by intro e; exact hn (by simpa using (congrArg Addr.block e).symm))]
    exact .inr ⟨b, g, rfl, by simpa using h1, by simpa using h1', by rw [hc _ _ n1]; exact h2, by rw [hc _ _ n1]; exact h3, by rw [hc _ _ n1]; exact h4, by rw [hc _ _ n1]; exact h5, by rw [hc _ _ n1]; exact h6, by rw [hc _ _ n2]; exact h7, by rw [hc _ _ n2]; exact h8, by rw [hc _ _ n2]; exact h9⟩
theorem TimeLoc.ptr {w : World} {lo : Value} {z : Zn} (h : TimeLoc w lo z) : ∃ p, lo = .pointer p := by
  rcases h with ⟨_, rfl⟩ | ⟨b, g, rfl, _⟩ <;> exact ⟨_, rfl⟩
set_option maxRecDepth 100000 in
set_option maxHeartbeats 4000000 in
theorem at_c (c : Civ) (w : World) (hc : CivB c) : Calls Tryz.prog 28 #[c.val] w fun e w' => (∃ lo, e = .returned (ctv c lo) ∧ TimeLoc w' lo c.zone) ∧ Below w.heap.size w w' := by
  have hz := znB hc.z
  have hd := days_bd c.year c.month
  have HP : Hid (∀ w', Calls Tryz.prog 39 #[c.zone.val] w' fun e w'' => (∃ v, e = .returned v ∧ LocAt w'' v c.zone) ∧ Below w'.heap.size w' w'') := fun w' => place_c c.zone w' hz.utc
  have HD : Hid (∀ w' v, LocAt w' v c.zone → Calls Tryz.prog 53 #[.int .i64 c.year, .int .i64 c.month, .int .i64 c.day, .int .i64 c.hour, .int .i64 c.minute, .int .i64 c.second, .int .i64 c.nano, v] w' fun e w'' => (∃ p, e = .returned (ctv c (.pointer p)) ∧ TimeLoc w'' (.pointer p) c.zone) ∧ Below w'.heap.size w' w'') :=
    fun w' v H => (Date_c _ _ _ _ _ _ _ v c.zone w' hc.y0 hc.y1 hc.m0 hc.m1 hc.d0 (by have := hc.d1; omega) hc.h0 hc.h1 hc.n0 hc.n1 hc.s0 hc.s1 hc.f0 hc.f1 hz.o0 hz.o1 H).mono fun _ _ ⟨⟨lo, h1, h2⟩, h3⟩ => by
      obtain ⟨p, rfl⟩ := h2.ptr
      exact ⟨⟨p, h1, h2⟩, h3⟩
  unfold ctv tv at HD ⊢
  obtain ⟨x, HX⟩ : ∃ x, Hid (x = cext c) := ⟨_, Lib.hid rfl⟩
  rw [← HX.out] at HD ⊢
  unfold Zn.val at HP
  unfold Civ.val
  clear hz hd hc
  obtain ⟨w0, HW0⟩ : ∃ w0, Hid (w0 = (w.alloc (.cells #[.int .i64 c.year, .int .i64 c.month, .int .i64 c.day, .int .i64 c.hour, .int .i64 c.minute, .int .i64 c.second, .int .i64 c.nano, S c.zone.name, .int .i64 c.zone.off] 26)).alloc (.cells #[.int .u64 0, .int .i64 0, .pointer none] 51)) := ⟨_, Lib.hid rfl⟩
  have hs0 : w0.heap.size = w.heap.size + 2 := by rw [HW0.out]; simp
  have C0 : CAt w0 w.heap.size [.int .i64 c.year, .int .i64 c.month, .int .i64 c.day, .int .i64 c.hour, .int .i64 c.minute, .int .i64 c.second, .int .i64 c.nano, S c.zone.name, .int .i64 c.zone.off] := by
    rw [HW0.out]; exact (CAt.new w _ 26).below (below_new _ _)
  have R0 : CAt w0 (w.heap.size + 1) [.int .u64 0, .int .i64 0, .pointer none] := by
    rw [HW0.out]
    have := CAt.new (w.alloc (.cells #[.int .i64 c.year, .int .i64 c.month, .int .i64 c.day, .int .i64 c.hour, .int .i64 c.minute, .int .i64 c.second, .int .i64 c.nano, S c.zone.name, .int .i64 c.zone.off] 26)) [.int .u64 0, .int .i64 0, .pointer none] 51
    rwa [World.size_alloc] at this
  have B0 : Below w.heap.size w w0 := by rw [HW0.out]; exact below_next (below_new _ _) (below_new _ _)
  have hlt : w.heap.size < w.heap.size + 1 := by omega
  have HK : Hid (∀ w' w'', (w'.cell? ⟨w.heap.size, 0, none⟩ = some (.int .i64 c.year) ∧ w'.cell? ⟨w.heap.size, 1, none⟩ = some (.int .i64 c.month) ∧ w'.cell? ⟨w.heap.size, 2, none⟩ = some (.int .i64 c.day) ∧ w'.cell? ⟨w.heap.size, 3, none⟩ = some (.int .i64 c.hour) ∧ w'.cell? ⟨w.heap.size, 4, none⟩ = some (.int .i64 c.minute) ∧ w'.cell? ⟨w.heap.size, 5, none⟩ = some (.int .i64 c.second) ∧ w'.cell? ⟨w.heap.size, 6, none⟩ = some (.int .i64 c.nano) ∧ w'.cell? ⟨w.heap.size, 7, none⟩ = some (S c.zone.name) ∧ w'.cell? ⟨w.heap.size, 8, none⟩ = some (.int .i64 c.zone.off) ∧ (∃ k, w'.cell? ⟨w.heap.size + 1, 0, none⟩ = some (.int .u64 k)) ∧ (∃ k, w'.cell? ⟨w.heap.size + 1, 1, none⟩ = some (.int .i64 k)) ∧ (∃ k, w'.cell? ⟨w.heap.size + 1, 2, none⟩ = some (.pointer k)) ∧ w'.frozen? ⟨w.heap.size + 1, 0, none⟩ = false ∧ w'.frozen? ⟨w.heap.size + 1, 1, none⟩ = false ∧ w'.frozen? ⟨w.heap.size + 1, 2, none⟩ = false ∧ Below (w.heap.size + 1) w0 w') → Below w'.heap.size w' w'' → (w''.cell? ⟨w.heap.size, 0, none⟩ = some (.int .i64 c.year) ∧ w''.cell? ⟨w.heap.size, 1, none⟩ = some (.int .i64 c.month) ∧ w''.cell? ⟨w.heap.size, 2, none⟩ = some (.int .i64 c.day) ∧ w''.cell? ⟨w.heap.size, 3, none⟩ = some (.int .i64 c.hour) ∧ w''.cell? ⟨w.heap.size, 4, none⟩ = some (.int .i64 c.minute) ∧ w''.cell? ⟨w.heap.size, 5, none⟩ = some (.int .i64 c.second) ∧ w''.cell? ⟨w.heap.size, 6, none⟩ = some (.int .i64 c.nano) ∧ w''.cell? ⟨w.heap.size, 7, none⟩ = some (S c.zone.name) ∧ w''.cell? ⟨w.heap.size, 8, none⟩ = some (.int .i64 c.zone.off) ∧ (∃ k, w''.cell? ⟨w.heap.size + 1, 0, none⟩ = some (.int .u64 k)) ∧ (∃ k, w''.cell? ⟨w.heap.size + 1, 1, none⟩ = some (.int .i64 k)) ∧ (∃ k, w''.cell? ⟨w.heap.size + 1, 2, none⟩ = some (.pointer k)) ∧ w''.frozen? ⟨w.heap.size + 1, 0, none⟩ = false ∧ w''.frozen? ⟨w.heap.size + 1, 1, none⟩ = false ∧ w''.frozen? ⟨w.heap.size + 1, 2, none⟩ = false ∧ Below (w.heap.size + 1) w0 w'')) := by
    show ∀ w' w'', _
    rintro w' w'' ⟨a0, a1, a2, a3, a4, a5, a6, a7, a8, s0, s1, s2, f0, f1, f2, bw⟩ hb
    have hs := bw.size
    have hc : ∀ o, w''.cell? ⟨w.heap.size, o, none⟩ = w'.cell? ⟨w.heap.size, o, none⟩ := fun o => hb.cell (p := ⟨w.heap.size, o, none⟩) (show w.heap.size < _ by omega)
    have hr : ∀ o, w''.cell? ⟨w.heap.size + 1, o, none⟩ = w'.cell? ⟨w.heap.size + 1, o, none⟩ := fun o => hb.cell (p := ⟨w.heap.size + 1, o, none⟩) (show w.heap.size + 1 < _ by omega)
    have hf : ∀ o, w''.frozen? ⟨w.heap.size + 1, o, none⟩ = w'.frozen? ⟨w.heap.size + 1, o, none⟩ := fun o => hb.frozen (p := ⟨w.heap.size + 1, o, none⟩) (show w.heap.size + 1 < _ by omega)
    refine ⟨by rw [hc]; assumption, by rw [hc]; assumption, by rw [hc]; assumption, by rw [hc]; assumption, by rw [hc]; assumption, by rw [hc]; assumption, by rw [hc]; assumption, by rw [hc]; assumption, by rw [hc]; assumption, by rw [hr]; assumption, by rw [hr]; assumption, by rw [hr]; assumption, by rw [hf]; assumption, by rw [hf]; assumption, by rw [hf]; assumption, bw.trans (hb.mono (by omega))⟩
  have HKS : Hid (∀ w' n y p, (w'.cell? ⟨w.heap.size, 0, none⟩ = some (.int .i64 c.year) ∧ w'.cell? ⟨w.heap.size, 1, none⟩ = some (.int .i64 c.month) ∧ w'.cell? ⟨w.heap.size, 2, none⟩ = some (.int .i64 c.day) ∧ w'.cell? ⟨w.heap.size, 3, none⟩ = some (.int .i64 c.hour) ∧ w'.cell? ⟨w.heap.size, 4, none⟩ = some (.int .i64 c.minute) ∧ w'.cell? ⟨w.heap.size, 5, none⟩ = some (.int .i64 c.second) ∧ w'.cell? ⟨w.heap.size, 6, none⟩ = some (.int .i64 c.nano) ∧ w'.cell? ⟨w.heap.size, 7, none⟩ = some (S c.zone.name) ∧ w'.cell? ⟨w.heap.size, 8, none⟩ = some (.int .i64 c.zone.off) ∧ (∃ k, w'.cell? ⟨w.heap.size + 1, 0, none⟩ = some (.int .u64 k)) ∧ (∃ k, w'.cell? ⟨w.heap.size + 1, 1, none⟩ = some (.int .i64 k)) ∧ (∃ k, w'.cell? ⟨w.heap.size + 1, 2, none⟩ = some (.pointer k)) ∧ w'.frozen? ⟨w.heap.size + 1, 0, none⟩ = false ∧ w'.frozen? ⟨w.heap.size + 1, 1, none⟩ = false ∧ w'.frozen? ⟨w.heap.size + 1, 2, none⟩ = false ∧ Below (w.heap.size + 1) w0 w') → ((((w'.setCell ⟨w.heap.size + 1, 0, none⟩ (.int .u64 n)).setCell ⟨w.heap.size + 1, 1, none⟩ (.int .i64 y)).setCell ⟨w.heap.size + 1, 2, none⟩ (.pointer p)).cell? ⟨w.heap.size, 0, none⟩ = some (.int .i64 c.year) ∧ (((w'.setCell ⟨w.heap.size + 1, 0, none⟩ (.int .u64 n)).setCell ⟨w.heap.size + 1, 1, none⟩ (.int .i64 y)).setCell ⟨w.heap.size + 1, 2, none⟩ (.pointer p)).cell? ⟨w.heap.size, 1, none⟩ = some (.int .i64 c.month) ∧ (((w'.setCell ⟨w.heap.size + 1, 0, none⟩ (.int .u64 n)).setCell ⟨w.heap.size + 1, 1, none⟩ (.int .i64 y)).setCell ⟨w.heap.size + 1, 2, none⟩ (.pointer p)).cell? ⟨w.heap.size, 2, none⟩ = some (.int .i64 c.day) ∧ (((w'.setCell ⟨w.heap.size + 1, 0, none⟩ (.int .u64 n)).setCell ⟨w.heap.size + 1, 1, none⟩ (.int .i64 y)).setCell ⟨w.heap.size + 1, 2, none⟩ (.pointer p)).cell? ⟨w.heap.size, 3, none⟩ = some (.int .i64 c.hour) ∧ (((w'.setCell ⟨w.heap.size + 1, 0, none⟩ (.int .u64 n)).setCell ⟨w.heap.size + 1, 1, none⟩ (.int .i64 y)).setCell ⟨w.heap.size + 1, 2, none⟩ (.pointer p)).cell? ⟨w.heap.size, 4, none⟩ = some (.int .i64 c.minute) ∧ (((w'.setCell ⟨w.heap.size + 1, 0, none⟩ (.int .u64 n)).setCell ⟨w.heap.size + 1, 1, none⟩ (.int .i64 y)).setCell ⟨w.heap.size + 1, 2, none⟩ (.pointer p)).cell? ⟨w.heap.size, 5, none⟩ = some (.int .i64 c.second) ∧ (((w'.setCell ⟨w.heap.size + 1, 0, none⟩ (.int .u64 n)).setCell ⟨w.heap.size + 1, 1, none⟩ (.int .i64 y)).setCell ⟨w.heap.size + 1, 2, none⟩ (.pointer p)).cell? ⟨w.heap.size, 6, none⟩ = some (.int .i64 c.nano) ∧ (((w'.setCell ⟨w.heap.size + 1, 0, none⟩ (.int .u64 n)).setCell ⟨w.heap.size + 1, 1, none⟩ (.int .i64 y)).setCell ⟨w.heap.size + 1, 2, none⟩ (.pointer p)).cell? ⟨w.heap.size, 7, none⟩ = some (S c.zone.name) ∧ (((w'.setCell ⟨w.heap.size + 1, 0, none⟩ (.int .u64 n)).setCell ⟨w.heap.size + 1, 1, none⟩ (.int .i64 y)).setCell ⟨w.heap.size + 1, 2, none⟩ (.pointer p)).cell? ⟨w.heap.size, 8, none⟩ = some (.int .i64 c.zone.off) ∧ (∃ k, (((w'.setCell ⟨w.heap.size + 1, 0, none⟩ (.int .u64 n)).setCell ⟨w.heap.size + 1, 1, none⟩ (.int .i64 y)).setCell ⟨w.heap.size + 1, 2, none⟩ (.pointer p)).cell? ⟨w.heap.size + 1, 0, none⟩ = some (.int .u64 k)) ∧ (∃ k, (((w'.setCell ⟨w.heap.size + 1, 0, none⟩ (.int .u64 n)).setCell ⟨w.heap.size + 1, 1, none⟩ (.int .i64 y)).setCell ⟨w.heap.size + 1, 2, none⟩ (.pointer p)).cell? ⟨w.heap.size + 1, 1, none⟩ = some (.int .i64 k)) ∧ (∃ k, (((w'.setCell ⟨w.heap.size + 1, 0, none⟩ (.int .u64 n)).setCell ⟨w.heap.size + 1, 1, none⟩ (.int .i64 y)).setCell ⟨w.heap.size + 1, 2, none⟩ (.pointer p)).cell? ⟨w.heap.size + 1, 2, none⟩ = some (.pointer k)) ∧ (((w'.setCell ⟨w.heap.size + 1, 0, none⟩ (.int .u64 n)).setCell ⟨w.heap.size + 1, 1, none⟩ (.int .i64 y)).setCell ⟨w.heap.size + 1, 2, none⟩ (.pointer p)).frozen? ⟨w.heap.size + 1, 0, none⟩ = false ∧ (((w'.setCell ⟨w.heap.size + 1, 0, none⟩ (.int .u64 n)).setCell ⟨w.heap.size + 1, 1, none⟩ (.int .i64 y)).setCell ⟨w.heap.size + 1, 2, none⟩ (.pointer p)).frozen? ⟨w.heap.size + 1, 1, none⟩ = false ∧ (((w'.setCell ⟨w.heap.size + 1, 0, none⟩ (.int .u64 n)).setCell ⟨w.heap.size + 1, 1, none⟩ (.int .i64 y)).setCell ⟨w.heap.size + 1, 2, none⟩ (.pointer p)).frozen? ⟨w.heap.size + 1, 2, none⟩ = false ∧ Below (w.heap.size + 1) w0 (((w'.setCell ⟨w.heap.size + 1, 0, none⟩ (.int .u64 n)).setCell ⟨w.heap.size + 1, 1, none⟩ (.int .i64 y)).setCell ⟨w.heap.size + 1, 2, none⟩ (.pointer p)))) := by
    show ∀ w' n y p, _
    rintro w' n y p ⟨a0, a1, a2, a3, a4, a5, a6, a7, a8, ⟨q0, s0⟩, ⟨q1, s1⟩, ⟨q2, s2⟩, f0, f1, f2, bw⟩
    have hc : ∀ (x : World) i o v, (x.setCell ⟨w.heap.size + 1, i, none⟩ v).cell? ⟨w.heap.size, o, none⟩ = x.cell? ⟨w.heap.size, o, none⟩ := fun x i o v => by rw [World.cell?_setCell_other (h := by intro e; have := congrArg Addr.block e; simp at this)]
    have hr : ∀ (x : World) i o v, i ≠ o → (x.setCell ⟨w.heap.size + 1, i, none⟩ v).cell? ⟨w.heap.size + 1, o, none⟩ = x.cell? ⟨w.heap.size + 1, o, none⟩ := fun x i o v hn => by rw [World.cell?_setCell_other (h := by intro e; exact hn (by simpa using congrArg Addr.off e))]
    refine ⟨by rw [hc, hc, hc]; assumption, by rw [hc, hc, hc]; assumption, by rw [hc, hc, hc]; assumption, by rw [hc, hc, hc]; assumption, by rw [hc, hc, hc]; assumption, by rw [hc, hc, hc]; assumption, by rw [hc, hc, hc]; assumption, by rw [hc, hc, hc]; assumption, by rw [hc, hc, hc]; assumption, ⟨n, ?_⟩, ⟨y, ?_⟩, ⟨p, ?_⟩, by rw [World.frozen?_setCell, World.frozen?_setCell, World.frozen?_setCell]; assumption, by rw [World.frozen?_setCell, World.frozen?_setCell, World.frozen?_setCell]; assumption, by rw [World.frozen?_setCell, World.frozen?_setCell, World.frozen?_setCell]; assumption, ((bw.setCell (Nat.le_refl _) _).setCell (Nat.le_refl _) _).setCell (Nat.le_refl _) _⟩
    · rw [hr _ _ _ _ (by decide), hr _ _ _ _ (by decide), World.cell?_setCell_same (h := s0)]
    · rw [hr _ _ _ _ (by decide), World.cell?_setCell_same (h := by rw [hr _ _ _ _ (by decide)]; exact s1)]
    · rw [World.cell?_setCell_same (h := by rw [hr _ _ _ _ (by decide), hr _ _ _ _ (by decide)]; exact s2)]
  have HS0 : Hid (w0.cell? ⟨w.heap.size, 0, none⟩ = some (.int .i64 c.year) ∧ w0.cell? ⟨w.heap.size, 1, none⟩ = some (.int .i64 c.month) ∧ w0.cell? ⟨w.heap.size, 2, none⟩ = some (.int .i64 c.day) ∧ w0.cell? ⟨w.heap.size, 3, none⟩ = some (.int .i64 c.hour) ∧ w0.cell? ⟨w.heap.size, 4, none⟩ = some (.int .i64 c.minute) ∧ w0.cell? ⟨w.heap.size, 5, none⟩ = some (.int .i64 c.second) ∧ w0.cell? ⟨w.heap.size, 6, none⟩ = some (.int .i64 c.nano) ∧ w0.cell? ⟨w.heap.size, 7, none⟩ = some (S c.zone.name) ∧ w0.cell? ⟨w.heap.size, 8, none⟩ = some (.int .i64 c.zone.off) ∧ (∃ k, w0.cell? ⟨w.heap.size + 1, 0, none⟩ = some (.int .u64 k)) ∧ (∃ k, w0.cell? ⟨w.heap.size + 1, 1, none⟩ = some (.int .i64 k)) ∧ (∃ k, w0.cell? ⟨w.heap.size + 1, 2, none⟩ = some (.pointer k)) ∧ w0.frozen? ⟨w.heap.size + 1, 0, none⟩ = false ∧ w0.frozen? ⟨w.heap.size + 1, 1, none⟩ = false ∧ w0.frozen? ⟨w.heap.size + 1, 2, none⟩ = false ∧ Below (w.heap.size + 1) w0 w0) := by
    show w0.cell? ⟨w.heap.size, 0, none⟩ = some (.int .i64 c.year) ∧ w0.cell? ⟨w.heap.size, 1, none⟩ = some (.int .i64 c.month) ∧ w0.cell? ⟨w.heap.size, 2, none⟩ = some (.int .i64 c.day) ∧ w0.cell? ⟨w.heap.size, 3, none⟩ = some (.int .i64 c.hour) ∧ w0.cell? ⟨w.heap.size, 4, none⟩ = some (.int .i64 c.minute) ∧ w0.cell? ⟨w.heap.size, 5, none⟩ = some (.int .i64 c.second) ∧ w0.cell? ⟨w.heap.size, 6, none⟩ = some (.int .i64 c.nano) ∧ w0.cell? ⟨w.heap.size, 7, none⟩ = some (S c.zone.name) ∧ w0.cell? ⟨w.heap.size, 8, none⟩ = some (.int .i64 c.zone.off) ∧ (∃ k, w0.cell? ⟨w.heap.size + 1, 0, none⟩ = some (.int .u64 k)) ∧ (∃ k, w0.cell? ⟨w.heap.size + 1, 1, none⟩ = some (.int .i64 k)) ∧ (∃ k, w0.cell? ⟨w.heap.size + 1, 2, none⟩ = some (.pointer k)) ∧ w0.frozen? ⟨w.heap.size + 1, 0, none⟩ = false ∧ w0.frozen? ⟨w.heap.size + 1, 1, none⟩ = false ∧ w0.frozen? ⟨w.heap.size + 1, 2, none⟩ = false ∧ Below (w.heap.size + 1) w0 w0
    obtain ⟨⟨a0, a1, a2, a3, a4, a5, a6, a7, a8⟩, _⟩ := C0.cells9
    obtain ⟨_, c0, c1, c2, f0, f1, f2⟩ := CAt.of_TAt.1 R0
    exact ⟨a0, a1, a2, a3, a4, a5, a6, a7, a8, ⟨_, c0⟩, ⟨_, c1⟩, ⟨_, c2⟩, f0, f1, f2, Below.refl _ _⟩
  have HS1 := HK.out _ _ HS0.out (below_drew w0)
  obtain ⟨a0, a1, a2, a3, a4, a5, a6, a7, a8, s0, s1, s2, f0, f1, f2, bw⟩ := HS1
  go_enter Tryz.func28, Tryz.ntmps28
  go_upto_region 1 with fail
  rw [← HW0.out]
  clear C0 R0
  go_region_held3 (fun w' => w'.cell? ⟨w.heap.size, 0, none⟩ = some (.int .i64 c.year) ∧ w'.cell? ⟨w.heap.size, 1, none⟩ = some (.int .i64 c.month) ∧ w'.cell? ⟨w.heap.size, 2, none⟩ = some (.int .i64 c.day) ∧ w'.cell? ⟨w.heap.size, 3, none⟩ = some (.int .i64 c.hour) ∧ w'.cell? ⟨w.heap.size, 4, none⟩ = some (.int .i64 c.minute) ∧ w'.cell? ⟨w.heap.size, 5, none⟩ = some (.int .i64 c.second) ∧ w'.cell? ⟨w.heap.size, 6, none⟩ = some (.int .i64 c.nano) ∧ w'.cell? ⟨w.heap.size, 7, none⟩ = some (S c.zone.name) ∧ w'.cell? ⟨w.heap.size, 8, none⟩ = some (.int .i64 c.zone.off) ∧ (∃ k, w'.cell? ⟨w.heap.size + 1, 0, none⟩ = some (.int .u64 k)) ∧ (∃ k, w'.cell? ⟨w.heap.size + 1, 1, none⟩ = some (.int .i64 k)) ∧ (∃ k, w'.cell? ⟨w.heap.size + 1, 2, none⟩ = some (.pointer k)) ∧ w'.frozen? ⟨w.heap.size + 1, 0, none⟩ = false ∧ w'.frozen? ⟨w.heap.size + 1, 1, none⟩ = false ∧ w'.frozen? ⟨w.heap.size + 1, 2, none⟩ = false ∧ Below (w.heap.size + 1) w0 w') (first | ((repeat' apply And.intro) <;> assumption) | (go_split_ands; (repeat' apply And.intro) <;> assumption) | exact HKS.out _ _ _ _ ⟨by assumption, by assumption, by assumption, by assumption, by assumption, by assumption, by assumption, by assumption, by assumption, ⟨_, by assumption⟩, ⟨_, by assumption⟩, ⟨_, by assumption⟩, by assumption, by assumption, by assumption, by assumption⟩ | go_keep)
    (first
      | (go_at_call 39; refine (HP.out _).mono ?_; rintro e w1 ⟨⟨v, rfl, hv⟩, hb⟩; obtain ⟨a0, a1, a2, a3, a4, a5, a6, a7, a8, s0, s1, s2, f0, f1, f2, bw⟩ := HK.out _ _ (by (repeat' apply And.intro) <;> assumption) hb)
      | (go_at_call 53; refine (HD.out _ _ (by assumption)).mono ?_; rintro e w2 ⟨⟨lop, rfl, hlo⟩, hb⟩; obtain ⟨a0, a1, a2, a3, a4, a5, a6, a7, a8, s0, s1, s2, f0, f1, f2, bw⟩ := HK.out _ _ (by (repeat' apply And.intro) <;> assumption) hb; obtain ⟨q0, hq0⟩ := s0; obtain ⟨q1, hq1⟩ := s1; obtain ⟨q2, hq2⟩ := s2))
  go_wp2_with fail
  refine bodyPost_ret (v := .agg #[.int .u64 c.nano, .int .i64 x, .pointer lop]) ?_ rfl ⟨⟨_, rfl, ?_⟩, ?_⟩
  · simp [results, Tryz.results28, go_sem, hq0, hq1, hq2]
  · exact hlo.far3 hq0
  · exact (((B0.trans (bw.mono (by omega))).setCell (p := ⟨w.heap.size + 1, 0, none⟩) (Nat.le_succ _) _).setCell (p := ⟨w.heap.size + 1, 1, none⟩) (Nat.le_succ _) _).setCell (p := ⟨w.heap.size + 1, 2, none⟩) (Nat.le_succ _) _
end Go.Proofs.YtndhiemagankeaaGreatDoor
