/-
  FnLayout (the statement: for every list of pieces, every time and every zone the call returns true, and its arguments read afterwards as they did), part 38 of 41. In this part: The walk of the statement: FnLayout answers true, where an argument is not one that it speaks of.
-/
import Derived.Deep.RegionHeld3
import Derived.Test.YtndhiemagankeaaGreatDoorG02
import Derived.Test.YtndhiemagankeaaGreatDoorG04
import Derived.Test.YtndhiemagankeaaGreatDoorG20
import Derived.Test.YtndhiemagankeaaGreatDoorG37
/- The walk of the statement: FnLayout answers true, where an argument is not one that it speaks of. -/
namespace Go.Proofs.YtndhiemagankeaaGreatDoor
open Go.RowKit
set_option linter.unusedVariables false
set_option linter.unusedSimpArgs false
attribute [local simp] bs_size bs_toList bs_append bs_data bs_extract
theorem layout_len {ps : List Pc} (h : ∀ p ∈ ps, pieceOk p = true) : (layout ps).length ≤ 1000 * ps.length := by
  induction ps with
  | nil => simp [layout]
  | cons p ps ih =>
    have h1 := elem_len (h p (by simp))
    have h2 := ih (fun q hq => h q (by simp [hq]))
    rw [layout_cons]
    simp
    omega
set_option maxRecDepth 100000 in
set_option maxHeartbeats 1000000 in
theorem fnLayout_a (pv : Value) (ps : List Pc) (c : Civ) (z : Zn) (w : World) (hs : StdAt w) (H : PcsAt w pv ps) (hn : ps.length ≤ 9223372036854775807) (hcl : c.zone.name.length ≤ 9223372036854775807) (hzl : z.name.length ≤ 9223372036854775807) (hpk : piecesOk ps = false) : Calls Tryz.prog 3 #[pv, c.val, z.val] w fun e w' => e = .returned (.bool true) ∧ Below w.heap.size w w' := by
  obtain ⟨w0, HW0⟩ : ∃ w0, Hid (w0 = (w.alloc (.cells #[.int .i64 c.year, .int .i64 c.month, .int .i64 c.day, .int .i64 c.hour, .int .i64 c.minute, .int .i64 c.second, .int .i64 c.nano, S c.zone.name, .int .i64 c.zone.off] 26)).alloc (.cells #[S z.name, .int .i64 z.off] 24)) := ⟨_, Lib.hid rfl⟩
  have C0 : CAt w0 w.heap.size [.int .i64 c.year, .int .i64 c.month, .int .i64 c.day, .int .i64 c.hour, .int .i64 c.minute, .int .i64 c.second, .int .i64 c.nano, S c.zone.name, .int .i64 c.zone.off] := by
    rw [HW0.out]
    exact (CAt.new w _ 26).below (below_new _ _)
  have Z0 : CAt w0 (w.heap.size + 1) [S z.name, .int .i64 z.off] := by
    rw [HW0.out]
    have := CAt.new (w.alloc (.cells #[.int .i64 c.year, .int .i64 c.month, .int .i64 c.day, .int .i64 c.hour, .int .i64 c.minute, .int .i64 c.second, .int .i64 c.nano, S c.zone.name, .int .i64 c.zone.off] 26)) [S z.name, .int .i64 z.off] 24
    rwa [World.size_alloc] at this
  have B0 : Below w.heap.size w w0 := by rw [HW0.out]; exact below_next (below_new _ _) (below_new _ _)
  have HF : Hid (∀ w', Below w0.heap.size w0 w' → w'.cell? ⟨w.heap.size, 0, none⟩ = some (.int .i64 c.year) ∧ w'.cell? ⟨w.heap.size, 1, none⟩ = some (.int .i64 c.month) ∧ w'.cell? ⟨w.heap.size, 2, none⟩ = some (.int .i64 c.day) ∧ w'.cell? ⟨w.heap.size, 3, none⟩ = some (.int .i64 c.hour) ∧ w'.cell? ⟨w.heap.size, 4, none⟩ = some (.int .i64 c.minute) ∧ w'.cell? ⟨w.heap.size, 5, none⟩ = some (.int .i64 c.second) ∧ w'.cell? ⟨w.heap.size, 6, none⟩ = some (.int .i64 c.nano) ∧ w'.cell? ⟨w.heap.size, 7, none⟩ = some (S c.zone.name) ∧ w'.cell? ⟨w.heap.size, 8, none⟩ = some (.int .i64 c.zone.off) ∧ w'.cell? ⟨w.heap.size + 1, 0, none⟩ = some (S z.name) ∧ w'.cell? ⟨w.heap.size + 1, 1, none⟩ = some (.int .i64 z.off) ∧ Below w0.heap.size w0 w') := by
    show ∀ w', _
    intro w' hb
    obtain ⟨⟨a0, a1, a2, a3, a4, a5, a6, a7, a8⟩, -⟩ := (C0.below hb).cells9
    have hz := Z0.below hb
    exact ⟨a0, a1, a2, a3, a4, a5, a6, a7, a8, (hz.2 0 (by simp)).1, (hz.2 1 (by simp)).1, hb⟩
  have HB0 := Lib.hid B0
  have hs0 := hs.below B0
  have HP0 := H.below B0
  have H4 : Hid (∀ w', Below w0.heap.size w0 w' → Calls Tryz.prog 4 #[pv] w' fun e w'' => (∃ b, e = .returned (.bool b) ∧ (b = true → ps.length ≤ 2147483647)) ∧ Below w'.heap.size w' w'') := fun w' hb => zzFits1_c pv ps w' (HP0.below hb) hn
  have H5 : Hid (∀ w', Below w0.heap.size w0 w' → Calls Tryz.prog 5 #[.agg #[.int .i64 c.year, .int .i64 c.month, .int .i64 c.day, .int .i64 c.hour, .int .i64 c.minute, .int .i64 c.second, .int .i64 c.nano, S c.zone.name, .int .i64 c.zone.off]] w' fun e w'' => (∃ b, e = .returned (.bool b) ∧ (b = true → c.zone.name.length ≤ 2147483647)) ∧ Below w'.heap.size w' w'') := fun w' _ => zzFits3_c c w' hcl
  have H6 : Hid (∀ w', Below w0.heap.size w0 w' → Calls Tryz.prog 6 #[.agg #[S z.name, .int .i64 z.off]] w' fun e w'' => (∃ b, e = .returned (.bool b) ∧ (b = true → z.name.length ≤ 2147483647)) ∧ Below w'.heap.size w' w'') := fun w' _ => zzFits4_c z w' hzl
  have H7 : Hid (∀ w', ps.length ≤ 2147483647 → Below w0.heap.size w0 w' → Calls Tryz.prog 7 #[pv] w' fun e w'' => e = .returned (.bool false) ∧ Below w'.heap.size w' w'') := fun w' hn hb => by have := piecesOk_c pv ps w' (HP0.below hb) hn; rwa [hpk] at this
  have H11 : Hid (∀ w', Below w0.heap.size w0 w' → Calls Tryz.prog 11 #[] w' fun e w'' => e = .returned (.bool true) ∧ Below w'.heap.size w' w'') := fun w' hb => reads_c w' (hs0.below hb)
  have H12 : Hid (∀ w', Below w0.heap.size w0 w' → Calls Tryz.prog 12 #[] w' fun e w'' => e = .returned (.bool true) ∧ Below w'.heap.size w' w'') := fun w' hb => writes_c w' (hs0.below hb)
  clear hs hs0 H HP0 C0 Z0 B0 hpk
  have HS0 := HF.out w0 (Below.refl _ _)
  obtain ⟨a0, a1, a2, a3, a4, a5, a6, a7, a8, z0, z1, bw⟩ := HS0
  unfold Civ.val Zn.val
  go_enter Tryz.func3, Tryz.ntmps3
  go_upto_region 1 with fail
  rw [← HW0.out]
  go_wp2_with (first
    | (go_at_call 5; refine (H5.out _ (by assumption)).mono ?_; rintro e w1 ⟨⟨b, rfl, hz⟩, hb⟩; obtain ⟨a0, a1, a2, a3, a4, a5, a6, a7, a8, z0, z1, bw⟩ := HF.out _ (below_next (by assumption) hb); clear hb; cases b)
    | (go_at_call 6; refine (H6.out _ (by assumption)).mono ?_; rintro e w1 ⟨⟨b, rfl, hz⟩, hb⟩; obtain ⟨a0, a1, a2, a3, a4, a5, a6, a7, a8, z0, z1, bw⟩ := HF.out _ (below_next (by assumption) hb); clear hb; cases b)
    | (go_at_call 4; refine (H4.out _ (by assumption)).mono ?_; rintro e w1 ⟨⟨b, rfl, hz4⟩, hb⟩; have HZ4 := Lib.hid hz4; clear hz4; obtain ⟨a0, a1, a2, a3, a4, a5, a6, a7, a8, z0, z1, bw⟩ := HF.out _ (below_next (by assumption) hb); clear hb; cases b)
    | (go_at_call 7; refine (H7.out _ (by first | exact HZ4.out trivial | exact HZ4.out rfl) (by assumption)).mono ?_; rintro e w1 ⟨rfl, hb⟩; obtain ⟨a0, a1, a2, a3, a4, a5, a6, a7, a8, z0, z1, bw⟩ := HF.out _ (below_next (by assumption) hb); clear hb)
    | (go_at_call 11; refine (H11.out _ (by assumption)).mono ?_; rintro e w1 ⟨rfl, hb⟩; obtain ⟨a0, a1, a2, a3, a4, a5, a6, a7, a8, z0, z1, bw⟩ := HF.out _ (below_next (by assumption) hb); clear hb)
    | (go_at_call 12; refine (H12.out _ (by assumption)).mono ?_; rintro e w1 ⟨rfl, hb⟩; obtain ⟨a0, a1, a2, a3, a4, a5, a6, a7, a8, z0, z1, bw⟩ := HF.out _ (below_next (by assumption) hb); clear hb))
  all_goals
    go_ret
    exact ⟨by first | rfl | simp, below_next HB0.out bw⟩
set_option maxRecDepth 100000 in
set_option maxHeartbeats 1000000 in
theorem fnLayout_b (pv : Value) (ps : List Pc) (c : Civ) (z : Zn) (w : World) (hs : StdAt w) (H : PcsAt w pv ps) (hn : ps.length ≤ 9223372036854775807) (hcl : c.zone.name.length ≤ 9223372036854775807) (hzl : z.name.length ≤ 9223372036854775807) (hpk : piecesOk ps = true) (hck : civilOk c = false) : Calls Tryz.prog 3 #[pv, c.val, z.val] w fun e w' => e = .returned (.bool true) ∧ Below w.heap.size w w' := by
  obtain ⟨w0, HW0⟩ : ∃ w0, Hid (w0 = (w.alloc (.cells #[.int .i64 c.year, .int .i64 c.month, .int .i64 c.day, .int .i64 c.hour, .int .i64 c.minute, .int .i64 c.second, .int .i64 c.nano, S c.zone.name, .int .i64 c.zone.off] 26)).alloc (.cells #[S z.name, .int .i64 z.off] 24)) := ⟨_, Lib.hid rfl⟩
  have C0 : CAt w0 w.heap.size [.int .i64 c.year, .int .i64 c.month, .int .i64 c.day, .int .i64 c.hour, .int .i64 c.minute, .int .i64 c.second, .int .i64 c.nano, S c.zone.name, .int .i64 c.zone.off] := by
    rw [HW0.out]
    exact (CAt.new w _ 26).below (below_new _ _)
  have Z0 : CAt w0 (w.heap.size + 1) [S z.name, .int .i64 z.off] := by
    rw [HW0.out]
    have := CAt.new (w.alloc (.cells #[.int .i64 c.year, .int .i64 c.month, .int .i64 c.day, .int .i64 c.hour, .int .i64 c.minute, .int .i64 c.second, .int .i64 c.nano, S c.zone.name, .int .i64 c.zone.off] 26)) [S z.name, .int .i64 z.off] 24
    rwa [World.size_alloc] at this
  have B0 : Below w.heap.size w w0 := by rw [HW0.out]; exact below_next (below_new _ _) (below_new _ _)
  have HF : Hid (∀ w', Below w0.heap.size w0 w' → w'.cell? ⟨w.heap.size, 0, none⟩ = some (.int .i64 c.year) ∧ w'.cell? ⟨w.heap.size, 1, none⟩ = some (.int .i64 c.month) ∧ w'.cell? ⟨w.heap.size, 2, none⟩ = some (.int .i64 c.day) ∧ w'.cell? ⟨w.heap.size, 3, none⟩ = some (.int .i64 c.hour) ∧ w'.cell? ⟨w.heap.size, 4, none⟩ = some (.int .i64 c.minute) ∧ w'.cell? ⟨w.heap.size, 5, none⟩ = some (.int .i64 c.second) ∧ w'.cell? ⟨w.heap.size, 6, none⟩ = some (.int .i64 c.nano) ∧ w'.cell? ⟨w.heap.size, 7, none⟩ = some (S c.zone.name) ∧ w'.cell? ⟨w.heap.size, 8, none⟩ = some (.int .i64 c.zone.off) ∧ w'.cell? ⟨w.heap.size + 1, 0, none⟩ = some (S z.name) ∧ w'.cell? ⟨w.heap.size + 1, 1, none⟩ = some (.int .i64 z.off) ∧ Below w0.heap.size w0 w') := by
    show ∀ w', _
    intro w' hb
    obtain ⟨⟨a0, a1, a2, a3, a4, a5, a6, a7, a8⟩, -⟩ := (C0.below hb).cells9
    have hz := Z0.below hb
    exact ⟨a0, a1, a2, a3, a4, a5, a6, a7, a8, (hz.2 0 (by simp)).1, (hz.2 1 (by simp)).1, hb⟩
  have HB0 := Lib.hid B0
  have hs0 := hs.below B0
  have HP0 := H.below B0
  have H4 : Hid (∀ w', Below w0.heap.size w0 w' → Calls Tryz.prog 4 #[pv] w' fun e w'' => (∃ b, e = .returned (.bool b) ∧ (b = true → ps.length ≤ 2147483647)) ∧ Below w'.heap.size w' w'') := fun w' hb => zzFits1_c pv ps w' (HP0.below hb) hn
  have H5 : Hid (∀ w', Below w0.heap.size w0 w' → Calls Tryz.prog 5 #[.agg #[.int .i64 c.year, .int .i64 c.month, .int .i64 c.day, .int .i64 c.hour, .int .i64 c.minute, .int .i64 c.second, .int .i64 c.nano, S c.zone.name, .int .i64 c.zone.off]] w' fun e w'' => (∃ b, e = .returned (.bool b) ∧ (b = true → c.zone.name.length ≤ 2147483647)) ∧ Below w'.heap.size w' w'') := fun w' _ => zzFits3_c c w' hcl
  have H6 : Hid (∀ w', Below w0.heap.size w0 w' → Calls Tryz.prog 6 #[.agg #[S z.name, .int .i64 z.off]] w' fun e w'' => (∃ b, e = .returned (.bool b) ∧ (b = true → z.name.length ≤ 2147483647)) ∧ Below w'.heap.size w' w'') := fun w' _ => zzFits4_c z w' hzl
  have H7 : Hid (∀ w', ps.length ≤ 2147483647 → Below w0.heap.size w0 w' → Calls Tryz.prog 7 #[pv] w' fun e w'' => e = .returned (.bool true) ∧ Below w'.heap.size w' w'') := fun w' hn hb => by have := piecesOk_c pv ps w' (HP0.below hb) hn; rwa [hpk] at this
  have H8 : Hid (∀ w', Below w0.heap.size w0 w' → Calls Tryz.prog 8 #[.agg #[.int .i64 c.year, .int .i64 c.month, .int .i64 c.day, .int .i64 c.hour, .int .i64 c.minute, .int .i64 c.second, .int .i64 c.nano, S c.zone.name, .int .i64 c.zone.off]] w' fun e w'' => e = .returned (.bool false) ∧ Below w'.heap.size w' w'') := fun w' _ => by have := civilOk_c c w' hcl; rwa [hck] at this
  have H11 : Hid (∀ w', Below w0.heap.size w0 w' → Calls Tryz.prog 11 #[] w' fun e w'' => e = .returned (.bool true) ∧ Below w'.heap.size w' w'') := fun w' hb => reads_c w' (hs0.below hb)
  have H12 : Hid (∀ w', Below w0.heap.size w0 w' → Calls Tryz.prog 12 #[] w' fun e w'' => e = .returned (.bool true) ∧ Below w'.heap.size w' w'') := fun w' hb => writes_c w' (hs0.below hb)
  clear hs hs0 H HP0 C0 Z0 B0 hpk hck
  have HS0 := HF.out w0 (Below.refl _ _)
  obtain ⟨a0, a1, a2, a3, a4, a5, a6, a7, a8, z0, z1, bw⟩ := HS0
  unfold Civ.val Zn.val
  go_enter Tryz.func3, Tryz.ntmps3
  go_upto_region 1 with fail
  rw [← HW0.out]
  go_wp2_with (first
    | (go_at_call 5; refine (H5.out _ (by assumption)).mono ?_; rintro e w1 ⟨⟨b, rfl, hz⟩, hb⟩; obtain ⟨a0, a1, a2, a3, a4, a5, a6, a7, a8, z0, z1, bw⟩ := HF.out _ (below_next (by assumption) hb); clear hb; cases b)
    | (go_at_call 6; refine (H6.out _ (by assumption)).mono ?_; rintro e w1 ⟨⟨b, rfl, hz⟩, hb⟩; obtain ⟨a0, a1, a2, a3, a4, a5, a6, a7, a8, z0, z1, bw⟩ := HF.out _ (below_next (by assumption) hb); clear hb; cases b)
    | (go_at_call 4; refine (H4.out _ (by assumption)).mono ?_; rintro e w1 ⟨⟨b, rfl, hz4⟩, hb⟩; have HZ4 := Lib.hid hz4; clear hz4; obtain ⟨a0, a1, a2, a3, a4, a5, a6, a7, a8, z0, z1, bw⟩ := HF.out _ (below_next (by assumption) hb); clear hb; cases b)
    | (go_at_call 7; refine (H7.out _ (by first | exact HZ4.out trivial | exact HZ4.out rfl) (by assumption)).mono ?_; rintro e w1 ⟨rfl, hb⟩; obtain ⟨a0, a1, a2, a3, a4, a5, a6, a7, a8, z0, z1, bw⟩ := HF.out _ (below_next (by assumption) hb); clear hb)
    | (go_at_call 8; refine (H8.out _ (by assumption)).mono ?_; rintro e w1 ⟨rfl, hb⟩; obtain ⟨a0, a1, a2, a3, a4, a5, a6, a7, a8, z0, z1, bw⟩ := HF.out _ (below_next (by assumption) hb); clear hb)
    | (go_at_call 11; refine (H11.out _ (by assumption)).mono ?_; rintro e w1 ⟨rfl, hb⟩; obtain ⟨a0, a1, a2, a3, a4, a5, a6, a7, a8, z0, z1, bw⟩ := HF.out _ (below_next (by assumption) hb); clear hb)
    | (go_at_call 12; refine (H12.out _ (by assumption)).mono ?_; rintro e w1 ⟨rfl, hb⟩; obtain ⟨a0, a1, a2, a3, a4, a5, a6, a7, a8, z0, z1, bw⟩ := HF.out _ (below_next (by assumption) hb); clear hb))
  all_goals
    go_ret
    exact ⟨by first | rfl | simp, below_next HB0.out bw⟩
set_option maxRecDepth 100000 in
set_option maxHeartbeats 1000000 in
theorem fnLayout_c (pv : Value) (ps : List Pc) (c : Civ) (z : Zn) (w : World) (hs : StdAt w) (H : PcsAt w pv ps) (hn : ps.length ≤ 9223372036854775807) (hcl : c.zone.name.length ≤ 9223372036854775807) (hzl : z.name.length ≤ 9223372036854775807) (hpk : piecesOk ps = true) (hck : civilOk c = true) (hzk : zoneOk z = false) : Calls Tryz.prog 3 #[pv, c.val, z.val] w fun e w' => e = .returned (.bool true) ∧ Below w.heap.size w w' := by
  obtain ⟨w0, HW0⟩ : ∃ w0, Hid (w0 = (w.alloc (.cells #[.int .i64 c.year, .int .i64 c.month, .int .i64 c.day, .int .i64 c.hour, .int .i64 c.minute, .int .i64 c.second, .int .i64 c.nano, S c.zone.name, .int .i64 c.zone.off] 26)).alloc (.cells #[S z.name, .int .i64 z.off] 24)) := ⟨_, Lib.hid rfl⟩
  have C0 : CAt w0 w.heap.size [.int .i64 c.year, .int .i64 c.month, .int .i64 c.day, .int .i64 c.hour, .int .i64 c.minute, .int .i64 c.second, .int .i64 c.nano, S c.zone.name, .int .i64 c.zone.off] := by
    rw [HW0.out]
    exact (CAt.new w _ 26).below (below_new _ _)
  have Z0 : CAt w0 (w.heap.size + 1) [S z.name, .int .i64 z.off] := by
    rw [HW0.out]
    have := CAt.new (w.alloc (.cells #[.int .i64 c.year, .int .i64 c.month, .int .i64 c.day, .int .i64 c.hour, .int .i64 c.minute, .int .i64 c.second, .int .i64 c.nano, S c.zone.name, .int .i64 c.zone.off] 26)) [S z.name, .int .i64 z.off] 24
    rwa [World.size_alloc] at this
  have B0 : Below w.heap.size w w0 := by rw [HW0.out]; exact below_next (below_new _ _) (below_new _ _)
  have HF : Hid (∀ w', Below w0.heap.size w0 w' → w'.cell? ⟨w.heap.size, 0, none⟩ = some (.int .i64 c.year) ∧ w'.cell? ⟨w.heap.size, 1, none⟩ = some (.int .i64 c.month) ∧ w'.cell? ⟨w.heap.size, 2, none⟩ = some (.int .i64 c.day) ∧ w'.cell? ⟨w.heap.size, 3, none⟩ = some (.int .i64 c.hour) ∧ w'.cell? ⟨w.heap.size, 4, none⟩ = some (.int .i64 c.minute) ∧ w'.cell? ⟨w.heap.size, 5, none⟩ = some (.int .i64 c.second) ∧ w'.cell? ⟨w.heap.size, 6, none⟩ = some (.int .i64 c.nano) ∧ w'.cell? ⟨w.heap.size, 7, none⟩ = some (S c.zone.name) ∧ w'.cell? ⟨w.heap.size, 8, none⟩ = some (.int .i64 c.zone.off) ∧ w'.cell? ⟨w.heap.size + 1, 0, none⟩ = some (S z.name) ∧ w'.cell? ⟨w.heap.size + 1, 1, none⟩ = some (.int .i64 z.off) ∧ Below w0.heap.size w0 w') := by
    show ∀ w', _
    intro w' hb
    obtain ⟨⟨a0, a1, a2, a3, a4, a5, a6, a7, a8⟩, -⟩ := (C0.below hb).cells9
    have hz := Z0.below hb
    exact ⟨a0, a1, a2, a3, a4, a5, a6, a7, a8, (hz.2 0 (by simp)).1, (hz.2 1 (by simp)).1, hb⟩
  have HB0 := Lib.hid B0
  have hs0 := hs.below B0
  have HP0 := H.below B0
  have H4 : Hid (∀ w', Below w0.heap.size w0 w' → Calls Tryz.prog 4 #[pv] w' fun e w'' => (∃ b, e = .returned (.bool b) ∧ (b = true → ps.length ≤ 2147483647)) ∧ Below w'.heap.size w' w'') := fun w' hb => zzFits1_c pv ps w' (HP0.below hb) hn
  have H5 : Hid (∀ w', Below w0.heap.size w0 w' → Calls Tryz.prog 5 #[.agg #[.int .i64 c.year, .int .i64 c.month, .int .i64 c.day, .int .i64 c.hour, .int .i64 c.minute, .int .i64 c.second, .int .i64 c.nano, S c.zone.name, .int .i64 c.zone.off]] w' fun e w'' => (∃ b, e = .returned (.bool b) ∧ (b = true → c.zone.name.length ≤ 2147483647)) ∧ Below w'.heap.size w' w'') := fun w' _ => zzFits3_c c w' hcl
  have H6 : Hid (∀ w', Below w0.heap.size w0 w' → Calls Tryz.prog 6 #[.agg #[S z.name, .int .i64 z.off]] w' fun e w'' => (∃ b, e = .returned (.bool b) ∧ (b = true → z.name.length ≤ 2147483647)) ∧ Below w'.heap.size w' w'') := fun w' _ => zzFits4_c z w' hzl
  have H7 : Hid (∀ w', ps.length ≤ 2147483647 → Below w0.heap.size w0 w' → Calls Tryz.prog 7 #[pv] w' fun e w'' => e = .returned (.bool true) ∧ Below w'.heap.size w' w'') := fun w' hn hb => by have := piecesOk_c pv ps w' (HP0.below hb) hn; rwa [hpk] at this
  have H8 : Hid (∀ w', Below w0.heap.size w0 w' → Calls Tryz.prog 8 #[.agg #[.int .i64 c.year, .int .i64 c.month, .int .i64 c.day, .int .i64 c.hour, .int .i64 c.minute, .int .i64 c.second, .int .i64 c.nano, S c.zone.name, .int .i64 c.zone.off]] w' fun e w'' => e = .returned (.bool true) ∧ Below w'.heap.size w' w'') := fun w' _ => by have := civilOk_c c w' hcl; rwa [hck] at this
  have H9 : Hid (∀ w', Below w0.heap.size w0 w' → Calls Tryz.prog 9 #[.agg #[S z.name, .int .i64 z.off]] w' fun e w'' => e = .returned (.bool false) ∧ Below w'.heap.size w' w'') := fun w' _ => by have := zoneOk_c z w' hzl; rwa [hzk] at this
  have H11 : Hid (∀ w', Below w0.heap.size w0 w' → Calls Tryz.prog 11 #[] w' fun e w'' => e = .returned (.bool true) ∧ Below w'.heap.size w' w'') := fun w' hb => reads_c w' (hs0.below hb)
  have H12 : Hid (∀ w', Below w0.heap.size w0 w' → Calls Tryz.prog 12 #[] w' fun e w'' => e = .returned (.bool true) ∧ Below w'.heap.size w' w'') := fun w' hb => writes_c w' (hs0.below hb)
  clear hs hs0 H HP0 C0 Z0 B0 hpk hck hzk
  have HS0 := HF.out w0 (Below.refl _ _)
  obtain ⟨a0, a1, a2, a3, a4, a5, a6, a7, a8, z0, z1, bw⟩ := HS0
  unfold Civ.val Zn.val
  go_enter Tryz.func3, Tryz.ntmps3
  go_upto_region 1 with fail
  rw [← HW0.out]
  go_wp2_with (first
    | (go_at_call 5; refine (H5.out _ (by assumption)).mono ?_; rintro e w1 ⟨⟨b, rfl, hz⟩, hb⟩; obtain ⟨a0, a1, a2, a3, a4, a5, a6, a7, a8, z0, z1, bw⟩ := HF.out _ (below_next (by assumption) hb); clear hb; cases b)
    | (go_at_call 6; refine (H6.out _ (by assumption)).mono ?_; rintro e w1 ⟨⟨b, rfl, hz⟩, hb⟩; obtain ⟨a0, a1, a2, a3, a4, a5, a6, a7, a8, z0, z1, bw⟩ := HF.out _ (below_next (by assumption) hb); clear hb; cases b)
    | (go_at_call 4; refine (H4.out _ (by assumption)).mono ?_; rintro e w1 ⟨⟨b, rfl, hz4⟩, hb⟩; have HZ4 := Lib.hid hz4; clear hz4; obtain ⟨a0, a1, a2, a3, a4, a5, a6, a7, a8, z0, z1, bw⟩ := HF.out _ (below_next (by assumption) hb); clear hb; cases b)
    | (go_at_call 7; refine (H7.out _ (by first | exact HZ4.out trivial | exact HZ4.out rfl) (by assumption)).mono ?_; rintro e w1 ⟨rfl, hb⟩; obtain ⟨a0, a1, a2, a3, a4, a5, a6, a7, a8, z0, z1, bw⟩ := HF.out _ (below_next (by assumption) hb); clear hb)
    | (go_at_call 8; refine (H8.out _ (by assumption)).mono ?_; rintro e w1 ⟨rfl, hb⟩; obtain ⟨a0, a1, a2, a3, a4, a5, a6, a7, a8, z0, z1, bw⟩ := HF.out _ (below_next (by assumption) hb); clear hb)
    | (go_at_call 9; refine (H9.out _ (by assumption)).mono ?_; rintro e w1 ⟨rfl, hb⟩; obtain ⟨a0, a1, a2, a3, a4, a5, a6, a7, a8, z0, z1, bw⟩ := HF.out _ (below_next (by assumption) hb); clear hb)
    | (go_at_call 11; refine (H11.out _ (by assumption)).mono ?_; rintro e w1 ⟨rfl, hb⟩; obtain ⟨a0, a1, a2, a3, a4, a5, a6, a7, a8, z0, z1, bw⟩ := HF.out _ (below_next (by assumption) hb); clear hb)
    | (go_at_call 12; refine (H12.out _ (by assumption)).mono ?_; rintro e w1 ⟨rfl, hb⟩; obtain ⟨a0, a1, a2, a3, a4, a5, a6, a7, a8, z0, z1, bw⟩ := HF.out _ (below_next (by assumption) hb); clear hb))
  all_goals
    go_ret
    exact ⟨by first | rfl | simp, below_next HB0.out bw⟩
set_option maxRecDepth 100000 in
set_option maxHeartbeats 1000000 in
theorem fnLayout_d (pv : Value) (ps : List Pc) (c : Civ) (z : Zn) (w : World) (hs : StdAt w) (H : PcsAt w pv ps) (hn : ps.length ≤ 9223372036854775807) (hcl : c.zone.name.length ≤ 9223372036854775807) (hzl : z.name.length ≤ 9223372036854775807) (hpk : piecesOk ps = true) (hck : civilOk c = true) (hzk : zoneOk z = true) (hfk : fits ps c = false) : Calls Tryz.prog 3 #[pv, c.val, z.val] w fun e w' => e = .returned (.bool true) ∧ Below w.heap.size w w' := by
  obtain ⟨w0, HW0⟩ : ∃ w0, Hid (w0 = (w.alloc (.cells #[.int .i64 c.year, .int .i64 c.month, .int .i64 c.day, .int .i64 c.hour, .int .i64 c.minute, .int .i64 c.second, .int .i64 c.nano, S c.zone.name, .int .i64 c.zone.off] 26)).alloc (.cells #[S z.name, .int .i64 z.off] 24)) := ⟨_, Lib.hid rfl⟩
  have C0 : CAt w0 w.heap.size [.int .i64 c.year, .int .i64 c.month, .int .i64 c.day, .int .i64 c.hour, .int .i64 c.minute, .int .i64 c.second, .int .i64 c.nano, S c.zone.name, .int .i64 c.zone.off] := by
    rw [HW0.out]
    exact (CAt.new w _ 26).below (below_new _ _)
  have Z0 : CAt w0 (w.heap.size + 1) [S z.name, .int .i64 z.off] := by
    rw [HW0.out]
    have := CAt.new (w.alloc (.cells #[.int .i64 c.year, .int .i64 c.month, .int .i64 c.day, .int .i64 c.hour, .int .i64 c.minute, .int .i64 c.second, .int .i64 c.nano, S c.zone.name, .int .i64 c.zone.off] 26)) [S z.name, .int .i64 z.off] 24
    rwa [World.size_alloc] at this
  have B0 : Below w.heap.size w w0 := by rw [HW0.out]; exact below_next (below_new _ _) (below_new _ _)
  have HF : Hid (∀ w', Below w0.heap.size w0 w' → w'.cell? ⟨w.heap.size, 0, none⟩ = some (.int .i64 c.year) ∧ w'.cell? ⟨w.heap.size, 1, none⟩ = some (.int .i64 c.month) ∧ w'.cell? ⟨w.heap.size, 2, none⟩ = some (.int .i64 c.day) ∧ w'.cell? ⟨w.heap.size, 3, none⟩ = some (.int .i64 c.hour) ∧ w'.cell? ⟨w.heap.size, 4, none⟩ = some (.int .i64 c.minute) ∧ w'.cell? ⟨w.heap.size, 5, none⟩ = some (.int .i64 c.second) ∧ w'.cell? ⟨w.heap.size, 6, none⟩ = some (.int .i64 c.nano) ∧ w'.cell? ⟨w.heap.size, 7, none⟩ = some (S c.zone.name) ∧ w'.cell? ⟨w.heap.size, 8, none⟩ = some (.int .i64 c.zone.off) ∧ w'.cell? ⟨w.heap.size + 1, 0, none⟩ = some (S z.name) ∧ w'.cell? ⟨w.heap.size + 1, 1, none⟩ = some (.int .i64 z.off) ∧ Below w0.heap.size w0 w') := by
    show ∀ w', _
    intro w' hb
    obtain ⟨⟨a0, a1, a2, a3, a4, a5, a6, a7, a8⟩, -⟩ := (C0.below hb).cells9
    have hz := Z0.below hb
    exact ⟨a0, a1, a2, a3, a4, a5, a6, a7, a8, (hz.2 0 (by simp)).1, (hz.2 1 (by simp)).1, hb⟩
  have HB0 := Lib.hid B0
  have hs0 := hs.below B0
  have HP0 := H.below B0
  have H4 : Hid (∀ w', Below w0.heap.size w0 w' → Calls Tryz.prog 4 #[pv] w' fun e w'' => (∃ b, e = .returned (.bool b) ∧ (b = true → ps.length ≤ 2147483647)) ∧ Below w'.heap.size w' w'') := fun w' hb => zzFits1_c pv ps w' (HP0.below hb) hn
  have H5 : Hid (∀ w', Below w0.heap.size w0 w' → Calls Tryz.prog 5 #[.agg #[.int .i64 c.year, .int .i64 c.month, .int .i64 c.day, .int .i64 c.hour, .int .i64 c.minute, .int .i64 c.second, .int .i64 c.nano, S c.zone.name, .int .i64 c.zone.off]] w' fun e w'' => (∃ b, e = .returned (.bool b) ∧ (b = true → c.zone.name.length ≤ 2147483647)) ∧ Below w'.heap.size w' w'') := fun w' _ => zzFits3_c c w' hcl
  have H6 : Hid (∀ w', Below w0.heap.size w0 w' → Calls Tryz.prog 6 #[.agg #[S z.name, .int .i64 z.off]] w' fun e w'' => (∃ b, e = .returned (.bool b) ∧ (b = true → z.name.length ≤ 2147483647)) ∧ Below w'.heap.size w' w'') := fun w' _ => zzFits4_c z w' hzl
  have H7 : Hid (∀ w', ps.length ≤ 2147483647 → Below w0.heap.size w0 w' → Calls Tryz.prog 7 #[pv] w' fun e w'' => e = .returned (.bool true) ∧ Below w'.heap.size w' w'') := fun w' hn hb => by have := piecesOk_c pv ps w' (HP0.below hb) hn; rwa [hpk] at this
  have H8 : Hid (∀ w', Below w0.heap.size w0 w' → Calls Tryz.prog 8 #[.agg #[.int .i64 c.year, .int .i64 c.month, .int .i64 c.day, .int .i64 c.hour, .int .i64 c.minute, .int .i64 c.second, .int .i64 c.nano, S c.zone.name, .int .i64 c.zone.off]] w' fun e w'' => e = .returned (.bool true) ∧ Below w'.heap.size w' w'') := fun w' _ => by have := civilOk_c c w' hcl; rwa [hck] at this
  have H9 : Hid (∀ w', Below w0.heap.size w0 w' → Calls Tryz.prog 9 #[.agg #[S z.name, .int .i64 z.off]] w' fun e w'' => e = .returned (.bool true) ∧ Below w'.heap.size w' w'') := fun w' _ => by have := zoneOk_c z w' hzl; rwa [hzk] at this
  have H10 : Hid (∀ w', ps.length ≤ 2147483647 → Below w0.heap.size w0 w' → Calls Tryz.prog 10 #[pv, .agg #[.int .i64 c.year, .int .i64 c.month, .int .i64 c.day, .int .i64 c.hour, .int .i64 c.minute, .int .i64 c.second, .int .i64 c.nano, S c.zone.name, .int .i64 c.zone.off]] w' fun e w'' => e = .returned (.bool false) ∧ Below w'.heap.size w' w'') := fun w' hn hb => by have := fits_c pv ps c w' (HP0.below hb) hn; rwa [hfk] at this
  have H11 : Hid (∀ w', Below w0.heap.size w0 w' → Calls Tryz.prog 11 #[] w' fun e w'' => e = .returned (.bool true) ∧ Below w'.heap.size w' w'') := fun w' hb => reads_c w' (hs0.below hb)
  have H12 : Hid (∀ w', Below w0.heap.size w0 w' → Calls Tryz.prog 12 #[] w' fun e w'' => e = .returned (.bool true) ∧ Below w'.heap.size w' w'') := fun w' hb => writes_c w' (hs0.below hb)
  clear hs hs0 H HP0 C0 Z0 B0 hpk hck hzk hfk
  have HS0 := HF.out w0 (Below.refl _ _)
  obtain ⟨a0, a1, a2, a3, a4, a5, a6, a7, a8, z0, z1, bw⟩ := HS0
  unfold Civ.val Zn.val
  go_enter Tryz.func3, Tryz.ntmps3
  go_upto_region 1 with fail
  rw [← HW0.out]
  go_wp2_with (first
    | (go_at_call 5; refine (H5.out _ (by assumption)).mono ?_; rintro e w1 ⟨⟨b, rfl, hz⟩, hb⟩; obtain ⟨a0, a1, a2, a3, a4, a5, a6, a7, a8, z0, z1, bw⟩ := HF.out _ (below_next (by assumption) hb); clear hb; cases b)
    | (go_at_call 6; refine (H6.out _ (by assumption)).mono ?_; rintro e w1 ⟨⟨b, rfl, hz⟩, hb⟩; obtain ⟨a0, a1, a2, a3, a4, a5, a6, a7, a8, z0, z1, bw⟩ := HF.out _ (below_next (by assumption) hb); clear hb; cases b)
    | (go_at_call 4; refine (H4.out _ (by assumption)).mono ?_; rintro e w1 ⟨⟨b, rfl, hz4⟩, hb⟩; have HZ4 := Lib.hid hz4; clear hz4; obtain ⟨a0, a1, a2, a3, a4, a5, a6, a7, a8, z0, z1, bw⟩ := HF.out _ (below_next (by assumption) hb); clear hb; cases b)
    | (go_at_call 7; refine (H7.out _ (by first | exact HZ4.out trivial | exact HZ4.out rfl) (by assumption)).mono ?_; rintro e w1 ⟨rfl, hb⟩; obtain ⟨a0, a1, a2, a3, a4, a5, a6, a7, a8, z0, z1, bw⟩ := HF.out _ (below_next (by assumption) hb); clear hb)
    | (go_at_call 8; refine (H8.out _ (by assumption)).mono ?_; rintro e w1 ⟨rfl, hb⟩; obtain ⟨a0, a1, a2, a3, a4, a5, a6, a7, a8, z0, z1, bw⟩ := HF.out _ (below_next (by assumption) hb); clear hb)
    | (go_at_call 9; refine (H9.out _ (by assumption)).mono ?_; rintro e w1 ⟨rfl, hb⟩; obtain ⟨a0, a1, a2, a3, a4, a5, a6, a7, a8, z0, z1, bw⟩ := HF.out _ (below_next (by assumption) hb); clear hb)
    | (go_at_call 10; refine (H10.out _ (by first | exact HZ4.out trivial | exact HZ4.out rfl) (by assumption)).mono ?_; rintro e w1 ⟨rfl, hb⟩; obtain ⟨a0, a1, a2, a3, a4, a5, a6, a7, a8, z0, z1, bw⟩ := HF.out _ (below_next (by assumption) hb); clear hb)
    | (go_at_call 11; refine (H11.out _ (by assumption)).mono ?_; rintro e w1 ⟨rfl, hb⟩; obtain ⟨a0, a1, a2, a3, a4, a5, a6, a7, a8, z0, z1, bw⟩ := HF.out _ (below_next (by assumption) hb); clear hb)
    | (go_at_call 12; refine (H12.out _ (by assumption)).mono ?_; rintro e w1 ⟨rfl, hb⟩; obtain ⟨a0, a1, a2, a3, a4, a5, a6, a7, a8, z0, z1, bw⟩ := HF.out _ (below_next (by assumption) hb); clear hb))
  all_goals
    go_ret
    exact ⟨by first | rfl | simp, below_next HB0.out bw⟩
end Go.Proofs.YtndhiemagankeaaGreatDoor
