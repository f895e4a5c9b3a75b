/-
  FnLayout (the statement: for every list of pieces, every time and every zone the call returns true, and its arguments read afterwards as they did), part 18 of 41. In this part: The walks of package time: a time is made, and read.
-/
import Derived.Deep.RegionWith
import Derived.Test.YtndhiemagankeaaGreatDoorG16
/- The walks of package time: a time is made, and read. -/
namespace Go.Proofs.YtndhiemagankeaaGreatDoor
open Go.RowKit
set_option linter.unusedVariables false
set_option linter.unusedSimpArgs false
attribute [local simp] bs_size bs_toList bs_append bs_data bs_extract
section
variable (nano ext : Int) (lo : Value) (z : Zn) (w : World) (n0 : 0 ≤ nano) (n1 : nano ≤ 999999999) (e0 : -1000000000000 ≤ ext) (e1 : ext ≤ 1000000000000) (z0 : -86399 ≤ z.off) (z1 : z.off ≤ 86399)
include n0 n1 e0 e1 z0 z1
set_option maxHeartbeats 1000000 in
theorem locabs_c (H : TimeLoc w lo z) : Calls Tryz.prog 122 #[tv nano ext lo] w fun e w' => e = .returned (.tuple #[S z.name, .int .i64 z.off, .int .u64 (ext + z.off + 9223371966606163200)]) ∧ Below w.heap.size w w' := by
  unfold tv
  obtain ⟨w0, HW0⟩ : ∃ w0, Hid (w0 = w.alloc (.cells #[.int .u64 nano, .int .i64 ext, lo] 51)) := ⟨_, Lib.hid rfl⟩
  have hta : TAt w0 w.heap.size nano ext lo := by rw [HW0.out]; exact TAt.new w nano ext lo
  have hbl : Below w.heap.size w w0 := by rw [HW0.out]; exact below_new _ _
  rcases H with ⟨rfl, rfl⟩ | H
  · go_enter Tryz.func122, Tryz.ntmps122
    go_upto_region 4 with (go_at_call 119; refine (get_nil_c _).mono ?_; rintro e w1 ⟨⟨v, rfl, hv⟩, hb⟩)
    rw [← HW0.out] at hb
    have HU := Lib.hid (unixSec_c w.heap.size nano ext (.pointer none) w1 n0 n1 e0 e1 (hta.below hb))
    obtain ⟨b, rfl, h1, h2, h3⟩ := hv
    have HB := Lib.hid (below_next hbl hb)
    clear hta hbl hb
    go_wp2_with (go_at_call 93; refine (HU.out).mono ?_; rintro e w' ⟨rfl, rfl⟩)
    have hx : IntKind.u64.wrap (wrap64 (ext - 62135596800 + 9223372028741760000)) = ext + utcZ.off + 9223371966606163200 := by have : utcZ.off = 0 := rfl; simp only [wrapU, wrap64]; omega
    go_ret3
    exact ⟨by first | (rw [← hx]; rfl) | (simp [← hx]; rfl), HB.out⟩
  · have HU := Lib.hid (unixSec_c w.heap.size nano ext lo w0 n0 n1 e0 e1 hta)
    have H2 := H.below hbl
    obtain ⟨b, g, rfl, h1, h1', h2, h3, h4, h5, h6, h7, h8, h9⟩ := H2
    rw [HW0.out] at HU h1 h1' h2 h3 h4 h5 h6 h7 h8 h9
    clear hta H
    go_enter Tryz.func122, Tryz.ntmps122
    go_wp2_with (go_at_call 93; refine (HU.out).mono ?_; rintro e w' ⟨rfl, rfl⟩)
    have hx : IntKind.u64.wrap (wrap64 (ext - 62135596800 + z.off + 9223372028741760000)) = ext + z.off + 9223371966606163200 := by simp only [wrapU, wrap64]; omega
    go_ret3
    exact ⟨by first | (rw [← hx]; rfl) | (simp [← hx]; rfl), by rw [HW0.out] at hbl; exact hbl⟩
end
theorem unixTime_c (u ns : Int) (w : World) (u0 : -1000000000000 ≤ u) (u1 : u ≤ 900000000000) (n0 : 0 ≤ ns) (n1 : ns ≤ 999999999) : Calls Tryz.prog 82 #[.int .i64 u, .int .i32 ns] w fun e w' => e = .returned (tv ns (u + 62135596800) (.pointer none)) ∧ Below w.heap.size w w' := by
  go_enter Tryz.func82, Tryz.ntmps82
  go_wp2
  refine bodyPost_ret (v := tv ns (u + 62135596800) (.pointer none)) (by simp [results, Tryz.results82, go_sem, tv]) rfl ⟨rfl, below_new _ _⟩
theorem absDay_rng (y m d : Int) (y0 : 0 ≤ y) (y1 : y ≤ 9999) (m0 : 1 ≤ m) (m1 : m ≤ 12) (d0 : 1 ≤ d) (d1 : d ≤ 31) : 106751990353800 ≤ absDay y m d ∧ absDay y m d ≤ 106751994006400 := by
  unfold absDay
  by_cases e : m < 3 <;> simp [e] <;> omega
/-- A time's field 'ext', of what it is told as and its offset. -/
def extOf (y m d h mi s off : Int) : Int := absDay y m d * 86400 + (h * 3600 + mi * 60 + s) - off - 9223371966606163200
section
variable (y m d h mi s ns : Int) (v : Value) (z : Zn) (w : World) (y0 : 0 ≤ y) (y1 : y ≤ 9999) (m0 : 1 ≤ m) (m1 : m ≤ 12) (d0 : 1 ≤ d) (d1 : d ≤ 31) (h0 : 0 ≤ h) (h1 : h ≤ 23) (i0 : 0 ≤ mi) (i1 : mi ≤ 59) (s0 : 0 ≤ s) (s1 : s ≤ 59) (n0 : 0 ≤ ns) (n1 : ns ≤ 999999999) (z0 : -86399 ≤ z.off) (z1 : z.off ≤ 86399)
include y0 y1 m0 m1 d0 d1 h0 h1 i0 i1 s0 s1 n0 n1 z0 z1
set_option maxRecDepth 100000 in
set_option maxHeartbeats 4000000 in
theorem Date_c (H : LocAt w v z) : Calls Tryz.prog 53 #[.int .i64 y, .int .i64 m, .int .i64 d, .int .i64 h, .int .i64 mi, .int .i64 s, .int .i64 ns, v] w fun e w' => (∃ lo, e = .returned (tv ns (extOf y m d h mi s z.off) lo) ∧ TimeLoc w' lo z) ∧ Below w.heap.size w w' := by
  obtain ⟨r0, r1⟩ := absDay_rng y m d y0 y1 m0 m1 d0 d1
  have HD := Lib.hid (fun w => dateToAbsDays_c y m d w y0 y1 m0 m1 d0 d1)
  have HL : Hid (∀ o sec, -9223372036854775808 ≤ sec → sec < 9223372036854775807 → Calls Tryz.prog 81 #[v, .int .i64 sec] (w.alloc o) fun e w' => e = .returned (zoneTuple z) ∧ w' = w.alloc o) := fun o sec a b => lookup_c2 v z sec _ (H.below (below_new _ _)) a b
  have HE : Hid (extOf y m d h mi s z.off = absDay y m d * 86400 + (h * 3600 + mi * 60 + s) - z.off - 9223371966606163200) := by rfl
  obtain ⟨D, HDD⟩ : ∃ D, Hid (D = absDay y m d) := ⟨_, Lib.hid rfl⟩
  rw [← HDD.out] at HD r0 r1 HE
  rw [HE.out]
  have hne : ∃ b, v = .pointer (some b) := by
    rcases H with ⟨_, b, rfl, _⟩ | ⟨b, g, rfl, _⟩ <;> exact ⟨_, rfl⟩
  obtain ⟨bb, rfl⟩ := hne
  obtain ⟨u, HU⟩ : ∃ u, Hid (u = D * 86400 + (h * 3600 + mi * 60 + s) - 9223372028741760000) := ⟨_, Lib.hid rfl⟩
  have hu := HU.out
  have hw : wrap64 (wrap64 (wrap64 (D * 86400) + (h * 3600 + mi * 60 + s)) + -9223372028741760000) = u := by simp only [wrap64]; omega
  have u0 : -100000000000 ≤ u := by omega
  have u1 : u ≤ 300000000000 := by omega
  rw [show D * 86400 + (h * 3600 + mi * 60 + s) - z.off - 9223371966606163200 = u - z.off + 62135596800 by omega]
  clear hu HE
  have hz : Hid (z.off = 0 ∨ z.off ≠ 0) := by by_cases e : z.off = 0; exact .inl e; exact .inr e
  rcases H with ⟨rfl, H⟩ | H
  · have hz0 : utcZ.off = 0 := rfl
    go_enter Tryz.func53, Tryz.ntmps53
    go_upto_region 17 with (first
      | (go_at_call 79; refine (norm_c _ _ _ _ (by omega) (by omega)).mono ?_; rintro e w' ⟨rfl, rfl⟩)
      | (go_at_call 80; refine (HD.out _).mono ?_; rintro e w' ⟨rfl, rfl⟩)
      | (go_at_call 81; refine (HL.out _ _ (by omega) (by omega)).mono ?_; rintro e w' ⟨rfl, rfl⟩; unfold zoneTuple))
    go_upto_region 18 with (go_at_call 82; refine (unixTime_c _ _ _ (by omega) (by omega) (by omega) (by omega)).mono ?_; rintro e w1 ⟨rfl, hb1⟩; unfold tv)
    have hlt : w.heap.size < w1.heap.size := by have := hb1.size; simp at this; omega
    obtain ⟨_, q0, q1, q2, g0, g1, g2⟩ := (TAt.new w 0 0 (.pointer none)).below hb1
    have HB1 := Lib.hid hb1
    clear hb1
    go_wp2_with (go_at_call 83; refine (setLoc_utc _ _ _ _ _ n0 n1 _ (TAt.new _ _ _ _) (H.below (below_next (below_next (below_new _ _) HB1.out) (below_new _ _)))).mono ?_; rintro e w2 ⟨rfl, rfl⟩)
    have hfin : Below w.heap.size w ((((w1.setCell ⟨w.heap.size, 0, none⟩ (Value.int IntKind.u64 ns)).setCell ⟨w.heap.size, 1, none⟩ (Value.int IntKind.i64 (u + 62135596800))).setCell ⟨w.heap.size, 2, none⟩ (.pointer none)).alloc (Obj.cells #[Value.int IntKind.u64 ns, Value.int IntKind.i64 (u + 62135596800), (.pointer none)] 51)) := by
      refine Below.alloc ?_ (by simp; omega) _
      exact (((below_next (below_new _ _) HB1.out).setCell (p := ⟨w.heap.size, 0, none⟩) (Nat.le_refl _) _).setCell (p := ⟨w.heap.size, 1, none⟩) (Nat.le_refl _) _).setCell (p := ⟨w.heap.size, 2, none⟩) (Nat.le_refl _) _
    refine bodyPost_ret (v := tv ns (u + 62135596800) (.pointer none)) ?_ rfl ⟨⟨_, by rw [hz0, Int.sub_zero], .inl ⟨rfl, rfl⟩⟩, hfin⟩
    simp [results, Tryz.results53, go_sem, tv, q0, q1, q2, hlt]
  · rcases hz.out with hz0 | hz0
    · go_enter Tryz.func53, Tryz.ntmps53
      go_upto_region 17 with (first
        | (go_at_call 79; refine (norm_c _ _ _ _ (by omega) (by omega)).mono ?_; rintro e w' ⟨rfl, rfl⟩)
        | (go_at_call 80; refine (HD.out _).mono ?_; rintro e w' ⟨rfl, rfl⟩)
        | (go_at_call 81; refine (HL.out _ _ (by omega) (by omega)).mono ?_; rintro e w' ⟨rfl, rfl⟩; unfold zoneTuple))
      go_upto_region 18 with (go_at_call 82; refine (unixTime_c _ _ _ (by omega) (by omega) (by omega) (by omega)).mono ?_; rintro e w1 ⟨rfl, hb1⟩; unfold tv)
      have hlt : w.heap.size < w1.heap.size := by have := hb1.size; simp at this; omega
      obtain ⟨_, q0, q1, q2, g0, g1, g2⟩ := (TAt.new w 0 0 (.pointer none)).below hb1
      have HB1 := Lib.hid hb1
      clear hb1
      go_wp2_with (go_at_call 83; refine (setLoc_fix _ _ _ _ _ n0 n1 _ z (TAt.new _ _ _ _) (H.below (below_next (below_next (below_new _ _) HB1.out) (below_new _ _)))).mono ?_; rintro e w2 ⟨rfl, rfl⟩)
      have hfin : Below w.heap.size w ((((w1.setCell ⟨w.heap.size, 0, none⟩ (Value.int IntKind.u64 ns)).setCell ⟨w.heap.size, 1, none⟩ (Value.int IntKind.i64 (u + 62135596800))).setCell ⟨w.heap.size, 2, none⟩ (.pointer (some bb))).alloc (Obj.cells #[Value.int IntKind.u64 ns, Value.int IntKind.i64 (u + 62135596800), (.pointer (some bb))] 51)) := by
        refine Below.alloc ?_ (by simp; omega) _
        exact (((below_next (below_new _ _) HB1.out).setCell (p := ⟨w.heap.size, 0, none⟩) (Nat.le_refl _) _).setCell (p := ⟨w.heap.size, 1, none⟩) (Nat.le_refl _) _).setCell (p := ⟨w.heap.size, 2, none⟩) (Nat.le_refl _) _
      refine bodyPost_ret (v := tv ns (u + 62135596800) (.pointer (some bb))) ?_ rfl ⟨⟨_, by rw [hz0, Int.sub_zero], .inr (H.below hfin)⟩, hfin⟩
      simp [results, Tryz.results53, go_sem, tv, q0, q1, q2, hlt]
    · go_enter Tryz.func53, Tryz.ntmps53
      go_upto_region 17 with (first
        | (go_at_call 79; refine (norm_c _ _ _ _ (by omega) (by omega)).mono ?_; rintro e w' ⟨rfl, rfl⟩)
        | (go_at_call 80; refine (HD.out _).mono ?_; rintro e w' ⟨rfl, rfl⟩)
        | (go_at_call 81; refine (HL.out _ _ (by omega) (by omega)).mono ?_; rintro e w' ⟨rfl, rfl⟩; unfold zoneTuple))
      go_upto_region 18 with (go_at_call 82; refine (unixTime_c _ _ _ (by omega) (by omega) (by omega) (by omega)).mono ?_; rintro e w1 ⟨rfl, hb1⟩; unfold tv)
      have hlt : w.heap.size < w1.heap.size := by have := hb1.size; simp at this; omega
      obtain ⟨_, q0, q1, q2, g0, g1, g2⟩ := (TAt.new w 0 0 (.pointer none)).below hb1
      have HB1 := Lib.hid hb1
      clear hb1
      go_wp2_with (go_at_call 83; refine (setLoc_fix _ _ _ _ _ n0 n1 _ z (TAt.new _ _ _ _) (H.below (below_next (below_next (below_new _ _) HB1.out) (below_new _ _)))).mono ?_; rintro e w2 ⟨rfl, rfl⟩)
      have hfin : Below w.heap.size w ((((w1.setCell ⟨w.heap.size, 0, none⟩ (Value.int IntKind.u64 ns)).setCell ⟨w.heap.size, 1, none⟩ (Value.int IntKind.i64 (u - z.off + 62135596800))).setCell ⟨w.heap.size, 2, none⟩ (.pointer (some bb))).alloc (Obj.cells #[Value.int IntKind.u64 ns, Value.int IntKind.i64 (u - z.off + 62135596800), (.pointer (some bb))] 51)) := by
        refine Below.alloc ?_ (by simp; omega) _
        exact (((below_next (below_new _ _) HB1.out).setCell (p := ⟨w.heap.size, 0, none⟩) (Nat.le_refl _) _).setCell (p := ⟨w.heap.size, 1, none⟩) (Nat.le_refl _) _).setCell (p := ⟨w.heap.size, 2, none⟩) (Nat.le_refl _) _
      refine bodyPost_ret (v := tv ns (u - z.off + 62135596800) (.pointer (some bb))) ?_ rfl ⟨⟨_, rfl, .inr (H.below hfin)⟩, hfin⟩
      simp [results, Tryz.results53, go_sem, tv, q0, q1, q2, hlt]
end
end Go.Proofs.YtndhiemagankeaaGreatDoor
