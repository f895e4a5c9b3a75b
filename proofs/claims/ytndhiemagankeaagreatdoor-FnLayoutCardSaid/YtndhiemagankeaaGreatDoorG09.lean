/-
  FnLayout (the statement: for every list of pieces, every time and every zone the call returns true, and its arguments read afterwards as they did), part 9 of 41. In this part: The walks of package time: locations.
-/
import Derived.OwnWalk
import Derived.Laws.StructEq
import Derived.Deep.DeepCutAuto
import Derived.Test.YtndhiemagankeaaGreatDoorG02
/- The walks of package time: locations. -/
namespace Go.Proofs.YtndhiemagankeaaGreatDoor
open Go.RowKit
set_option linter.unusedVariables false
set_option linter.unusedSimpArgs false
attribute [local simp] bs_size bs_toList bs_append bs_data bs_extract
def utcZ : Zn := { name := utcB, off := 0 }
/-- A location that is UTC; one of a fixed zone. -/
def UtcAt (w : World) (v : Value) : Prop :=
  ∃ b, v = .pointer (some ⟨b, 0, none⟩) ∧ b < w.heap.size ∧ w.cell? ⟨b, 0, none⟩ = some (.bool true) ∧ w.cell? ⟨b, 2, none⟩ = some (.slice none 0 0)
def FixAt (w : World) (v : Value) (z : Zn) : Prop :=
  ∃ b g, v = .pointer (some ⟨b, 0, none⟩) ∧ b < w.heap.size ∧ g < w.heap.size ∧ w.cell? ⟨b, 0, none⟩ = some (.bool false) ∧ w.cell? ⟨b, 2, none⟩ = some (.slice (some ⟨g, 0, none⟩) 1 1) ∧
    w.cell? ⟨b, 5, none⟩ = some (.int .i64 (-9223372036854775808)) ∧ w.cell? ⟨b, 6, none⟩ = some (.int .i64 9223372036854775807) ∧ w.cell? ⟨b, 7, none⟩ = some (.pointer (some ⟨g, 0, none⟩)) ∧
    w.cell? ⟨g, 0, none⟩ = some (S z.name) ∧ w.cell? ⟨g, 1, none⟩ = some (.int .i64 z.off) ∧ w.cell? ⟨g, 2, none⟩ = some (.bool false)
/-- A location that is not nil; a time's location, where nil is UTC. -/
def LocAt (w : World) (v : Value) (z : Zn) : Prop := (z = utcZ ∧ UtcAt w v) ∨ FixAt w v z
def TimeLoc (w : World) (v : Value) (z : Zn) : Prop := (z = utcZ ∧ v = .pointer none) ∨ FixAt w v z
theorem UtcAt.below {w w' : World} {v : Value} (h : UtcAt w v) (hb : Below w.heap.size w w') : UtcAt w' v := by
  obtain ⟨b, rfl, h1, h2, h3⟩ := h
  have hc : ∀ o, w'.cell? ⟨b, o, none⟩ = w.cell? ⟨b, o, none⟩ := fun o => hb.cell (p := ⟨b, o, none⟩) h1
  exact ⟨b, rfl, Nat.lt_of_lt_of_le h1 hb.size, by rw [hc]; exact h2, by rw [hc]; exact h3⟩
theorem FixAt.below {w w' : World} {v : Value} {z : Zn} (h : FixAt w v z) (hb : Below w.heap.size w w') : FixAt w' v z := by
  obtain ⟨b, g, rfl, h1, h1', h2, h3, h4, h5, h6, h7, h8, h9⟩ := h
  have hc : ∀ o, w'.cell? ⟨b, o, none⟩ = w.cell? ⟨b, o, none⟩ := fun o => hb.cell (p := ⟨b, o, none⟩) h1
  have hg : ∀ o, w'.cell? ⟨g, o, none⟩ = w.cell? ⟨g, o, none⟩ := fun o => hb.cell (p := ⟨g, o, none⟩) h1'
  exact ⟨b, g, rfl, Nat.lt_of_lt_of_le h1 hb.size, Nat.lt_of_lt_of_le h1' hb.size, by rw [hc]; exact h2, by rw [hc]; exact h3, by rw [hc]; exact h4, by rw [hc]; exact h5, by rw [hc]; exact h6, by rw [hg]; exact h7, by rw [hg]; exact h8, by rw [hg]; exact h9⟩
theorem LocAt.below {w w' : World} {v : Value} {z : Zn} (h : LocAt w v z) (hb : Below w.heap.size w w') : LocAt w' v z := by
  rcases h with ⟨e, h⟩ | h
  · exact .inl ⟨e, h.below hb⟩
  · exact .inr (h.below hb)
theorem TimeLoc.below {w w' : World} {v : Value} {z : Zn} (h : TimeLoc w v z) (hb : Below w.heap.size w w') : TimeLoc w' v z := by
  rcases h with ⟨e, h⟩ | h
  · exact .inl ⟨e, h⟩
  · exact .inr (h.below hb)
theorem utc_c (w : World) : Calls Tryz.prog 70 #[] w fun e w' => (∃ v, e = .returned v ∧ UtcAt w' v) ∧ Below w.heap.size w w' := by
  go_enter Tryz.func70, Tryz.ntmps70
  go_wp2
  go_ret
  exact ⟨⟨_, rfl, w.heap.size, rfl, by simp, by simp, by simp⟩, below_new _ _⟩
theorem get_c (b : Nat) (w : World) : Calls Tryz.prog 119 #[.pointer (some ⟨b, 0, none⟩)] w fun e w' => e = .returned (.pointer (some ⟨b, 0, none⟩)) ∧ w' = w := by
  go_enter Tryz.func119, Tryz.ntmps119
  go_wp2
  go_ret
  exact ⟨rfl, rfl⟩
theorem get_nil_c (w : World) : Calls Tryz.prog 119 #[.pointer none] w fun e w' => (∃ v, e = .returned v ∧ UtcAt w' v) ∧ Below w.heap.size w w' := by
  go_enter Tryz.func119, Tryz.ntmps119
  go_wp2_with (go_at_call 70; refine (utc_c _).mono ?_; rintro e w1 ⟨⟨v, rfl, hv⟩, hb⟩)
  go_ret
  exact ⟨⟨_, rfl, hv⟩, hb⟩
set_option maxHeartbeats 1000000 in
theorem fixedZone_c (z : Zn) (w : World) : Calls Tryz.prog 112 #[S z.name, .int .i64 z.off] w fun e w' => (∃ v, e = .returned v ∧ FixAt w' v z) ∧ Below w.heap.size w w' := by
  go_enter Tryz.func112, Tryz.ntmps112
  go_wp2
  go_ret
  refine ⟨⟨_, rfl, w.heap.size + 2, w.heap.size, by simp, by simp, by simp; omega, ?_, ?_, ?_, ?_, ?_, ?_, ?_, ?_⟩, ?_⟩
  all_goals first
    | exact below_next (below_next (below_new _ _) (below_new _ _)) (below_new _ _)
    | (simp [go_sem]; done)
    | (simp [go_sem, World.cell?, World.alloc]; done)
theorem FixedZone_c (z : Zn) (w : World) : Calls Tryz.prog 71 #[S z.name, .int .i64 z.off] w fun e w' => (∃ v, e = .returned v ∧ FixAt w' v z) ∧ Below w.heap.size w w' := by
  go_enter Tryz.func71, Tryz.ntmps71
  go_wp2_with (go_at_call 112; refine (fixedZone_c z _).mono ?_; rintro e w1 ⟨⟨v, rfl, hv⟩, hb⟩)
  go_ret
  exact ⟨⟨_, rfl, hv⟩, hb⟩
/-- What 'lookup' tells of a zone. -/
def zoneTuple (z : Zn) : Value := .tuple #[S z.name, .int .i64 z.off, .int .i64 (-9223372036854775808), .int .i64 9223372036854775807, .bool false]
set_option maxRecDepth 100000 in
set_option maxHeartbeats 1000000 in
theorem lookup_utc (v : Value) (sec : Int) (w : World) (H : UtcAt w v) : Calls Tryz.prog 81 #[v, .int .i64 sec] w fun e w' => e = .returned (zoneTuple utcZ) ∧ w' = w := by
  obtain ⟨b, rfl, h1, h2, h3⟩ := H
  go_enter Tryz.func81, Tryz.ntmps81
  go_wp2_with (go_at_call 119; refine (get_c _ _).mono ?_; rintro e w' ⟨rfl, rfl⟩)
  refine bodyPost_ret (v := zoneTuple utcZ) (by simp [results, Tryz.results81, go_sem, zoneTuple, utcZ, utcB, bs]) rfl ⟨rfl, rfl⟩
set_option maxRecDepth 100000 in
set_option maxHeartbeats 1000000 in
theorem lookup_fix (v : Value) (z : Zn) (sec : Int) (w : World) (H : FixAt w v z) (s0 : -9223372036854775808 ≤ sec) (s1 : sec < 9223372036854775807) : Calls Tryz.prog 81 #[v, .int .i64 sec] w fun e w' => e = .returned (zoneTuple z) ∧ w' = w := by
  obtain ⟨b, g, rfl, h1, h1', h2, h3, h4, h5, h6, h7, h8, h9⟩ := H
  go_enter Tryz.func81, Tryz.ntmps81
  go_wp2_with (go_at_call 119; refine (get_c _ _).mono ?_; rintro e w' ⟨rfl, rfl⟩)
  refine bodyPost_ret (v := zoneTuple z) (by simp [results, Tryz.results81, go_sem, zoneTuple]) rfl ⟨rfl, rfl⟩
theorem lookup_c2 (v : Value) (z : Zn) (sec : Int) (w : World) (H : LocAt w v z) (s0 : -9223372036854775808 ≤ sec) (s1 : sec < 9223372036854775807) : Calls Tryz.prog 81 #[v, .int .i64 sec] w fun e w' => e = .returned (zoneTuple z) ∧ w' = w := by
  rcases H with ⟨rfl, h⟩ | h
  · exact lookup_utc v sec w h
  · exact lookup_fix v z sec w h s0 s1
set_option maxRecDepth 100000 in
set_option maxHeartbeats 1000000 in
theorem lookup_nil (sec : Int) (w : World) : Calls Tryz.prog 81 #[.pointer none, .int .i64 sec] w fun e w' => e = .returned (zoneTuple utcZ) ∧ Below w.heap.size w w' := by
  go_enter Tryz.func81, Tryz.ntmps81
  go_upto_region 2 with (go_at_call 119; refine (get_nil_c _).mono ?_; rintro e w1 ⟨⟨v, rfl, hv⟩, hb⟩)
  obtain ⟨b, rfl, h1, h2, h3⟩ := hv
  go_wp2_with fail
  refine bodyPost_ret (v := zoneTuple utcZ) (by simp [results, Tryz.results81, go_sem, zoneTuple, utcZ, utcB, bs]) rfl ⟨rfl, hb⟩
theorem lookup_t (v : Value) (z : Zn) (sec : Int) (w : World) (H : TimeLoc w v z) (s0 : -9223372036854775808 ≤ sec) (s1 : sec < 9223372036854775807) : Calls Tryz.prog 81 #[v, .int .i64 sec] w fun e w' => e = .returned (zoneTuple z) ∧ Below w.heap.size w w' := by
  rcases H with ⟨rfl, rfl⟩ | h
  · exact lookup_nil sec w
  · exact (lookup_fix v z sec w h s0 s1).mono fun _ _ ⟨h1, h2⟩ => ⟨h1, by rw [h2]; exact Below.refl _ _⟩
theorem place_c (z : Zn) (w : World) (hz : z.name = utcB → z.off = 0) : Calls Tryz.prog 39 #[z.val] w fun e w' => (∃ v, e = .returned v ∧ LocAt w' v z) ∧ Below w.heap.size w w' := by
  have HF : Hid (∀ w, Calls Tryz.prog 71 #[S z.name, .int .i64 z.off] w fun e w' => (∃ v, e = .returned v ∧ FixAt w' v z) ∧ Below w.heap.size w w') := fun w => FixedZone_c z w
  unfold Zn.val
  by_cases e : z.name = utcB
  · have e0 := hz e
    have hzz : z = utcZ := by cases z; simp [utcZ] at *; exact ⟨e, e0⟩
    subst hzz
    clear e e0 hz HF
    go_enter Tryz.func39, Tryz.ntmps39
    go_wp2_with (go_at_call 70; refine (utc_c _).mono ?_; rintro e w1 ⟨⟨v, rfl, hv⟩, hb⟩)
    go_ret
    exact ⟨⟨_, rfl, .inl ⟨rfl, hv⟩⟩, below_next (below_new _ _) hb⟩
  · have e' : (z.name == [85, 84, 67]) = false := by simpa [utcB] using e
    clear e hz
    go_enter Tryz.func39, Tryz.ntmps39
    go_wp2_with (go_at_call 71; refine (HF.out _).mono ?_; rintro e w1 ⟨⟨v, rfl, hv⟩, hb⟩)
    go_ret
    exact ⟨⟨_, rfl, .inr hv⟩, below_next (below_new _ _) hb⟩
end Go.Proofs.YtndhiemagankeaaGreatDoor
