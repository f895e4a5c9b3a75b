/-
  FnLayout (the statement: for every list of pieces, every time and every zone the call returns true, and its arguments read afterwards as they did), part 11 of 41. In this part: The walk of package time: a place's offset by its name.
-/
import Derived.LoopN
import Derived.Test.YtndhiemagankeaaGreatDoorG09
/- The walk of package time: a place's offset by its name. -/
namespace Go.Proofs.YtndhiemagankeaaGreatDoor
open Go.RowKit
set_option linter.unusedSimpArgs false
set_option linter.unusedVariables false
attribute [local simp] bs_size bs_toList bs_append bs_data bs_extract
theorem lookupName_utc (v : Value) (nm : Bytes) (sec : Int) (w : World) (H : UtcAt w v) : Calls Tryz.prog 111 #[v, S nm, .int .i64 sec] w fun e w' => e = .returned (.tuple #[.int .i64 0, .bool false]) ∧ w' = w := by
  obtain ⟨b, rfl, h1, h2, h3⟩ := H
  go_enter Tryz.func111, Tryz.ntmps111
  go_wp2_with (go_at_call 119; refine (get_c _ _).mono ?_; rintro e w' ⟨rfl, rfl⟩)
  refine wp_loop_rounds 1 ?_
  rw [rounds_succ]
  go_wp2_with fail
  refine wp_loop_rounds 1 ?_
  rw [rounds_succ]
  go_wp2_with fail
  go_ret2
  exact ⟨rfl, rfl⟩
set_option maxRecDepth 100000 in
theorem lookupName_hit (v : Value) (z : Zn) (sec : Int) (w : World) (H : FixAt w v z) (o0 : -86399 ≤ z.off) (o1 : z.off ≤ 86399) (s0 : -1000000000000 ≤ sec) (s1 : sec ≤ 1000000000000) : Calls Tryz.prog 111 #[v, S z.name, .int .i64 sec] w fun e w' => e = .returned (.tuple #[.int .i64 z.off, .bool true]) ∧ w' = w := by
  have HL : Hid (∀ sec, -9223372036854775808 ≤ sec → sec < 9223372036854775807 → Calls Tryz.prog 81 #[v, .int .i64 sec] w fun e w' => e = .returned (zoneTuple z) ∧ w' = w) := fun sec a b => lookup_fix v z sec w H a b
  obtain ⟨b, g, rfl, h1, h1', h2, h3, h4, h5, h6, h7, h8, h9⟩ := H
  go_enter Tryz.func111, Tryz.ntmps111
  go_wp2_with (go_at_call 119; refine (get_c _ _).mono ?_; rintro e w' ⟨rfl, rfl⟩)
  refine wp_loop_rounds 2 ?_
  rw [rounds_succ]
  go_wp2_with (go_at_call 81; refine (HL.out _ (by omega) (by omega)).mono ?_; rintro e w' ⟨rfl, rfl⟩; unfold zoneTuple)
  go_ret2
  exact ⟨rfl, rfl⟩
set_option maxRecDepth 100000 in
theorem lookupName_miss (v : Value) (z : Zn) (nm : Bytes) (sec : Int) (w : World) (H : FixAt w v z) (hn : (z.name == nm) = false) : Calls Tryz.prog 111 #[v, S nm, .int .i64 sec] w fun e w' => e = .returned (.tuple #[.int .i64 0, .bool false]) ∧ w' = w := by
  obtain ⟨b, g, rfl, h1, h1', h2, h3, h4, h5, h6, h7, h8, h9⟩ := H
  go_enter Tryz.func111, Tryz.ntmps111
  go_wp2_with (go_at_call 119; refine (get_c _ _).mono ?_; rintro e w' ⟨rfl, rfl⟩)
  refine wp_loop_rounds 2 ?_
  rw [rounds_succ]
  go_wp2_with fail
  rw [rounds_succ]
  go_wp2_with fail
  refine wp_loop_rounds 2 ?_
  rw [rounds_succ]
  go_wp2_with fail
  rw [rounds_succ]
  go_wp2_with fail
  go_ret2
  exact ⟨rfl, rfl⟩
theorem lookupName_no (v : Value) (z : Zn) (nm : Bytes) (sec : Int) (w : World) (H : LocAt w v z) (hn : (z.name == nm) = false) : Calls Tryz.prog 111 #[v, S nm, .int .i64 sec] w fun e w' => e = .returned (.tuple #[.int .i64 0, .bool false]) ∧ w' = w := by
  rcases H with ⟨-, H⟩ | H
  · exact lookupName_utc v nm sec w H
  · exact lookupName_miss v z nm sec w H hn
end Go.Proofs.YtndhiemagankeaaGreatDoor
