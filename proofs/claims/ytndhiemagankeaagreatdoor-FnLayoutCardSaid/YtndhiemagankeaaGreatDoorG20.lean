/-
  FnLayout (the statement: for every list of pieces, every time and every zone the call returns true, and its arguments read afterwards as they did), part 20 of 41. In this part: The walks of the reference: what pieces tell of a time; whether two times are the same; the text of all pieces.
-/
import Derived.StillTailTactics
import Derived.Deep.RegionWith
import Derived.Test.YtndhiemagankeaaGreatDoorG17
/- The walks of the reference: what pieces tell of a time; whether two times are the same; the text of all pieces. -/
namespace Go.Proofs.YtndhiemagankeaaGreatDoor
open Go.RowKit
set_option linter.unusedVariables false
set_option linter.unusedSimpArgs false
attribute [local simp] bs_size bs_toList bs_append bs_data bs_extract
set_option maxRecDepth 100000 in
set_option maxHeartbeats 3000000 in
theorem told_c (v : Value) (ps : List Pc) (c : Civ) (z : Zn) (w : World) (H : PcsAt w v ps) (hn : ps.length ≤ 2147483647) (hd : 0 ≤ digitsN ps ∧ digitsN ps ≤ 9) (f0 : 0 ≤ c.nano) (f1 : c.nano ≤ 999999999) :
    Calls Tryz.prog 19 #[v, c.val, z.val] w fun e w' => e = .returned (told ps c z).val ∧ Below w.heap.size w w' := by
  have HP : Hid (∀ o1 o2 o3 o4, PcsAt ((((w.alloc o1).alloc o2).alloc o3).alloc o4) v ps) := fun o1 o2 o3 o4 => H.below (below_next (below_next (below_next (below_new _ _) (below_new _ _)) (below_new _ _)) (below_new _ _))
  have HP2 : Hid (∀ o1 o2 o3 o4, PcsAt ((((w.alloc o1).alloc o2).alloc o3).alloc o4).drew v ps) := fun o1 o2 o3 o4 => (HP.out o1 o2 o3 o4).below (below_drew _)
  have HP3 : Hid (∀ o1 o2 o3 o4 n, PcsAt (((((w.alloc o1).alloc o2).alloc o3).alloc o4).drewN n) v ps) := fun o1 o2 o3 o4 n => (HP.out o1 o2 o3 o4).below (below_drewN _ n)
  have HB : Hid (∀ o1 o2 o3 o4, Below w.heap.size w ((((w.alloc o1).alloc o2).alloc o3).alloc o4)) := fun o1 o2 o3 o4 => below_next (below_next (below_next (below_new _ _) (below_new _ _)) (below_new _ _)) (below_new _ _)
  obtain ⟨hd0, hd9⟩ := hd
  have HSC : Hid (∀ (x : World) (p : Addr) (u : Value), w.heap.size ≤ p.block → Below w.heap.size w x → Below w.heap.size w (x.setCell p u)) := fun x p u hp h => h.setCell hp u
  have HSC : Hid (∀ (x : World) (p : Addr) (u : Value), w.heap.size ≤ p.block → Below w.heap.size w x → Below w.heap.size w (x.setCell p u)) := fun x p u hp h => h.setCell hp u
  have HC : Hid (∀ w, Calls Tryz.prog 45 #[.int .i64 c.nano, .int .i64 (digitsN ps)] w fun e w' => e = .returned (.int .i64 (cut c.nano (digitsN ps).toNat)) ∧ w = w') := by
    show ∀ w, _
    intro w
    obtain ⟨d, hd⟩ := Int.eq_ofNat_of_zero_le hd0
    rw [hd, Int.toNat_natCast]
    exact cut_c c.nano d w (by omega) f0 f1
  unfold Civ.val Zn.val
  go_enter Tryz.func19, Tryz.ntmps19
  go_upto_if 11 with (first | (go_at_call 36; refine (hYear_c _ _ _ (HP.out _ _ _ _) hn).mono ?_; rintro e w' ⟨rfl, rfl⟩) | (go_at_call 41; refine (hMonth_c _ _ _ (HP.out _ _ _ _) hn).mono ?_; rintro e w' ⟨rfl, rfl⟩) | (go_at_call 42; refine (hDay_c _ _ _ (HP.out _ _ _ _) hn).mono ?_; rintro e w' ⟨rfl, rfl⟩) | (go_at_call 35; refine (hYearDay_c _ _ _ (HP.out _ _ _ _) hn).mono ?_; rintro e w' ⟨rfl, rfl⟩) | (go_at_call 34; refine (hHour_c _ _ _ (HP.out _ _ _ _) hn).mono ?_; rintro e w' ⟨rfl, rfl⟩) | (go_at_call 43; refine (hMinute_c _ _ _ (HP.out _ _ _ _) hn).mono ?_; rintro e w' ⟨rfl, rfl⟩) | (go_at_call 44; refine (hSecond_c _ _ _ (HP.out _ _ _ _) hn).mono ?_; rintro e w' ⟨rfl, rfl⟩))
  go_cut [] (fun w' => ∃ x0 : Int, Hid (x0 = if anyK ps 1 2 = true then c.year else 0) ∧ w' = ((((w.alloc (.cells #[.int .i64 c.year, .int .i64 c.month, .int .i64 c.day, .int .i64 c.hour, .int .i64 c.minute, .int .i64 c.second, .int .i64 c.nano, S c.zone.name, .int .i64 c.zone.off] 26)).alloc (.cells #[S z.name, .int .i64 z.off] 24)).alloc (.cells #[.int .i64 0, .int .i64 0, .int .i64 0, .int .i64 0, .int .i64 0, .int .i64 0, .int .i64 0, .string ⟨#[]⟩, .int .i64 0] 26)).alloc (.cells #[.int .i64 x0, .int .i64 1, .int .i64 1, .int .i64 0, .int .i64 0, .int .i64 0, .int .i64 0, S z.name, .int .i64 z.off] 26)))
  case first =>
    go_wp2_with (first | (go_at_call 36; refine (hYear_c _ _ _ (HP.out _ _ _ _) hn).mono ?_; rintro e w' ⟨rfl, rfl⟩) | (go_at_call 41; refine (hMonth_c _ _ _ (HP.out _ _ _ _) hn).mono ?_; rintro e w' ⟨rfl, rfl⟩) | (go_at_call 42; refine (hDay_c _ _ _ (HP.out _ _ _ _) hn).mono ?_; rintro e w' ⟨rfl, rfl⟩) | (go_at_call 35; refine (hYearDay_c _ _ _ (HP.out _ _ _ _) hn).mono ?_; rintro e w' ⟨rfl, rfl⟩) | (go_at_call 34; refine (hHour_c _ _ _ (HP.out _ _ _ _) hn).mono ?_; rintro e w' ⟨rfl, rfl⟩) | (go_at_call 43; refine (hMinute_c _ _ _ (HP.out _ _ _ _) hn).mono ?_; rintro e w' ⟨rfl, rfl⟩) | (go_at_call 44; refine (hSecond_c _ _ _ (HP.out _ _ _ _) hn).mono ?_; rintro e w' ⟨rfl, rfl⟩))
    all_goals
      go_meet
      case rel => exact ⟨_, by show _ = _; simp [*], rfl⟩
  case rest =>
    obtain ⟨x0, HX0, rfl⟩ := hcut
    go_upto_region 4 with (first | (go_at_call 36; refine (hYear_c _ _ _ (HP.out _ _ _ _) hn).mono ?_; rintro e w' ⟨rfl, rfl⟩) | (go_at_call 41; refine (hMonth_c _ _ _ (HP.out _ _ _ _) hn).mono ?_; rintro e w' ⟨rfl, rfl⟩) | (go_at_call 42; refine (hDay_c _ _ _ (HP.out _ _ _ _) hn).mono ?_; rintro e w' ⟨rfl, rfl⟩) | (go_at_call 35; refine (hYearDay_c _ _ _ (HP.out _ _ _ _) hn).mono ?_; rintro e w' ⟨rfl, rfl⟩) | (go_at_call 34; refine (hHour_c _ _ _ (HP.out _ _ _ _) hn).mono ?_; rintro e w' ⟨rfl, rfl⟩) | (go_at_call 43; refine (hMinute_c _ _ _ (HP.out _ _ _ _) hn).mono ?_; rintro e w' ⟨rfl, rfl⟩) | (go_at_call 44; refine (hSecond_c _ _ _ (HP.out _ _ _ _) hn).mono ?_; rintro e w' ⟨rfl, rfl⟩))
    go_cut [20] (fun s20 w' => s20 = .bool (anyK ps 3 6 || anyK ps 12 13) ∧ w' = ((((w.alloc (.cells #[.int .i64 c.year, .int .i64 c.month, .int .i64 c.day, .int .i64 c.hour, .int .i64 c.minute, .int .i64 c.second, .int .i64 c.nano, S c.zone.name, .int .i64 c.zone.off] 26)).alloc (.cells #[S z.name, .int .i64 z.off] 24)).alloc (.cells #[.int .i64 0, .int .i64 0, .int .i64 0, .int .i64 0, .int .i64 0, .int .i64 0, .int .i64 0, .string ⟨#[]⟩, .int .i64 0] 26)).alloc (.cells #[.int .i64 x0, .int .i64 1, .int .i64 1, .int .i64 0, .int .i64 0, .int .i64 0, .int .i64 0, S z.name, .int .i64 z.off] 26)))
    case first =>
      go_wp2_with (first | (go_at_call 36; refine (hYear_c _ _ _ (HP.out _ _ _ _) hn).mono ?_; rintro e w' ⟨rfl, rfl⟩) | (go_at_call 41; refine (hMonth_c _ _ _ (HP.out _ _ _ _) hn).mono ?_; rintro e w' ⟨rfl, rfl⟩) | (go_at_call 42; refine (hDay_c _ _ _ (HP.out _ _ _ _) hn).mono ?_; rintro e w' ⟨rfl, rfl⟩) | (go_at_call 35; refine (hYearDay_c _ _ _ (HP.out _ _ _ _) hn).mono ?_; rintro e w' ⟨rfl, rfl⟩) | (go_at_call 34; refine (hHour_c _ _ _ (HP.out _ _ _ _) hn).mono ?_; rintro e w' ⟨rfl, rfl⟩) | (go_at_call 43; refine (hMinute_c _ _ _ (HP.out _ _ _ _) hn).mono ?_; rintro e w' ⟨rfl, rfl⟩) | (go_at_call 44; refine (hSecond_c _ _ _ (HP.out _ _ _ _) hn).mono ?_; rintro e w' ⟨rfl, rfl⟩))
      all_goals
        go_meet
        case rel => exact ⟨by simp [*], rfl⟩
    case rest =>
      obtain ⟨rfl, rfl⟩ := hcut
      go_upto_if 20 with (first | (go_at_call 36; refine (hYear_c _ _ _ (HP.out _ _ _ _) hn).mono ?_; rintro e w' ⟨rfl, rfl⟩) | (go_at_call 41; refine (hMonth_c _ _ _ (HP.out _ _ _ _) hn).mono ?_; rintro e w' ⟨rfl, rfl⟩) | (go_at_call 42; refine (hDay_c _ _ _ (HP.out _ _ _ _) hn).mono ?_; rintro e w' ⟨rfl, rfl⟩) | (go_at_call 35; refine (hYearDay_c _ _ _ (HP.out _ _ _ _) hn).mono ?_; rintro e w' ⟨rfl, rfl⟩) | (go_at_call 34; refine (hHour_c _ _ _ (HP.out _ _ _ _) hn).mono ?_; rintro e w' ⟨rfl, rfl⟩) | (go_at_call 43; refine (hMinute_c _ _ _ (HP.out _ _ _ _) hn).mono ?_; rintro e w' ⟨rfl, rfl⟩) | (go_at_call 44; refine (hSecond_c _ _ _ (HP.out _ _ _ _) hn).mono ?_; rintro e w' ⟨rfl, rfl⟩))
      go_cut [] (fun w' => ∃ x1 : Int, Hid (x1 = if (anyK ps 3 6 || anyK ps 12 13) = true then c.month else 1) ∧ w' = ((((w.alloc (.cells #[.int .i64 c.year, .int .i64 c.month, .int .i64 c.day, .int .i64 c.hour, .int .i64 c.minute, .int .i64 c.second, .int .i64 c.nano, S c.zone.name, .int .i64 c.zone.off] 26)).alloc (.cells #[S z.name, .int .i64 z.off] 24)).alloc (.cells #[.int .i64 0, .int .i64 0, .int .i64 0, .int .i64 0, .int .i64 0, .int .i64 0, .int .i64 0, .string ⟨#[]⟩, .int .i64 0] 26)).alloc (.cells #[.int .i64 x0, .int .i64 x1, .int .i64 1, .int .i64 0, .int .i64 0, .int .i64 0, .int .i64 0, S z.name, .int .i64 z.off] 26)))
      case first =>
        go_wp2_with (first | (go_at_call 36; refine (hYear_c _ _ _ (HP.out _ _ _ _) hn).mono ?_; rintro e w' ⟨rfl, rfl⟩) | (go_at_call 41; refine (hMonth_c _ _ _ (HP.out _ _ _ _) hn).mono ?_; rintro e w' ⟨rfl, rfl⟩) | (go_at_call 42; refine (hDay_c _ _ _ (HP.out _ _ _ _) hn).mono ?_; rintro e w' ⟨rfl, rfl⟩) | (go_at_call 35; refine (hYearDay_c _ _ _ (HP.out _ _ _ _) hn).mono ?_; rintro e w' ⟨rfl, rfl⟩) | (go_at_call 34; refine (hHour_c _ _ _ (HP.out _ _ _ _) hn).mono ?_; rintro e w' ⟨rfl, rfl⟩) | (go_at_call 43; refine (hMinute_c _ _ _ (HP.out _ _ _ _) hn).mono ?_; rintro e w' ⟨rfl, rfl⟩) | (go_at_call 44; refine (hSecond_c _ _ _ (HP.out _ _ _ _) hn).mono ?_; rintro e w' ⟨rfl, rfl⟩))
        all_goals
          go_meet
          case rel => exact ⟨_, by show _ = _; simp [*], rfl⟩
      case rest =>
        obtain ⟨x1, HX1, rfl⟩ := hcut
        go_upto_region 6 with (first | (go_at_call 36; refine (hYear_c _ _ _ (HP.out _ _ _ _) hn).mono ?_; rintro e w' ⟨rfl, rfl⟩) | (go_at_call 41; refine (hMonth_c _ _ _ (HP.out _ _ _ _) hn).mono ?_; rintro e w' ⟨rfl, rfl⟩) | (go_at_call 42; refine (hDay_c _ _ _ (HP.out _ _ _ _) hn).mono ?_; rintro e w' ⟨rfl, rfl⟩) | (go_at_call 35; refine (hYearDay_c _ _ _ (HP.out _ _ _ _) hn).mono ?_; rintro e w' ⟨rfl, rfl⟩) | (go_at_call 34; refine (hHour_c _ _ _ (HP.out _ _ _ _) hn).mono ?_; rintro e w' ⟨rfl, rfl⟩) | (go_at_call 43; refine (hMinute_c _ _ _ (HP.out _ _ _ _) hn).mono ?_; rintro e w' ⟨rfl, rfl⟩) | (go_at_call 44; refine (hSecond_c _ _ _ (HP.out _ _ _ _) hn).mono ?_; rintro e w' ⟨rfl, rfl⟩))
        go_cut [29] (fun s29 w' => s29 = .bool (anyK ps 9 11 || anyK ps 12 13) ∧ w' = ((((w.alloc (.cells #[.int .i64 c.year, .int .i64 c.month, .int .i64 c.day, .int .i64 c.hour, .int .i64 c.minute, .int .i64 c.second, .int .i64 c.nano, S c.zone.name, .int .i64 c.zone.off] 26)).alloc (.cells #[S z.name, .int .i64 z.off] 24)).alloc (.cells #[.int .i64 0, .int .i64 0, .int .i64 0, .int .i64 0, .int .i64 0, .int .i64 0, .int .i64 0, .string ⟨#[]⟩, .int .i64 0] 26)).alloc (.cells #[.int .i64 x0, .int .i64 x1, .int .i64 1, .int .i64 0, .int .i64 0, .int .i64 0, .int .i64 0, S z.name, .int .i64 z.off] 26)))
        case first =>
          go_wp2_with (first | (go_at_call 36; refine (hYear_c _ _ _ (HP.out _ _ _ _) hn).mono ?_; rintro e w' ⟨rfl, rfl⟩) | (go_at_call 41; refine (hMonth_c _ _ _ (HP.out _ _ _ _) hn).mono ?_; rintro e w' ⟨rfl, rfl⟩) | (go_at_call 42; refine (hDay_c _ _ _ (HP.out _ _ _ _) hn).mono ?_; rintro e w' ⟨rfl, rfl⟩) | (go_at_call 35; refine (hYearDay_c _ _ _ (HP.out _ _ _ _) hn).mono ?_; rintro e w' ⟨rfl, rfl⟩) | (go_at_call 34; refine (hHour_c _ _ _ (HP.out _ _ _ _) hn).mono ?_; rintro e w' ⟨rfl, rfl⟩) | (go_at_call 43; refine (hMinute_c _ _ _ (HP.out _ _ _ _) hn).mono ?_; rintro e w' ⟨rfl, rfl⟩) | (go_at_call 44; refine (hSecond_c _ _ _ (HP.out _ _ _ _) hn).mono ?_; rintro e w' ⟨rfl, rfl⟩))
          all_goals
            go_meet
            case rel => exact ⟨by simp [*], rfl⟩
        case rest =>
          obtain ⟨rfl, rfl⟩ := hcut
          go_upto_if 29 with (first | (go_at_call 36; refine (hYear_c _ _ _ (HP.out _ _ _ _) hn).mono ?_; rintro e w' ⟨rfl, rfl⟩) | (go_at_call 41; refine (hMonth_c _ _ _ (HP.out _ _ _ _) hn).mono ?_; rintro e w' ⟨rfl, rfl⟩) | (go_at_call 42; refine (hDay_c _ _ _ (HP.out _ _ _ _) hn).mono ?_; rintro e w' ⟨rfl, rfl⟩) | (go_at_call 35; refine (hYearDay_c _ _ _ (HP.out _ _ _ _) hn).mono ?_; rintro e w' ⟨rfl, rfl⟩) | (go_at_call 34; refine (hHour_c _ _ _ (HP.out _ _ _ _) hn).mono ?_; rintro e w' ⟨rfl, rfl⟩) | (go_at_call 43; refine (hMinute_c _ _ _ (HP.out _ _ _ _) hn).mono ?_; rintro e w' ⟨rfl, rfl⟩) | (go_at_call 44; refine (hSecond_c _ _ _ (HP.out _ _ _ _) hn).mono ?_; rintro e w' ⟨rfl, rfl⟩))
          go_cut [] (fun w' => ∃ x2 : Int, Hid (x2 = if (anyK ps 9 11 || anyK ps 12 13) = true then c.day else 1) ∧ w' = ((((w.alloc (.cells #[.int .i64 c.year, .int .i64 c.month, .int .i64 c.day, .int .i64 c.hour, .int .i64 c.minute, .int .i64 c.second, .int .i64 c.nano, S c.zone.name, .int .i64 c.zone.off] 26)).alloc (.cells #[S z.name, .int .i64 z.off] 24)).alloc (.cells #[.int .i64 0, .int .i64 0, .int .i64 0, .int .i64 0, .int .i64 0, .int .i64 0, .int .i64 0, .string ⟨#[]⟩, .int .i64 0] 26)).alloc (.cells #[.int .i64 x0, .int .i64 x1, .int .i64 x2, .int .i64 0, .int .i64 0, .int .i64 0, .int .i64 0, S z.name, .int .i64 z.off] 26)))
          case first =>
            go_wp2_with (first | (go_at_call 36; refine (hYear_c _ _ _ (HP.out _ _ _ _) hn).mono ?_; rintro e w' ⟨rfl, rfl⟩) | (go_at_call 41; refine (hMonth_c _ _ _ (HP.out _ _ _ _) hn).mono ?_; rintro e w' ⟨rfl, rfl⟩) | (go_at_call 42; refine (hDay_c _ _ _ (HP.out _ _ _ _) hn).mono ?_; rintro e w' ⟨rfl, rfl⟩) | (go_at_call 35; refine (hYearDay_c _ _ _ (HP.out _ _ _ _) hn).mono ?_; rintro e w' ⟨rfl, rfl⟩) | (go_at_call 34; refine (hHour_c _ _ _ (HP.out _ _ _ _) hn).mono ?_; rintro e w' ⟨rfl, rfl⟩) | (go_at_call 43; refine (hMinute_c _ _ _ (HP.out _ _ _ _) hn).mono ?_; rintro e w' ⟨rfl, rfl⟩) | (go_at_call 44; refine (hSecond_c _ _ _ (HP.out _ _ _ _) hn).mono ?_; rintro e w' ⟨rfl, rfl⟩))
            all_goals
              go_meet
              case rel => exact ⟨_, by show _ = _; simp [*], rfl⟩
          case rest =>
            obtain ⟨x2, HX2, rfl⟩ := hcut
            go_upto_if 34 with (first | (go_at_call 36; refine (hYear_c _ _ _ (HP.out _ _ _ _) hn).mono ?_; rintro e w' ⟨rfl, rfl⟩) | (go_at_call 41; refine (hMonth_c _ _ _ (HP.out _ _ _ _) hn).mono ?_; rintro e w' ⟨rfl, rfl⟩) | (go_at_call 42; refine (hDay_c _ _ _ (HP.out _ _ _ _) hn).mono ?_; rintro e w' ⟨rfl, rfl⟩) | (go_at_call 35; refine (hYearDay_c _ _ _ (HP.out _ _ _ _) hn).mono ?_; rintro e w' ⟨rfl, rfl⟩) | (go_at_call 34; refine (hHour_c _ _ _ (HP.out _ _ _ _) hn).mono ?_; rintro e w' ⟨rfl, rfl⟩) | (go_at_call 43; refine (hMinute_c _ _ _ (HP.out _ _ _ _) hn).mono ?_; rintro e w' ⟨rfl, rfl⟩) | (go_at_call 44; refine (hSecond_c _ _ _ (HP.out _ _ _ _) hn).mono ?_; rintro e w' ⟨rfl, rfl⟩))
            go_cut [] (fun w' => ∃ x3 : Int, Hid (x3 = if anyK ps 14 16 = true then c.hour else 0) ∧ w' = ((((w.alloc (.cells #[.int .i64 c.year, .int .i64 c.month, .int .i64 c.day, .int .i64 c.hour, .int .i64 c.minute, .int .i64 c.second, .int .i64 c.nano, S c.zone.name, .int .i64 c.zone.off] 26)).alloc (.cells #[S z.name, .int .i64 z.off] 24)).alloc (.cells #[.int .i64 0, .int .i64 0, .int .i64 0, .int .i64 0, .int .i64 0, .int .i64 0, .int .i64 0, .string ⟨#[]⟩, .int .i64 0] 26)).alloc (.cells #[.int .i64 x0, .int .i64 x1, .int .i64 x2, .int .i64 x3, .int .i64 0, .int .i64 0, .int .i64 0, S z.name, .int .i64 z.off] 26)))
            case first =>
              go_wp2_with (first | (go_at_call 36; refine (hYear_c _ _ _ (HP.out _ _ _ _) hn).mono ?_; rintro e w' ⟨rfl, rfl⟩) | (go_at_call 41; refine (hMonth_c _ _ _ (HP.out _ _ _ _) hn).mono ?_; rintro e w' ⟨rfl, rfl⟩) | (go_at_call 42; refine (hDay_c _ _ _ (HP.out _ _ _ _) hn).mono ?_; rintro e w' ⟨rfl, rfl⟩) | (go_at_call 35; refine (hYearDay_c _ _ _ (HP.out _ _ _ _) hn).mono ?_; rintro e w' ⟨rfl, rfl⟩) | (go_at_call 34; refine (hHour_c _ _ _ (HP.out _ _ _ _) hn).mono ?_; rintro e w' ⟨rfl, rfl⟩) | (go_at_call 43; refine (hMinute_c _ _ _ (HP.out _ _ _ _) hn).mono ?_; rintro e w' ⟨rfl, rfl⟩) | (go_at_call 44; refine (hSecond_c _ _ _ (HP.out _ _ _ _) hn).mono ?_; rintro e w' ⟨rfl, rfl⟩))
              all_goals
                go_meet
                case rel => exact ⟨_, by show _ = _; simp [*], rfl⟩
            case rest =>
              obtain ⟨x3, HX3, rfl⟩ := hcut
              go_upto_if 39 with (first | (go_at_call 36; refine (hYear_c _ _ _ (HP.out _ _ _ _) hn).mono ?_; rintro e w' ⟨rfl, rfl⟩) | (go_at_call 41; refine (hMonth_c _ _ _ (HP.out _ _ _ _) hn).mono ?_; rintro e w' ⟨rfl, rfl⟩) | (go_at_call 42; refine (hDay_c _ _ _ (HP.out _ _ _ _) hn).mono ?_; rintro e w' ⟨rfl, rfl⟩) | (go_at_call 35; refine (hYearDay_c _ _ _ (HP.out _ _ _ _) hn).mono ?_; rintro e w' ⟨rfl, rfl⟩) | (go_at_call 34; refine (hHour_c _ _ _ (HP.out _ _ _ _) hn).mono ?_; rintro e w' ⟨rfl, rfl⟩) | (go_at_call 43; refine (hMinute_c _ _ _ (HP.out _ _ _ _) hn).mono ?_; rintro e w' ⟨rfl, rfl⟩) | (go_at_call 44; refine (hSecond_c _ _ _ (HP.out _ _ _ _) hn).mono ?_; rintro e w' ⟨rfl, rfl⟩))
              go_cut [] (fun w' => ∃ x4 : Int, Hid (x4 = if anyK ps 17 18 = true then c.minute else 0) ∧ w' = ((((w.alloc (.cells #[.int .i64 c.year, .int .i64 c.month, .int .i64 c.day, .int .i64 c.hour, .int .i64 c.minute, .int .i64 c.second, .int .i64 c.nano, S c.zone.name, .int .i64 c.zone.off] 26)).alloc (.cells #[S z.name, .int .i64 z.off] 24)).alloc (.cells #[.int .i64 0, .int .i64 0, .int .i64 0, .int .i64 0, .int .i64 0, .int .i64 0, .int .i64 0, .string ⟨#[]⟩, .int .i64 0] 26)).alloc (.cells #[.int .i64 x0, .int .i64 x1, .int .i64 x2, .int .i64 x3, .int .i64 x4, .int .i64 0, .int .i64 0, S z.name, .int .i64 z.off] 26)))
              case first =>
                go_wp2_with (first | (go_at_call 36; refine (hYear_c _ _ _ (HP.out _ _ _ _) hn).mono ?_; rintro e w' ⟨rfl, rfl⟩) | (go_at_call 41; refine (hMonth_c _ _ _ (HP.out _ _ _ _) hn).mono ?_; rintro e w' ⟨rfl, rfl⟩) | (go_at_call 42; refine (hDay_c _ _ _ (HP.out _ _ _ _) hn).mono ?_; rintro e w' ⟨rfl, rfl⟩) | (go_at_call 35; refine (hYearDay_c _ _ _ (HP.out _ _ _ _) hn).mono ?_; rintro e w' ⟨rfl, rfl⟩) | (go_at_call 34; refine (hHour_c _ _ _ (HP.out _ _ _ _) hn).mono ?_; rintro e w' ⟨rfl, rfl⟩) | (go_at_call 43; refine (hMinute_c _ _ _ (HP.out _ _ _ _) hn).mono ?_; rintro e w' ⟨rfl, rfl⟩) | (go_at_call 44; refine (hSecond_c _ _ _ (HP.out _ _ _ _) hn).mono ?_; rintro e w' ⟨rfl, rfl⟩))
                all_goals
                  go_meet
                  case rel => exact ⟨_, by show _ = _; simp [*], rfl⟩
              case rest =>
                obtain ⟨x4, HX4, rfl⟩ := hcut
                go_upto_if 44 with (first | (go_at_call 36; refine (hYear_c _ _ _ (HP.out _ _ _ _) hn).mono ?_; rintro e w' ⟨rfl, rfl⟩) | (go_at_call 41; refine (hMonth_c _ _ _ (HP.out _ _ _ _) hn).mono ?_; rintro e w' ⟨rfl, rfl⟩) | (go_at_call 42; refine (hDay_c _ _ _ (HP.out _ _ _ _) hn).mono ?_; rintro e w' ⟨rfl, rfl⟩) | (go_at_call 35; refine (hYearDay_c _ _ _ (HP.out _ _ _ _) hn).mono ?_; rintro e w' ⟨rfl, rfl⟩) | (go_at_call 34; refine (hHour_c _ _ _ (HP.out _ _ _ _) hn).mono ?_; rintro e w' ⟨rfl, rfl⟩) | (go_at_call 43; refine (hMinute_c _ _ _ (HP.out _ _ _ _) hn).mono ?_; rintro e w' ⟨rfl, rfl⟩) | (go_at_call 44; refine (hSecond_c _ _ _ (HP.out _ _ _ _) hn).mono ?_; rintro e w' ⟨rfl, rfl⟩))
                go_cut [] (fun w' => ∃ x5 : Int, Hid (x5 = if anyK ps 19 20 = true then c.second else 0) ∧ w' = ((((w.alloc (.cells #[.int .i64 c.year, .int .i64 c.month, .int .i64 c.day, .int .i64 c.hour, .int .i64 c.minute, .int .i64 c.second, .int .i64 c.nano, S c.zone.name, .int .i64 c.zone.off] 26)).alloc (.cells #[S z.name, .int .i64 z.off] 24)).alloc (.cells #[.int .i64 0, .int .i64 0, .int .i64 0, .int .i64 0, .int .i64 0, .int .i64 0, .int .i64 0, .string ⟨#[]⟩, .int .i64 0] 26)).alloc (.cells #[.int .i64 x0, .int .i64 x1, .int .i64 x2, .int .i64 x3, .int .i64 x4, .int .i64 x5, .int .i64 0, S z.name, .int .i64 z.off] 26)))
                case first =>
                  go_wp2_with (first | (go_at_call 36; refine (hYear_c _ _ _ (HP.out _ _ _ _) hn).mono ?_; rintro e w' ⟨rfl, rfl⟩) | (go_at_call 41; refine (hMonth_c _ _ _ (HP.out _ _ _ _) hn).mono ?_; rintro e w' ⟨rfl, rfl⟩) | (go_at_call 42; refine (hDay_c _ _ _ (HP.out _ _ _ _) hn).mono ?_; rintro e w' ⟨rfl, rfl⟩) | (go_at_call 35; refine (hYearDay_c _ _ _ (HP.out _ _ _ _) hn).mono ?_; rintro e w' ⟨rfl, rfl⟩) | (go_at_call 34; refine (hHour_c _ _ _ (HP.out _ _ _ _) hn).mono ?_; rintro e w' ⟨rfl, rfl⟩) | (go_at_call 43; refine (hMinute_c _ _ _ (HP.out _ _ _ _) hn).mono ?_; rintro e w' ⟨rfl, rfl⟩) | (go_at_call 44; refine (hSecond_c _ _ _ (HP.out _ _ _ _) hn).mono ?_; rintro e w' ⟨rfl, rfl⟩))
                  all_goals
                    go_meet
                    case rel => exact ⟨_, by show _ = _; simp [*], rfl⟩
                case rest =>
                  obtain ⟨x5, HX5, rfl⟩ := hcut
                  go_upto_region 14 with (first | (go_at_call 36; refine (hYear_c _ _ _ (HP.out _ _ _ _) hn).mono ?_; rintro e w' ⟨rfl, rfl⟩) | (go_at_call 41; refine (hMonth_c _ _ _ (HP.out _ _ _ _) hn).mono ?_; rintro e w' ⟨rfl, rfl⟩) | (go_at_call 42; refine (hDay_c _ _ _ (HP.out _ _ _ _) hn).mono ?_; rintro e w' ⟨rfl, rfl⟩) | (go_at_call 35; refine (hYearDay_c _ _ _ (HP.out _ _ _ _) hn).mono ?_; rintro e w' ⟨rfl, rfl⟩) | (go_at_call 34; refine (hHour_c _ _ _ (HP.out _ _ _ _) hn).mono ?_; rintro e w' ⟨rfl, rfl⟩) | (go_at_call 43; refine (hMinute_c _ _ _ (HP.out _ _ _ _) hn).mono ?_; rintro e w' ⟨rfl, rfl⟩) | (go_at_call 44; refine (hSecond_c _ _ _ (HP.out _ _ _ _) hn).mono ?_; rintro e w' ⟨rfl, rfl⟩))
                  go_cut [] (fun w' => ∃ n, w' = (((((w.alloc (.cells #[.int .i64 c.year, .int .i64 c.month, .int .i64 c.day, .int .i64 c.hour, .int .i64 c.minute, .int .i64 c.second, .int .i64 c.nano, S c.zone.name, .int .i64 c.zone.off] 26)).alloc (.cells #[S z.name, .int .i64 z.off] 24)).alloc (.cells #[.int .i64 0, .int .i64 0, .int .i64 0, .int .i64 0, .int .i64 0, .int .i64 0, .int .i64 0, .string ⟨#[]⟩, .int .i64 0] 26)).alloc (.cells #[.int .i64 x0, .int .i64 x1, .int .i64 x2, .int .i64 x3, .int .i64 x4, .int .i64 x5, .int .i64 (cut c.nano (digitsN ps).toNat), S z.name, .int .i64 z.off] 26))).drewN n)
                  case first =>
                    go_region_with (first | (go_at_call 46; refine (digitsN_c _ _ _ (HP2.out _ _ _ _) hn).mono ?_; rintro e w' ⟨rfl, rfl⟩) | (go_at_call 45; refine (HC.out _).mono ?_; rintro e w' ⟨rfl, rfl⟩))
                    all_goals
                      go_wp2_with fail
                      go_meet
                      case rel => exact ⟨1, rfl⟩
                  case rest =>
                    obtain ⟨dn, rfl⟩ := hcut
                    cases e1 : anyK ps 22 31
                    · cases e2 : hasK ps 32
                      · go_wp2_with (first | (go_at_call 47; refine (hZone_c _ _ _ (HP3.out _ _ _ _ _) hn).mono ?_; rintro e w' ⟨rfl, rfl⟩) | (go_at_call 33; refine (has_c _ _ _ _ (HP3.out _ _ _ _ _) hn).mono ?_; rintro e w' ⟨rfl, rfl⟩))
                        refine bodyPost_ret (v := .agg #[.int .i64 x0, .int .i64 x1, .int .i64 x2, .int .i64 x3, .int .i64 x4, .int .i64 x5, .int .i64 (cut c.nano (digitsN ps).toNat), S z.name, .int .i64 z.off]) ?_ rfl ⟨?_, ?_⟩
                        · simp [results, Tryz.results19, go_sem]
                        · have h0 := HX0.out
                          have h1 := HX1.out
                          have h2 := HX2.out
                          have h3 := HX3.out
                          have h4 := HX4.out
                          have h5 := HX5.out
                          subst h0 h1 h2 h3 h4 h5
                          simp [told, e1, e2]
                          try rfl
                        · repeat (with_reducible refine HSC.out _ _ _ (by simp <;> omega) ?_)
                          exact below_dN (HB.out _ _ _ _) _
                      · cases e3 : (c.zone.name == z.name)
                        · go_wp2_with (first | (go_at_call 47; refine (hZone_c _ _ _ (HP3.out _ _ _ _ _) hn).mono ?_; rintro e w' ⟨rfl, rfl⟩) | (go_at_call 33; refine (has_c _ _ _ _ (HP3.out _ _ _ _ _) hn).mono ?_; rintro e w' ⟨rfl, rfl⟩))
                          refine bodyPost_ret (v := .agg #[.int .i64 x0, .int .i64 x1, .int .i64 x2, .int .i64 x3, .int .i64 x4, .int .i64 x5, .int .i64 (cut c.nano (digitsN ps).toNat), S c.zone.name, .int .i64 0]) ?_ rfl ⟨?_, ?_⟩
                          · simp [results, Tryz.results19, go_sem]
                          · have h0 := HX0.out
                            have h1 := HX1.out
                            have h2 := HX2.out
                            have h3 := HX3.out
                            have h4 := HX4.out
                            have h5 := HX5.out
                            subst h0 h1 h2 h3 h4 h5
                            simp [told, e1, e2, e3]
                            try rfl
                          · repeat (with_reducible refine HSC.out _ _ _ (by simp <;> omega) ?_)
                            exact below_dN (HB.out _ _ _ _) _
                        · go_wp2_with (first | (go_at_call 47; refine (hZone_c _ _ _ (HP3.out _ _ _ _ _) hn).mono ?_; rintro e w' ⟨rfl, rfl⟩) | (go_at_call 33; refine (has_c _ _ _ _ (HP3.out _ _ _ _ _) hn).mono ?_; rintro e w' ⟨rfl, rfl⟩))
                          refine bodyPost_ret (v := .agg #[.int .i64 x0, .int .i64 x1, .int .i64 x2, .int .i64 x3, .int .i64 x4, .int .i64 x5, .int .i64 (cut c.nano (digitsN ps).toNat), S z.name, .int .i64 z.off]) ?_ rfl ⟨?_, ?_⟩
                          · simp [results, Tryz.results19, go_sem]
                          · have h0 := HX0.out
                            have h1 := HX1.out
                            have h2 := HX2.out
                            have h3 := HX3.out
                            have h4 := HX4.out
                            have h5 := HX5.out
                            subst h0 h1 h2 h3 h4 h5
                            simp [told, e1, e2, e3]
                            try rfl
                          · repeat (with_reducible refine HSC.out _ _ _ (by simp <;> omega) ?_)
                            exact below_dN (HB.out _ _ _ _) _
                    · go_wp2_with (first | (go_at_call 47; refine (hZone_c _ _ _ (HP3.out _ _ _ _ _) hn).mono ?_; rintro e w' ⟨rfl, rfl⟩) | (go_at_call 33; refine (has_c _ _ _ _ (HP3.out _ _ _ _ _) hn).mono ?_; rintro e w' ⟨rfl, rfl⟩))
                      refine bodyPost_ret (v := .agg #[.int .i64 x0, .int .i64 x1, .int .i64 x2, .int .i64 x3, .int .i64 x4, .int .i64 x5, .int .i64 (cut c.nano (digitsN ps).toNat), .string ⟨#[]⟩, .int .i64 c.zone.off]) ?_ rfl ⟨?_, ?_⟩
                      · simp [results, Tryz.results19, go_sem]
                      · have h0 := HX0.out
                        have h1 := HX1.out
                        have h2 := HX2.out
                        have h3 := HX3.out
                        have h4 := HX4.out
                        have h5 := HX5.out
                        subst h0 h1 h2 h3 h4 h5
                        simp [told, e1]
                        try rfl
                      · repeat (with_reducible refine HSC.out _ _ _ (by simp <;> omega) ?_)
                        exact below_dN (HB.out _ _ _ _) _
end Go.Proofs.YtndhiemagankeaaGreatDoor
