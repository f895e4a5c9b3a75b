/-
  FnLayout (the statement: for every list of pieces, every time and every zone the call returns true, and its arguments read afterwards as they did), part 14 of 41. In this part: The walk of package time: an element at a place of a layout.
-/
import Derived.Test.YtndhiemagankeaaGreatDoorG12
/- The walk of package time: an element at a place of a layout. -/
namespace Go.Proofs.YtndhiemagankeaaGreatDoor
open Go.RowKit
set_option linter.unusedSimpArgs false
set_option linter.unusedVariables false
attribute [local simp] bs_size bs_toList bs_append bs_data bs_extract
set_option maxRecDepth 100000 in
set_option maxHeartbeats 4000000 in
theorem el94_27 (l r : Bytes) (i : Nat) (u : Nat → Value) (w : World) (I : Act → World → Prop) (Q : Exit → Act → World → Prop) (hl : l.length ≤ 1099511627776)
    (hd : l.drop i = [90, 48, 55, 48, 48] ++ r) (hlen : l.length = i + 5 + r.length) (hf : Fol true r)
    (hQ : Ret94 (l.take i) 24 r w Q) :
    body94.wp Tryz.prog (Exit.then I Q) (fr94 l i u) w := by
  have hix : ∀ h : i < (bs l).size, (bs l)[i]'h = 90 := fun h => at_of_drop hd 0 (by simp) h
  have f0 : (List.take 7 (List.drop i l) == [90, 48, 55, 48, 48, 48, 48]) = false := by
    rw [hd]
    exact pre_ne [90, 48, 55, 48, 48] r [48, 48] 48 (fun c hc => by rintro rfl; exact absurd (hf.digit _ hc) (by decide))
  have f1 : (List.take 9 (List.drop i l) == [90, 48, 55, 58, 48, 48, 58, 48, 48]) = false := by
    rw [hd]
    rfl
  have f2 : (List.take 5 (List.drop i l) == [90, 48, 55, 48, 48]) = true := by
    rw [hd]
    rfl
  have HR : Hid (List.take (i + 5 + r.length - (i + 5)) (List.drop (i + 5) l) = r) := rest_of_drop hd hlen
  have HR2 : Hid (List.take r.length (List.drop (i + 5) l) = r) := rest2_of_drop hd hlen
  have HQ := Lib.hid hQ
  have HD := Lib.hid hd
  clear hd hQ hf
  unfold fr94
  conv => arg 2; whnf
  go_wp2_with fail
  all_goals
    go_quiet (fail)
    go_wp2_with fail
    first | exact HQ.out _ _ rfl rfl rfl (congrArg S HR2.out) | exact HQ.out _ _ rfl rfl rfl (congrArg S HR.out)
set_option maxRecDepth 100000 in
set_option maxHeartbeats 4000000 in
theorem el94_28 (l r : Bytes) (i : Nat) (u : Nat → Value) (w : World) (I : Act → World → Prop) (Q : Exit → Act → World → Prop) (hl : l.length ≤ 1099511627776)
    (hd : l.drop i = [90, 48, 55, 58, 48, 48] ++ r) (hlen : l.length = i + 6 + r.length) (hf : Fol true r)
    (hQ : Ret94 (l.take i) 27 r w Q) :
    body94.wp Tryz.prog (Exit.then I Q) (fr94 l i u) w := by
  have hix : ∀ h : i < (bs l).size, (bs l)[i]'h = 90 := fun h => at_of_drop hd 0 (by simp) h
  have f0 : (List.take 7 (List.drop i l) == [90, 48, 55, 48, 48, 48, 48]) = false := by
    rw [hd]
    rfl
  have f1 : (List.take 9 (List.drop i l) == [90, 48, 55, 58, 48, 48, 58, 48, 48]) = false := by
    rw [hd]
    exact pre_ne [90, 48, 55, 58, 48, 48] r [58, 48, 48] 58 (fun c hc => by rintro rfl; exact absurd (hf.colon rfl _ hc) (by decide))
  have f2 : (List.take 5 (List.drop i l) == [90, 48, 55, 48, 48]) = false := by
    rw [hd]
    rfl
  have f3 : (List.take 6 (List.drop i l) == [90, 48, 55, 58, 48, 48]) = true := by
    rw [hd]
    rfl
  have HR : Hid (List.take (i + 6 + r.length - (i + 6)) (List.drop (i + 6) l) = r) := rest_of_drop hd hlen
  have HR2 : Hid (List.take r.length (List.drop (i + 6) l) = r) := rest2_of_drop hd hlen
  have HQ := Lib.hid hQ
  have HD := Lib.hid hd
  clear hd hQ hf
  unfold fr94
  conv => arg 2; whnf
  go_wp2_with fail
  all_goals
    go_quiet (fail)
    go_wp2_with fail
    first | exact HQ.out _ _ rfl rfl rfl (congrArg S HR2.out) | exact HQ.out _ _ rfl rfl rfl (congrArg S HR.out)
set_option maxRecDepth 100000 in
set_option maxHeartbeats 4000000 in
theorem el94_29 (l r : Bytes) (i : Nat) (u : Nat → Value) (w : World) (I : Act → World → Prop) (Q : Exit → Act → World → Prop) (hl : l.length ≤ 1099511627776)
    (hd : l.drop i = [90, 48, 55] ++ r) (hlen : l.length = i + 3 + r.length) (hf : Fol true r)
    (hQ : Ret94 (l.take i) 26 r w Q) :
    body94.wp Tryz.prog (Exit.then I Q) (fr94 l i u) w := by
  have hix : ∀ h : i < (bs l).size, (bs l)[i]'h = 90 := fun h => at_of_drop hd 0 (by simp) h
  have f0 : (List.take 7 (List.drop i l) == [90, 48, 55, 48, 48, 48, 48]) = false := by
    rw [hd]
    exact pre_ne [90, 48, 55] r [48, 48, 48, 48] 48 (fun c hc => by rintro rfl; exact absurd (hf.digit _ hc) (by decide))
  have f1 : (List.take 9 (List.drop i l) == [90, 48, 55, 58, 48, 48, 58, 48, 48]) = false := by
    rw [hd]
    exact pre_ne [90, 48, 55] r [58, 48, 48, 58, 48, 48] 58 (fun c hc => by rintro rfl; exact absurd (hf.colon rfl _ hc) (by decide))
  have f2 : (List.take 5 (List.drop i l) == [90, 48, 55, 48, 48]) = false := by
    rw [hd]
    exact pre_ne [90, 48, 55] r [48, 48] 48 (fun c hc => by rintro rfl; exact absurd (hf.digit _ hc) (by decide))
  have f3 : (List.take 6 (List.drop i l) == [90, 48, 55, 58, 48, 48]) = false := by
    rw [hd]
    exact pre_ne [90, 48, 55] r [58, 48, 48] 58 (fun c hc => by rintro rfl; exact absurd (hf.colon rfl _ hc) (by decide))
  have f4 : (List.take 3 (List.drop i l) == [90, 48, 55]) = true := by
    rw [hd]
    rfl
  have HR : Hid (List.take (i + 3 + r.length - (i + 3)) (List.drop (i + 3) l) = r) := rest_of_drop hd hlen
  have HR2 : Hid (List.take r.length (List.drop (i + 3) l) = r) := rest2_of_drop hd hlen
  have HQ := Lib.hid hQ
  have HD := Lib.hid hd
  clear hd hQ hf
  unfold fr94
  conv => arg 2; whnf
  go_wp2_with fail
  all_goals
    go_quiet (fail)
    go_wp2_with fail
    first | exact HQ.out _ _ rfl rfl rfl (congrArg S HR2.out) | exact HQ.out _ _ rfl rfl rfl (congrArg S HR.out)
set_option maxRecDepth 100000 in
set_option maxHeartbeats 4000000 in
theorem el94_30 (l r : Bytes) (i : Nat) (u : Nat → Value) (w : World) (I : Act → World → Prop) (Q : Exit → Act → World → Prop) (hl : l.length ≤ 1099511627776)
    (hd : l.drop i = [90, 48, 55, 48, 48, 48, 48] ++ r) (hlen : l.length = i + 7 + r.length) (hf : Fol true r)
    (hQ : Ret94 (l.take i) 25 r w Q) :
    body94.wp Tryz.prog (Exit.then I Q) (fr94 l i u) w := by
  have hix : ∀ h : i < (bs l).size, (bs l)[i]'h = 90 := fun h => at_of_drop hd 0 (by simp) h
  have f0 : (List.take 7 (List.drop i l) == [90, 48, 55, 48, 48, 48, 48]) = true := by
    rw [hd]
    rfl
  have HR : Hid (List.take (i + 7 + r.length - (i + 7)) (List.drop (i + 7) l) = r) := rest_of_drop hd hlen
  have HR2 : Hid (List.take r.length (List.drop (i + 7) l) = r) := rest2_of_drop hd hlen
  have HQ := Lib.hid hQ
  have HD := Lib.hid hd
  clear hd hQ hf
  unfold fr94
  conv => arg 2; whnf
  go_wp2_with fail
  all_goals
    go_quiet (fail)
    go_wp2_with fail
    first | exact HQ.out _ _ rfl rfl rfl (congrArg S HR2.out) | exact HQ.out _ _ rfl rfl rfl (congrArg S HR.out)
set_option maxRecDepth 100000 in
set_option maxHeartbeats 4000000 in
theorem el94_31 (l r : Bytes) (i : Nat) (u : Nat → Value) (w : World) (I : Act → World → Prop) (Q : Exit → Act → World → Prop) (hl : l.length ≤ 1099511627776)
    (hd : l.drop i = [90, 48, 55, 58, 48, 48, 58, 48, 48] ++ r) (hlen : l.length = i + 9 + r.length) (hf : Fol true r)
    (hQ : Ret94 (l.take i) 28 r w Q) :
    body94.wp Tryz.prog (Exit.then I Q) (fr94 l i u) w := by
  have hix : ∀ h : i < (bs l).size, (bs l)[i]'h = 90 := fun h => at_of_drop hd 0 (by simp) h
  have f0 : (List.take 7 (List.drop i l) == [90, 48, 55, 48, 48, 48, 48]) = false := by
    rw [hd]
    rfl
  have f1 : (List.take 9 (List.drop i l) == [90, 48, 55, 58, 48, 48, 58, 48, 48]) = true := by
    rw [hd]
    rfl
  have HR : Hid (List.take (i + 9 + r.length - (i + 9)) (List.drop (i + 9) l) = r) := rest_of_drop hd hlen
  have HR2 : Hid (List.take r.length (List.drop (i + 9) l) = r) := rest2_of_drop hd hlen
  have HQ := Lib.hid hQ
  have HD := Lib.hid hd
  clear hd hQ hf
  unfold fr94
  conv => arg 2; whnf
  go_wp2_with fail
  all_goals
    go_quiet (fail)
    go_wp2_with fail
    first | exact HQ.out _ _ rfl rfl rfl (congrArg S HR2.out) | exact HQ.out _ _ rfl rfl rfl (congrArg S HR.out)
end Go.Proofs.YtndhiemagankeaaGreatDoor
