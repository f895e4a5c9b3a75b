/-
  FnLayout (the statement: for every list of pieces, every time and every zone the call returns true, and its arguments read afterwards as they did), part 26 of 41. In this part: The walk of package time: a time is read by a layout: years and halves. The walk of package time: a time is read by a layout: days, abbreviations, fractions. The walk of package time: a time is read by a layout: years. The walk of package time: a time is read by a layout: years. The walk of package time: a time is read by a layout: a day with a blank. The walk of package time: a time is read by a layout: what an element leaves, by the world.
-/
import Derived.Test.YtndhiemagankeaaGreatDoorG09
import Derived.Test.YtndhiemagankeaaGreatDoorG12
import Derived.Test.YtndhiemagankeaaGreatDoorG15
import Derived.Test.YtndhiemagankeaaGreatDoorG25
/- The walk of package time: a time is read by a layout: years and halves. -/
namespace Go.Proofs.YtndhiemagankeaaGreatDoor
open Go.RowKit
set_option linter.unusedSimpArgs false
set_option linter.unusedVariables false
attribute [local simp] bs_size bs_toList bs_append bs_data bs_extract
set_option maxRecDepth 100000 in
set_option maxHeartbeats 2000000 in
theorem par69_21p (v : V69) (rest : Bytes) (hv : v.val = [80, 77] ++ rest) (hmx : v.val.length ≤ 1099511627776) : Par69 1045 1045 v { v with val := rest, pm := true } := by
  intro w u K Qx hK
  obtain ⟨lay, val, loc, p, am, pm, y, m, d, yd, h, mi, s, ns, z, zo, zn⟩ := v
  simp only at hv
  obtain ⟨l, HL⟩ : ∃ l, Hid (l = val) := ⟨_, Lib.hid rfl⟩
  have hll : 2 ≤ l.length := by rw [HL.out, hv]; simp
  have hl40 : l.length ≤ 1099511627776 := by rw [HL.out]; exact hmx
  have hp1 : (List.take 2 l == [80, 77]) = true := by rw [HL.out, hv]; rfl
  have hp2 : (List.take 2 l == [65, 77]) = false := by rw [HL.out, hv]; rfl
  have HR : Hid (List.take (l.length - 2) (List.drop 2 l) = rest) := by show _ = _; rw [take_rest, HL.out, hv]; rfl
  have HR2 : Hid (List.drop 2 l = rest) := by show _ = _; rw [HL.out, hv]; rfl
  rw [← HL.out]
  clear hv hmx
  have HK := Lib.hid hK
  have HB : Hid (Below w.heap.size w w) := Lib.hid (Below.refl _ _)
  clear hK
  unfold fr69t
  conv => arg 2; whnf
  repeat' (first
    | (guard_target =~ K _ _; first | exact HK.out _ _ ⟨rfl, rfl, rfl, (by first | rfl | exact congrArg S HR.out | exact congrArg S HR2.out), rfl, rfl, rfl, rfl, rfl, rfl, rfl, rfl, rfl, rfl, rfl, rfl, rfl, rfl, rfl, rfl, rfl, rfl, rfl⟩ HB.out | exact HK.out _ _ ⟨rfl, rfl, rfl, (by first | rfl | exact congrArg S HR.out | exact congrArg S HR2.out), rfl, rfl, rfl, rfl, rfl, rfl, rfl, rfl, rfl, rfl, rfl, rfl, rfl, rfl, rfl, rfl, rfl, rfl, rfl⟩ (below_dN HB.out _))
    | (guard_target =~ Exit.then _ _ _ _ _; first | refine then_ex ?_ | refine then_no ?_)
    | (guard_target =~ Exit.inBlock _ _ _ _ _; first | refine blk_same ?_ | refine blk_ne (by decide) ?_ | refine blk_no ?_)
    | (guard_target =~ Code.wp _ (Code.region _ _ true) _ _ _; go_quiet (fail))
    | go_guarded
    | go_skip
    | go_step
    | go_upon
    | go_back
    | go_simp)
set_option maxRecDepth 100000 in
set_option maxHeartbeats 2000000 in
theorem par69_21a (v : V69) (rest : Bytes) (hv : v.val = [65, 77] ++ rest) (hmx : v.val.length ≤ 1099511627776) : Par69 1045 1045 v { v with val := rest, am := true } := by
  intro w u K Qx hK
  obtain ⟨lay, val, loc, p, am, pm, y, m, d, yd, h, mi, s, ns, z, zo, zn⟩ := v
  simp only at hv
  obtain ⟨l, HL⟩ : ∃ l, Hid (l = val) := ⟨_, Lib.hid rfl⟩
  have hll : 2 ≤ l.length := by rw [HL.out, hv]; simp
  have hl40 : l.length ≤ 1099511627776 := by rw [HL.out]; exact hmx
  have hp1 : (List.take 2 l == [80, 77]) = false := by rw [HL.out, hv]; rfl
  have hp2 : (List.take 2 l == [65, 77]) = true := by rw [HL.out, hv]; rfl
  have HR : Hid (List.take (l.length - 2) (List.drop 2 l) = rest) := by show _ = _; rw [take_rest, HL.out, hv]; rfl
  have HR2 : Hid (List.drop 2 l = rest) := by show _ = _; rw [HL.out, hv]; rfl
  rw [← HL.out]
  clear hv hmx
  have HK := Lib.hid hK
  have HB : Hid (Below w.heap.size w w) := Lib.hid (Below.refl _ _)
  clear hK
  unfold fr69t
  conv => arg 2; whnf
  repeat' (first
    | (guard_target =~ K _ _; first | exact HK.out _ _ ⟨rfl, rfl, rfl, (by first | rfl | exact congrArg S HR.out | exact congrArg S HR2.out), rfl, rfl, rfl, rfl, rfl, rfl, rfl, rfl, rfl, rfl, rfl, rfl, rfl, rfl, rfl, rfl, rfl, rfl, rfl⟩ HB.out | exact HK.out _ _ ⟨rfl, rfl, rfl, (by first | rfl | exact congrArg S HR.out | exact congrArg S HR2.out), rfl, rfl, rfl, rfl, rfl, rfl, rfl, rfl, rfl, rfl, rfl, rfl, rfl, rfl, rfl, rfl, rfl, rfl, rfl⟩ (below_dN HB.out _))
    | (guard_target =~ Exit.then _ _ _ _ _; first | refine then_ex ?_ | refine then_no ?_)
    | (guard_target =~ Exit.inBlock _ _ _ _ _; first | refine blk_same ?_ | refine blk_ne (by decide) ?_ | refine blk_no ?_)
    | (guard_target =~ Code.wp _ (Code.region _ _ true) _ _ _; go_quiet (fail))
    | go_guarded
    | go_skip
    | go_step
    | go_upon
    | go_back
    | go_simp)
end Go.Proofs.YtndhiemagankeaaGreatDoor
/- The walk of package time: a time is read by a layout: days, abbreviations, fractions. -/
namespace Go.Proofs.YtndhiemagankeaaGreatDoor
open Go.RowKit
set_option linter.unusedSimpArgs false
set_option linter.unusedVariables false
attribute [local simp] bs_size bs_toList bs_append bs_data bs_extract
set_option maxRecDepth 100000 in
set_option maxHeartbeats 2000000 in
theorem par69_10a (v : V69) (x : Int) (rest : Bytes) (hg : Getn 102 false v.val x rest) (c : UInt8) (t : Bytes) (hv : v.val = c :: t) (hc : c.toNat ≠ 32) (hmx : v.val.length ≤ 1099511627776) (x0 : 0 ≤ x) (x1 : x ≤ 99) : Par69 264 264 v { v with val := rest, d := x } := by
  intro w u K Qx hK
  obtain ⟨lay, val, loc, p, am, pm, y, m, d, yd, h, mi, s, ns, z, zo, zn⟩ := v
  simp only at hg hv hmx
  have HR : Hid (rest = rest) := Lib.hid rfl
  have HR2 := HR
  have hix : ∀ h : 0 < (bs val).size, (bs val)[0]'h = c := fun h => by rw [bs_get]; simp only [hv]; rfl
  have hll : 1 ≤ val.length := by rw [hv]; simp
  have HG := Lib.hid hg
  unfold Getn at HG
  have hcb := c.toNat_lt
  clear hg hv
  have HK := Lib.hid hK
  have HB : Hid (Below w.heap.size w w) := Lib.hid (Below.refl _ _)
  clear hK
  unfold fr69t
  conv => arg 2; whnf
  repeat' (first
    | (guard_target =~ K _ _; first | exact HK.out _ _ ⟨rfl, rfl, rfl, (by first | rfl | exact congrArg S HR.out | exact congrArg S HR2.out), rfl, rfl, rfl, rfl, rfl, rfl, rfl, rfl, rfl, rfl, rfl, rfl, rfl, rfl, rfl, rfl, rfl, rfl, rfl⟩ HB.out | exact HK.out _ _ ⟨rfl, rfl, rfl, (by first | rfl | exact congrArg S HR.out | exact congrArg S HR2.out), rfl, rfl, rfl, rfl, rfl, rfl, rfl, rfl, rfl, rfl, rfl, rfl, rfl, rfl, rfl, rfl, rfl, rfl, rfl⟩ (below_dN HB.out _))
    | (guard_target =~ Exit.then _ _ _ _ _; first | refine then_ex ?_ | refine then_no ?_)
    | (guard_target =~ Exit.inBlock _ _ _ _ _; first | refine blk_same ?_ | refine blk_ne (by decide) ?_ | refine blk_no ?_)
    | (guard_target =~ Code.wp _ (Code.region _ _ true) _ _ _; go_quiet (fail))
    | (go_at_call 102; refine (HG.out _).mono ?_; rintro e w1 ⟨rfl, k, rfl⟩; have HB := Lib.hid (below_dN HB.out k))
    | go_guarded
    | go_skip
    | go_step
    | go_upon
    | go_back
    | go_simp)
set_option maxRecDepth 100000 in
set_option maxHeartbeats 2000000 in
theorem par69_32 (v : V69) (a b c : UInt8) (rest : Bytes) (hv : v.val = a :: b :: c :: rest) (hmx : v.val.length ≤ 1099511627776) (hu : ([a, b, c] == utcB) = false) (hp : ∀ w, Calls Tryz.prog 107 #[S v.val] w fun e w' => e = .returned (.tuple #[.int .i64 3, .bool true]) ∧ w' = w) : Par69 23 23 v { v with val := rest, zn := [a, b, c] } := by
  intro w u K Qx hK
  obtain ⟨lay, val, loc, p, am, pm, y, m, d, yd, h, mi, s, ns, z, zo, zn⟩ := v
  simp only at hv hmx hp
  obtain ⟨l, HL⟩ : ∃ l, Hid (l = val) := ⟨_, Lib.hid rfl⟩
  have hll : 3 ≤ l.length := by rw [HL.out, hv]; simp
  have hl40 : l.length ≤ 1099511627776 := by rw [HL.out]; exact hmx
  unfold utcB at hu
  have hp1 : (List.take 3 l == [85, 84, 67]) = false := by rw [HL.out, hv]; exact hu
  have HR : Hid (List.take (l.length - 3) (List.drop 3 l) = rest) := by show _ = _; rw [take_rest, HL.out, hv]; rfl
  have HR2 : Hid (List.drop 3 l = rest) := by show _ = _; rw [HL.out, hv]; rfl
  have HZ : Hid (List.take 3 l = [a, b, c]) := by show _ = _; rw [HL.out, hv]; rfl
  have HP := Lib.hid hp
  rw [← HL.out] at HP ⊢
  clear hv hmx hu hp
  have HK := Lib.hid hK
  have HB : Hid (Below w.heap.size w w) := Lib.hid (Below.refl _ _)
  clear hK
  unfold fr69t
  conv => arg 2; whnf
  repeat' (first
    | (guard_target =~ K _ _; first | exact HK.out _ _ ⟨rfl, rfl, rfl, (by first | rfl | exact congrArg S HR.out | exact congrArg S HR2.out), rfl, rfl, rfl, rfl, rfl, rfl, rfl, rfl, rfl, rfl, rfl, rfl, rfl, rfl, rfl, rfl, rfl, (by first | rfl | exact congrArg S HZ.out), rfl⟩ HB.out | exact HK.out _ _ ⟨rfl, rfl, rfl, (by first | rfl | exact congrArg S HR.out | exact congrArg S HR2.out), rfl, rfl, rfl, rfl, rfl, rfl, rfl, rfl, rfl, rfl, rfl, rfl, rfl, rfl, rfl, rfl, rfl, (by first | rfl | exact congrArg S HZ.out), rfl⟩ (below_dN HB.out _))
    | (guard_target =~ Exit.then _ _ _ _ _; first | refine then_ex ?_ | refine then_no ?_)
    | (guard_target =~ Exit.inBlock _ _ _ _ _; first | refine blk_same ?_ | refine blk_ne (by decide) ?_ | refine blk_no ?_)
    | (guard_target =~ Code.wp _ (Code.region _ _ true) _ _ _; go_quiet (fail))
    | (go_at_call 107; refine (HP.out _).mono ?_; rintro e w1 ⟨rfl, rfl⟩)
    | go_guarded
    | go_skip
    | go_step
    | go_upon
    | go_back
    | go_simp)
set_option maxRecDepth 100000 in
set_option maxHeartbeats 2000000 in
theorem par69_33 (v : V69) (n : Nat) (comma : Bool) (x : Int) (pre rest : Bytes) (n0 : 1 ≤ n) (n9 : n ≤ 9) (hv : v.val = pre ++ rest) (hlen : pre.length = 1 + n) (hmx : v.val.length ≤ 1099511627776) (hp : ∀ w, Calls Tryz.prog 91 #[S v.val, .int .i64 (1 + (n : Int))] w fun e w' => e = .returned (.tuple #[.int .i64 x, S [], .nilIface]) ∧ ∃ n, w' = w.drewN n) : Par69 (fstd 34 n comma) 34 v { v with val := rest, ns := x } := by
  intro w u K Qx hK
  obtain ⟨lay, val, loc, p, am, pm, y, m, d, yd, h, mi, s, ns, z, zo, zn⟩ := v
  simp only at hv hmx hp
  obtain ⟨l, HL⟩ : ∃ l, Hid (l = val) := ⟨_, Lib.hid rfl⟩
  have hll : 1 + n ≤ l.length := by rw [HL.out, hv]; simp; omega
  have hl40 : l.length ≤ 1099511627776 := by rw [HL.out]; exact hmx
  have HR : Hid (List.take (l.length - (1 + n)) (List.drop (1 + n) l) = rest) := by show _ = _; rw [take_rest, HL.out, hv, ← hlen, List.drop_left]
  have HR2 : Hid (List.drop (1 + n) l = rest) := by show _ = _; rw [HL.out, hv, ← hlen, List.drop_left]
  have HD : Hid (∀ w, Calls Tryz.prog 108 #[.int .i64 (fstd 34 n comma)] w fun e w' => e = .returned (.int .i64 n) ∧ w' = w) := fun w => digitsLen_c 34 n comma w (.inl rfl) n0 n9
  have HP := Lib.hid hp
  rw [← HL.out] at HP ⊢
  clear hv hmx hp hlen
  generalize fstd 34 n comma = st at *
  have HK := Lib.hid hK
  have HB : Hid (Below w.heap.size w w) := Lib.hid (Below.refl _ _)
  clear hK
  unfold fr69t
  conv => arg 2; whnf
  repeat' (first
    | (guard_target =~ K _ _; first | exact HK.out _ _ ⟨rfl, rfl, rfl, (by first | rfl | exact congrArg S HR.out | exact congrArg S HR2.out), rfl, rfl, rfl, rfl, rfl, rfl, rfl, rfl, rfl, rfl, rfl, rfl, rfl, rfl, rfl, rfl, rfl, rfl, rfl⟩ HB.out | exact HK.out _ _ ⟨rfl, rfl, rfl, (by first | rfl | exact congrArg S HR.out | exact congrArg S HR2.out), rfl, rfl, rfl, rfl, rfl, rfl, rfl, rfl, rfl, rfl, rfl, rfl, rfl, rfl, rfl, rfl, rfl, rfl, rfl⟩ (below_dN HB.out _))
    | (guard_target =~ Exit.then _ _ _ _ _; first | refine then_ex ?_ | refine then_no ?_)
    | (guard_target =~ Exit.inBlock _ _ _ _ _; first | refine blk_same ?_ | refine blk_ne (by decide) ?_ | refine blk_no ?_)
    | (guard_target =~ Code.wp _ (Code.region _ _ true) _ _ _; go_quiet (fail))
    | (go_at_call 91; refine (HP.out _).mono ?_; rintro e w1 ⟨rfl, k, rfl⟩; have HB := Lib.hid (below_dN HB.out k))
    | (go_at_call 108; refine (HD.out _).mono ?_; rintro e w1 ⟨rfl, rfl⟩)
    | go_guarded
    | go_skip
    | go_step
    | go_upon
    | go_back
    | go_simp)
end Go.Proofs.YtndhiemagankeaaGreatDoor
/- The walk of package time: a time is read by a layout: years. -/
namespace Go.Proofs.YtndhiemagankeaaGreatDoor
open Go.RowKit
set_option linter.unusedSimpArgs false
set_option linter.unusedVariables false
attribute [local simp] bs_size bs_toList bs_append bs_data bs_extract
/-- What stands behind a block in a code, by the block's number. -/
noncomputable def afterBlk (n : Nat) : Code → Option Code
  | .seq a b => match a with
    | .block k c => if k == n then some b else (afterBlk n c).or (afterBlk n b)
    | a => (afterBlk n a).or (afterBlk n b)
  | .cond _ a b => (afterBlk n a).or (afterBlk n b)
  | .block _ a => afterBlk n a
  | .scope a => afterBlk n a
  | .loop a => afterBlk n a
  | _ => none
noncomputable def hand69 (n : Nat) : Code := (Tryz.f69.body.bind (afterBlk n)).getD .skip
/-- The code behind a block turns the slots from one record to another, and leaves by block 2. -/
def Hand69 (n : Nat) (std code : Int) (v v2 : V69) : Prop :=
  ∀ (w : World) (u : Nat → Value) (Q : Exit → Act → World → Prop),
    (∀ a2 w2, At69n v2 a2 → Below w.heap.size w w2 → Q (.exit 2) a2 w2) → (hand69 n).wp Tryz.prog Q (fr69t v std code u) w
set_option maxRecDepth 100000 in
set_option maxHeartbeats 1000000 in
theorem hand69_1 (v : V69) (ds rest : Bytes) (hv : v.val = ds ++ rest) (hmx : v.val.length ≤ 1099511627776) (hlen : ds.length = 4) (hd : ∀ c ∈ ds, isD c = true) : Hand69 4 275 275 v { v with val := rest, y := numD ds } := by
  intro w u Q hK
  obtain ⟨lay, val, loc, p, am, pm, y, m, d, yd, h, mi, s, ns, z, zo, zn⟩ := v
  simp only at hv
  obtain ⟨l, HL⟩ : ∃ l, Hid (l = val) := ⟨_, Lib.hid rfl⟩
  have hll : 4 ≤ l.length := by rw [HL.out, hv]; simp; omega
  have hl40 : l.length ≤ 1099511627776 := by rw [HL.out]; exact hmx
  have HT4 : Hid (List.take 4 l = ds) := by show _ = _; rw [HL.out, hv, ← hlen, List.take_left]
  have HR : Hid (List.take (l.length - 4) (List.drop 4 l) = rest) := by show _ = _; rw [take_rest, HL.out, hv, ← hlen, List.drop_left]
  have HR2 : Hid (List.drop 4 l = rest) := by show _ = _; rw [HL.out, hv, ← hlen, List.drop_left]
  have HA : Hid (∀ w, Calls Tryz.prog 98 #[S (List.take 4 l)] w fun e w' => e = .returned (.tuple #[.int .i64 (numD ds), .nilIface]) ∧ ∃ n, w' = w.drewN n) := fun w => by rw [HT4.out]; exact atoi_c ds w hd (by omega) (by omega)
  have HI : Hid (∀ w, Calls Tryz.prog 90 #[S l, .int .i64 0] w fun e w' => e = .returned (.bool true) ∧ w' = w) := fun w => by
    have h1 := isDigit_c l 0 w (by omega)
    have h2 : digitAt l (0 : Int).toNat = true := by
      show digitAt l 0 = true
      rw [HL.out, hv]
      cases ds with
      | nil => simp at hlen
      | cons c ds => simpa [digitAt] using hd c (by simp)
    rwa [h2] at h1
  rw [← HL.out]
  clear hv hd hlen hmx
  have HK := Lib.hid hK
  have HB : Hid (Below w.heap.size w w) := Lib.hid (Below.refl _ _)
  clear hK
  unfold fr69t
  conv => arg 2; whnf
  go_wp2_with (first
    | (guard_target =~ Code.wp _ (Code.region _ _ true) _ _ _; go_quiet (fail))
    | (go_at_call 98; (first | refine (HA.out _).mono ?_ | (rw [HT4.out]; refine (HA.out _).mono ?_)); rintro e w1 ⟨rfl, k, rfl⟩; have HB := Lib.hid (below_dN HB.out k))
    | (go_at_call 90; refine (HI.out _).mono ?_; rintro e w1 ⟨rfl, rfl⟩))
  all_goals first | exact HK.out _ _ ⟨rfl, rfl, rfl, (by first | rfl | exact congrArg S HR.out | exact congrArg S HR2.out), rfl, rfl, rfl, rfl, rfl, rfl, rfl, rfl, rfl, rfl, rfl, rfl, rfl, rfl, rfl, rfl, rfl, rfl, rfl⟩ HB.out | exact HK.out _ _ ⟨rfl, rfl, rfl, (by first | rfl | exact congrArg S HR.out | exact congrArg S HR2.out), rfl, rfl, rfl, rfl, rfl, rfl, rfl, rfl, rfl, rfl, rfl, rfl, rfl, rfl, rfl, rfl, rfl, rfl, rfl⟩ (below_dN HB.out _) | exact HK.out _ _ ⟨rfl, rfl, rfl, (by first | rfl | exact congrArg S HR.out | exact congrArg S HR2.out), rfl, rfl, rfl, rfl, rfl, rfl, rfl, rfl, rfl, rfl, rfl, rfl, rfl, rfl, rfl, rfl, rfl, rfl, rfl⟩ (below_drewN _ _)
end Go.Proofs.YtndhiemagankeaaGreatDoor
/- The walk of package time: a time is read by a layout: years. -/
namespace Go.Proofs.YtndhiemagankeaaGreatDoor
open Go.RowKit
set_option linter.unusedSimpArgs false
set_option linter.unusedVariables false
attribute [local simp] bs_size bs_toList bs_append bs_data bs_extract
set_option maxRecDepth 100000 in
set_option maxHeartbeats 4000000 in
theorem chain69_1 (v v2 : V69) (hh : Hand69 4 275 275 v v2) : Par69 275 275 v v2 := by
  intro w u K Qx hK
  have HH : Hid (∀ (a : Act) (Q : Exit → Act → World → Prop), At69t v 275 275 a → (∀ a2 w2, At69n v2 a2 → Below w.heap.size w w2 → Q (.exit 2) a2 w2) → (hand69 4).wp Tryz.prog Q a w) := by
    show ∀ a Q, _
    intro a Q hA hq
    obtain ⟨u, rfl⟩ := hA.open
    exact hh w u Q hq
  obtain ⟨lay, val, loc, p, am, pm, y, m, d, yd, h, mi, s, ns, z, zo, zn⟩ := v
  have HK := Lib.hid hK
  clear hK hh
  unfold fr69t
  conv => arg 2; whnf
  repeat' (first
    | (guard_target =~ Code.wp _ (Code.seq _ (Code.exit 2)) _ _ _; refine HH.out _ _ ⟨rfl, rfl, rfl, rfl, rfl, rfl, rfl, rfl, rfl, rfl, rfl, rfl, rfl, rfl, rfl, rfl, rfl, rfl, rfl, rfl, rfl, rfl, rfl, rfl, rfl⟩ ?_; intro a2 w2 hA2 hB2; have HA2 := Lib.hid hA2; have HB2 := Lib.hid hB2; clear hA2 hB2)
    | (guard_target =~ K _ _; exact HK.out _ _ HA2.out HB2.out)
    | (guard_target =~ Exit.then _ _ _ _ _; first | refine then_ex ?_ | refine then_no ?_)
    | (guard_target =~ Exit.inBlock _ _ _ _ _; first | refine blk_same ?_ | refine blk_ne (by decide) ?_ | refine blk_no ?_)
    | go_guarded
    | go_skip
    | go_step
    | go_upon
    | go_back
    | go_simp)
set_option maxRecDepth 100000 in
set_option maxHeartbeats 1000000 in
theorem hand69_2a (v : V69) (ds rest : Bytes) (hv : v.val = ds ++ rest) (hmx : v.val.length ≤ 1099511627776) (hlen : ds.length = 2) (hd : ∀ c ∈ ds, isD c = true) (hy : 69 ≤ numD ds) : Hand69 3 276 276 v { v with val := rest, y := numD ds + 1900 } := by
  intro w u Q hK
  obtain ⟨lay, val, loc, p, am, pm, y, m, d, yd, h, mi, s, ns, z, zo, zn⟩ := v
  simp only at hv
  obtain ⟨l, HL⟩ : ∃ l, Hid (l = val) := ⟨_, Lib.hid rfl⟩
  have hll : 2 ≤ l.length := by rw [HL.out, hv]; simp; omega
  have hl40 : l.length ≤ 1099511627776 := by rw [HL.out]; exact hmx
  have HT4 : Hid (List.take 2 l = ds) := by show _ = _; rw [HL.out, hv, ← hlen, List.take_left]
  have HR : Hid (List.take (l.length - 2) (List.drop 2 l) = rest) := by show _ = _; rw [take_rest, HL.out, hv, ← hlen, List.drop_left]
  have HR2 : Hid (List.drop 2 l = rest) := by show _ = _; rw [HL.out, hv, ← hlen, List.drop_left]
  have hb := numD_bd hd
  rw [hlen] at hb
  have HA : Hid (∀ w, Calls Tryz.prog 98 #[S (List.take 2 l)] w fun e w' => e = .returned (.tuple #[.int .i64 (numD ds), .nilIface]) ∧ ∃ n, w' = w.drewN n) := fun w => by rw [HT4.out]; exact atoi_c ds w hd (by omega) (by omega)
  rw [← HL.out]
  clear hv hd hlen hmx
  have hb0 : 0 ≤ numD ds := hb.1
  have hb1 : numD ds < 100 := hb.2
  clear hb
  generalize numD ds = x at *
  have HK := Lib.hid hK
  have HB : Hid (Below w.heap.size w w) := Lib.hid (Below.refl _ _)
  clear hK
  unfold fr69t
  conv => arg 2; whnf
  go_wp2_with (first
    | (guard_target =~ Code.wp _ (Code.region _ _ true) _ _ _; go_quiet (fail))
    | (go_at_call 98; (first | refine (HA.out _).mono ?_ | (rw [HT4.out]; refine (HA.out _).mono ?_)); rintro e w1 ⟨rfl, k, rfl⟩; have HB := Lib.hid (below_dN HB.out k)))
  all_goals first | exact HK.out _ _ ⟨rfl, rfl, rfl, (by first | rfl | exact congrArg S HR.out | exact congrArg S HR2.out), rfl, rfl, rfl, rfl, rfl, rfl, rfl, rfl, rfl, rfl, rfl, rfl, rfl, rfl, rfl, rfl, rfl, rfl, rfl⟩ HB.out | exact HK.out _ _ ⟨rfl, rfl, rfl, (by first | rfl | exact congrArg S HR.out | exact congrArg S HR2.out), rfl, rfl, rfl, rfl, rfl, rfl, rfl, rfl, rfl, rfl, rfl, rfl, rfl, rfl, rfl, rfl, rfl, rfl, rfl⟩ (below_dN HB.out _) | exact HK.out _ _ ⟨rfl, rfl, rfl, (by first | rfl | exact congrArg S HR.out | exact congrArg S HR2.out), rfl, rfl, rfl, rfl, rfl, rfl, rfl, rfl, rfl, rfl, rfl, rfl, rfl, rfl, rfl, rfl, rfl, rfl, rfl⟩ (below_drewN _ _)
set_option maxRecDepth 100000 in
set_option maxHeartbeats 1000000 in
theorem hand69_2b (v : V69) (ds rest : Bytes) (hv : v.val = ds ++ rest) (hmx : v.val.length ≤ 1099511627776) (hlen : ds.length = 2) (hd : ∀ c ∈ ds, isD c = true) (hy : numD ds < 69) : Hand69 3 276 276 v { v with val := rest, y := numD ds + 2000 } := by
  intro w u Q hK
  obtain ⟨lay, val, loc, p, am, pm, y, m, d, yd, h, mi, s, ns, z, zo, zn⟩ := v
  simp only at hv
  obtain ⟨l, HL⟩ : ∃ l, Hid (l = val) := ⟨_, Lib.hid rfl⟩
  have hll : 2 ≤ l.length := by rw [HL.out, hv]; simp; omega
  have hl40 : l.length ≤ 1099511627776 := by rw [HL.out]; exact hmx
  have HT4 : Hid (List.take 2 l = ds) := by show _ = _; rw [HL.out, hv, ← hlen, List.take_left]
  have HR : Hid (List.take (l.length - 2) (List.drop 2 l) = rest) := by show _ = _; rw [take_rest, HL.out, hv, ← hlen, List.drop_left]
  have HR2 : Hid (List.drop 2 l = rest) := by show _ = _; rw [HL.out, hv, ← hlen, List.drop_left]
  have hb := numD_bd hd
  rw [hlen] at hb
  have HA : Hid (∀ w, Calls Tryz.prog 98 #[S (List.take 2 l)] w fun e w' => e = .returned (.tuple #[.int .i64 (numD ds), .nilIface]) ∧ ∃ n, w' = w.drewN n) := fun w => by rw [HT4.out]; exact atoi_c ds w hd (by omega) (by omega)
  rw [← HL.out]
  clear hv hd hlen hmx
  have hb0 : 0 ≤ numD ds := hb.1
  have hb1 : numD ds < 100 := hb.2
  clear hb
  generalize numD ds = x at *
  have HK := Lib.hid hK
  have HB : Hid (Below w.heap.size w w) := Lib.hid (Below.refl _ _)
  clear hK
  unfold fr69t
  conv => arg 2; whnf
  go_wp2_with (first
    | (guard_target =~ Code.wp _ (Code.region _ _ true) _ _ _; go_quiet (fail))
    | (go_at_call 98; (first | refine (HA.out _).mono ?_ | (rw [HT4.out]; refine (HA.out _).mono ?_)); rintro e w1 ⟨rfl, k, rfl⟩; have HB := Lib.hid (below_dN HB.out k)))
  all_goals first | exact HK.out _ _ ⟨rfl, rfl, rfl, (by first | rfl | exact congrArg S HR.out | exact congrArg S HR2.out), rfl, rfl, rfl, rfl, rfl, rfl, rfl, rfl, rfl, rfl, rfl, rfl, rfl, rfl, rfl, rfl, rfl, rfl, rfl⟩ HB.out | exact HK.out _ _ ⟨rfl, rfl, rfl, (by first | rfl | exact congrArg S HR.out | exact congrArg S HR2.out), rfl, rfl, rfl, rfl, rfl, rfl, rfl, rfl, rfl, rfl, rfl, rfl, rfl, rfl, rfl, rfl, rfl, rfl, rfl⟩ (below_dN HB.out _) | exact HK.out _ _ ⟨rfl, rfl, rfl, (by first | rfl | exact congrArg S HR.out | exact congrArg S HR2.out), rfl, rfl, rfl, rfl, rfl, rfl, rfl, rfl, rfl, rfl, rfl, rfl, rfl, rfl, rfl, rfl, rfl, rfl, rfl⟩ (below_drewN _ _)
set_option maxRecDepth 100000 in
set_option maxHeartbeats 4000000 in
theorem chain69_2 (v v2 : V69) (hh : Hand69 3 276 276 v v2) : Par69 276 276 v v2 := by
  intro w u K Qx hK
  have HH : Hid (∀ (a : Act) (Q : Exit → Act → World → Prop), At69t v 276 276 a → (∀ a2 w2, At69n v2 a2 → Below w.heap.size w w2 → Q (.exit 2) a2 w2) → (hand69 3).wp Tryz.prog Q a w) := by
    show ∀ a Q, _
    intro a Q hA hq
    obtain ⟨u, rfl⟩ := hA.open
    exact hh w u Q hq
  obtain ⟨lay, val, loc, p, am, pm, y, m, d, yd, h, mi, s, ns, z, zo, zn⟩ := v
  have HK := Lib.hid hK
  clear hK hh
  unfold fr69t
  conv => arg 2; whnf
  repeat' (first
    | (guard_target =~ Code.wp _ (Code.seq _ (Code.exit 2)) _ _ _; refine HH.out _ _ ⟨rfl, rfl, rfl, rfl, rfl, rfl, rfl, rfl, rfl, rfl, rfl, rfl, rfl, rfl, rfl, rfl, rfl, rfl, rfl, rfl, rfl, rfl, rfl, rfl, rfl⟩ ?_; intro a2 w2 hA2 hB2; have HA2 := Lib.hid hA2; have HB2 := Lib.hid hB2; clear hA2 hB2)
    | (guard_target =~ K _ _; exact HK.out _ _ HA2.out HB2.out)
    | (guard_target =~ Exit.then _ _ _ _ _; first | refine then_ex ?_ | refine then_no ?_)
    | (guard_target =~ Exit.inBlock _ _ _ _ _; first | refine blk_same ?_ | refine blk_ne (by decide) ?_ | refine blk_no ?_)
    | go_guarded
    | go_skip
    | go_step
    | go_upon
    | go_back
    | go_simp)
end Go.Proofs.YtndhiemagankeaaGreatDoor
/- The walk of package time: a time is read by a layout: a day with a blank. -/
namespace Go.Proofs.YtndhiemagankeaaGreatDoor
open Go.RowKit
set_option linter.unusedSimpArgs false
set_option linter.unusedVariables false
attribute [local simp] bs_size bs_toList bs_append bs_data bs_extract
set_option maxRecDepth 100000 in
set_option maxHeartbeats 1000000 in
theorem hand69_10b (v : V69) (x : Int) (val2 rest : Bytes) (hg : Getn 102 false val2 x rest) (hv : v.val = 32 :: val2) (hmx : v.val.length ≤ 1099511627776) (x0 : 0 ≤ x) (x1 : x ≤ 99) : Hand69 10 264 264 v { v with val := rest, d := x } := by
  intro w u Q hK
  obtain ⟨lay, val, loc, p, am, pm, y, m, d, yd, h, mi, s, ns, z, zo, zn⟩ := v
  simp only at hg hv hmx
  obtain ⟨l, HL⟩ : ∃ l, Hid (l = val) := ⟨_, Lib.hid rfl⟩
  have hll : 1 ≤ l.length := by rw [HL.out, hv]; simp
  have hl40 : l.length ≤ 1099511627776 := by rw [HL.out]; exact hmx
  have hix : ∀ h : 0 < (bs l).size, (bs l)[0]'h = 32 := fun h => by rw [bs_get]; simp only [HL.out, hv]; rfl
  have HV : Hid (List.take (l.length - 1) (List.drop 1 l) = val2) := by show _ = _; rw [take_rest, HL.out, hv]; rfl
  have HV2 : Hid (List.drop 1 l = val2) := by show _ = _; rw [HL.out, hv]; rfl
  have HV3 : Hid (List.take (l.length - 1) (List.tail l) = val2) := by show _ = _; rw [HL.out, hv]; simp
  have HR : Hid (rest = rest) := Lib.hid rfl
  have HR2 := HR
  have HG := Lib.hid hg
  unfold Getn at HG
  rw [← HL.out]
  clear hg hv hmx
  have HK := Lib.hid hK
  have HB : Hid (Below w.heap.size w w) := Lib.hid (Below.refl _ _)
  clear hK
  unfold fr69t
  conv => arg 2; whnf
  go_wp2_with (first
    | (guard_target =~ Code.wp _ (Code.region _ _ true) _ _ _; go_quiet (fail))
    | (go_at_call 102; (first | rw [HV.out] | rw [HV2.out] | rw [HV3.out]); refine (HG.out _).mono ?_; rintro e w1 ⟨rfl, k, rfl⟩; have HB := Lib.hid (below_dN HB.out k)))
  all_goals first | exact HK.out _ _ ⟨rfl, rfl, rfl, (by first | rfl | exact congrArg S HR.out | exact congrArg S HR2.out), rfl, rfl, rfl, rfl, rfl, rfl, rfl, rfl, rfl, rfl, rfl, rfl, rfl, rfl, rfl, rfl, rfl, rfl, rfl⟩ HB.out | exact HK.out _ _ ⟨rfl, rfl, rfl, (by first | rfl | exact congrArg S HR.out | exact congrArg S HR2.out), rfl, rfl, rfl, rfl, rfl, rfl, rfl, rfl, rfl, rfl, rfl, rfl, rfl, rfl, rfl, rfl, rfl, rfl, rfl⟩ (below_dN HB.out _) | exact HK.out _ _ ⟨rfl, rfl, rfl, (by first | rfl | exact congrArg S HR.out | exact congrArg S HR2.out), rfl, rfl, rfl, rfl, rfl, rfl, rfl, rfl, rfl, rfl, rfl, rfl, rfl, rfl, rfl, rfl, rfl, rfl, rfl⟩ (below_drewN _ _)
set_option maxRecDepth 100000 in
set_option maxHeartbeats 4000000 in
theorem chain69_10 (v v2 : V69) (hh : Hand69 10 264 264 v v2) : Par69 264 264 v v2 := by
  intro w u K Qx hK
  have HH : Hid (∀ (a : Act) (Q : Exit → Act → World → Prop), At69t v 264 264 a → (∀ a2 w2, At69n v2 a2 → Below w.heap.size w w2 → Q (.exit 2) a2 w2) → (hand69 10).wp Tryz.prog Q a w) := by
    show ∀ a Q, _
    intro a Q hA hq
    obtain ⟨u, rfl⟩ := hA.open
    exact hh w u Q hq
  obtain ⟨lay, val, loc, p, am, pm, y, m, d, yd, h, mi, s, ns, z, zo, zn⟩ := v
  have HK := Lib.hid hK
  clear hK hh
  unfold fr69t
  conv => arg 2; whnf
  repeat' (first
    | (guard_target =~ Code.wp _ (Code.seq _ (Code.exit 2)) _ _ _; refine HH.out _ _ ⟨rfl, rfl, rfl, rfl, rfl, rfl, rfl, rfl, rfl, rfl, rfl, rfl, rfl, rfl, rfl, rfl, rfl, rfl, rfl, rfl, rfl, rfl, rfl, rfl, rfl⟩ ?_; intro a2 w2 hA2 hB2; have HA2 := Lib.hid hA2; have HB2 := Lib.hid hB2; clear hA2 hB2)
    | (guard_target =~ K _ _; exact HK.out _ _ HA2.out HB2.out)
    | (guard_target =~ Exit.then _ _ _ _ _; first | refine then_ex ?_ | refine then_no ?_)
    | (guard_target =~ Exit.inBlock _ _ _ _ _; first | refine blk_same ?_ | refine blk_ne (by decide) ?_ | refine blk_no ?_)
    | go_guarded
    | go_skip
    | go_step
    | go_upon
    | go_back
    | go_simp)
end Go.Proofs.YtndhiemagankeaaGreatDoor
/- The walk of package time: a time is read by a layout: what an element leaves, by the world. -/
namespace Go.Proofs.YtndhiemagankeaaGreatDoor
open Go.RowKit
set_option linter.unusedSimpArgs false
set_option linter.unusedVariables false
attribute [local simp] bs_size bs_toList bs_append bs_data bs_extract
/-- As Hand69 and Par69, where what is left hangs on the world. -/
def Hand69R (n : Nat) (std code : Int) (v : V69) (R : V69 → World → Prop) : Prop :=
  ∀ (w : World) (u : Nat → Value) (Q : Exit → Act → World → Prop), StdAt w →
    (∀ v2 a2 w2, At69n v2 a2 → Below w.heap.size w w2 → R v2 w2 → Q (.exit 2) a2 w2) → (hand69 n).wp Tryz.prog Q (fr69t v std code u) w
def Par69R (std code : Int) (v : V69) (R : V69 → World → Prop) : Prop :=
  ∀ (w : World) (u : Nat → Value) (K : Act → World → Prop) (Qx : Exit → Act → World → Prop), StdAt w →
    (∀ v2 a2 w2, At69n v2 a2 → Below w.heap.size w w2 → R v2 w2 → K a2 w2) → sw69.wp Tryz.prog (Exit.then K Qx) (fr69t v std code u) w
theorem Hand69.r {n : Nat} {std code : Int} {v v2 : V69} {R : V69 → World → Prop} (h : Hand69 n std code v v2) (hR : ∀ w, R v2 w) : Hand69R n std code v R :=
  fun w u Q _ hQ => h w u Q fun a2 w2 hA hB => hQ v2 a2 w2 hA hB (hR w2)
theorem Par69.r {std code : Int} {v v2 : V69} {R : V69 → World → Prop} (h : Par69 std code v v2) (hR : ∀ w, R v2 w) : Par69R std code v R :=
  fun w u K Qx _ hK => h w u K Qx fun a2 w2 hA hB => hK v2 a2 w2 hA hB (hR w2)
theorem StdAt.draws {w : World} (h : StdAt w) (n : Nat) : StdAt (w.drewN n) := h.below (below_drewN w n)
end Go.Proofs.YtndhiemagankeaaGreatDoor
