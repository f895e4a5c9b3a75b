/-
  FnLayout (the statement: for every list of pieces, every time and every zone the call returns true, and its arguments read afterwards as they did), part 28 of 41. In this part: The walk of package time: a time is read by a layout: trimmed fractions. The plain law: what the elements of a layout turn in the slots of the reader, one by one and all together. The walk of package time: a time is read by a layout: offsets with a sign.
-/
import Derived.Test.YtndhiemagankeaaGreatDoorG09
import Derived.Test.YtndhiemagankeaaGreatDoorG12
import Derived.Test.YtndhiemagankeaaGreatDoorG25
import Derived.Test.YtndhiemagankeaaGreatDoorG26
/- The walk of package time: a time is read by a layout: trimmed fractions. -/
namespace Go.Proofs.YtndhiemagankeaaGreatDoor
open Go.RowKit
set_option linter.unusedSimpArgs false
set_option linter.unusedVariables false
attribute [local simp] bs_size bs_toList bs_append bs_data bs_extract
noncomputable def body35 : Code := (firstLoop (hand69 22)).getD .skip
/-- The frame in the loop over digits, by its counter. -/
def At35 (v : V69) (st : Int) (j : Nat) (a : Act) : Prop := At69t v st 35 a ∧ a.tmps.getD 45 undef = .int .i64 (j : Int)
set_option maxRecDepth 100000 in
set_option maxHeartbeats 1000000 in
theorem step35 (v : V69) (st : Int) (j : Nat) (a : Act) (w : World) (c : UInt8) (t : Bytes) (hv : v.val.drop (j + 1) = c :: t) (hc : isD c = true) (hmx : v.val.length ≤ 1099511627776) (I : Act → World → Prop) (Q : Exit → Act → World → Prop) (hA : At35 v st j a) (hK : ∀ a2, At35 v st (j + 1) a2 → I a2 w) :
    body35.wp Tryz.prog (Exit.then I Q) a w := by
  obtain ⟨hA, h45⟩ := hA
  obtain ⟨u, rfl⟩ := hA.open
  have e45 : u 45 = .int .i64 (j : Int) := h45
  clear h45
  obtain ⟨lay, val, loc, p, am, pm, y, m, d, yd, h, mi, s, ns, z, zo, zn⟩ := v
  simp only at hmx
  have HK := Lib.hid hK
  simp only at hv
  have hlt : j + 1 < val.length := by
    have := congrArg List.length hv
    simp at this
    omega
  have hix : ∀ h : j + 1 < (bs val).size, (bs val)[j + 1]'h = c := fun h => by
    rw [bs_get]
    have := List.drop_eq_getElem_cons hlt
    rw [this] at hv
    exact (List.cons.inj hv).1
  have hcd := (isD_iff c).1 hc
  have hcb := c.toNat_lt
  clear hv hc
  clear hA hK
  unfold fr69t
  rw [e45]
  clear e45
  conv => arg 2; whnf
  go_wp2_with (guard_target =~ Code.wp _ (Code.region _ _ true) _ _ _; go_quiet (fail))
  all_goals first | exact HK.out _ ⟨⟨rfl, rfl, rfl, rfl, rfl, rfl, rfl, rfl, rfl, rfl, rfl, rfl, rfl, rfl, rfl, rfl, rfl, rfl, rfl, rfl, rfl, rfl, rfl, rfl, rfl⟩, by first | rfl | simp⟩ | (exfalso; omega)
set_option maxRecDepth 100000 in
set_option maxHeartbeats 1000000 in
theorem end35a (v : V69) (st : Int) (j : Nat) (a : Act) (w : World) (hl : v.val.length = j + 1) (hmx : v.val.length ≤ 1099511627776) (I : Act → World → Prop) (Q : Exit → Act → World → Prop) (hA : At35 v st j a) (hK : ∀ a2, At35 v st j a2 → Q (.exit 30) a2 w) :
    body35.wp Tryz.prog (Exit.then I Q) a w := by
  obtain ⟨hA, h45⟩ := hA
  obtain ⟨u, rfl⟩ := hA.open
  have e45 : u 45 = .int .i64 (j : Int) := h45
  clear h45
  obtain ⟨lay, val, loc, p, am, pm, y, m, d, yd, h, mi, s, ns, z, zo, zn⟩ := v
  simp only at hmx
  have HK := Lib.hid hK
  simp only at hl
  clear hA hK
  unfold fr69t
  rw [e45]
  clear e45
  conv => arg 2; whnf
  go_wp2_with (guard_target =~ Code.wp _ (Code.region _ _ true) _ _ _; go_quiet (fail))
  all_goals first | exact HK.out _ ⟨⟨rfl, rfl, rfl, rfl, rfl, rfl, rfl, rfl, rfl, rfl, rfl, rfl, rfl, rfl, rfl, rfl, rfl, rfl, rfl, rfl, rfl, rfl, rfl, rfl, rfl⟩, rfl⟩ | (exfalso; omega)
set_option maxRecDepth 100000 in
set_option maxHeartbeats 1000000 in
theorem end35b (v : V69) (st : Int) (j : Nat) (a : Act) (w : World) (c : UInt8) (t : Bytes) (hv : v.val.drop (j + 1) = c :: t) (hc : isD c = false) (hmx : v.val.length ≤ 1099511627776) (I : Act → World → Prop) (Q : Exit → Act → World → Prop) (hA : At35 v st j a) (hK : ∀ a2, At35 v st j a2 → Q (.exit 30) a2 w) :
    body35.wp Tryz.prog (Exit.then I Q) a w := by
  obtain ⟨hA, h45⟩ := hA
  obtain ⟨u, rfl⟩ := hA.open
  have e45 : u 45 = .int .i64 (j : Int) := h45
  clear h45
  obtain ⟨lay, val, loc, p, am, pm, y, m, d, yd, h, mi, s, ns, z, zo, zn⟩ := v
  simp only at hmx
  have HK := Lib.hid hK
  simp only at hv
  have hlt : j + 1 < val.length := by
    have := congrArg List.length hv
    simp at this
    omega
  have hix : ∀ h : j + 1 < (bs val).size, (bs val)[j + 1]'h = c := fun h => by
    rw [bs_get]
    have := List.drop_eq_getElem_cons hlt
    rw [this] at hv
    exact (List.cons.inj hv).1
  have hcd : ¬ (48 ≤ c.toNat ∧ c.toNat ≤ 57) := by rw [← isD_iff, hc]; decide
  have hcb := c.toNat_lt
  clear hv hc
  clear hA hK
  unfold fr69t
  rw [e45]
  clear e45
  conv => arg 2; whnf
  go_wp2_with (guard_target =~ Code.wp _ (Code.region _ _ true) _ _ _; go_quiet (fail))
  all_goals first | exact HK.out _ ⟨⟨rfl, rfl, rfl, rfl, rfl, rfl, rfl, rfl, rfl, rfl, rfl, rfl, rfl, rfl, rfl, rfl, rfl, rfl, rfl, rfl, rfl, rfl, rfl, rfl, rfl⟩, rfl⟩ | (exfalso; omega)
theorem loop35 (v : V69) (st : Int) (m0 : UInt8) (D rest : Bytes) (hv : v.val = m0 :: (D ++ rest)) (hd : ∀ c ∈ D, isD c = true) (hr : digitAt rest 0 = false) (hmx : v.val.length ≤ 1099511627776)
    (a : Act) (w : World) (Q : Exit → Act → World → Prop) (hA : At35 v st 0 a) (hQ : ∀ a2, At35 v st D.length a2 → Q (.exit 30) a2 w) : (Code.loop body35).wp Tryz.prog Q a w := by
  refine wp_loop (fun a' w' => (∃ j : Nat, j ≤ D.length ∧ At35 v st j a') ∧ w' = w) (fun a' _ => D.length - (intOf (a'.tmps.getD 45 undef)).toNat) ⟨⟨0, Nat.zero_le _, hA⟩, rfl⟩ ?_
  rintro a' w' ⟨⟨j, hj, hA'⟩, rfl⟩
  by_cases hjl : j < D.length
  · have hdr : v.val.drop (j + 1) = D[j] :: (D.drop (j + 1) ++ rest) := by
      rw [hv, List.drop_succ_cons, List.drop_append_of_le_length (by omega), List.drop_eq_getElem_cons hjl]
      rfl
    refine step35 v st j a' w' D[j] _ hdr (hd _ (List.getElem_mem hjl)) hmx _ _ hA' fun a2 h2 => ⟨⟨⟨j + 1, by omega, h2⟩, rfl⟩, ?_⟩
    rw [h2.2, hA'.2]
    simp [intOf]
    omega
  · have hje : j = D.length := by omega
    subst hje
    have hdr : v.val.drop (D.length + 1) = rest := by
      rw [hv, List.drop_succ_cons, List.drop_left]
    cases hrest : rest with
    | nil =>
      refine end35a v st D.length a' w' ?_ hmx _ _ hA' fun a2 h2 => hQ a2 h2
      rw [hv, hrest]
      simp
    | cons c t =>
      rw [hrest] at hdr hr
      exact end35b v st D.length a' w' c t hdr (by simpa [digitAt] using hr) hmx _ _ hA' fun a2 h2 => hQ a2 h2
set_option maxRecDepth 100000 in
set_option maxHeartbeats 1000000 in
theorem hand69_34a (v : V69) (n : Nat) (comma : Bool) (rest : Bytes) (hmx : rest.length ≤ 1099511627776) (hv : v.val = rest) (hr : rest.length < 2) : Hand69 22 (fstd 35 n comma) 35 v { v with val := rest } := by
  intro w u Q hK
  obtain ⟨lay, val, loc, p, am, pm, y, m, d, yd, h, mi, s, ns, z, zo, zn⟩ := v
  simp only at hv
  subst hv
  have HR : Hid (val = val) := Lib.hid rfl
  have HR2 := HR
  generalize fstd 35 n comma = st at *
  have HK := Lib.hid hK
  have HB : Hid (Below w.heap.size w w) := Lib.hid (Below.refl _ _)
  clear hK
  unfold fr69t
  conv => arg 2; whnf
  go_wp2_with (first
    | (guard_target =~ Code.wp _ (Code.region _ _ true) _ _ _; go_quiet (fail)))
  all_goals first | exact HK.out _ _ ⟨rfl, rfl, rfl, (by first | rfl | exact congrArg S HR.out | exact congrArg S HR2.out), rfl, rfl, rfl, rfl, rfl, rfl, rfl, rfl, rfl, rfl, rfl, rfl, rfl, rfl, rfl, rfl, rfl, rfl, rfl⟩ HB.out | exact HK.out _ _ ⟨rfl, rfl, rfl, (by first | rfl | exact congrArg S HR.out | exact congrArg S HR2.out), rfl, rfl, rfl, rfl, rfl, rfl, rfl, rfl, rfl, rfl, rfl, rfl, rfl, rfl, rfl, rfl, rfl, rfl, rfl⟩ (below_dN HB.out _) | exact HK.out _ _ ⟨rfl, rfl, rfl, (by first | rfl | exact congrArg S HR.out | exact congrArg S HR2.out), rfl, rfl, rfl, rfl, rfl, rfl, rfl, rfl, rfl, rfl, rfl, rfl, rfl, rfl, rfl, rfl, rfl, rfl, rfl⟩ (below_drewN _ _)
set_option maxRecDepth 100000 in
set_option maxHeartbeats 1000000 in
theorem hand69_34b (v : V69) (n : Nat) (comma : Bool) (rest : Bytes) (hmx : rest.length ≤ 1099511627776) (hv : v.val = rest) (c : UInt8) (t : Bytes) (hr : rest = c :: t) (hc : (c == 46 || c == 44) = false) : Hand69 22 (fstd 35 n comma) 35 v { v with val := rest } := by
  intro w u Q hK
  obtain ⟨lay, val, loc, p, am, pm, y, m, d, yd, h, mi, s, ns, z, zo, zn⟩ := v
  simp only at hv
  subst hv
  have HR : Hid (val = val) := Lib.hid rfl
  have HR2 := HR
  have hix : ∀ h : 0 < (bs val).size, (bs val)[0]'h = c := fun h => by rw [bs_get]; simp only [hr]; rfl
  have HC : Hid (∀ w, Calls Tryz.prog 106 #[.int .u8 c.toNat] w fun e w' => e = .returned (.bool false) ∧ w' = w) := fun w => by
    have := commaOrPeriod_c c w
    rwa [hc] at this
  have hcb := c.toNat_lt
  clear hr hc
  generalize fstd 35 n comma = st at *
  have HK := Lib.hid hK
  have HB : Hid (Below w.heap.size w w) := Lib.hid (Below.refl _ _)
  clear hK
  unfold fr69t
  conv => arg 2; whnf
  go_wp2_with (first
    | (guard_target =~ Code.wp _ (Code.region _ _ true) _ _ _; go_quiet (fail))
    | (go_at_call 106; refine (HC.out _).mono ?_; rintro e w1 ⟨rfl, rfl⟩))
  all_goals first | exact HK.out _ _ ⟨rfl, rfl, rfl, (by first | rfl | exact congrArg S HR.out | exact congrArg S HR2.out), rfl, rfl, rfl, rfl, rfl, rfl, rfl, rfl, rfl, rfl, rfl, rfl, rfl, rfl, rfl, rfl, rfl, rfl, rfl⟩ HB.out | exact HK.out _ _ ⟨rfl, rfl, rfl, (by first | rfl | exact congrArg S HR.out | exact congrArg S HR2.out), rfl, rfl, rfl, rfl, rfl, rfl, rfl, rfl, rfl, rfl, rfl, rfl, rfl, rfl, rfl, rfl, rfl, rfl, rfl⟩ (below_dN HB.out _) | exact HK.out _ _ ⟨rfl, rfl, rfl, (by first | rfl | exact congrArg S HR.out | exact congrArg S HR2.out), rfl, rfl, rfl, rfl, rfl, rfl, rfl, rfl, rfl, rfl, rfl, rfl, rfl, rfl, rfl, rfl, rfl, rfl, rfl⟩ (below_drewN _ _)
set_option maxRecDepth 100000 in
set_option maxHeartbeats 2000000 in
theorem hand69_34c (v : V69) (n : Nat) (comma : Bool) (m0 : UInt8) (d0 : UInt8) (ds rest : Bytes) (hv : v.val = m0 :: ((d0 :: ds) ++ rest)) (hm : (m0 == 46 || m0 == 44) = true) (hd : ∀ c ∈ (d0 :: ds), isD c = true) (hlen : ds.length ≤ 8) (hr : digitAt rest 0 = false) (hmx : v.val.length ≤ 1099511627776) : Hand69 22 (fstd 35 n comma) 35 v { v with val := rest, ns := numD (d0 :: ds) * 10 ^ (9 - (d0 :: ds).length) } := by
  intro w u Q hK
  have HLP := Lib.hid (fun (st : Int) (a : Act) (w : World) (Q : Exit → Act → World → Prop) => loop35 v st m0 (d0 :: ds) rest hv hd hr hmx a w Q)
  obtain ⟨lay, val, loc, p, am, pm, y, m, d, yd, h, mi, s, ns, z, zo, zn⟩ := v
  simp only at hv hmx
  obtain ⟨k, hk⟩ : ∃ k : Nat, k = (d0 :: ds).length := ⟨_, rfl⟩
  have hk1 : 1 ≤ k := by rw [hk]; simp
  have hk9 : k ≤ 9 := by rw [hk]; simp; omega
  have HP : Hid (∀ w, Calls Tryz.prog 91 #[S val, .int .i64 (1 + (k : Int))] w fun e w' => e = .returned (.tuple #[.int .i64 (numD (d0 :: ds) * 10 ^ (9 - (d0 :: ds).length)), S [], .nilIface]) ∧ ∃ n, w' = w.drewN n) := fun w => by
    rw [hv]
    refine parseNanoseconds_c m0 (d0 :: ds) rest (1 + (k : Int)) w hm hd (by simp) (by omega) (by omega) ?_
    rw [hv] at hmx
    simp at hmx
    omega
  have HR : Hid (List.take (val.length - (1 + k)) (List.drop (1 + k) val) = rest) := by show _ = _; rw [take_rest, hv, Nat.add_comm 1 k, List.drop_succ_cons, hk, List.drop_left]
  have HR2 : Hid (List.drop (1 + k) val = rest) := by show _ = _; rw [hv, Nat.add_comm 1 k, List.drop_succ_cons, hk, List.drop_left]
  have hll : 2 ≤ val.length := by rw [hv]; simp
  have hlk : 1 + k ≤ val.length := by rw [hv, hk]; simp; omega
  have hix0 : ∀ h : 0 < (bs val).size, (bs val)[0]'h = m0 := fun h => by rw [bs_get]; simp only [hv]; rfl
  have hix1 : ∀ h : 1 < (bs val).size, (bs val)[1]'h = d0 := fun h => by rw [bs_get]; simp only [hv]; rfl
  have hd0 := (isD_iff d0).1 (hd d0 (by simp))
  have HC : Hid (∀ w, Calls Tryz.prog 106 #[.int .u8 m0.toNat] w fun e w' => e = .returned (.bool true) ∧ w' = w) := fun w => by
    have := commaOrPeriod_c m0 w
    rwa [hm] at this
  have hcb := m0.toNat_lt
  have hcb2 := d0.toNat_lt
  rw [← hk] at HLP
  clear hv hd hr hm hlen hk
  generalize numD (d0 :: ds) * 10 ^ (9 - (d0 :: ds).length) = x at *
  generalize fstd 35 n comma = st at *
  have HK := Lib.hid hK
  have HB : Hid (Below w.heap.size w w) := Lib.hid (Below.refl _ _)
  clear hK
  unfold fr69t
  conv => arg 2; whnf
  go_wp2_with (first
    | (guard_target =~ Code.wp _ (Code.region _ _ true) _ _ _; go_quiet (fail))
    | (go_at_call 106; refine (HC.out _).mono ?_; rintro e w1 ⟨rfl, rfl⟩))
  refine HLP.out st _ _ _ ⟨⟨rfl, rfl, rfl, rfl, rfl, rfl, rfl, rfl, rfl, rfl, rfl, rfl, rfl, rfl, rfl, rfl, rfl, rfl, rfl, rfl, rfl, rfl, rfl, rfl, rfl⟩, rfl⟩ ?_
  rintro a2 ⟨hA2, h45⟩
  obtain ⟨u2, rfl⟩ := hA2.open
  have e45 : u2 45 = .int .i64 (k : Int) := h45
  clear h45 hA2
  unfold fr69t
  rw [e45]
  clear e45 HLP
  go_wp2_with (first
    | (guard_target =~ Code.wp _ (Code.region _ _ true) _ _ _; go_quiet (fail))
    | (go_at_call 91; refine (HP.out _).mono ?_; rintro e w1 ⟨rfl, k, rfl⟩; have HB := Lib.hid (below_dN HB.out k)))
  all_goals first | exact HK.out _ _ ⟨rfl, rfl, rfl, (by first | rfl | exact congrArg S HR.out | exact congrArg S HR2.out), rfl, rfl, rfl, rfl, rfl, rfl, rfl, rfl, rfl, rfl, rfl, rfl, rfl, rfl, rfl, rfl, rfl, rfl, rfl⟩ HB.out | exact HK.out _ _ ⟨rfl, rfl, rfl, (by first | rfl | exact congrArg S HR.out | exact congrArg S HR2.out), rfl, rfl, rfl, rfl, rfl, rfl, rfl, rfl, rfl, rfl, rfl, rfl, rfl, rfl, rfl, rfl, rfl, rfl, rfl⟩ (below_dN HB.out _)
set_option maxRecDepth 100000 in
set_option maxHeartbeats 4000000 in
theorem chain69R_34 (v : V69) (st : Int) (R : V69 → World → Prop) (hh : Hand69R 22 st 35 v R) : Par69R st 35 v R := by
  intro w u K Qx hs hK
  have HH : Hid (∀ (a : Act) (Q : Exit → Act → World → Prop), At69t v st 35 a → (∀ v2 a2 w2, At69n v2 a2 → Below w.heap.size w w2 → R v2 w2 → Q (.exit 2) a2 w2) → (hand69 22).wp Tryz.prog Q a w) := by
    show ∀ a Q, _
    intro a Q hA hq
    obtain ⟨u, rfl⟩ := hA.open
    exact hh w u Q hs hq
  obtain ⟨lay, val, loc, p, am, pm, y, m, d, yd, h, mi, s, ns, z, zo, zn⟩ := v
  have HK := Lib.hid hK
  clear hK hh hs
  unfold fr69t
  conv => arg 2; whnf
  repeat' (first
    | (guard_target =~ Code.wp _ (Code.seq _ (Code.exit 2)) _ _ _; refine HH.out _ _ ⟨rfl, rfl, rfl, rfl, rfl, rfl, rfl, rfl, rfl, rfl, rfl, rfl, rfl, rfl, rfl, rfl, rfl, rfl, rfl, rfl, rfl, rfl, rfl, rfl, rfl⟩ ?_; intro v2 a2 w2 hA2 hB2 hR2; have HA2 := Lib.hid hA2; have HB2 := Lib.hid hB2; have HR2 := Lib.hid hR2; clear hA2 hB2 hR2)
    | (guard_target =~ K _ _; exact HK.out _ _ _ HA2.out HB2.out HR2.out)
    | (guard_target =~ Exit.then _ _ _ _ _; first | refine then_ex ?_ | refine then_no ?_)
    | (guard_target =~ Exit.inBlock _ _ _ _ _; first | refine blk_same ?_ | refine blk_ne (by decide) ?_ | refine blk_no ?_)
    | go_guarded
    | go_skip
    | go_step
    | go_upon
    | go_back
    | go_simp)
end Go.Proofs.YtndhiemagankeaaGreatDoor
/- The plain law: what the elements of a layout turn in the slots of the reader, one by one and all together. -/
namespace Go.Proofs.YtndhiemagankeaaGreatDoor
open Go.RowKit
set_option linter.unusedSimpArgs false
set_option linter.unusedVariables false
/-- An element that is read as UTC itself; as an offset; as a name. -/
def zU (c : Civ) (p : Pc) : Bool := (isISO p.kind && c.zone.off == 0) || (p.kind == 32 && c.zone.name == utcB)
def zN (c : Civ) (p : Pc) : Bool := isZone p.kind && !(isISO p.kind && c.zone.off == 0)
def zA (c : Civ) (p : Pc) : Bool := p.kind == 32 && !(c.zone.name == utcB)
/-- What an element of a layout turns in the slots. -/
structure Step (p : Pc) (c : Civ) (rest : Bytes) (v v2 : V69) (w : World) : Prop where
  lay : v2.lay = v.lay
  val : v2.val = rest
  loc : v2.loc = v.loc
  p8 : v2.p = v.p
  am : v2.am = (v.am || (p.kind == 21 && decide (c.hour < 12)))
  pm : v2.pm = (v.pm || (p.kind == 21 && decide (12 ≤ c.hour)))
  y : v2.y = if within p.kind 1 2 = true then c.year else v.y
  m : v2.m = if within p.kind 3 6 = true then c.month else v.m
  d : v2.d = if within p.kind 9 11 = true then c.day else v.d
  yd : v2.yd = if within p.kind 12 13 = true then yearDay c.year c.month c.day else v.yd
  h : v2.h = if p.kind = 14 then c.hour else if within p.kind 15 16 = true then hour12 c.hour else v.h
  mi : v2.mi = if within p.kind 17 18 = true then c.minute else v.mi
  s : v2.s = if within p.kind 19 20 = true then c.second else v.s
  ns : (isFraction p.kind = true ∧ v2.ns = cut c.nano p.n.toNat) ∨ (isFraction p.kind = true ∧ v2.ns = v.ns ∧ cut c.nano p.n.toNat = 0) ∨ (isFraction p.kind = false ∧ v2.ns = v.ns)
  z : (zU c p = true ∧ UtcAt w v2.z) ∨ (zU c p = false ∧ v2.z = v.z)
  zo : v2.zo = if zN c p = true then c.zone.off else v.zo
  zn : v2.zn = if zA c p = true then c.zone.name else v.zn
/-- What the slots hold behind some pieces. -/
structure St (ps : List Pc) (c : Civ) (v : V69) (w : World) : Prop where
  am : v.am = (hasK ps 21 && decide (c.hour < 12))
  pm : v.pm = (hasK ps 21 && decide (12 ≤ c.hour))
  y : v.y = if anyK ps 1 2 = true then c.year else 0
  m : v.m = if anyK ps 3 6 = true then c.month else -1
  d : v.d = if anyK ps 9 11 = true then c.day else -1
  yd : v.yd = if anyK ps 12 13 = true then yearDay c.year c.month c.day else -1
  h : (v.h = c.hour ∧ anyK ps 14 16 = true) ∨ (v.h = hour12 c.hour ∧ anyK ps 15 16 = true ∧ anyK ps 14 16 = true) ∨ (v.h = 0 ∧ anyK ps 14 16 = false)
  mi : v.mi = if anyK ps 17 18 = true then c.minute else 0
  s : v.s = if anyK ps 19 20 = true then c.second else 0
  ns : v.ns = cut c.nano (digitsN ps).toNat
  z : (ps.any (zU c) = true ∧ UtcAt w v.z) ∨ (ps.any (zU c) = false ∧ v.z = .pointer none)
  zo : v.zo = if ps.any (zN c) = true then c.zone.off else -1
  zn : v.zn = if ps.any (zA c) = true then c.zone.name else []
theorem anyK_append (a b : List Pc) (lo hi : Int) : anyK (a ++ b) lo hi = (anyK a lo hi || anyK b lo hi) := by simp [anyK]
theorem hasK_append (a b : List Pc) (k : Int) : hasK (a ++ b) k = (hasK a k || hasK b k) := by simp [hasK]
theorem anyK_one (p : Pc) (lo hi : Int) : anyK [p] lo hi = within p.kind lo hi := by simp [anyK]
theorem hasK_one (p : Pc) (k : Int) : hasK [p] k = (p.kind == k) := by simp [hasK]
theorem anyK_text {ts : List Pc} (h : ∀ p ∈ ts, p.kind = 0) {lo hi : Int} (hl : 0 < lo) : anyK ts lo hi = false := by
  rw [anyK, List.any_eq_false]
  intro p hp
  rw [h p hp]
  simp [within]
  omega
theorem hasK_text {ts : List Pc} (h : ∀ p ∈ ts, p.kind = 0) {k : Int} (hl : 0 < k) : hasK ts k = false := by
  rw [hasK, List.any_eq_false]
  intro p hp
  rw [h p hp]
  simp
  omega
theorem find_text {ts : List Pc} (h : ∀ p ∈ ts, p.kind = 0) : (ts.find? fun p => isFraction p.kind) = none := by
  rw [List.find?_eq_none]
  intro p hp
  rw [h p hp]
  decide
theorem digitsN_append_none (a b : List Pc) (h : (b.find? fun p => isFraction p.kind) = none) : digitsN (a ++ b) = digitsN a := by
  unfold digitsN
  rw [List.find?_append, h]
  cases List.find? (fun p => isFraction p.kind) a <;> rfl
theorem digitsN_append_first (a : List Pc) (p : Pc) (h : (a.find? fun p => isFraction p.kind) = none) (hp : isFraction p.kind = true) : digitsN (a ++ [p]) = p.n := by
  unfold digitsN
  rw [List.find?_append, h]
  simp [hp]
theorem fracs_none {a : List Pc} (h : fracs a = 0) : (a.find? fun p => isFraction p.kind) = none := by
  unfold fracs at h
  rw [List.length_eq_zero_iff, List.filter_eq_nil_iff] at h
  rw [List.find?_eq_none]
  exact h
theorem digitsN_none {a : List Pc} (h : (a.find? fun p => isFraction p.kind) = none) : digitsN a = 0 := by
  unfold digitsN
  rw [h]
theorem cut_zero {n : Int} (h0 : 0 ≤ n) (h1 : n ≤ 999999999) : cut n 0 = 0 := by
  unfold cut power
  have : n / 10 ^ (9 - 0) = 0 := by
    show n / 1000000000 = 0
    omega
  rw [this]
  omega
theorem St.text {ps ts : List Pc} {c : Civ} {v : V69} {w : World} (h : St ps c v w) (ht : ∀ p ∈ ts, p.kind = 0) : St (ps ++ ts) c v w := by
  have hu : ts.any (zU c) = false := by
    rw [List.any_eq_false]; intro p hp; simp [zU, isISO, within, ht p hp]
  have hn : ts.any (zN c) = false := by
    rw [List.any_eq_false]; intro p hp; simp [zN, isZone, within, ht p hp]
  have ha : ts.any (zA c) = false := by
    rw [List.any_eq_false]; intro p hp; simp [zA, ht p hp]
  obtain ⟨h1, h2, h3, h4, h5, h6, h7, h8, h9, h10, h11, h12, h13⟩ := h
  constructor <;> simp only [anyK_append, hasK_append, List.any_append, hu, hn, ha, anyK_text ht (show (0 : Int) < 1 by decide), anyK_text ht (show (0 : Int) < 3 by decide), anyK_text ht (show (0 : Int) < 9 by decide), anyK_text ht (show (0 : Int) < 12 by decide), anyK_text ht (show (0 : Int) < 14 by decide), anyK_text ht (show (0 : Int) < 15 by decide), anyK_text ht (show (0 : Int) < 17 by decide), anyK_text ht (show (0 : Int) < 19 by decide), hasK_text ht (show (0 : Int) < 21 by decide), Bool.or_false, digitsN_append_none ps ts (find_text ht)] <;> assumption
theorem St.set {ps : List Pc} {c : Civ} {v : V69} {w : World} (h : St ps c v w) (lay val : Bytes) : St ps c { v with lay := lay, val := val } w := by
  obtain ⟨h1, h2, h3, h4, h5, h6, h7, h8, h9, h10, h11, h12, h13⟩ := h
  exact ⟨h1, h2, h3, h4, h5, h6, h7, h8, h9, h10, h11, h12, h13⟩
theorem ite_or (a b : Bool) (x y : Int) : (if (a || b) = true then x else y) = if b = true then x else if a = true then x else y := by
  cases a <;> cases b <;> rfl
theorem ite_or' (a b : Bool) (x y : Bytes) : (if (a || b) = true then x else y) = if b = true then x else if a = true then x else y := by
  cases a <;> cases b <;> rfl
theorem St.step {ps : List Pc} {p : Pc} {c : Civ} {rest : Bytes} {v v2 : V69} {w w2 : World} (h : St ps c v w) (hb : Below w.heap.size w w2) (hs : Step p c rest v v2 w2) (hf : fracs (ps ++ [p]) ≤ 1) (n0 : 0 ≤ c.nano) (n1 : c.nano ≤ 999999999) : St (ps ++ [p]) c v2 w2 := by
  obtain ⟨h1, h2, h3, h4, h5, h6, h7, h8, h9, h10, h11, h12, h13⟩ := h
  obtain ⟨s1, s2, s3, s4, s5, s6, s7, s8, s9, s10, s11, s12, s13, s14, s15, s16, s17⟩ := hs
  constructor
  · rw [s5, h1, hasK_append, hasK_one]
    cases hasK ps 21 <;> cases (p.kind == 21) <;> cases decide (c.hour < 12) <;> rfl
  · rw [s6, h2, hasK_append, hasK_one]
    cases hasK ps 21 <;> cases (p.kind == 21) <;> cases decide (12 ≤ c.hour) <;> rfl
  · rw [s7, h3, anyK_append, anyK_one, ite_or]
  · rw [s8, h4, anyK_append, anyK_one, ite_or]
  · rw [s9, h5, anyK_append, anyK_one, ite_or]
  · rw [s10, h6, anyK_append, anyK_one, ite_or]
  · rw [s11, anyK_append, anyK_append, anyK_one, anyK_one]
    by_cases hk : p.kind = 14
    · rw [if_pos hk]
      exact .inl ⟨rfl, by simp [within, hk]⟩
    · rw [if_neg hk]
      by_cases hk2 : within p.kind 15 16 = true
      · rw [if_pos hk2]
        refine .inr (.inl ⟨rfl, by rw [hk2, Bool.or_true], ?_⟩)
        have : within p.kind 14 16 = true := by simp [within] at hk2 ⊢; omega
        rw [this, Bool.or_true]
      · rw [if_neg hk2]
        have h15 : within p.kind 15 16 = false := by simpa using hk2
        have h14 : within p.kind 14 16 = false := by simp [within] at hk2 ⊢; omega
        rw [h15, h14, Bool.or_false, Bool.or_false]
        exact h7
  · rw [s12, h8, anyK_append, anyK_one, ite_or]
  · rw [s13, h9, anyK_append, anyK_one, ite_or]
  · rcases s14 with ⟨e1, e2⟩ | ⟨e1, e2, e3⟩ | ⟨e1, e2⟩
    · have h0 : fracs ps = 0 := by
        have : fracs (ps ++ [p]) = fracs ps + 1 := by simp [fracs, e1]
        omega
      rw [digitsN_append_first ps p (fracs_none h0) e1, e2]
    · have h0 : fracs ps = 0 := by
        have : fracs (ps ++ [p]) = fracs ps + 1 := by simp [fracs, e1]
        omega
      rw [digitsN_append_first ps p (fracs_none h0) e1, e2, e3, h10, digitsN_none (fracs_none h0)]
      exact cut_zero n0 n1
    · rw [digitsN_append_none ps [p] (by simp [e1]), e2, h10]
  · rw [List.any_append]
    have hone : [p].any (zU c) = zU c p := by simp
    rw [hone]
    rcases s15 with ⟨e1, e2⟩ | ⟨e1, e2⟩
    · exact .inl ⟨by rw [e1, Bool.or_true], e2⟩
    · rw [e1, e2, Bool.or_false]
      rcases h11 with ⟨f1, f2⟩ | ⟨f1, f2⟩
      · exact .inl ⟨f1, f2.below hb⟩
      · exact .inr ⟨f1, f2⟩
  · have hone : [p].any (zN c) = zN c p := by simp
    rw [s16, h12, List.any_append, hone, ite_or]
  · have hone : [p].any (zA c) = zA c p := by simp
    rw [s17, h13, List.any_append, hone, ite_or']
end Go.Proofs.YtndhiemagankeaaGreatDoor
/- The walk of package time: a time is read by a layout: offsets with a sign. -/
namespace Go.Proofs.YtndhiemagankeaaGreatDoor
open Go.RowKit
set_option linter.unusedSimpArgs false
set_option linter.unusedVariables false
attribute [local simp] bs_size bs_toList bs_append bs_data bs_extract
set_option maxRecDepth 100000 in
set_option maxHeartbeats 1000000 in
theorem hand69_22p (v : V69) (h0 h1 m0 m1 : UInt8) (rest : Bytes) (hv : v.val = 43 :: h0 :: h1 :: m0 :: m1 :: rest) (hmx : v.val.length ≤ 1099511627776) (hh mm ss : Int) (H1 : Getn 102 true [h0, h1] hh []) (H2 : Getn 102 true [m0, m1] mm []) (H3 : Getn 102 true [48, 48] ss []) (a0 : 0 ≤ hh) (a1 : hh ≤ 24) (b0 : 0 ≤ mm) (b1 : mm ≤ 60) (c0 : 0 ≤ ss) (c1 : ss ≤ 60) : Hand69 19 29 29 v { v with val := rest, zo := (hh * 60 + mm) * 60 + ss } := by
  intro w u Q hK
  obtain ⟨lay, val, loc, p, am, pm, y, m, d, yd, h, mi, s, ns, z, zo, zn⟩ := v
  simp only at hv hmx
  obtain ⟨l, HL⟩ : ∃ l, Hid (l = val) := ⟨_, Lib.hid rfl⟩
  have hll : 5 ≤ l.length := by rw [HL.out, hv]; simp
  have hl40 : l.length ≤ 1099511627776 := by rw [HL.out]; exact hmx
  have hix0 : ∀ h : 0 < (bs l).size, (bs l)[0]'h = 43 := fun h => by rw [bs_get]; simp only [HL.out, hv]; rfl
  have HR : Hid (List.take (l.length - 5) (List.drop 5 l) = rest) := by show _ = _; rw [take_rest, HL.out, hv]; rfl
  have HR2 : Hid (List.drop 5 l = rest) := by show _ = _; rw [HL.out, hv]; rfl
  have hsg : List.take 1 l = [43] := by rw [HL.out, hv]; rfl
  have S1 : Hid (List.take 2 (List.tail l) = [h0, h1]) := by show _ = _; rw [HL.out, hv]; rfl
  have S2 : Hid (List.take 2 (List.drop 3 l) = [m0, m1]) := by show _ = _; rw [HL.out, hv]; rfl
  have hsx : ∀ h : 0 < (bs [(43 : UInt8)]).size, (bs [(43 : UInt8)])[0]'h = 43 := fun h => by rw [bs_get]; rfl
  have G1 := Lib.hid H1
  have G2 := Lib.hid H2
  have G3 := Lib.hid H3
  unfold Getn at G1 G2 G3
  rw [← HL.out]
  clear hv hmx H1 H2 H3
  have HK := Lib.hid hK
  have HB : Hid (Below w.heap.size w w) := Lib.hid (Below.refl _ _)
  clear hK
  unfold fr69t
  conv => arg 2; whnf
  go_wp2_with (first
    | (guard_target =~ Code.wp _ (Code.region _ _ true) _ _ _; go_quiet (fail))
    | (go_at_call 102; (first | (rw [S1.out]; refine (G1.out _).mono ?_) | (rw [S2.out]; refine (G2.out _).mono ?_) | refine (G3.out _).mono ?_); rintro e w1 ⟨rfl, k, rfl⟩; have HB := Lib.hid (below_dN HB.out k)))
  all_goals first | exact HK.out _ _ ⟨rfl, rfl, rfl, (by first | rfl | exact congrArg S HR.out | exact congrArg S HR2.out), rfl, rfl, rfl, rfl, rfl, rfl, rfl, rfl, rfl, rfl, rfl, rfl, rfl, rfl, rfl, rfl, rfl, rfl, rfl⟩ HB.out | exact HK.out _ _ ⟨rfl, rfl, rfl, (by first | rfl | exact congrArg S HR.out | exact congrArg S HR2.out), rfl, rfl, rfl, rfl, rfl, rfl, rfl, rfl, rfl, rfl, rfl, rfl, rfl, rfl, rfl, rfl, rfl, rfl, rfl⟩ (below_dN HB.out _) | exact HK.out _ _ ⟨rfl, rfl, rfl, (by first | rfl | exact congrArg S HR.out | exact congrArg S HR2.out), rfl, rfl, rfl, rfl, rfl, rfl, rfl, rfl, rfl, rfl, rfl, rfl, rfl, rfl, rfl, rfl, rfl, rfl, rfl⟩ (below_drewN _ _)
set_option maxRecDepth 100000 in
set_option maxHeartbeats 1000000 in
theorem hand69_22n (v : V69) (h0 h1 m0 m1 : UInt8) (rest : Bytes) (hv : v.val = 45 :: h0 :: h1 :: m0 :: m1 :: rest) (hmx : v.val.length ≤ 1099511627776) (hh mm ss : Int) (H1 : Getn 102 true [h0, h1] hh []) (H2 : Getn 102 true [m0, m1] mm []) (H3 : Getn 102 true [48, 48] ss []) (a0 : 0 ≤ hh) (a1 : hh ≤ 24) (b0 : 0 ≤ mm) (b1 : mm ≤ 60) (c0 : 0 ≤ ss) (c1 : ss ≤ 60) : Hand69 19 29 29 v { v with val := rest, zo := -((hh * 60 + mm) * 60 + ss) } := by
  intro w u Q hK
  obtain ⟨lay, val, loc, p, am, pm, y, m, d, yd, h, mi, s, ns, z, zo, zn⟩ := v
  simp only at hv hmx
  obtain ⟨l, HL⟩ : ∃ l, Hid (l = val) := ⟨_, Lib.hid rfl⟩
  have hll : 5 ≤ l.length := by rw [HL.out, hv]; simp
  have hl40 : l.length ≤ 1099511627776 := by rw [HL.out]; exact hmx
  have hix0 : ∀ h : 0 < (bs l).size, (bs l)[0]'h = 45 := fun h => by rw [bs_get]; simp only [HL.out, hv]; rfl
  have HR : Hid (List.take (l.length - 5) (List.drop 5 l) = rest) := by show _ = _; rw [take_rest, HL.out, hv]; rfl
  have HR2 : Hid (List.drop 5 l = rest) := by show _ = _; rw [HL.out, hv]; rfl
  have hsg : List.take 1 l = [45] := by rw [HL.out, hv]; rfl
  have S1 : Hid (List.take 2 (List.tail l) = [h0, h1]) := by show _ = _; rw [HL.out, hv]; rfl
  have S2 : Hid (List.take 2 (List.drop 3 l) = [m0, m1]) := by show _ = _; rw [HL.out, hv]; rfl
  have hsx : ∀ h : 0 < (bs [(45 : UInt8)]).size, (bs [(45 : UInt8)])[0]'h = 45 := fun h => by rw [bs_get]; rfl
  have G1 := Lib.hid H1
  have G2 := Lib.hid H2
  have G3 := Lib.hid H3
  unfold Getn at G1 G2 G3
  rw [← HL.out]
  clear hv hmx H1 H2 H3
  have HK := Lib.hid hK
  have HB : Hid (Below w.heap.size w w) := Lib.hid (Below.refl _ _)
  clear hK
  unfold fr69t
  conv => arg 2; whnf
  go_wp2_with (first
    | (guard_target =~ Code.wp _ (Code.region _ _ true) _ _ _; go_quiet (fail))
    | (go_at_call 102; (first | (rw [S1.out]; refine (G1.out _).mono ?_) | (rw [S2.out]; refine (G2.out _).mono ?_) | refine (G3.out _).mono ?_); rintro e w1 ⟨rfl, k, rfl⟩; have HB := Lib.hid (below_dN HB.out k)))
  all_goals first | exact HK.out _ _ ⟨rfl, rfl, rfl, (by first | rfl | exact congrArg S HR.out | exact congrArg S HR2.out), rfl, rfl, rfl, rfl, rfl, rfl, rfl, rfl, rfl, rfl, rfl, rfl, rfl, rfl, rfl, rfl, rfl, rfl, rfl⟩ HB.out | exact HK.out _ _ ⟨rfl, rfl, rfl, (by first | rfl | exact congrArg S HR.out | exact congrArg S HR2.out), rfl, rfl, rfl, rfl, rfl, rfl, rfl, rfl, rfl, rfl, rfl, rfl, rfl, rfl, rfl, rfl, rfl, rfl, rfl⟩ (below_dN HB.out _) | exact HK.out _ _ ⟨rfl, rfl, rfl, (by first | rfl | exact congrArg S HR.out | exact congrArg S HR2.out), rfl, rfl, rfl, rfl, rfl, rfl, rfl, rfl, rfl, rfl, rfl, rfl, rfl, rfl, rfl, rfl, rfl, rfl, rfl⟩ (below_drewN _ _)
set_option maxRecDepth 100000 in
set_option maxHeartbeats 1000000 in
theorem hand69_23p (v : V69) (h0 h1 m0 m1 : UInt8) (rest : Bytes) (hv : v.val = 43 :: h0 :: h1 :: 58 :: m0 :: m1 :: rest) (hmx : v.val.length ≤ 1099511627776) (hh mm ss : Int) (H1 : Getn 102 true [h0, h1] hh []) (H2 : Getn 102 true [m0, m1] mm []) (H3 : Getn 102 true [48, 48] ss []) (a0 : 0 ≤ hh) (a1 : hh ≤ 24) (b0 : 0 ≤ mm) (b1 : mm ≤ 60) (c0 : 0 ≤ ss) (c1 : ss ≤ 60) : Hand69 19 32 32 v { v with val := rest, zo := (hh * 60 + mm) * 60 + ss } := by
  intro w u Q hK
  obtain ⟨lay, val, loc, p, am, pm, y, m, d, yd, h, mi, s, ns, z, zo, zn⟩ := v
  simp only at hv hmx
  obtain ⟨l, HL⟩ : ∃ l, Hid (l = val) := ⟨_, Lib.hid rfl⟩
  have hll : 6 ≤ l.length := by rw [HL.out, hv]; simp
  have hl40 : l.length ≤ 1099511627776 := by rw [HL.out]; exact hmx
  have hix0 : ∀ h : 0 < (bs l).size, (bs l)[0]'h = 43 := fun h => by rw [bs_get]; simp only [HL.out, hv]; rfl
  have HR : Hid (List.take (l.length - 6) (List.drop 6 l) = rest) := by show _ = _; rw [take_rest, HL.out, hv]; rfl
  have HR2 : Hid (List.drop 6 l = rest) := by show _ = _; rw [HL.out, hv]; rfl
  have hsg : List.take 1 l = [43] := by rw [HL.out, hv]; rfl
  have hix3 : ∀ h : 3 < (bs l).size, (bs l)[3]'h = 58 := fun h => by rw [bs_get]; simp only [HL.out, hv]; rfl
  have S1 : Hid (List.take 2 (List.tail l) = [h0, h1]) := by show _ = _; rw [HL.out, hv]; rfl
  have S2 : Hid (List.take 2 (List.drop 4 l) = [m0, m1]) := by show _ = _; rw [HL.out, hv]; rfl
  have hsx : ∀ h : 0 < (bs [(43 : UInt8)]).size, (bs [(43 : UInt8)])[0]'h = 43 := fun h => by rw [bs_get]; rfl
  have G1 := Lib.hid H1
  have G2 := Lib.hid H2
  have G3 := Lib.hid H3
  unfold Getn at G1 G2 G3
  rw [← HL.out]
  clear hv hmx H1 H2 H3
  have HK := Lib.hid hK
  have HB : Hid (Below w.heap.size w w) := Lib.hid (Below.refl _ _)
  clear hK
  unfold fr69t
  conv => arg 2; whnf
  go_wp2_with (first
    | (guard_target =~ Code.wp _ (Code.region _ _ true) _ _ _; go_quiet (fail))
    | (go_at_call 102; (first | (rw [S1.out]; refine (G1.out _).mono ?_) | (rw [S2.out]; refine (G2.out _).mono ?_) | refine (G3.out _).mono ?_); rintro e w1 ⟨rfl, k, rfl⟩; have HB := Lib.hid (below_dN HB.out k)))
  all_goals first | exact HK.out _ _ ⟨rfl, rfl, rfl, (by first | rfl | exact congrArg S HR.out | exact congrArg S HR2.out), rfl, rfl, rfl, rfl, rfl, rfl, rfl, rfl, rfl, rfl, rfl, rfl, rfl, rfl, rfl, rfl, rfl, rfl, rfl⟩ HB.out | exact HK.out _ _ ⟨rfl, rfl, rfl, (by first | rfl | exact congrArg S HR.out | exact congrArg S HR2.out), rfl, rfl, rfl, rfl, rfl, rfl, rfl, rfl, rfl, rfl, rfl, rfl, rfl, rfl, rfl, rfl, rfl, rfl, rfl⟩ (below_dN HB.out _) | exact HK.out _ _ ⟨rfl, rfl, rfl, (by first | rfl | exact congrArg S HR.out | exact congrArg S HR2.out), rfl, rfl, rfl, rfl, rfl, rfl, rfl, rfl, rfl, rfl, rfl, rfl, rfl, rfl, rfl, rfl, rfl, rfl, rfl⟩ (below_drewN _ _)
set_option maxRecDepth 100000 in
set_option maxHeartbeats 1000000 in
theorem hand69_23n (v : V69) (h0 h1 m0 m1 : UInt8) (rest : Bytes) (hv : v.val = 45 :: h0 :: h1 :: 58 :: m0 :: m1 :: rest) (hmx : v.val.length ≤ 1099511627776) (hh mm ss : Int) (H1 : Getn 102 true [h0, h1] hh []) (H2 : Getn 102 true [m0, m1] mm []) (H3 : Getn 102 true [48, 48] ss []) (a0 : 0 ≤ hh) (a1 : hh ≤ 24) (b0 : 0 ≤ mm) (b1 : mm ≤ 60) (c0 : 0 ≤ ss) (c1 : ss ≤ 60) : Hand69 19 32 32 v { v with val := rest, zo := -((hh * 60 + mm) * 60 + ss) } := by
  intro w u Q hK
  obtain ⟨lay, val, loc, p, am, pm, y, m, d, yd, h, mi, s, ns, z, zo, zn⟩ := v
  simp only at hv hmx
  obtain ⟨l, HL⟩ : ∃ l, Hid (l = val) := ⟨_, Lib.hid rfl⟩
  have hll : 6 ≤ l.length := by rw [HL.out, hv]; simp
  have hl40 : l.length ≤ 1099511627776 := by rw [HL.out]; exact hmx
  have hix0 : ∀ h : 0 < (bs l).size, (bs l)[0]'h = 45 := fun h => by rw [bs_get]; simp only [HL.out, hv]; rfl
  have HR : Hid (List.take (l.length - 6) (List.drop 6 l) = rest) := by show _ = _; rw [take_rest, HL.out, hv]; rfl
  have HR2 : Hid (List.drop 6 l = rest) := by show _ = _; rw [HL.out, hv]; rfl
  have hsg : List.take 1 l = [45] := by rw [HL.out, hv]; rfl
  have hix3 : ∀ h : 3 < (bs l).size, (bs l)[3]'h = 58 := fun h => by rw [bs_get]; simp only [HL.out, hv]; rfl
  have S1 : Hid (List.take 2 (List.tail l) = [h0, h1]) := by show _ = _; rw [HL.out, hv]; rfl
  have S2 : Hid (List.take 2 (List.drop 4 l) = [m0, m1]) := by show _ = _; rw [HL.out, hv]; rfl
  have hsx : ∀ h : 0 < (bs [(45 : UInt8)]).size, (bs [(45 : UInt8)])[0]'h = 45 := fun h => by rw [bs_get]; rfl
  have G1 := Lib.hid H1
  have G2 := Lib.hid H2
  have G3 := Lib.hid H3
  unfold Getn at G1 G2 G3
  rw [← HL.out]
  clear hv hmx H1 H2 H3
  have HK := Lib.hid hK
  have HB : Hid (Below w.heap.size w w) := Lib.hid (Below.refl _ _)
  clear hK
  unfold fr69t
  conv => arg 2; whnf
  go_wp2_with (first
    | (guard_target =~ Code.wp _ (Code.region _ _ true) _ _ _; go_quiet (fail))
    | (go_at_call 102; (first | (rw [S1.out]; refine (G1.out _).mono ?_) | (rw [S2.out]; refine (G2.out _).mono ?_) | refine (G3.out _).mono ?_); rintro e w1 ⟨rfl, k, rfl⟩; have HB := Lib.hid (below_dN HB.out k)))
  all_goals first | exact HK.out _ _ ⟨rfl, rfl, rfl, (by first | rfl | exact congrArg S HR.out | exact congrArg S HR2.out), rfl, rfl, rfl, rfl, rfl, rfl, rfl, rfl, rfl, rfl, rfl, rfl, rfl, rfl, rfl, rfl, rfl, rfl, rfl⟩ HB.out | exact HK.out _ _ ⟨rfl, rfl, rfl, (by first | rfl | exact congrArg S HR.out | exact congrArg S HR2.out), rfl, rfl, rfl, rfl, rfl, rfl, rfl, rfl, rfl, rfl, rfl, rfl, rfl, rfl, rfl, rfl, rfl, rfl, rfl⟩ (below_dN HB.out _) | exact HK.out _ _ ⟨rfl, rfl, rfl, (by first | rfl | exact congrArg S HR.out | exact congrArg S HR2.out), rfl, rfl, rfl, rfl, rfl, rfl, rfl, rfl, rfl, rfl, rfl, rfl, rfl, rfl, rfl, rfl, rfl, rfl, rfl⟩ (below_drewN _ _)
set_option maxRecDepth 100000 in
set_option maxHeartbeats 1000000 in
theorem hand69_24p (v : V69) (h0 h1 : UInt8) (rest : Bytes) (hv : v.val = 43 :: h0 :: h1 :: rest) (hmx : v.val.length ≤ 1099511627776) (hh mm : Int) (H1 : Getn 102 true [h0, h1] hh []) (H2 : Getn 102 true [48, 48] mm []) (a0 : 0 ≤ hh) (a1 : hh ≤ 24) (b0 : 0 ≤ mm) (b1 : mm ≤ 60) : Hand69 19 31 31 v { v with val := rest, zo := (hh * 60 + mm) * 60 + mm } := by
  intro w u Q hK
  obtain ⟨lay, val, loc, p, am, pm, y, m, d, yd, h, mi, s, ns, z, zo, zn⟩ := v
  simp only at hv hmx
  obtain ⟨l, HL⟩ : ∃ l, Hid (l = val) := ⟨_, Lib.hid rfl⟩
  have hll : 3 ≤ l.length := by rw [HL.out, hv]; simp
  have hl40 : l.length ≤ 1099511627776 := by rw [HL.out]; exact hmx
  have hix0 : ∀ h : 0 < (bs l).size, (bs l)[0]'h = 43 := fun h => by rw [bs_get]; simp only [HL.out, hv]; rfl
  have HR : Hid (List.take (l.length - 3) (List.drop 3 l) = rest) := by show _ = _; rw [take_rest, HL.out, hv]; rfl
  have HR2 : Hid (List.drop 3 l = rest) := by show _ = _; rw [HL.out, hv]; rfl
  have hsg : List.take 1 l = [43] := by rw [HL.out, hv]; rfl
  have S1 : Hid (List.take 2 (List.tail l) = [h0, h1]) := by show _ = _; rw [HL.out, hv]; rfl
  have hsx : ∀ h : 0 < (bs [(43 : UInt8)]).size, (bs [(43 : UInt8)])[0]'h = 43 := fun h => by rw [bs_get]; rfl
  have G1 := Lib.hid H1
  have G2 := Lib.hid H2
  unfold Getn at G1 G2
  rw [← HL.out]
  clear hv hmx H1 H2
  have HK := Lib.hid hK
  have HB : Hid (Below w.heap.size w w) := Lib.hid (Below.refl _ _)
  clear hK
  unfold fr69t
  conv => arg 2; whnf
  go_wp2_with (first
    | (guard_target =~ Code.wp _ (Code.region _ _ true) _ _ _; go_quiet (fail))
    | (go_at_call 102; (first | (rw [S1.out]; refine (G1.out _).mono ?_) | refine (G2.out _).mono ?_); rintro e w1 ⟨rfl, k, rfl⟩; have HB := Lib.hid (below_dN HB.out k)))
  all_goals first | exact HK.out _ _ ⟨rfl, rfl, rfl, (by first | rfl | exact congrArg S HR.out | exact congrArg S HR2.out), rfl, rfl, rfl, rfl, rfl, rfl, rfl, rfl, rfl, rfl, rfl, rfl, rfl, rfl, rfl, rfl, rfl, rfl, rfl⟩ HB.out | exact HK.out _ _ ⟨rfl, rfl, rfl, (by first | rfl | exact congrArg S HR.out | exact congrArg S HR2.out), rfl, rfl, rfl, rfl, rfl, rfl, rfl, rfl, rfl, rfl, rfl, rfl, rfl, rfl, rfl, rfl, rfl, rfl, rfl⟩ (below_dN HB.out _) | exact HK.out _ _ ⟨rfl, rfl, rfl, (by first | rfl | exact congrArg S HR.out | exact congrArg S HR2.out), rfl, rfl, rfl, rfl, rfl, rfl, rfl, rfl, rfl, rfl, rfl, rfl, rfl, rfl, rfl, rfl, rfl, rfl, rfl⟩ (below_drewN _ _)
set_option maxRecDepth 100000 in
set_option maxHeartbeats 1000000 in
theorem hand69_24n (v : V69) (h0 h1 : UInt8) (rest : Bytes) (hv : v.val = 45 :: h0 :: h1 :: rest) (hmx : v.val.length ≤ 1099511627776) (hh mm : Int) (H1 : Getn 102 true [h0, h1] hh []) (H2 : Getn 102 true [48, 48] mm []) (a0 : 0 ≤ hh) (a1 : hh ≤ 24) (b0 : 0 ≤ mm) (b1 : mm ≤ 60) : Hand69 19 31 31 v { v with val := rest, zo := -((hh * 60 + mm) * 60 + mm) } := by
  intro w u Q hK
  obtain ⟨lay, val, loc, p, am, pm, y, m, d, yd, h, mi, s, ns, z, zo, zn⟩ := v
  simp only at hv hmx
  obtain ⟨l, HL⟩ : ∃ l, Hid (l = val) := ⟨_, Lib.hid rfl⟩
  have hll : 3 ≤ l.length := by rw [HL.out, hv]; simp
  have hl40 : l.length ≤ 1099511627776 := by rw [HL.out]; exact hmx
  have hix0 : ∀ h : 0 < (bs l).size, (bs l)[0]'h = 45 := fun h => by rw [bs_get]; simp only [HL.out, hv]; rfl
  have HR : Hid (List.take (l.length - 3) (List.drop 3 l) = rest) := by show _ = _; rw [take_rest, HL.out, hv]; rfl
  have HR2 : Hid (List.drop 3 l = rest) := by show _ = _; rw [HL.out, hv]; rfl
  have hsg : List.take 1 l = [45] := by rw [HL.out, hv]; rfl
  have S1 : Hid (List.take 2 (List.tail l) = [h0, h1]) := by show _ = _; rw [HL.out, hv]; rfl
  have hsx : ∀ h : 0 < (bs [(45 : UInt8)]).size, (bs [(45 : UInt8)])[0]'h = 45 := fun h => by rw [bs_get]; rfl
  have G1 := Lib.hid H1
  have G2 := Lib.hid H2
  unfold Getn at G1 G2
  rw [← HL.out]
  clear hv hmx H1 H2
  have HK := Lib.hid hK
  have HB : Hid (Below w.heap.size w w) := Lib.hid (Below.refl _ _)
  clear hK
  unfold fr69t
  conv => arg 2; whnf
  go_wp2_with (first
    | (guard_target =~ Code.wp _ (Code.region _ _ true) _ _ _; go_quiet (fail))
    | (go_at_call 102; (first | (rw [S1.out]; refine (G1.out _).mono ?_) | refine (G2.out _).mono ?_); rintro e w1 ⟨rfl, k, rfl⟩; have HB := Lib.hid (below_dN HB.out k)))
  all_goals first | exact HK.out _ _ ⟨rfl, rfl, rfl, (by first | rfl | exact congrArg S HR.out | exact congrArg S HR2.out), rfl, rfl, rfl, rfl, rfl, rfl, rfl, rfl, rfl, rfl, rfl, rfl, rfl, rfl, rfl, rfl, rfl, rfl, rfl⟩ HB.out | exact HK.out _ _ ⟨rfl, rfl, rfl, (by first | rfl | exact congrArg S HR.out | exact congrArg S HR2.out), rfl, rfl, rfl, rfl, rfl, rfl, rfl, rfl, rfl, rfl, rfl, rfl, rfl, rfl, rfl, rfl, rfl, rfl, rfl⟩ (below_dN HB.out _) | exact HK.out _ _ ⟨rfl, rfl, rfl, (by first | rfl | exact congrArg S HR.out | exact congrArg S HR2.out), rfl, rfl, rfl, rfl, rfl, rfl, rfl, rfl, rfl, rfl, rfl, rfl, rfl, rfl, rfl, rfl, rfl, rfl, rfl⟩ (below_drewN _ _)
end Go.Proofs.YtndhiemagankeaaGreatDoor
