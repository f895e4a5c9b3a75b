/-
  FnLayout (the statement: for every list of pieces, every time and every zone the call returns true, and its arguments read afterwards as they did), part 21 of 41. In this part: The walks of the reference: two times that are the same; the text of all pieces; the bounds on sizes.
-/
import Derived.Laws.StructEq
import Derived.Deep.RegionWith
import Derived.Deep.DeepCutAuto
import Derived.Test.YtndhiemagankeaaGreatDoorG17
/- The walks of the reference: two times that are the same; the text of all pieces; the bounds on sizes. -/
namespace Go.Proofs.YtndhiemagankeaaGreatDoor
open Go.RowKit
set_option linter.unusedVariables false
set_option linter.unusedSimpArgs false
attribute [local simp] bs_size bs_toList bs_append bs_data bs_extract
set_option maxRecDepth 100000 in
set_option maxHeartbeats 1000000 in
theorem same_c (b : Civ) (nm : Bytes) (w : World) (h : b.zone.name = [] ∨ nm = b.zone.name) :
    Calls Tryz.prog 18 #[({ b with zone := { name := nm, off := b.zone.off } } : Civ).val, b.val] w fun e w' => e = .returned (.bool true) ∧ Below w.heap.size w w' := by
  unfold Civ.val
  obtain ⟨y, mo, d, ho, mi, s, n, ⟨bn, off⟩⟩ := b
  dsimp only at h ⊢
  by_cases e1 : bn = []
  · subst e1
    clear h
    go_enter Tryz.func18, Tryz.ntmps18
    go_wp2
    go_ret
    exact ⟨rfl, below_next (below_new _ _) (below_new _ _)⟩
  · obtain rfl : nm = bn := by rcases h with h | h; exact absurd h e1; exact h
    have e2 : (nm == []) = false := by simpa using e1
    clear h
    go_enter Tryz.func18, Tryz.ntmps18
    go_wp2
    all_goals
      go_ret
      exact ⟨rfl, below_next (below_new _ _) (below_new _ _)⟩
theorem len_ite {c : Prop} [Decidable c] {a b : Bytes} {n : Nat} (h1 : c → a.length ≤ n) (h2 : ¬ c → b.length ≤ n) : (if c then a else b).length ≤ n := by
  split
  · exact h1 ‹_›
  · exact h2 ‹_›
set_option maxHeartbeats 4000000 in
theorem written_len {p : Pc} {c : Civ} (hp : pieceOk p = true) (hc : CivB c) : (written p c).length ≤ 1000 := by
  have ht := pieceOk_text hp
  obtain ⟨y0, y1, m0, m1, d0, d1, h0, h1, n0, n1, s0, s1, f0, f1, hz⟩ := hc
  obtain ⟨z1, z2, o0, o1, z5, z6⟩ := znB hz
  have hdd := days_bd c.year c.month
  have hml := monthName_len c.month m0 m1
  have hwd := weekday_bd c.year c.month c.day
  have hdl := dayName_len _ hwd.1 hwd.2
  have hyd := yearDay_bd c.year c.month c.day m0 m1 d0 (by omega)
  have hh := hour12_bd c.hour
  have D : ∀ (n : Int) (wd : Nat), n ≤ 9223372036854775807 → wd ≤ 100 → (digits n wd).length ≤ 120 := digits_len
  have Bk : ∀ (n : Int) (wd : Nat), n ≤ 9223372036854775807 → wd ≤ 100 → (blank n wd).length ≤ 120 := by
    intro n wd hn hw
    have := dec_len n hn
    simp [blank, padB]; omega
  have hq : ∀ d, c.nano / power (9 - d) ≤ c.nano := fun d => Int.ediv_le_self _ f0
  have hT : ∀ (d : Nat) (n : Int), 0 ≤ n → (trimD d n).1 ≤ d ∧ (trimD d n).2 ≤ n := by
    intro d
    induction d with
    | zero => intro n _; simp [trimD]
    | succ d ih =>
      intro n hn
      unfold trimD
      split
      · have := ih (n / 10) (by omega); omega
      · simp
  have hO : ∀ m s c', (offsetText c.zone.off m s c').length ≤ 400 := by
    intro m s c'
    rw [offsetText_eq]
    have ha : absI c.zone.off ≤ 86399 ∧ 0 ≤ absI c.zone.off := by unfold absI; split <;> omega
    have l1 := D (absI c.zone.off / 3600) 2 (by omega) (by omega)
    have l2 := D (absI c.zone.off / 60 % 60) 2 (by omega) (by omega)
    have l3 := D (absI c.zone.off % 60) 2 (by omega) (by omega)
    have hs : (if c.zone.off < 0 then [45] else [43] : Bytes).length = 1 := by split <;> rfl
    simp only [List.length_append, hs]
    cases m <;> cases s <;> cases c' <;> simp <;> omega
  have hf9 : isFraction p.kind = true → p.n.toNat ≤ 9 := fun h => by have := pieceOk_n hp h; omega
  have mk := mark_len p.comma
  have hFr : isFraction p.kind = true → (fraction c.nano p.n.toNat p.comma).length ≤ 1000 := fun e => by
    have h9 := hf9 e
    have hqq := hq p.n.toNat
    unfold fraction
    have := D (c.nano / power (9 - p.n.toNat)) p.n.toNat (by omega) (by omega)
    simp; omega
  have hTr : isFraction p.kind = true → (trimmed c.nano p.n.toNat p.comma).length ≤ 1000 := fun e => by
    have h9 := hf9 e
    have hqq := hq p.n.toNat
    have hq0 := (quo_bd c.nano p.n.toNat f0).1
    have ht := hT p.n.toNat (c.nano / power (9 - p.n.toNat)) hq0
    unfold trimmed
    dsimp only
    split
    · simp
    · have := D (trimD p.n.toNat (c.nano / power (9 - p.n.toNat))).2 (trimD p.n.toNat (c.nano / power (9 - p.n.toNat))).1 (by omega) (by omega)
      simp; omega
  have hZt : (zoneText p.kind c.zone.off).length ≤ 1000 := by
    unfold zoneText
    repeat' (refine len_ite (fun _ => ?_) (fun _ => ?_))
    all_goals exact Nat.le_trans (hO _ _ _) (by omega)
  have hHb : (halfB c.hour).length ≤ 1000 := by unfold halfB; split <;> simp
  have D' : ∀ (n : Int) (wd : Nat), n ≤ 9223372036854775807 → wd ≤ 100 → (digits n wd).length ≤ 1000 := fun n wd a b => Nat.le_trans (D n wd a b) (by omega)
  have B' : ∀ (n : Int) (wd : Nat), n ≤ 9223372036854775807 → wd ≤ 100 → (blank n wd).length ≤ 1000 := fun n wd a b => Nat.le_trans (Bk n wd a b) (by omega)
  unfold written
  repeat' (with_reducible refine len_ite (fun e => ?_) (fun _ => ?_))
  all_goals first
    | exact ht
    | exact hHb
    | exact hZt
    | (with_reducible exact D' _ _ (by omega) (by omega))
    | (with_reducible exact B' _ _ (by omega) (by omega))
    | exact hFr (by simp [isFraction, e])
    | exact hTr (by simp [isFraction, e])
    | exact Nat.le_trans hml.2 (by decide)
    | exact Nat.le_trans hdl.2 (by decide)
    | exact Nat.le_trans z2 (by decide)
    | exact Nat.le_trans (List.length_take_le 3 _) (by decide)
    | decide
theorem writtenAll_take_succ {ps : List Pc} {c : Civ} {j : Nat} (h : j < ps.length) : writtenAll (ps.take (j + 1)) c = writtenAll (ps.take j) c ++ written ps[j] c := by
  unfold writtenAll
  rw [List.take_succ_eq_append_getElem h, List.flatMap_append]
  simp
set_option maxRecDepth 100000 in
set_option maxHeartbeats 1000000 in
theorem writtenAll_c (v : Value) (ps : List Pc) (c : Civ) (w : World) (H : PcsAt w v ps) (hn : ps.length ≤ 100) (hok : ∀ i (h : i < ps.length), pieceOk ps[i] = true) (hc : CivB c) :
    Calls Tryz.prog 15 #[v, c.val] w fun e w' => e = .returned (S (writtenAll ps c)) ∧ Below w.heap.size w w' := by
  have H0 : Hid (∀ o, PcsAt (w.alloc o) v ps) := fun o => H.below (below_new _ _)
  have HO := Lib.hid hok
  have HCB := Lib.hid hc
  obtain ⟨ao, cap, rfl, hcap, hcc⟩ := H
  clear hcc hok hc
  unfold Civ.val
  go_enter Tryz.func15, Tryz.ntmps15
  go_wp2
  obtain ⟨wb, HWB⟩ : ∃ wb, Hid (wb = w.alloc (.cells #[.int .i64 c.year, .int .i64 c.month, .int .i64 c.day, .int .i64 c.hour, .int .i64 c.minute, .int .i64 c.second, .int .i64 c.nano, S c.zone.name, .int .i64 c.zone.off] 26)) := ⟨_, Lib.hid rfl⟩
  go_loopw [5, 6] (fun o i wr => ∃ j : Nat, j ≤ ps.length ∧ i = .int .i64 j ∧ o = S (writtenAll (ps.take j) c) ∧ (writtenAll (ps.take j) c).length ≤ 1000 * j ∧ Below wb.heap.size wb wr) (fun _ i _ => ps.length - (intOf i).toNat)
  case atStart => exact ⟨0, Nat.zero_le _, rfl, rfl, by simp [writtenAll], by rw [HWB.out]; exact Below.refl _ _⟩
  case round =>
    obtain ⟨j, hj, rfl, rfl, hl, hb⟩ := hrel
    have hbs : w.heap.size < wb.heap.size := by rw [HWB.out]; simp
    have hcc : ∀ o, wr.cell? ⟨w.heap.size, o, none⟩ = (w.alloc (.cells #[.int .i64 c.year, .int .i64 c.month, .int .i64 c.day, .int .i64 c.hour, .int .i64 c.minute, .int .i64 c.second, .int .i64 c.nano, S c.zone.name, .int .i64 c.zone.off] 26)).cell? ⟨w.heap.size, o, none⟩ := fun o => by
      rw [hb.cell (p := ⟨w.heap.size, o, none⟩) hbs, HWB.out]
    have HBW : Hid (Below w.heap.size w wr) := below_next (by rw [HWB.out]; exact below_new _ _) hb
    have HB := Lib.hid hb
    clear hb
    by_cases hlt : j < ps.length
    · have HPP := (H0.out (.cells #[.int .i64 c.year, .int .i64 c.month, .int .i64 c.day, .int .i64 c.hour, .int .i64 c.minute, .int .i64 c.second, .int .i64 c.nano, S c.zone.name, .int .i64 c.zone.off] 26))
      rw [← HWB.out] at HPP
      obtain ⟨ao', cap', hv, _, hc⟩ := HPP.below HB.out
      obtain ⟨rfl, rfl⟩ : ao = ao' ∧ cap = cap' := by simpa using hv
      obtain ⟨b, off, rfl, hbk, q2, q3, q4, q5, _⟩ := hc j hlt
      have hpk := fun w => written_c ps[j] c w (HO.out j hlt) HCB.out
      have hel := written_len (HO.out j hlt) HCB.out
      unfold Pc.val Civ.val at hpk
      have HPK := Lib.hid hpk
      clear hpk hc hv HPP
      have hlen : (writtenAll (ps.take j) c ++ written ps[j] c).length ≤ 1000 * (j + 1) := by simp; omega
      go_wp2_with fail
      go_region_with (first | (go_at_call 31; refine (HPK.out _).mono ?_; rintro e w1 ⟨rfl, hb1⟩))
      all_goals
        go_wp2_with fail
        go_roundw
        case rel => exact ⟨j + 1, by omega, by go_num, by rw [writtenAll_take_succ hlt], by rw [writtenAll_take_succ hlt]; exact hlen, below_next HB.out (below_next (below_drew _) hb1)⟩
        case measure => simp [intOf] <;> omega
    · go_wp2
      go_ret
      exact ⟨ret_str (by rw [List.take_of_length_le (by omega)]), HBW.out⟩
end Go.Proofs.YtndhiemagankeaaGreatDoor
