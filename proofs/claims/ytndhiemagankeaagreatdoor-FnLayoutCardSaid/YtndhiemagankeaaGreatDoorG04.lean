/-
  FnLayout (the statement: for every list of pieces, every time and every zone the call returns true, and its arguments read afterwards as they did), part 4 of 41. In this part: The walks of the reference: whether pieces make a layout, and fit a time. The walks of the reference: what offsets tell, abbreviations, what can be read back. The walks of the reference: what can be read back; small numbers and texts.
-/
import Derived.Deep.LoopGhost
import Derived.Test.YtndhiemagankeaaGreatDoorG03
/- The walks of the reference: whether pieces make a layout, and fit a time. -/
namespace Go.Proofs.YtndhiemagankeaaGreatDoor
open Go.RowKit
set_option linter.unusedVariables false
set_option linter.unusedSimpArgs false
attribute [local simp] bs_size bs_toList
/-- What the first pieces show: each ok, each link ok, the first no fraction. -/
def okTo (ps : List Pc) (j : Nat) : Bool := (ps.take j).all pieceOk && (chainOk (ps.take j) && (match ps.take j with | [] => true | p :: _ => !isFraction p.kind))
def okAt (ps : List Pc) (j : Nat) : Bool := match ps[j]? with
  | none => true
  | some p => pieceOk p && (if j = 0 then !isFraction p.kind else match ps[j - 1]? with | none => true | some a => linkOk a p)
theorem chainOk_snoc (l : List Pc) (a p : Pc) : chainOk (l ++ [a] ++ [p]) = (chainOk (l ++ [a]) && linkOk a p) := by
  induction l with
  | nil => simp [chainOk]
  | cons x r ih =>
    cases r with
    | nil => simp [chainOk, Bool.and_assoc]
    | cons y r =>
      simp only [List.cons_append, chainOk] at ih ⊢
      rw [ih]
      simp only [Bool.and_assoc]
theorem okTo_succ (ps : List Pc) (j : Nat) (hj : j < ps.length) : okTo ps (j + 1) = (okTo ps j && okAt ps j) := by
  unfold okTo okAt
  rw [List.take_succ_eq_append_getElem hj, List.all_append, List.getElem?_eq_getElem hj]
  cases j with
  | zero => simp [chainOk]
  | succ i =>
    have hi : i < ps.length := by omega
    simp only [Nat.add_sub_cancel, List.getElem?_eq_getElem hi, if_neg (Nat.succ_ne_zero i)]
    rw [List.take_succ_eq_append_getElem hi, chainOk_snoc]
    cases h : ps.take i with
    | nil => simp; cases pieceOk ps[i] <;> cases pieceOk ps[i+1] <;> simp [Bool.and_assoc, Bool.and_comm, Bool.and_left_comm]
    | cons x r => simp; cases r.all pieceOk <;> cases pieceOk x <;> cases pieceOk ps[i] <;> cases pieceOk ps[i+1] <;> simp [Bool.and_assoc, Bool.and_comm, Bool.and_left_comm]
theorem piecesOk_eq (ps : List Pc) : piecesOk ps = (okTo ps ps.length && (decide (ps.length ≤ 100) && decide (fracs ps ≤ 1))) := by
  unfold piecesOk okTo
  rw [List.take_length]
  simp only [Bool.and_assoc]
  cases ps <;> rfl
theorem okTo_mono {ps : List Pc} {j k : Nat} (h : j ≤ k) (hk : k ≤ ps.length) (h0 : okTo ps j = false) : okTo ps k = false := by
  induction k with
  | zero => obtain rfl : j = 0 := by omega
            exact h0
  | succ k ih =>
    by_cases e : j = k + 1
    · subst e; exact h0
    · rw [okTo_succ _ _ (by omega), ih (by omega) (by omega)]; rfl
theorem piecesOk_no {ps : List Pc} {j : Nat} (h : j < ps.length) (h0 : okAt ps j = false) : piecesOk ps = false := by
  rw [piecesOk_eq, okTo_mono (j := j + 1) (by omega) (Nat.le_refl _) (by rw [okTo_succ _ _ h, h0, Bool.and_false])]; rfl
theorem fracs_take_succ (ps : List Pc) (j : Nat) (hj : j < ps.length) : fracs (ps.take (j + 1)) = fracs (ps.take j) + if isFraction ps[j].kind = true then 1 else 0 := by
  unfold fracs
  rw [List.take_succ_eq_append_getElem hj, List.filter_append, List.length_append]
  cases h : isFraction ps[j].kind <;> simp [h]
theorem fracs_le (ps : List Pc) (j : Nat) : fracs (ps.take j) ≤ j := by
  unfold fracs
  exact Nat.le_trans (List.length_filter_le _ _) (List.length_take_le _ _)
set_option maxRecDepth 100000 in
set_option maxHeartbeats 4000000 in
theorem piecesOk_c (v : Value) (ps : List Pc) (w : World) (H : PcsAt w v ps) (hn : ps.length ≤ 2147483647) :
    Calls Tryz.prog 7 #[v] w fun e w' => e = .returned (.bool (piecesOk ps)) ∧ Below w.heap.size w w' := by
  have H0 := Lib.hid H
  obtain ⟨ao, cap, rfl, hcap, hc⟩ := H
  clear hc
  go_enter Tryz.func7, Tryz.ntmps7
  go_wp2
  go_loopw [3, 4] (fun f i wr => ∃ j : Nat, j ≤ ps.length ∧ i = .int .i64 j ∧ f = .int .i64 (fracs (ps.take j)) ∧ okTo ps j = true ∧ Below w.heap.size w wr) (fun _ i _ => ps.length - (intOf i).toNat)
  case atStart => exact ⟨0, Nat.zero_le _, rfl, rfl, rfl, Below.refl _ _⟩
  case round =>
    obtain ⟨j, hj, rfl, rfl, hok, hb⟩ := hrel
    have HOK := Lib.hid hok
    have HB := Lib.hid hb
    have HF := Lib.hid (fracs_le ps j)
    clear hok hb
    by_cases hlt : j < ps.length
    · obtain ⟨ao', cap', hv, _, hc⟩ := H0.out.below HB.out
      obtain ⟨rfl, rfl⟩ : ao = ao' ∧ cap = cap' := by simpa using hv
      obtain ⟨b, off, rfl, hbk, q2, q3, q4, q5, hl⟩ := hc j hlt
      have hpk := pieceOk_c ps[j]
      unfold Pc.val at hpk
      have HPK := Lib.hid hpk
      have HC := Lib.hid hc
      clear hpk hc
      cases j with
      | zero =>
        simp only [Nat.zero_mul, Nat.add_zero] at q2 q3 q4 q5
        cases hp : pieceOk ps[0]
        · go_wp2_with (first | (go_at_call 21; refine (HPK.out _ hl).mono ?_; rintro e w1 ⟨rfl, hb1⟩; have hcc := fun o => hb1.cell (p := ⟨b, o, none⟩) hbk; have HB1 := Lib.hid hb1; clear hb1) | (go_at_call 22; refine (isFraction_c _ _).mono ?_; rintro e w' ⟨rfl, rfl⟩) | (go_at_call 23; refine (isZone_c _ _).mono ?_; rintro e w' ⟨rfl, rfl⟩))
          go_ret
          exact ⟨ret_bool (piecesOk_no hlt (by simp [okAt, hlt, hp])).symm, below_next HB.out HB1.out⟩
        · cases hfr : isFraction ps[0].kind
          · go_wp2_with (first | (go_at_call 21; refine (HPK.out _ hl).mono ?_; rintro e w1 ⟨rfl, hb1⟩; have hcc := fun o => hb1.cell (p := ⟨b, o, none⟩) hbk; have HB1 := Lib.hid hb1; clear hb1) | (go_at_call 22; refine (isFraction_c _ _).mono ?_; rintro e w' ⟨rfl, rfl⟩) | (go_at_call 23; refine (isZone_c _ _).mono ?_; rintro e w' ⟨rfl, rfl⟩))
            go_quiet (fail)
            go_wp2
            go_roundw
            case rel => exact ⟨0 + 1, by omega, by go_num, by rw [fracs_take_succ _ _ hlt, hfr]; rfl, by rw [okTo_succ _ _ hlt, HOK.out]; simp [okAt, hlt, hp, hfr], below_dN (below_next HB.out HB1.out) _⟩
            case measure => simp [intOf]; omega
          · go_wp2_with (first | (go_at_call 21; refine (HPK.out _ hl).mono ?_; rintro e w1 ⟨rfl, hb1⟩; have hcc := fun o => hb1.cell (p := ⟨b, o, none⟩) hbk; have HB1 := Lib.hid hb1; clear hb1) | (go_at_call 22; refine (isFraction_c _ _).mono ?_; rintro e w' ⟨rfl, rfl⟩) | (go_at_call 23; refine (isZone_c _ _).mono ?_; rintro e w' ⟨rfl, rfl⟩))
            go_ret
            exact ⟨ret_bool (piecesOk_no hlt (by simp [okAt, hlt, hp, hfr])).symm, below_next HB.out HB1.out⟩
      | succ i =>
        obtain ⟨b', off', hbo, _, p2, p3, p4, p5, _⟩ := HC.out i (by omega)
        obtain ⟨rfl, rfl⟩ : b = b' ∧ off = off' := by simpa using hbo
        clear hbo
        have hF := HF.out
        cases hp : pieceOk ps[i + 1]
        · go_wp2_with (first | (go_at_call 21; refine (HPK.out _ hl).mono ?_; rintro e w1 ⟨rfl, hb1⟩; have hcc := fun o => hb1.cell (p := ⟨b, o, none⟩) hbk; have HB1 := Lib.hid hb1; clear hb1) | (go_at_call 22; refine (isFraction_c _ _).mono ?_; rintro e w' ⟨rfl, rfl⟩) | (go_at_call 23; refine (isZone_c _ _).mono ?_; rintro e w' ⟨rfl, rfl⟩))
          go_ret
          exact ⟨ret_bool (piecesOk_no hlt (by simp [okAt, hlt, hp])).symm, below_next HB.out HB1.out⟩
        · by_cases hk0 : ps[i + 1].kind = 0
          · cases hz : isZone ps[i].kind
            · cases hfr : isFraction ps[i + 1].kind
              · have hkb : (ps[i + 1].kind == 0) = true := by simpa using hk0
                have hkn : (ps[i + 1].kind != 0) = false := by simp [hk0]
                clear hk0
                go_wp2_with (first | (go_at_call 21; refine (HPK.out _ hl).mono ?_; rintro e w1 ⟨rfl, hb1⟩; have hcc := fun o => hb1.cell (p := ⟨b, o, none⟩) hbk; have HB1 := Lib.hid hb1; clear hb1) | (go_at_call 22; refine (isFraction_c _ _).mono ?_; rintro e w' ⟨rfl, rfl⟩) | (go_at_call 23; refine (isZone_c _ _).mono ?_; rintro e w' ⟨rfl, rfl⟩))
                go_quiet (fail)
                go_wp2
                go_roundw
                case rel => exact ⟨i + 1 + 1, by omega, by go_num, by rw [fracs_take_succ _ _ hlt, hfr]; rfl, by rw [okTo_succ _ _ hlt, HOK.out]; simp [okAt, linkOk, hlt, hp, hfr, hz, hkb, show i < ps.length by omega], below_dN (below_next HB.out HB1.out) _⟩
                case measure => simp [intOf]; omega
              · exfalso
                simp [isFraction, hk0] at hfr
            · have hfr : isFraction ps[i + 1].kind = false := by simp [isFraction, hk0]
              obtain ⟨c, r, hT⟩ : ∃ c r, ps[i + 1].text = c :: r := by
                cases hT : ps[i + 1].text with
                | nil => simp [pieceOk, hk0, hT] at hp
                | cons c r => exact ⟨c, r, rfl⟩
              have hkb : (ps[i + 1].kind == 0) = true := by simpa using hk0
              have hkn : (ps[i + 1].kind != 0) = false := by simp [hk0]
              have hix : ∀ h : 0 < (bs ps[i + 1].text).size, ((bs ps[i + 1].text)[0]'h).toNat = c.toNat := fun h => by
                rw [bs_get]; simp [hT]
              have hlen : 0 < ps[i + 1].text.length := by simp [hT]
              have HT := Lib.hid hT
              clear hk0 hT
              by_cases hc58 : c = 58
              · have h58 : ((c.toNat : Int) == 58) = true := by subst hc58; rfl
                go_wp2_with (first | (go_at_call 21; refine (HPK.out _ hl).mono ?_; rintro e w1 ⟨rfl, hb1⟩; have hcc := fun o => hb1.cell (p := ⟨b, o, none⟩) hbk; have HB1 := Lib.hid hb1; clear hb1) | (go_at_call 22; refine (isFraction_c _ _).mono ?_; rintro e w' ⟨rfl, rfl⟩) | (go_at_call 23; refine (isZone_c _ _).mono ?_; rintro e w' ⟨rfl, rfl⟩))
                go_ret
                exact ⟨ret_bool (piecesOk_no hlt (by simp [okAt, linkOk, hlt, hp, hz, hkb, HT.out, hc58, show i < ps.length by omega])).symm, below_next HB.out HB1.out⟩
              · have h58 : ((c.toNat : Int) == 58) = false := by
                  rw [beq_eq_false_iff_ne]
                  intro h
                  exact hc58 (UInt8.toNat_inj.1 (by simpa using (by omega : c.toNat = 58)))
                go_wp2_with (first | (go_at_call 21; refine (HPK.out _ hl).mono ?_; rintro e w1 ⟨rfl, hb1⟩; have hcc := fun o => hb1.cell (p := ⟨b, o, none⟩) hbk; have HB1 := Lib.hid hb1; clear hb1) | (go_at_call 22; refine (isFraction_c _ _).mono ?_; rintro e w' ⟨rfl, rfl⟩) | (go_at_call 23; refine (isZone_c _ _).mono ?_; rintro e w' ⟨rfl, rfl⟩))
                go_quiet (fail)
                go_wp2
                go_roundw
                case rel => exact ⟨i + 1 + 1, by omega, by go_num, by rw [fracs_take_succ _ _ hlt, hfr]; rfl, by rw [okTo_succ _ _ hlt, HOK.out]; simp [okAt, linkOk, hlt, hp, hfr, hz, hkb, HT.out, hc58, show i < ps.length by omega], below_dN (below_next HB.out HB1.out) _⟩
                case measure => simp [intOf]; omega
          · have hkb : (ps[i + 1].kind == 0) = false := by simpa using hk0
            have hkn : (ps[i + 1].kind != 0) = true := by simpa using hk0
            have hz : True := trivial
            clear hk0
            by_cases ha : ps[i].kind = 0
            · have hab : (ps[i].kind == 0) = true := by simpa using ha
              have han : (ps[i].kind != 0) = false := by simp [ha]
              clear ha
              cases hfr : isFraction ps[i + 1].kind <;> cases ht : touch ps[i].kind ps[i + 1].kind
              all_goals
                  go_wp2_with (first | (go_at_call 21; refine (HPK.out _ hl).mono ?_; rintro e w1 ⟨rfl, hb1⟩; have hcc := fun o => hb1.cell (p := ⟨b, o, none⟩) hbk; have HB1 := Lib.hid hb1; clear hb1) | (go_at_call 22; refine (isFraction_c _ _).mono ?_; rintro e w' ⟨rfl, rfl⟩) | (go_at_call 23; refine (isZone_c _ _).mono ?_; rintro e w' ⟨rfl, rfl⟩))
                  go_quiet (first | (go_at_call 22; exact quiet_same (isFraction_c _ _)) | (go_at_call 24; exact quiet_same (touch_c _ _ _)))
                  go_wp2
                  first
                    | (go_ret; exact ⟨ret_bool (piecesOk_no hlt (by simp [okAt, linkOk, hlt, hp, hfr, hz, hkb, hab, ht, show i < ps.length by omega])).symm, below_dN (below_next HB.out HB1.out) _⟩)
                    | (go_roundw; (case rel => exact ⟨i + 1 + 1, by omega, by go_num, by rw [fracs_take_succ _ _ hlt, hfr]; first | rfl | go_num, by rw [okTo_succ _ _ hlt, HOK.out]; simp [okAt, linkOk, hlt, hp, hfr, hz, hkb, hab, ht, show i < ps.length by omega], below_dN (below_next HB.out HB1.out) _⟩); (case measure => simp [intOf]; omega))

            · have hab : (ps[i].kind == 0) = false := by simpa using ha
              have han : (ps[i].kind != 0) = true := by simpa using ha
              clear ha
              cases hfr : isFraction ps[i + 1].kind <;> cases ht : touch ps[i].kind ps[i + 1].kind
              all_goals
                  go_wp2_with (first | (go_at_call 21; refine (HPK.out _ hl).mono ?_; rintro e w1 ⟨rfl, hb1⟩; have hcc := fun o => hb1.cell (p := ⟨b, o, none⟩) hbk; have HB1 := Lib.hid hb1; clear hb1) | (go_at_call 22; refine (isFraction_c _ _).mono ?_; rintro e w' ⟨rfl, rfl⟩) | (go_at_call 23; refine (isZone_c _ _).mono ?_; rintro e w' ⟨rfl, rfl⟩))
                  go_quiet (first | (go_at_call 22; exact quiet_same (isFraction_c _ _)) | (go_at_call 24; exact quiet_same (touch_c _ _ _)))
                  go_wp2
                  first
                    | (go_ret; exact ⟨ret_bool (piecesOk_no hlt (by simp [okAt, linkOk, hlt, hp, hfr, hz, hkb, hab, ht, show i < ps.length by omega])).symm, below_dN (below_next HB.out HB1.out) _⟩)
                    | (go_roundw; (case rel => exact ⟨i + 1 + 1, by omega, by go_num, by rw [fracs_take_succ _ _ hlt, hfr]; first | rfl | go_num, by rw [okTo_succ _ _ hlt, HOK.out]; simp [okAt, linkOk, hlt, hp, hfr, hz, hkb, hab, ht, show i < ps.length by omega], below_dN (below_next HB.out HB1.out) _⟩); (case measure => simp [intOf]; omega))

    · go_wp2
      all_goals
        go_ret
        refine ⟨ret_bool ?_, HB.out⟩
        obtain rfl : j = ps.length := by omega
        rw [Bool.eq_iff_iff, piecesOk_eq, HOK.out]
        simp_all
        try omega
end Go.Proofs.YtndhiemagankeaaGreatDoor
/- The walks of the reference: what offsets tell, abbreviations, what can be read back. -/
namespace Go.Proofs.YtndhiemagankeaaGreatDoor
open Go.RowKit
set_option linter.unusedVariables false
set_option linter.unusedSimpArgs false
attribute [local simp] bs_size bs_toList
theorem all_no {α : Type} {f : α → Bool} {l : List α} {i : Nat} (h : i < l.length) (h1 : f l[i] = false) : l.all f = false := all_of_get h h1
set_option maxRecDepth 100000 in
set_option maxHeartbeats 4000000 in
theorem fits_c (v : Value) (ps : List Pc) (c : Civ) (w : World) (H : PcsAt w v ps) (hn : ps.length ≤ 2147483647) :
    Calls Tryz.prog 10 #[v, c.val] w fun e w' => e = .returned (.bool (fits ps c)) ∧ Below w.heap.size w w' := by
  unfold Civ.val
  have hb0 := below_new w (.cells #[.int .i64 c.year, .int .i64 c.month, .int .i64 c.day, .int .i64 c.hour, .int .i64 c.minute, .int .i64 c.second, .int .i64 c.nano, S c.zone.name, .int .i64 c.zone.off] 26)
  have H1 := H.below hb0
  obtain ⟨ao, cap, rfl, hcap, hc⟩ := H1
  have HC := Lib.hid hc
  have HB0 := Lib.hid hb0
  have HH := Lib.hid H
  clear hc hb0 H
  go_enter Tryz.func10, Tryz.ntmps10
  go_wp2
  go_loop [5] (fun i => ∃ j : Nat, j ≤ ps.length ∧ i = .int .i64 j ∧ (ps.take j).all (fitsP c.zone.off) = true) (fun i => ps.length - (intOf i).toNat)
  case atStart => exact ⟨0, Nat.zero_le _, rfl, rfl⟩
  case round =>
    obtain ⟨j, hj, rfl, hnot⟩ := hrel
    have HN := Lib.hid hnot
    clear hnot
    by_cases hlt : j < ps.length
    · obtain ⟨b, off, rfl, _, q2, q3, q4, q5, _⟩ := HC.out j hlt
      have HF : Hid (fitsP c.zone.off ps[j] = fitsP c.zone.off ps[j]) := rfl
      by_cases h36 : c.zone.off.tmod 3600 = 0 <;> by_cases h60 : c.zone.off.tmod 60 = 0
      all_goals
        have hk : ps[j].kind = 24 ∨ ps[j].kind = 29 ∨ ps[j].kind = 22 ∨ ps[j].kind = 23 ∨ ps[j].kind = 27 ∨ ps[j].kind = 28 ∨ (ps[j].kind ≠ 24 ∧ ps[j].kind ≠ 29 ∧ ps[j].kind ≠ 22 ∧ ps[j].kind ≠ 23 ∧ ps[j].kind ≠ 27 ∧ ps[j].kind ≠ 28) := by omega
        rcases hk with e | e | e | e | e | e | ⟨e1, e2, e3, e4, e5, e6⟩
        all_goals
          go_wp2
          first
            | (go_ret; exact ⟨ret_bool (all_no hlt (by simp [fitsP, *])).symm, HB0.out⟩)
            | (go_round; (case rel => exact ⟨j + 1, by omega, by go_num, all_take_succ hlt HN.out (by simp [fitsP, *])⟩); (case measure => simp [intOf]; omega))
    · go_wp2
      go_ret
      exact ⟨ret_bool (by have := HN.out; rw [List.take_of_length_le (by omega)] at this; exact this.symm), HB0.out⟩
theorem find_first {α : Type} {f : α → Bool} {l : List α} {j : Nat} (hj : j < l.length) (h0 : (l.take j).any f = false) (h1 : f l[j] = true) : l.find? f = some l[j] := by
  rw [List.find?_eq_some_iff_getElem]
  refine ⟨h1, j, hj, rfl, fun i hi => ?_⟩
  rw [List.any_eq_false] at h0
  have := h0 l[i] (List.mem_take_iff_getElem.2 ⟨i, by omega, rfl⟩)
  simpa using this
set_option maxHeartbeats 400000 in
theorem digitsN_c (v : Value) (ps : List Pc) (w : World) (H : PcsAt w v ps) (hn : ps.length ≤ 2147483647) :
    Calls Tryz.prog 46 #[v] w fun e w' => e = .returned (.int .i64 (digitsN ps)) ∧ w = w' := by
  obtain ⟨ao, cap, rfl, hcap, hc⟩ := H
  have HC := Lib.hid hc
  clear hc
  go_enter Tryz.func46, Tryz.ntmps46
  go_wp2
  go_loop [3] (fun i => ∃ j : Nat, j ≤ ps.length ∧ i = .int .i64 j ∧ (ps.take j).any (fun p => isFraction p.kind) = false) (fun i => ps.length - (intOf i).toNat)
  case atStart => exact ⟨0, Nat.zero_le _, rfl, rfl⟩
  case round =>
    obtain ⟨j, hj, rfl, hnot⟩ := hrel
    have HN := Lib.hid hnot
    clear hnot
    by_cases hlt : j < ps.length
    · obtain ⟨b, off, rfl, _, q2, q3, q4, q5, _⟩ := HC.out j hlt
      cases hk : isFraction ps[j].kind
      · go_wp2_with (go_at_call 22; refine (isFraction_c _ _).mono ?_; rintro e w' ⟨rfl, rfl⟩)
        go_round
        case rel => exact ⟨j + 1, by omega, by go_num, any_take_succ hlt HN.out hk⟩
        case measure => simp [intOf]; omega
      · go_wp2_with (go_at_call 22; refine (isFraction_c _ _).mono ?_; rintro e w' ⟨rfl, rfl⟩)
        go_ret
        refine ⟨ret_int ?_, rfl⟩
        unfold digitsN
        rw [find_first (f := fun p : Pc => isFraction p.kind) hlt HN.out hk]
    · go_wp2
      go_ret
      refine ⟨ret_int ?_, rfl⟩
      have hf : ps.find? (fun p => isFraction p.kind) = none := by
        rw [List.find?_eq_none]
        intro x hx
        have := HN.out
        rw [List.take_of_length_le (by omega), List.any_eq_false] at this
        exact this x hx
      unfold digitsN
      rw [hf]
set_option maxHeartbeats 2000000 in
theorem abbreviated_c (z : Zn) (w : World) (hl : z.name.length ≤ 9223372036854775807) : Calls Tryz.prog 37 #[z.val] w fun e w' => e = .returned (.bool (abbreviated z)) ∧ Below w.heap.size w w' := by
  have hz := zoneOk_c z
  unfold Zn.val at hz
  have HZ := Lib.hid hz
  clear hz
  unfold Zn.val
  go_enter Tryz.func37, Tryz.ntmps37
  go_wp2
  go_loop [3] (fun i => ∃ j : Nat, j ≤ z.name.length ∧ i = .int .i64 j ∧ (z.name.take j).all upperB = true) (fun i => z.name.length - (intOf i).toNat)
  case atStart => exact ⟨0, Nat.zero_le _, rfl, rfl⟩
  case round =>
    obtain ⟨j, hj, rfl, hnot⟩ := hrel
    have HN := Lib.hid hnot
    clear hnot
    by_cases hlt : j < z.name.length
    · obtain ⟨n, HI⟩ : ∃ n : Nat, Hid (z.name[j].toNat = n) := ⟨z.name[j].toNat, Lib.hid rfl⟩
      have hix : ∀ h : j < (bs z.name).size, ((bs z.name)[j]'h).toNat = n := fun h => by rw [bs_get]; exact HI.out
      by_cases hu : n < 65 ∨ 90 < n
      · have h1 : Hid (upperB z.name[j] = false) := by
          show _ = _
          unfold upperB
          rw [HI.out]
          simp; omega
        go_wp2
        all_goals
          first
            | (go_ret; exact ⟨ret_bool (by unfold abbreviated; rw [all_no hlt h1.out]; rfl), below_new _ _⟩)
      · have h1 : Hid (upperB z.name[j] = true) := by
          show _ = _
          unfold upperB
          rw [HI.out]
          simp; omega
        go_wp2
        go_round
        case rel => exact ⟨j + 1, by omega, by go_num, all_take_succ hlt HN.out h1.out⟩
        case measure => simp [intOf]; omega
    · have hall : Hid (z.name.all upperB = true) := by
        have := HN.out
        rwa [List.take_of_length_le (by omega)] at this
      go_wp2_with (first | (go_at_call 9; refine (HZ.out _ hl).mono ?_; rintro e w1 ⟨rfl, hb⟩; have hcc := fun o => hb.cell (p := ⟨w.heap.size, o, none⟩) (by simp); have HB := Lib.hid hb; clear hb))
      all_goals
        go_ret
        refine ⟨ret_bool ?_, below_next (below_new _ _) HB.out⟩
        rw [Bool.eq_iff_iff]
        have := hall.out
        simp_all [abbreviated, gmtB]
        try omega
end Go.Proofs.YtndhiemagankeaaGreatDoor
/- The walks of the reference: what can be read back; small numbers and texts. -/
namespace Go.Proofs.YtndhiemagankeaaGreatDoor
open Go.RowKit
set_option linter.unusedVariables false
set_option linter.unusedSimpArgs false
attribute [local simp] bs_size bs_toList
set_option maxRecDepth 100000 in
set_option maxHeartbeats 4000000 in
theorem readable_c (v : Value) (ps : List Pc) (c : Civ) (w : World) (H : PcsAt w v ps) (hn : ps.length ≤ 2147483647) (hl : c.zone.name.length ≤ 9223372036854775807) :
    Calls Tryz.prog 16 #[v, c.val] w fun e w' => e = .returned (.bool (readable ps c)) ∧ Below w.heap.size w w' := by
  have hfc := fits_c v ps c
  have hac := abbreviated_c c.zone
  unfold Civ.val at hfc
  unfold Zn.val at hac
  unfold Civ.val
  have hb0 := below_new w (.cells #[.int .i64 c.year, .int .i64 c.month, .int .i64 c.day, .int .i64 c.hour, .int .i64 c.minute, .int .i64 c.second, .int .i64 c.nano, S c.zone.name, .int .i64 c.zone.off] 26)
  have H1 := H.below hb0
  have H1 := Lib.hid H1
  have HB0 := Lib.hid hb0
  have HFC := Lib.hid hfc
  have HAC := Lib.hid hac
  clear hb0 H hfc hac
  cases e1 : anyK ps 15 16 <;> cases e2 : hasK ps 21 <;> cases e3 : anyK ps 14 16
  all_goals
    go_enter Tryz.func16, Tryz.ntmps16
    go_wp2_with (first
      | (go_at_call 32; refine (hHalf_c _ _ _ H1.out hn).mono ?_; rintro e w' ⟨rfl, rfl⟩)
      | (go_at_call 33; refine (has_c _ _ _ _ H1.out hn).mono ?_; rintro e w' ⟨rfl, rfl⟩)
      | (go_at_call 34; refine (hHour_c _ _ _ H1.out hn).mono ?_; rintro e w' ⟨rfl, rfl⟩)
      | (go_at_call 35; refine (hYearDay_c _ _ _ H1.out hn).mono ?_; rintro e w' ⟨rfl, rfl⟩)
      | (go_at_call 36; refine (hYear_c _ _ _ H1.out hn).mono ?_; rintro e w' ⟨rfl, rfl⟩)
      | (go_at_call 26; refine (within_c _ _ _ _).mono ?_; rintro e w' ⟨rfl, rfl⟩)
      | (go_at_call 37; refine (HAC.out _ hl).mono ?_; rintro e w1 ⟨rfl, hb⟩; have hcc := fun o => hb.cell (p := ⟨w.heap.size, o, none⟩) (by simp); have HB := Lib.hid hb; have H2 := Lib.hid (H1.out.below hb); clear hb)
      | (go_at_call 10; refine (HFC.out _ H1.out hn).mono ?_; rintro e w2 ⟨rfl, hb2⟩)
      | (go_at_call 10; refine (HFC.out _ H2.out hn).mono ?_; rintro e w2 ⟨rfl, hb2⟩))
    all_goals
      go_ret
      refine ⟨ret_bool ?_, ?_⟩
      · rw [Bool.eq_iff_iff]
        simp_all [readable]
      · first
          | exact HB0.out
          | exact below_next (below_next HB0.out HB.out) hb2
          | exact below_next HB0.out hb2
          | exact below_next HB0.out HB.out
end Go.Proofs.YtndhiemagankeaaGreatDoor
