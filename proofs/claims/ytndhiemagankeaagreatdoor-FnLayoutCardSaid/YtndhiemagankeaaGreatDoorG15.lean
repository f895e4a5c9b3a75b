/-
  FnLayout (the statement: for every list of pieces, every time and every zone the call returns true, and its arguments read afterwards as they did), part 15 of 41. In this part: The walk of package time: a fraction at a place of a layout; a minus sign that begins no offset. The walk of package time: what the next element of a layout is. The plain law of a layout's text: where its elements begin. The walk of package time: a layout that holds no element. The plain law of a layout's text: the next element of a list of pieces. The plain law of a layout's text: no layout of pieces is one of the two that have a road of their own.
-/
import Derived.OwnWalk
import Derived.Test.YtndhiemagankeaaGreatDoorG12
import Derived.Test.YtndhiemagankeaaGreatDoorG13
import Derived.Test.YtndhiemagankeaaGreatDoorG14
/- The walk of package time: a fraction at a place of a layout; a minus sign that begins no offset. -/
namespace Go.Proofs.YtndhiemagankeaaGreatDoor
open Go.RowKit
set_option linter.unusedSimpArgs false
set_option linter.unusedVariables false
attribute [local simp] bs_size bs_toList bs_append bs_data bs_extract
set_option maxRecDepth 100000 in
set_option maxHeartbeats 8000000 in
theorem el94_f (l r : Bytes) (i n : Nat) (comma nine : Bool) (u : Nat → Value) (w : World) (I : Act → World → Prop) (Q : Exit → Act → World → Prop) (hl : l.length ≤ 1099511627776)
    (h0 : 1 ≤ n) (h9 : n ≤ 9) (hd : l.drop i = mark comma ++ (List.replicate n (if nine = true then 57 else 48) ++ r)) (hlen : l.length = i + (1 + n) + r.length) (hf : Fol false r)
    (hQ : Ret94 (l.take i) (fstd (if nine = true then 35 else 34) n comma) r w Q) :
    body94.wp Tryz.prog (Exit.then I Q) (fr94 l i u) w := by
  have HST : Hid (∀ w (x : Int), x = (n : Int) → Calls Tryz.prog 123 #[.int .i64 (if nine = true then 35 else 34), .int .i64 x, .int .i64 (if comma = true then 44 else 46)] w fun e w' => e = .returned (.int .i64 (fstd (if nine = true then 35 else 34) n comma)) ∧ w' = w) := fun w x hx => hx ▸ stdFracSecond_c _ n comma w (by cases nine <;> simp) h0 h9
  obtain ⟨s, HS⟩ : ∃ s, Hid (s = fstd (if nine = true then 35 else 34) n comma) := ⟨_, Lib.hid rfl⟩
  rw [← HS.out] at HST hQ
  obtain ⟨ch, HCH⟩ : ∃ ch : UInt8, Hid (ch = if nine = true then 57 else 48) := ⟨_, Lib.hid rfl⟩
  rw [← HCH.out] at hd
  have hd1 : l.drop (i + 1) = List.replicate n ch ++ r := by
    rw [← List.drop_drop, hd]; cases comma <;> rfl
  have hat : Hid (∀ j, j < n → ∀ h : i + 1 + j < (bs l).size, (bs l)[i + 1 + j]'h = ch) := by
    show ∀ j, _
    intro j hj h
    rw [at_of_drop hd1 j (by simp; omega) h, List.getElem_append_left (by simpa using hj)]
    simp
  have hix1 : ∀ h : i + 1 < (bs l).size, (bs l)[i + 1]'h = ch := fun h => hat.out 0 (by omega) h
  have hend : Hid (∀ h : i + 1 + n < (bs l).size, isD ((bs l)[i + 1 + n]'h) = false) := by
    show ∀ h, _
    intro h
    have hr : 0 < r.length := by rw [bs_size] at h; omega
    rw [at_of_drop hd1 n (by simp; omega) h, List.getElem_append_right (by simp)]
    simp
    cases r with
    | nil => simp at hr
    | cons c r => exact hf.digit c rfl
  have HDJ : Hid (digitAt l ((i : Int) + 1 + n).toNat = false) := by
    show _ = _
    rw [show ((i : Int) + 1 + n).toNat = i + 1 + n by omega]
    unfold digitAt
    by_cases h : i + 1 + n < l.length
    · rw [List.getElem?_eq_getElem h]
      have := hend.out (by rw [bs_size]; exact h)
      rw [bs_get] at this
      exact this
    · rw [List.getElem?_eq_none (by omega)]
  have hlen' : l.length = i + 1 + n + r.length := by omega
  have HR : Hid (List.take (i + 1 + n + r.length - (i + 1 + n)) (List.drop (i + 1 + n) l) = r) := by
    have hd' : l.drop i = (mark comma ++ List.replicate n ch) ++ r := by rw [hd, List.append_assoc]
    have := (rest_of_drop hd' hlen).out
    show _ = _
    rwa [show i + (1 + n) = i + 1 + n by omega] at this
  have HR2 : Hid (List.take r.length (List.drop (i + 1 + n) l) = r) := by
    have := HR.out
    show _ = _
    rwa [show i + 1 + n + r.length - (i + 1 + n) = r.length by omega] at this
  have hix : ∀ h : i < (bs l).size, (bs l)[i]'h = if comma = true then 44 else 46 := fun h => by
    have := at_of_drop hd 0 (by cases comma <;> simp [mark]) h
    simp only [Nat.add_zero] at this
    rw [this]
    cases comma <;> rfl
  have hchn : ch.toNat = if nine = true then 57 else 48 := by rw [HCH.out]; cases nine <;> rfl
  have HX1 := Lib.hid hix1
  have HQ := Lib.hid hQ
  clear hd hd1 hQ hf hlen
  cases comma <;> cases nine
  all_goals
    simp only [if_true, Bool.false_eq_true, if_false] at hix hchn HST
    unfold fr94
    conv => arg 2; whnf
    go_wp2_with fail
    go_loop [8] (fun j => ∃ k j' : Nat, k ≤ n ∧ Hid (j' = i + 1 + k) ∧ j = .int .i64 (j' : Int)) (fun j => i + 1 + n - (intOf j).toNat)
    case atStart => exact ⟨0, i + 1, Nat.zero_le _, Lib.hid rfl, by go_num⟩
    case round =>
      obtain ⟨k, j, hk, HJ, rfl⟩ := hrel
      have hjl : j < l.length + 1 := by rw [HJ.out]; omega
      have hij : i + 1 ≤ j := by rw [HJ.out]; omega
      have hjn : j < i + 1 + n + 1 := by rw [HJ.out]; omega
      by_cases hkn : k < n
      · have hk1 : ∀ h : j < (bs l).size, (bs l)[j]'h = ch := by
          have h1 := hat.out k hkn
          rw [← HJ.out] at h1
          exact h1
        have hjl2 : j < l.length := by rw [HJ.out]; omega
        have hjn2 : j < i + 1 + n := by rw [HJ.out]; omega
        go_wp2_with fail
        go_round
        case rel => exact ⟨k + 1, j + 1, by omega, by rw [HJ.out]; exact Lib.hid rfl, by go_num⟩
        case measure => simp [intOf] <;> omega
      · obtain rfl : k = n := by omega
        have hij2 : i + 1 < j := by rw [HJ.out]; omega
        rw [← HJ.out] at HR HR2 hlen' hend
        have HDJ' : Hid (digitAt l ((j : Int)).toNat = false) := by
          have := HDJ.out
          rw [show ((i : Int) + 1 + k).toNat = j by rw [HJ.out]; omega] at this
          show _ = _
          rwa [Int.toNat_natCast]
        have HI : Hid (∀ w, Calls Tryz.prog 90 #[S l, .int .i64 (j : Int)] w fun e w' => e = .returned (.bool false) ∧ w' = w) := fun w => by
          have := isDigit_c l (j : Int) w (by omega)
          rwa [HDJ'.out] at this
        clear hat hix1
        have hix1 : ∀ h : i + 1 < (bs l).size, (bs l)[i + 1]'h = ch := HX1.out
        by_cases hr : r.length = 0
        · have hjl3 : l.length = j := by omega
          have HR0 : Hid (([] : Bytes) = r) := by show _ = _; cases r with
            | nil => rfl
            | cons c r => simp at hr
          go_wp2_with (first
            | (go_at_call 90; refine (HI.out _).mono ?_; rintro e w' ⟨rfl, rfl⟩)
            | (go_at_call 123; refine (HST.out _ _ (by have := HJ.out; omega)).mono ?_; rintro e w' ⟨rfl, rfl⟩))
          all_goals
            go_quiet (fail)
            go_wp2_with fail
            first | exact HQ.out _ _ rfl rfl rfl (congrArg S HR0.out) | exact HQ.out _ _ rfl rfl rfl (congrArg S HR2.out) | exact HQ.out _ _ rfl rfl rfl (congrArg S HR.out)
        · obtain ⟨c0, HC0⟩ : ∃ c0, Hid (∀ h : j < (bs l).size, (bs l)[j]'h = c0) := ⟨l[j]'(by omega), fun h => bs_get _ _ _⟩
          have hc0 : isD c0 = false := by
            have h1 := hend.out (by rw [bs_size]; omega)
            rw [HC0.out] at h1
            exact h1
          have hcn : c0.toNat < 48 ∨ 57 < c0.toNat := by
            simp [isD] at hc0
            omega
          have hix0 := HC0.out
          have hcb := c0.toNat_lt
          have hjl3 : j < l.length := by omega
          clear hc0
          rcases hcn with hcn | hcn
          all_goals
            go_wp2_with (first
              | (go_at_call 90; refine (HI.out _).mono ?_; rintro e w' ⟨rfl, rfl⟩)
              | (go_at_call 123; refine (HST.out _ _ (by have := HJ.out; omega)).mono ?_; rintro e w' ⟨rfl, rfl⟩))
            go_quiet (fail)
            go_wp2_with fail
            first | exact HQ.out _ _ rfl rfl rfl (congrArg S HR2.out) | exact HQ.out _ _ rfl rfl rfl (congrArg S HR.out)
end Go.Proofs.YtndhiemagankeaaGreatDoor
/- The walk of package time: what the next element of a layout is. -/
namespace Go.Proofs.YtndhiemagankeaaGreatDoor
open Go.RowKit
set_option linter.unusedSimpArgs false
set_option linter.unusedVariables false
attribute [local simp] bs_size bs_toList bs_append bs_data bs_extract
theorem minus_ne (s q : Bytes) (m : Nat) (hs : s.take 2 ≠ [48, 55]) (hm : 3 ≤ m) : (List.take m (45 :: s) == 45 :: 48 :: 55 :: q) = false := by
  rw [beq_eq_false_iff_ne]
  intro h
  obtain ⟨k, rfl⟩ : ∃ k, m = k + 3 := ⟨m - 3, by omega⟩
  simp only [List.take_succ_cons, List.cons.injEq, true_and] at h
  have h2 := congrArg (List.take 2) h
  rw [List.take_take, Nat.min_eq_left (by omega)] at h2
  exact hs h2
set_option maxRecDepth 100000 in
set_option maxHeartbeats 8000000 in
theorem minus94 (l s : Bytes) (i : Nat) (u : Nat → Value) (w : World) (Q : Exit → Act → World → Prop) (hl : l.length ≤ 1099511627776) (hd : l.drop i = 45 :: s) (hs : s.take 2 ≠ [48, 55]) (hlen : l.length = i + 1 + s.length) :
    body94.wp Tryz.prog (Exit.then (fun a' w' => At94 l ((i : Int) + 1) a' ∧ w' = w) Q) (fr94 l i u) w := by
  have hix : ∀ h : i < (bs l).size, (bs l)[i]'h = 45 := fun h => at_of_drop hd 0 (by simp) h
  have f1 : (List.take 7 (List.drop i l) == [45, 48, 55, 48, 48, 48, 48]) = false := by rw [hd]; exact minus_ne s _ 7 hs (by omega)
  have f2 : (List.take 9 (List.drop i l) == [45, 48, 55, 58, 48, 48, 58, 48, 48]) = false := by rw [hd]; exact minus_ne s _ 9 hs (by omega)
  have f3 : (List.take 5 (List.drop i l) == [45, 48, 55, 48, 48]) = false := by rw [hd]; exact minus_ne s _ 5 hs (by omega)
  have f4 : (List.take 6 (List.drop i l) == [45, 48, 55, 58, 48, 48]) = false := by rw [hd]; exact minus_ne s _ 6 hs (by omega)
  have f5 : (List.take 3 (List.drop i l) == [45, 48, 55]) = false := by rw [hd]; exact minus_ne s _ 3 hs (by omega)
  clear hd hs
  unfold fr94
  conv => arg 2; whnf
  go_wp2_with fail
  all_goals first | exact ⟨⟨rfl, rfl, rfl, rfl⟩, trivial⟩ | exact ⟨rfl, rfl, rfl, rfl⟩
set_option maxRecDepth 100000 in
set_option maxHeartbeats 4000000 in
theorem end94 (l : Bytes) (u : Nat → Value) (w : World) (I : Act → World → Prop) (Q : Exit → Act → World → Prop) (hl : l.length ≤ 1099511627776)
    (hQ : ∀ a', At94 l l.length a' → Q (.exit 0) a' w) :
    body94.wp Tryz.prog (Exit.then I Q) (fr94 l l.length u) w := by
  have HQ := Lib.hid hQ
  clear hQ
  unfold fr94
  conv => arg 2; whnf
  go_wp2_with fail
  exact HQ.out _ ⟨rfl, rfl, rfl, rfl⟩
/-- The places of the elements in a table of the program. -/
def StdAt (w : World) : Prop := w.cell? ⟨1, 0, none⟩ = some (.int .i64 260) ∧ w.cell? ⟨1, 1, none⟩ = some (.int .i64 265) ∧ w.cell? ⟨1, 2, none⟩ = some (.int .i64 1038) ∧ w.cell? ⟨1, 3, none⟩ = some (.int .i64 1040) ∧ w.cell? ⟨1, 4, none⟩ = some (.int .i64 1042) ∧ w.cell? ⟨1, 5, none⟩ = some (.int .i64 276) ∧ 1 < w.heap.size
theorem StdAt.below {w w' : World} (h : StdAt w) (hb : Below w.heap.size w w') : StdAt w' := by
  obtain ⟨h0, h1, h2, h3, h4, h5, hs⟩ := h
  have hc : ∀ o, w'.cell? ⟨1, o, none⟩ = w.cell? ⟨1, o, none⟩ := fun o => hb.cell (p := ⟨1, o, none⟩) hs
  exact ⟨by rw [hc]; exact h0, by rw [hc]; exact h1, by rw [hc]; exact h2, by rw [hc]; exact h3, by rw [hc]; exact h4, by rw [hc]; exact h5, Nat.lt_of_lt_of_le hs hb.size⟩
/-- A place of a layout at which no element begins. -/
def InertAt (l : Bytes) (i : Nat) : Prop := ∃ c s, l.drop i = c :: s ∧ (quietB c.toNat ∨ (c = 45 ∧ s.take 2 ≠ [48, 55]))
theorem inert94 (l : Bytes) (i : Nat) (u : Nat → Value) (w : World) (Q : Exit → Act → World → Prop) (hl : l.length ≤ 1099511627776) (h : InertAt l i) :
    body94.wp Tryz.prog (Exit.then (fun a' w' => At94 l ((i : Int) + 1) a' ∧ w' = w) Q) (fr94 l i u) w := by
  obtain ⟨c, s, hd, h⟩ := h
  have hlen : l.length = i + 1 + s.length := by
    have := congrArg List.length hd
    simp at this
    omega
  rcases h with h | ⟨rfl, h⟩
  · refine quiet94 l i c u w Q (by omega) hl ?_ h
    have := at_of_drop hd 0 (by simp) (by rw [bs_size]; omega)
    rw [bs_get] at this
    simpa using this
  · exact minus94 l s i u w Q hl hd h hlen
theorem inert94' (l : Bytes) (i : Nat) (u : Nat → Value) (w : World) (I : Act → World → Prop) (Q : Exit → Act → World → Prop) (hl : l.length ≤ 1099511627776) (h : InertAt l i) (hI : ∀ a', At94 l ((i : Int) + 1) a' → I a' w) :
    body94.wp Tryz.prog (Exit.then I Q) (fr94 l i u) w := by
  refine Code.wp_mono ?_ (inert94 l i u w Q hl h)
  intro e a w' q
  cases e with
  | normal => obtain ⟨q1, rfl⟩ := q; exact hI _ q1
  | _ => exact q
def ElAt (l : Bytes) (i : Nat) (std : Int) (r : Bytes) : Prop :=
  ∀ (u : Nat → Value) (w : World) (I : Act → World → Prop) (Q : Exit → Act → World → Prop), StdAt w → Ret94 (l.take i) std r w Q → body94.wp Tryz.prog (Exit.then I Q) (fr94 l i u) w
set_option maxRecDepth 100000 in
set_option maxHeartbeats 4000000 in
theorem next_c (l r : Bytes) (i : Nat) (std : Int) (w : World) (hl : l.length ≤ 1099511627776) (hi : i < l.length) (hin : ∀ j, j < i → InertAt l j) (he : ElAt l i std r) (hw : StdAt w) :
    Calls Tryz.prog 94 #[S l] w fun e w' => e = .returned (.tuple #[S (l.take i), .int .i64 std, S r]) ∧ ∃ n, w' = w.drewN n := by
  go_enter Tryz.func94, Tryz.ntmps94
  go_wp2_with fail
  refine wp_loop (fun a' w' => (∃ j : Nat, j ≤ i ∧ At94 l j a') ∧ w' = w) (fun a' _ => l.length - (intOf (a'.tmps.getD 5 undef)).toNat) ⟨⟨0, Nat.zero_le _, ⟨rfl, rfl, rfl, rfl⟩⟩, rfl⟩ ?_
  rintro a' w' ⟨⟨j, hj, hA⟩, rfl⟩
  obtain ⟨u, rfl⟩ := hA.open
  by_cases hji : j = i
  · subst hji
    refine he u w' _ _ hw ?_
    intro a2 n hd h2 h3 h4
    simp only [Exit.inBlock, Exit.then]
    exact bodyPost_ret (results_tmp3 rfl _ _ _) hd ⟨by rw [h2, h3, h4], n, rfl⟩
  · refine inert94' l j u w' _ _ hl (hin j (by omega)) fun a2 hA2 => ⟨⟨⟨j + 1, by omega, by push_cast; exact hA2⟩, rfl⟩, ?_⟩
    have e1 : (fr94 l j u).tmps.getD 5 undef = .int .i64 (j : Int) := hA.place
    rw [e1, hA2.place]
    simp [intOf]
    omega
end Go.Proofs.YtndhiemagankeaaGreatDoor
/- The plain law of a layout's text: where its elements begin. -/
namespace Go.Proofs.YtndhiemagankeaaGreatDoor
open Go.RowKit
set_option linter.unusedSimpArgs false
set_option linter.unusedVariables false
theorem u8_eq (c : UInt8) (n : Nat) (h : c.toNat = n) (hn : n < 256) : c = UInt8.ofNat n := by
  rw [← UInt8.toNat_inj, h, UInt8.toNat_ofNat', Nat.mod_eq_of_lt hn]
def plainC (c : UInt8) : Bool := signB c || letterB c
theorem u8_beq (c d : UInt8) : (c == d) = decide (c.toNat = d.toNat) := by
  rw [Bool.eq_iff_iff]
  simp [← UInt8.toNat_inj]
theorem signB_nat {c : UInt8} (h : signB c = true) : c.toNat = 32 ∨ (33 ≤ c.toNat ∧ c.toNat ≤ 43) ∨ c.toNat = 45 ∨ c.toNat = 47 ∨ (58 ≤ c.toNat ∧ c.toNat ≤ 64) ∨ (91 ≤ c.toNat ∧ c.toNat ≤ 94) ∨ (123 ≤ c.toNat ∧ c.toNat ≤ 126) := by
  unfold signB at h
  simp only [u8_beq] at h
  simpa using h
theorem letterB_nat {c : UInt8} (h : letterB c = true) : (65 ≤ c.toNat ∧ c.toNat ≤ 73) ∨ c.toNat = 84 ∨ c.toNat = 87 ∨ c.toNat = 88 := by
  unfold letterB at h
  simp only [u8_beq] at h
  simpa using h
theorem plainC_quiet {c : UInt8} (h : plainC c = true) : (quietB c.toNat ∨ c = 45) ∧ c ≠ 48 := by
  unfold plainC at h
  rw [Bool.or_eq_true] at h
  have hn : c.toNat = 45 ∨ quietB c.toNat := by
    unfold quietB
    rcases h with h | h
    · have := signB_nat h; omega
    · have := letterB_nat h; omega
  refine ⟨?_, ?_⟩
  · rcases hn with e | q
    · exact .inr (u8_eq c 45 e (by decide))
    · exact .inl q
  · rintro rfl
    rcases h with h | h <;> exact absurd h (by decide)
/-- Plain text ahead of what begins no offset is inert. -/
theorem inert_text (T s : Bytes) (hT : ∀ c ∈ T, plainC c = true) (hs : s.take 2 ≠ [48, 55]) (j : Nat) (hj : j < T.length) : InertAt (T ++ s) j := by
  refine ⟨T[j], T.drop (j + 1) ++ s, ?_, ?_⟩
  · rw [List.drop_append_of_le_length (by omega), List.drop_eq_getElem_cons hj]; rfl
  · have hp := plainC_quiet (hT _ (List.getElem_mem hj))
    rcases hp.1 with h | h
    · exact .inl h
    · refine .inr ⟨h, ?_⟩
      cases hd : T.drop (j + 1) with
      | nil => simpa using hs
      | cons d r =>
        have hd48 := (plainC_quiet (hT d (List.mem_of_mem_drop (i := j + 1) (by rw [hd]; simp)))).2
        intro h2
        cases r with
        | nil => cases s <;> simp at h2 <;> exact hd48 h2.1
        | cons e r => simp at h2; exact hd48 h2.1
def stds : List Int := [0, 275, 276, 257, 258, 260, 259, 261, 262, 263, 264, 265, 522, 523, 1036, 1037, 1038, 1039, 1040, 1041, 1042, 1045, 29, 32, 31, 30, 33, 24, 27, 26, 25, 28, 23]
/-- An element's number. -/
def stdOf (p : Pc) : Int := if p.kind = 33 then fstd 34 p.n.toNat p.comma else if p.kind = 34 then fstd 35 p.n.toNat p.comma else stds.getD p.kind.toNat 0
theorem ElAt.mk (l r T e : Bytes) (std : Int) (hl : l = T ++ (e ++ r)) (h : l.drop T.length = e ++ r → l.length = T.length + e.length + r.length → ElAt l T.length std r) : ElAt l T.length std r :=
  h (by rw [hl, List.drop_left]) (by rw [hl]; simp; omega)
theorem elAt_1 (l r T : Bytes) (hn : l.length ≤ 1099511627776) (hl : l = T ++ (elemTexts.getD 1 [] ++ r)) (hf : Fol false r) : ElAt l T.length (stds.getD 1 0) r :=
  ElAt.mk l r T _ _ hl fun hd hlen u w I Q hs hQ => el94_1 l r T.length u w I Q hn hd hlen hf hQ
theorem elAt_2 (l r T : Bytes) (hn : l.length ≤ 1099511627776) (hl : l = T ++ (elemTexts.getD 2 [] ++ r)) (hf : Fol false r) : ElAt l T.length (stds.getD 2 0) r :=
  ElAt.mk l r T _ _ hl fun hd hlen u w I Q hs hQ => el94_2 l r T.length u w I Q hn hd hlen hf hs.2.2.2.2.2.1 hQ
theorem elAt_3 (l r T : Bytes) (hn : l.length ≤ 1099511627776) (hl : l = T ++ (elemTexts.getD 3 [] ++ r)) (hf : Fol false r) : ElAt l T.length (stds.getD 3 0) r :=
  ElAt.mk l r T _ _ hl fun hd hlen u w I Q hs hQ => el94_3 l r T.length u w I Q hn hd hlen hf hQ
theorem elAt_4 (l r T : Bytes) (hn : l.length ≤ 1099511627776) (hl : l = T ++ (elemTexts.getD 4 [] ++ r)) (hf : Fol false r) : ElAt l T.length (stds.getD 4 0) r :=
  ElAt.mk l r T _ _ hl fun hd hlen u w I Q hs hQ => el94_4 l r T.length u w I Q hn hd hlen hf hQ
theorem elAt_5 (l r T : Bytes) (hn : l.length ≤ 1099511627776) (hl : l = T ++ (elemTexts.getD 5 [] ++ r)) (hf : Fol false r) : ElAt l T.length (stds.getD 5 0) r :=
  ElAt.mk l r T _ _ hl fun hd hlen u w I Q hs hQ => el94_5 l r T.length u w I Q hn hd hlen hf hs.1 hQ
theorem elAt_6 (l r T : Bytes) (hn : l.length ≤ 1099511627776) (hl : l = T ++ (elemTexts.getD 6 [] ++ r)) (hf : Fol false r) : ElAt l T.length (stds.getD 6 0) r :=
  ElAt.mk l r T _ _ hl fun hd hlen u w I Q hs hQ => el94_6 l r T.length u w I Q hn hd hlen hf hQ
theorem elAt_7 (l r T : Bytes) (hn : l.length ≤ 1099511627776) (hl : l = T ++ (elemTexts.getD 7 [] ++ r)) (hf : Fol false r) : ElAt l T.length (stds.getD 7 0) r :=
  ElAt.mk l r T _ _ hl fun hd hlen u w I Q hs hQ => el94_7 l r T.length u w I Q hn hd hlen hf hQ
theorem elAt_8 (l r T : Bytes) (hn : l.length ≤ 1099511627776) (hl : l = T ++ (elemTexts.getD 8 [] ++ r)) (hf : Fol false r) : ElAt l T.length (stds.getD 8 0) r :=
  ElAt.mk l r T _ _ hl fun hd hlen u w I Q hs hQ => el94_8 l r T.length u w I Q hn hd hlen hf hQ
theorem elAt_9 (l r T : Bytes) (hn : l.length ≤ 1099511627776) (hl : l = T ++ (elemTexts.getD 9 [] ++ r)) (hf : Fol false r) : ElAt l T.length (stds.getD 9 0) r :=
  ElAt.mk l r T _ _ hl fun hd hlen u w I Q hs hQ => el94_9 l r T.length u w I Q hn hd hlen hf hQ
theorem elAt_10 (l r T : Bytes) (hn : l.length ≤ 1099511627776) (hl : l = T ++ (elemTexts.getD 10 [] ++ r)) (hf : Fol false r) : ElAt l T.length (stds.getD 10 0) r :=
  ElAt.mk l r T _ _ hl fun hd hlen u w I Q hs hQ => el94_10 l r T.length u w I Q hn hd hlen hf hQ
theorem elAt_11 (l r T : Bytes) (hn : l.length ≤ 1099511627776) (hl : l = T ++ (elemTexts.getD 11 [] ++ r)) (hf : Fol false r) : ElAt l T.length (stds.getD 11 0) r :=
  ElAt.mk l r T _ _ hl fun hd hlen u w I Q hs hQ => el94_11 l r T.length u w I Q hn hd hlen hf hs.2.1 hQ
theorem elAt_12 (l r T : Bytes) (hn : l.length ≤ 1099511627776) (hl : l = T ++ (elemTexts.getD 12 [] ++ r)) (hf : Fol false r) : ElAt l T.length (stds.getD 12 0) r :=
  ElAt.mk l r T _ _ hl fun hd hlen u w I Q hs hQ => el94_12 l r T.length u w I Q hn hd hlen hf hQ
theorem elAt_13 (l r T : Bytes) (hn : l.length ≤ 1099511627776) (hl : l = T ++ (elemTexts.getD 13 [] ++ r)) (hf : Fol false r) : ElAt l T.length (stds.getD 13 0) r :=
  ElAt.mk l r T _ _ hl fun hd hlen u w I Q hs hQ => el94_13 l r T.length u w I Q hn hd hlen hf hQ
theorem elAt_14 (l r T : Bytes) (hn : l.length ≤ 1099511627776) (hl : l = T ++ (elemTexts.getD 14 [] ++ r)) (hf : Fol false r) : ElAt l T.length (stds.getD 14 0) r :=
  ElAt.mk l r T _ _ hl fun hd hlen u w I Q hs hQ => el94_14 l r T.length u w I Q hn hd hlen hf hQ
theorem elAt_15 (l r T : Bytes) (hn : l.length ≤ 1099511627776) (hl : l = T ++ (elemTexts.getD 15 [] ++ r)) (hf : Fol false r) : ElAt l T.length (stds.getD 15 0) r :=
  ElAt.mk l r T _ _ hl fun hd hlen u w I Q hs hQ => el94_15 l r T.length u w I Q hn hd hlen hf hQ
theorem elAt_16 (l r T : Bytes) (hn : l.length ≤ 1099511627776) (hl : l = T ++ (elemTexts.getD 16 [] ++ r)) (hf : Fol false r) : ElAt l T.length (stds.getD 16 0) r :=
  ElAt.mk l r T _ _ hl fun hd hlen u w I Q hs hQ => el94_16 l r T.length u w I Q hn hd hlen hf hs.2.2.1 hQ
theorem elAt_17 (l r T : Bytes) (hn : l.length ≤ 1099511627776) (hl : l = T ++ (elemTexts.getD 17 [] ++ r)) (hf : Fol false r) : ElAt l T.length (stds.getD 17 0) r :=
  ElAt.mk l r T _ _ hl fun hd hlen u w I Q hs hQ => el94_17 l r T.length u w I Q hn hd hlen hf hQ
theorem elAt_18 (l r T : Bytes) (hn : l.length ≤ 1099511627776) (hl : l = T ++ (elemTexts.getD 18 [] ++ r)) (hf : Fol false r) : ElAt l T.length (stds.getD 18 0) r :=
  ElAt.mk l r T _ _ hl fun hd hlen u w I Q hs hQ => el94_18 l r T.length u w I Q hn hd hlen hf hs.2.2.2.1 hQ
theorem elAt_19 (l r T : Bytes) (hn : l.length ≤ 1099511627776) (hl : l = T ++ (elemTexts.getD 19 [] ++ r)) (hf : Fol false r) : ElAt l T.length (stds.getD 19 0) r :=
  ElAt.mk l r T _ _ hl fun hd hlen u w I Q hs hQ => el94_19 l r T.length u w I Q hn hd hlen hf hQ
theorem elAt_20 (l r T : Bytes) (hn : l.length ≤ 1099511627776) (hl : l = T ++ (elemTexts.getD 20 [] ++ r)) (hf : Fol false r) : ElAt l T.length (stds.getD 20 0) r :=
  ElAt.mk l r T _ _ hl fun hd hlen u w I Q hs hQ => el94_20 l r T.length u w I Q hn hd hlen hf hs.2.2.2.2.1 hQ
theorem elAt_21 (l r T : Bytes) (hn : l.length ≤ 1099511627776) (hl : l = T ++ (elemTexts.getD 21 [] ++ r)) (hf : Fol false r) : ElAt l T.length (stds.getD 21 0) r :=
  ElAt.mk l r T _ _ hl fun hd hlen u w I Q hs hQ => el94_21 l r T.length u w I Q hn hd hlen hf hQ
theorem elAt_22 (l r T : Bytes) (hn : l.length ≤ 1099511627776) (hl : l = T ++ (elemTexts.getD 22 [] ++ r)) (hf : Fol true r) : ElAt l T.length (stds.getD 22 0) r :=
  ElAt.mk l r T _ _ hl fun hd hlen u w I Q hs hQ => el94_22 l r T.length u w I Q hn hd hlen hf hQ
theorem elAt_23 (l r T : Bytes) (hn : l.length ≤ 1099511627776) (hl : l = T ++ (elemTexts.getD 23 [] ++ r)) (hf : Fol true r) : ElAt l T.length (stds.getD 23 0) r :=
  ElAt.mk l r T _ _ hl fun hd hlen u w I Q hs hQ => el94_23 l r T.length u w I Q hn hd hlen hf hQ
theorem elAt_24 (l r T : Bytes) (hn : l.length ≤ 1099511627776) (hl : l = T ++ (elemTexts.getD 24 [] ++ r)) (hf : Fol true r) : ElAt l T.length (stds.getD 24 0) r :=
  ElAt.mk l r T _ _ hl fun hd hlen u w I Q hs hQ => el94_24 l r T.length u w I Q hn hd hlen hf hQ
theorem elAt_25 (l r T : Bytes) (hn : l.length ≤ 1099511627776) (hl : l = T ++ (elemTexts.getD 25 [] ++ r)) (hf : Fol true r) : ElAt l T.length (stds.getD 25 0) r :=
  ElAt.mk l r T _ _ hl fun hd hlen u w I Q hs hQ => el94_25 l r T.length u w I Q hn hd hlen hf hQ
theorem elAt_26 (l r T : Bytes) (hn : l.length ≤ 1099511627776) (hl : l = T ++ (elemTexts.getD 26 [] ++ r)) (hf : Fol true r) : ElAt l T.length (stds.getD 26 0) r :=
  ElAt.mk l r T _ _ hl fun hd hlen u w I Q hs hQ => el94_26 l r T.length u w I Q hn hd hlen hf hQ
theorem elAt_27 (l r T : Bytes) (hn : l.length ≤ 1099511627776) (hl : l = T ++ (elemTexts.getD 27 [] ++ r)) (hf : Fol true r) : ElAt l T.length (stds.getD 27 0) r :=
  ElAt.mk l r T _ _ hl fun hd hlen u w I Q hs hQ => el94_27 l r T.length u w I Q hn hd hlen hf hQ
theorem elAt_28 (l r T : Bytes) (hn : l.length ≤ 1099511627776) (hl : l = T ++ (elemTexts.getD 28 [] ++ r)) (hf : Fol true r) : ElAt l T.length (stds.getD 28 0) r :=
  ElAt.mk l r T _ _ hl fun hd hlen u w I Q hs hQ => el94_28 l r T.length u w I Q hn hd hlen hf hQ
theorem elAt_29 (l r T : Bytes) (hn : l.length ≤ 1099511627776) (hl : l = T ++ (elemTexts.getD 29 [] ++ r)) (hf : Fol true r) : ElAt l T.length (stds.getD 29 0) r :=
  ElAt.mk l r T _ _ hl fun hd hlen u w I Q hs hQ => el94_29 l r T.length u w I Q hn hd hlen hf hQ
theorem elAt_30 (l r T : Bytes) (hn : l.length ≤ 1099511627776) (hl : l = T ++ (elemTexts.getD 30 [] ++ r)) (hf : Fol true r) : ElAt l T.length (stds.getD 30 0) r :=
  ElAt.mk l r T _ _ hl fun hd hlen u w I Q hs hQ => el94_30 l r T.length u w I Q hn hd hlen hf hQ
theorem elAt_31 (l r T : Bytes) (hn : l.length ≤ 1099511627776) (hl : l = T ++ (elemTexts.getD 31 [] ++ r)) (hf : Fol true r) : ElAt l T.length (stds.getD 31 0) r :=
  ElAt.mk l r T _ _ hl fun hd hlen u w I Q hs hQ => el94_31 l r T.length u w I Q hn hd hlen hf hQ
theorem elAt_32 (l r T : Bytes) (hn : l.length ≤ 1099511627776) (hl : l = T ++ (elemTexts.getD 32 [] ++ r)) (hf : Fol false r) : ElAt l T.length (stds.getD 32 0) r :=
  ElAt.mk l r T _ _ hl fun hd hlen u w I Q hs hQ => el94_32 l r T.length u w I Q hn hd hlen hf hQ
theorem elAt_f (l r T : Bytes) (n : Nat) (comma nine : Bool) (h0 : 1 ≤ n) (h9 : n ≤ 9) (hn : l.length ≤ 1099511627776) (hl : l = T ++ ((mark comma ++ List.replicate n (if nine = true then 57 else 48)) ++ r)) (hf : Fol false r) :
    ElAt l T.length (fstd (if nine = true then 35 else 34) n comma) r :=
  ElAt.mk l r T _ _ hl fun hd hlen u w I Q hs hQ => el94_f l r T.length n comma nine u w I Q hn h0 h9 (by rw [hd, List.append_assoc]) (by rw [hlen]; simp; cases comma <;> simp [mark] <;> omega) hf hQ
theorem elAt (p : Pc) (hp : pieceOk p = true) (h0 : p.kind ≠ 0) (l r T : Bytes) (hn : l.length ≤ 1099511627776) (hl : l = T ++ (element p ++ r)) (hf : Fol (isZone p.kind) r) : ElAt l T.length (stdOf p) r := by
  obtain ⟨k, text, n, comma⟩ := p
  simp only at h0 hf
  by_cases h33 : k = 33
  · subst h33
    simp [pieceOk, isFraction, within] at hp
    exact elAt_f l r T n.toNat comma false (by omega) (by omega) hn (by simpa [element] using hl) hf
  by_cases h34 : k = 34
  · subst h34
    simp [pieceOk, isFraction, within] at hp
    exact elAt_f l r T n.toNat comma true (by omega) (by omega) hn (by simpa [element] using hl) hf
  have hk : 1 ≤ k ∧ k ≤ 32 := by
    simp [pieceOk, isFraction, within, h0, h33, h34] at hp
    omega
  have hs : stdOf ⟨k, text, n, comma⟩ = stds.getD k.toNat 0 := by simp only [stdOf, if_neg h33, if_neg h34]
  have he : element ⟨k, text, n, comma⟩ = elemTexts.getD k.toNat [] := by
    simp only [element, if_neg h33, if_neg h34]
    rw [if_pos (by simp [within]; exact hk)]
  rw [hs]
  rw [he] at hl
  clear hs he
  have : k = 1 ∨ k = 2 ∨ k = 3 ∨ k = 4 ∨ k = 5 ∨ k = 6 ∨ k = 7 ∨ k = 8 ∨ k = 9 ∨ k = 10 ∨ k = 11 ∨ k = 12 ∨ k = 13 ∨ k = 14 ∨ k = 15 ∨ k = 16 ∨ k = 17 ∨ k = 18 ∨ k = 19 ∨ k = 20 ∨ k = 21 ∨ k = 22 ∨ k = 23 ∨ k = 24 ∨ k = 25 ∨ k = 26 ∨ k = 27 ∨ k = 28 ∨ k = 29 ∨ k = 30 ∨ k = 31 ∨ k = 32 := by omega
  rcases this with rfl | rfl | rfl | rfl | rfl | rfl | rfl | rfl | rfl | rfl | rfl | rfl | rfl | rfl | rfl | rfl | rfl | rfl | rfl | rfl | rfl | rfl | rfl | rfl | rfl | rfl | rfl | rfl | rfl | rfl | rfl | rfl
  · exact elAt_1 l r T hn hl hf
  · exact elAt_2 l r T hn hl hf
  · exact elAt_3 l r T hn hl hf
  · exact elAt_4 l r T hn hl hf
  · exact elAt_5 l r T hn hl hf
  · exact elAt_6 l r T hn hl hf
  · exact elAt_7 l r T hn hl hf
  · exact elAt_8 l r T hn hl hf
  · exact elAt_9 l r T hn hl hf
  · exact elAt_10 l r T hn hl hf
  · exact elAt_11 l r T hn hl hf
  · exact elAt_12 l r T hn hl hf
  · exact elAt_13 l r T hn hl hf
  · exact elAt_14 l r T hn hl hf
  · exact elAt_15 l r T hn hl hf
  · exact elAt_16 l r T hn hl hf
  · exact elAt_17 l r T hn hl hf
  · exact elAt_18 l r T hn hl hf
  · exact elAt_19 l r T hn hl hf
  · exact elAt_20 l r T hn hl hf
  · exact elAt_21 l r T hn hl hf
  · exact elAt_22 l r T hn hl hf
  · exact elAt_23 l r T hn hl hf
  · exact elAt_24 l r T hn hl hf
  · exact elAt_25 l r T hn hl hf
  · exact elAt_26 l r T hn hl hf
  · exact elAt_27 l r T hn hl hf
  · exact elAt_28 l r T hn hl hf
  · exact elAt_29 l r T hn hl hf
  · exact elAt_30 l r T hn hl hf
  · exact elAt_31 l r T hn hl hf
  · exact elAt_32 l r T hn hl hf
end Go.Proofs.YtndhiemagankeaaGreatDoor
/- The walk of package time: a layout that holds no element. -/
namespace Go.Proofs.YtndhiemagankeaaGreatDoor
open Go.RowKit
set_option linter.unusedSimpArgs false
set_option linter.unusedVariables false
attribute [local simp] bs_size bs_toList bs_append bs_data bs_extract
set_option maxRecDepth 100000 in
set_option maxHeartbeats 4000000 in
theorem next_none (l : Bytes) (w : World) (hl : l.length ≤ 1099511627776) (hin : ∀ j, j < l.length → InertAt l j) :
    Calls Tryz.prog 94 #[S l] w fun e w' => e = .returned (.tuple #[S l, .int .i64 0, S []]) ∧ w' = w := by
  go_enter Tryz.func94, Tryz.ntmps94
  go_wp2_with fail
  refine wp_loop (fun a' w' => (∃ j : Nat, j ≤ l.length ∧ At94 l j a') ∧ w' = w) (fun a' _ => l.length - (intOf (a'.tmps.getD 5 undef)).toNat) ⟨⟨0, Nat.zero_le _, ⟨rfl, rfl, rfl, rfl⟩⟩, rfl⟩ ?_
  rintro a' w' ⟨⟨j, hj, hA⟩, rfl⟩
  obtain ⟨u, rfl⟩ := hA.open
  by_cases hji : j = l.length
  · subst hji
    refine end94 l u w' _ _ hl ?_
    intro a2 hA2
    obtain ⟨u2, rfl⟩ := hA2.open
    simp only [Exit.inBlock, Exit.then, if_true]
    unfold fr94
    go_wp2_with fail
    go_ret3
    exact ⟨rfl, rfl⟩
  · refine inert94' l j u w' _ _ hl (hin j (by omega)) fun a2 hA2 => ⟨⟨⟨j + 1, by omega, by push_cast; exact hA2⟩, rfl⟩, ?_⟩
    have e1 : (fr94 l j u).tmps.getD 5 undef = .int .i64 (j : Int) := hA.place
    rw [e1, hA2.place]
    simp [intOf]
    omega
end Go.Proofs.YtndhiemagankeaaGreatDoor
/- The plain law of a layout's text: the next element of a list of pieces. -/
namespace Go.Proofs.YtndhiemagankeaaGreatDoor
open Go.RowKit
set_option linter.unusedSimpArgs false
set_option linter.unusedVariables false
/-- Pieces from a place on. -/
structure SufOk (ps : List Pc) : Prop where
  all : ∀ p ∈ ps, pieceOk p = true
  chain : chainOk ps = true
theorem chainOk_tail {p : Pc} {r : List Pc} (h : chainOk (p :: r) = true) : chainOk r = true := by
  simp [chainOk] at h
  exact h.2
theorem SufOk.tail {p : Pc} {r : List Pc} (h : SufOk (p :: r)) : SufOk r := ⟨fun q hq => h.all q (List.mem_cons_of_mem _ hq), chainOk_tail h.chain⟩
theorem SufOk.drop {a r : List Pc} (h : SufOk (a ++ r)) : SufOk r := by
  induction a with
  | nil => exact h
  | cons p a ih => exact ih (SufOk.tail (p := p) h)
theorem SufOk.of (ps : List Pc) (h : piecesOk ps = true) : SufOk ps := by
  simp [piecesOk] at h
  exact ⟨h.1, h.2.1⟩
theorem split_pieces (ps : List Pc) : ∃ ts rest, ps = ts ++ rest ∧ (∀ p ∈ ts, p.kind = 0) ∧ (rest = [] ∨ ∃ e r, rest = e :: r ∧ e.kind ≠ 0) := by
  induction ps with
  | nil => exact ⟨[], [], rfl, by simp, .inl rfl⟩
  | cons p ps ih =>
    by_cases h : p.kind = 0
    · obtain ⟨ts, rest, h1, h2, h3⟩ := ih
      refine ⟨p :: ts, rest, by rw [h1]; rfl, ?_, h3⟩
      intro q hq
      rcases List.mem_cons.1 hq with rfl | hq
      · exact h
      · exact h2 q hq
    · exact ⟨[], p :: ps, rfl, by simp, .inr ⟨p, ps, rfl, h⟩⟩
theorem element_text {p : Pc} (h : p.kind = 0) : element p = p.text := by
  simp [element, h, within]
theorem pieceOk_plain {p : Pc} (h : p.kind = 0) (hp : pieceOk p = true) : p.text ≠ [] ∧ ∃ c s, p.text = c :: s ∧ signB c = true ∧ ∀ x ∈ p.text, plainC x = true := by
  simp [pieceOk, h] at hp
  obtain ⟨h1, h2, -⟩ := hp
  refine ⟨h1, ?_⟩
  cases ht : p.text with
  | nil => exact absurd ht h1
  | cons c s =>
    rw [ht] at h2
    simp [plain] at h2
    refine ⟨c, s, rfl, h2.1.1, ?_⟩
    intro x hx
    unfold plainC
    rcases List.mem_cons.1 hx with rfl | hx
    · rw [h2.1.1]; rfl
    · have := h2.1.2 x hx
      simpa [Bool.or_eq_true] using this
theorem layout_append (a b : List Pc) : layout (a ++ b) = layout a ++ layout b := by simp [layout]
theorem layout_cons (p : Pc) (r : List Pc) : layout (p :: r) = element p ++ layout r := by simp [layout]
theorem text_plain (ts : List Pc) (h0 : ∀ p ∈ ts, p.kind = 0) (hok : ∀ p ∈ ts, pieceOk p = true) : ∀ c ∈ layout ts, plainC c = true := by
  intro c hc
  simp only [layout, List.mem_flatMap] at hc
  obtain ⟨p, hp, hc⟩ := hc
  rw [element_text (h0 p hp)] at hc
  obtain ⟨-, -, -, -, -, h⟩ := pieceOk_plain (h0 p hp) (hok p hp)
  exact h c hc
theorem kinds_of {p : Pc} (hp : pieceOk p = true) (h0 : p.kind ≠ 0) : 1 ≤ p.kind ∧ p.kind ≤ 34 := by
  unfold pieceOk at hp
  rw [if_neg h0] at hp
  by_cases hf : isFraction p.kind = true
  · simp [isFraction] at hf; omega
  · rw [if_neg hf] at hp
    simp [within] at hp
    omega
theorem elem_fraction {p : Pc} (hf : p.kind = 33 ∨ p.kind = 34) : ∃ c s, element p = c :: s ∧ (c = 44 ∨ c = 46) := by
  rcases hf with h | h
  all_goals
    simp only [element, h]
    cases p.comma <;> simp [mark]
/-- How an element begins. -/
theorem elem_pre (p : Pc) (hp : pieceOk p = true) (h0 : p.kind ≠ 0) (r : Bytes) : (element p ++ r).take 2 ≠ [48, 55] ∧ element p ≠ [] := by
  obtain ⟨k1, k2⟩ := kinds_of hp h0
  by_cases hf : p.kind = 33 ∨ p.kind = 34
  · obtain ⟨c, s, he, hc⟩ := elem_fraction hf
    rw [he]
    refine ⟨?_, by simp⟩
    intro h
    have := congrArg List.head? h
    simp at this
    rcases hc with rfl | rfl <;> exact absurd this (by decide)
  · have hk : p.kind ≤ 32 := by omega
    have he : element p = elemTexts.getD p.kind.toNat [] := by
      unfold element
      rw [if_neg (by omega), if_neg (by omega), if_pos (by simp [within]; omega)]
    rw [he]
    clear he hf h0 hp k2
    generalize p.kind = k at *
    have : k = 1 ∨ k = 2 ∨ k = 3 ∨ k = 4 ∨ k = 5 ∨ k = 6 ∨ k = 7 ∨ k = 8 ∨ k = 9 ∨ k = 10 ∨ k = 11 ∨ k = 12 ∨ k = 13 ∨ k = 14 ∨ k = 15 ∨ k = 16 ∨ k = 17 ∨ k = 18 ∨ k = 19 ∨ k = 20 ∨ k = 21 ∨ k = 22 ∨ k = 23 ∨ k = 24 ∨ k = 25 ∨ k = 26 ∨ k = 27 ∨ k = 28 ∨ k = 29 ∨ k = 30 ∨ k = 31 ∨ k = 32 := by omega
    rcases this with rfl | rfl | rfl | rfl | rfl | rfl | rfl | rfl | rfl | rfl | rfl | rfl | rfl | rfl | rfl | rfl | rfl | rfl | rfl | rfl | rfl | rfl | rfl | rfl | rfl | rfl | rfl | rfl | rfl | rfl | rfl | rfl
    all_goals refine ⟨?_, by decide⟩
    all_goals
      intro h
      have := congrArg List.head? h
      simp [elemTexts] at this
    all_goals
      simp [elemTexts] at h
theorem touch_head {a b : Pc} (hb : pieceOk b = true) (h0 : b.kind ≠ 0) (ht : touch a.kind b.kind = true) : isZone a.kind = false ∧ ∃ c s, element b = c :: s ∧ (c = 44 ∨ c = 46 ∨ c = 80 ∨ c = 90) := by
  unfold touch at ht
  by_cases hf : isFraction b.kind = true
  · rw [if_pos hf] at ht
    obtain ⟨c, s, he, hc⟩ := elem_fraction (p := b) (by simpa [isFraction] using hf)
    refine ⟨?_, c, s, he, by rcases hc with h | h <;> simp [h]⟩
    simp [isSecond] at ht
    rcases ht with h | h <;> simp [isZone, within, h]
  · rw [if_neg hf] at ht
    by_cases h21 : b.kind = 21
    · rw [if_pos h21] at ht
      refine ⟨?_, 80, [77], ?_, by simp⟩
      · simp [within, isFraction] at ht
        simp [isZone, within]
        omega
      · simp [element, h21, within, elemTexts]
    · rw [if_neg h21] at ht
      by_cases hi : isISO b.kind = true
      · rw [if_pos hi] at ht
        refine ⟨?_, ?_⟩
        · simp [isFraction] at ht
          simp [isZone, within]
          omega
        · simp [isISO, within] at hi
          have he : element b = elemTexts.getD b.kind.toNat [] := by
            unfold element
            rw [if_neg (by omega), if_neg (by omega), if_pos (by simp [within]; omega)]
          rw [he]
          clear he ht hf h21 h0 hb
          generalize b.kind = k at *
          have : k = 27 ∨ k = 28 ∨ k = 29 ∨ k = 30 ∨ k = 31 := by omega
          rcases this with rfl | rfl | rfl | rfl | rfl <;> exact ⟨90, _, rfl, by simp⟩
      · rw [if_neg hi] at ht
        exact absurd ht (by simp)
theorem fol_of (e : Pc) (r : List Pc) (h : SufOk (e :: r)) (h0 : e.kind ≠ 0) : Fol (isZone e.kind) (layout r) := by
  cases r with
  | nil => exact ⟨fun c hc => by simp [layout] at hc, fun c hc => by simp [layout] at hc, fun _ c hc => by simp [layout] at hc⟩
  | cons b r =>
    have hb := h.all b (by simp)
    have hl : linkOk e b = true := by
      have := h.chain
      simp [chainOk] at this
      exact this.1
    rw [layout_cons]
    by_cases hb0 : b.kind = 0
    · rw [element_text hb0]
      obtain ⟨-, c, s, hcs, hsg, -⟩ := pieceOk_plain hb0 hb
      rw [hcs]
      have hn := signB_nat hsg
      have hcol : isZone e.kind = true → c ≠ 58 := by
        intro hz hc
        simp [linkOk, hb0, hz, hcs, hc] at hl
      refine ⟨?_, ?_, ?_⟩
      · intro c' hc'
        simp at hc'
        subst hc'
        simp [isD]; omega
      · intro c' hc'
        simp at hc'
        subst hc'
        simp [isLow]; omega
      · intro hz c' hc'
        simp at hc'
        subst hc'
        simpa using hcol hz
    · have ht : touch e.kind b.kind = true := by
        simp [linkOk, hb0, h0] at hl
        exact hl
      obtain ⟨hz, c, s, he, hc⟩ := touch_head hb hb0 ht
      rw [he]
      refine ⟨?_, ?_, ?_⟩
      · intro c' hc'
        simp at hc'
        subst hc'
        rcases hc with rfl | rfl | rfl | rfl <;> decide
      · intro c' hc'
        simp at hc'
        subst hc'
        rcases hc with rfl | rfl | rfl | rfl <;> decide
      · intro hz'
        rw [hz] at hz'
        exact absurd hz' (by simp)
theorem next_pieces (ts r : List Pc) (e : Pc) (h : SufOk (ts ++ e :: r)) (ht : ∀ p ∈ ts, p.kind = 0) (h0 : e.kind ≠ 0) (hn : (layout (ts ++ e :: r)).length ≤ 1099511627776) (w : World) (hw : StdAt w) :
    Calls Tryz.prog 94 #[S (layout (ts ++ e :: r))] w fun x w' => x = .returned (.tuple #[S (layout ts), .int .i64 (stdOf e), S (layout r)]) ∧ ∃ n, w' = w.drewN n := by
  have he := h.all e (by simp)
  have hl : layout (ts ++ e :: r) = layout ts ++ (element e ++ layout r) := by rw [layout_append, layout_cons]
  obtain ⟨hp1, hp2⟩ := elem_pre e he h0 (layout r)
  have := next_c (layout (ts ++ e :: r)) (layout r) (layout ts).length (stdOf e) w hn
    (by rw [hl]; simp; have := List.length_pos_iff.2 hp2; omega)
    (fun j hj => by rw [hl]; exact inert_text _ _ (text_plain ts ht (fun p hp => h.all p (by simp [hp]))) hp1 j hj)
    (elAt e he h0 _ _ _ hn hl (fol_of e r h.drop h0)) hw
  rwa [show (layout (ts ++ e :: r)).take (layout ts).length = layout ts by rw [hl, List.take_left]] at this
theorem next_text (ts : List Pc) (ht : ∀ p ∈ ts, p.kind = 0) (hok : ∀ p ∈ ts, pieceOk p = true) (hn : (layout ts).length ≤ 1099511627776) (w : World) :
    Calls Tryz.prog 94 #[S (layout ts)] w fun x w' => x = .returned (.tuple #[S (layout ts), .int .i64 0, S []]) ∧ w' = w := by
  refine next_none (layout ts) w hn fun j hj => ?_
  have := inert_text (layout ts) [] (text_plain ts ht hok) (by simp) j hj
  rwa [List.append_nil] at this
end Go.Proofs.YtndhiemagankeaaGreatDoor
/- The plain law of a layout's text: no layout of pieces is one of the two that have a road of their own. -/
namespace Go.Proofs.YtndhiemagankeaaGreatDoor
open Go.RowKit
set_option linter.unusedSimpArgs false
set_option linter.unusedVariables false
/-- Whether a 2 stands right ahead of a T. -/
def twoT : Bytes → Bool
  | x :: y :: r => (x == 50 && y == 84) || twoT (y :: r)
  | _ => false
theorem twoT_append (a b : Bytes) (ha : twoT a = false) (hb : twoT b = false) (h : b.head? ≠ some 84) : twoT (a ++ b) = false := by
  induction a with
  | nil => exact hb
  | cons x a ih =>
    cases a with
    | nil =>
      cases b with
      | nil => rfl
      | cons y b =>
        have hy : (y == 84) = false := by
          rw [beq_eq_false_iff_ne]
          intro e
          exact h (by simp [e])
        simp [twoT, hy, hb]
    | cons y a =>
      simp only [twoT, Bool.or_eq_false_iff] at ha
      have := ih ha.2
      simp only [List.cons_append, twoT, Bool.or_eq_false_iff] at this ⊢
      exact ⟨ha.1, this⟩
theorem twoT_none (s : Bytes) (h : ∀ c ∈ s, c ≠ 50) : twoT s = false := by
  induction s with
  | nil => rfl
  | cons x s ih =>
    cases s with
    | nil => rfl
    | cons y s =>
      have hx : (x == 50) = false := by rw [beq_eq_false_iff_ne]; exact h x (by simp)
      simp only [twoT, hx, Bool.false_and, Bool.false_or]
      exact ih (fun c hc => h c (by simp [hc]))
theorem twoT_element {p : Pc} (hp : pieceOk p = true) : twoT (element p) = false ∧ (element p).head? ≠ some 84 ∧ element p ≠ [] := by
  by_cases h0 : p.kind = 0
  · rw [element_text h0]
    obtain ⟨hne, c, s, hcs, hsg, hpl⟩ := pieceOk_plain h0 hp
    refine ⟨twoT_none _ fun c hc => ?_, ?_, hne⟩
    · rintro rfl
      exact absurd (hpl 50 hc) (by decide)
    · rw [hcs]
      simp only [List.head?_cons, ne_eq, Option.some.injEq]
      rintro rfl
      exact absurd hsg (by decide)
  · have hne := (elem_pre p hp h0 []).2
    obtain ⟨k1, k2⟩ := kinds_of hp h0
    by_cases hf : p.kind = 33 ∨ p.kind = 34
    · refine ⟨twoT_none _ fun c hc => ?_, ?_, hne⟩
      · rintro rfl
        rcases hf with h | h
        all_goals
          simp only [element, h] at hc
          cases hcm : p.comma <;> simp [hcm, mark] at hc
      · obtain ⟨c, s, he, hc⟩ := elem_fraction hf
        rw [he]
        rcases hc with rfl | rfl <;> simp
    · have he : element p = elemTexts.getD p.kind.toNat [] := by
        unfold element
        rw [if_neg (by omega), if_neg (by omega), if_pos (by simp [within]; omega)]
      rw [he] at hne ⊢
      clear he h0 hp
      generalize p.kind = k at *
      have : k = 1 ∨ k = 2 ∨ k = 3 ∨ k = 4 ∨ k = 5 ∨ k = 6 ∨ k = 7 ∨ k = 8 ∨ k = 9 ∨ k = 10 ∨ k = 11 ∨ k = 12 ∨ k = 13 ∨ k = 14 ∨ k = 15 ∨ k = 16 ∨ k = 17 ∨ k = 18 ∨ k = 19 ∨ k = 20 ∨ k = 21 ∨ k = 22 ∨ k = 23 ∨ k = 24 ∨ k = 25 ∨ k = 26 ∨ k = 27 ∨ k = 28 ∨ k = 29 ∨ k = 30 ∨ k = 31 ∨ k = 32 := by omega
      rcases this with rfl | rfl | rfl | rfl | rfl | rfl | rfl | rfl | rfl | rfl | rfl | rfl | rfl | rfl | rfl | rfl | rfl | rfl | rfl | rfl | rfl | rfl | rfl | rfl | rfl | rfl | rfl | rfl | rfl | rfl | rfl | rfl
      all_goals exact ⟨by decide, by decide, by decide⟩
theorem twoT_layout (ps : List Pc) (h : ∀ p ∈ ps, pieceOk p = true) : twoT (layout ps) = false ∧ (layout ps).head? ≠ some 84 := by
  induction ps with
  | nil => simp [layout, twoT]
  | cons p ps ih =>
    obtain ⟨i1, i2⟩ := ih (fun q hq => h q (by simp [hq]))
    obtain ⟨e1, e2, e3⟩ := twoT_element (h p (by simp))
    rw [layout_cons]
    refine ⟨twoT_append _ _ e1 i1 i2, ?_⟩
    cases he : element p with
    | nil => exact absurd he e3
    | cons c s => rw [he] at e2; simpa using e2
def rfcA : Bytes := [50, 48, 48, 54, 45, 48, 49, 45, 48, 50, 84, 49, 53, 58, 48, 52, 58, 48, 53, 90, 48, 55, 58, 48, 48]
def rfcB : Bytes := [50, 48, 48, 54, 45, 48, 49, 45, 48, 50, 84, 49, 53, 58, 48, 52, 58, 48, 53, 46, 57, 57, 57, 57, 57, 57, 57, 57, 57, 90, 48, 55, 58, 48, 48]
theorem not_rfc (ps : List Pc) (h : ∀ p ∈ ps, pieceOk p = true) : (layout ps == rfcA) = false ∧ (layout ps == rfcB) = false := by
  have := (twoT_layout ps h).1
  refine ⟨?_, ?_⟩ <;> rw [beq_eq_false_iff_ne] <;> intro e <;> rw [e] at this <;> exact absurd this (by decide)
end Go.Proofs.YtndhiemagankeaaGreatDoor
