/-
  FnLayout (the statement: for every list of pieces, every time and every zone the call returns true, and its arguments read afterwards as they did), part 19 of 41. In this part: The walks of package time: a number is written onto a buffer.
-/
import Derived.Test.YtndhiemagankeaaGreatDoorG08
import Derived.Test.YtndhiemagankeaaGreatDoorG10
/- The walks of package time: a number is written onto a buffer. -/
namespace Go.Proofs.YtndhiemagankeaaGreatDoor
open Go.RowKit
set_option linter.unusedVariables false
set_option linter.unusedSimpArgs false
attribute [local simp] bs_size bs_toList bs_append bs_data
theorem wrap8_small (k : Int) (h0 : 0 ≤ k) (h1 : k < 256) : IntKind.u8.wrap k = k := by
  simp only [IntKind.wrap]; simp [IntKind.signed, IntKind.bits]; omega
set_option maxHeartbeats 400000 in
theorem utod_c (k : Int) (w : World) (h0 : 0 ≤ k) (h1 : k ≤ 9) :
    Calls Tryz.prog 118 #[.int .u64 k] w fun e w' => e = .returned (.int .u8 (48 + k)) ∧ w' = w := by
  go_enter Tryz.func118, Tryz.ntmps118
  go_wp2
  go_ret
  exact ⟨ret_int (by omega), rfl⟩
theorem digB_nat (k : Int) (h0 : 0 ≤ k) (h1 : k ≤ 9) : (((digB k).toNat : Nat) : Int) = 48 + k := by
  unfold digB
  rw [UInt8.toNat_ofNat', Nat.mod_eq_of_lt (by omega)]; omega
theorem dec_small (k : Int) (h0 : 0 ≤ k) (h1 : k ≤ 9) : dec k = [digB k] := by
  rw [dec_step k h0, if_pos (by omega), show k % 10 = k by omega]; rfl
theorem digits_two (x : Int) (h0 : 0 ≤ x) (h1 : x < 100) : digits x 2 = [digB (x / 10), digB (x % 10)] := by
  unfold digits padB
  by_cases h : x < 10
  · rw [dec_small x h0 (by omega), show x / 10 = 0 by omega, show x % 10 = x by omega]; rfl
  · rw [dec_step x h0, if_neg (by omega), dec_small (x / 10) (by omega) (by omega)]; rfl
theorem digits_four (x : Int) (h0 : 0 ≤ x) (h1 : x < 10000) : digits x 4 = [digB (x / 1000), digB (x / 100 % 10), digB (x / 10 % 10), digB (x % 10)] := by
  unfold digits padB
  by_cases a : x < 10
  · rw [dec_small x h0 (by omega), show x / 10 % 10 = 0 by omega, show x / 100 % 10 = 0 by omega, show x / 1000 = 0 by omega, show x % 10 = x by omega]; rfl
  · by_cases b : x < 100
    · rw [dec_step x h0, if_neg (by omega), dec_small (x / 10) (by omega) (by omega), show x / 10 % 10 = x / 10 by omega, show x / 100 % 10 = 0 by omega, show x / 1000 = 0 by omega]; rfl
    · by_cases c : x < 1000
      · rw [dec_step x h0, if_neg (by omega), dec_step (x / 10) (by omega), if_neg (by omega), dec_small (x / 10 / 10) (by omega) (by omega), show x / 10 / 10 = x / 100 by omega, show x / 100 % 10 = x / 100 by omega, show x / 1000 = 0 by omega]; rfl
      · rw [dec_step x h0, if_neg (by omega), dec_step (x / 10) (by omega), if_neg (by omega), dec_step (x / 10 / 10) (by omega), if_neg (by omega), dec_small (x / 10 / 10 / 10) (by omega) (by omega), show x / 10 / 10 / 10 = x / 1000 by omega, show x / 10 / 10 = x / 100 by omega]; rfl
def AInt (x : Int) (wd : Nat) (g n cap : Nat) (l : Bytes) (w : World) : Prop :=
  Calls Tryz.prog 78 #[.slice (some ⟨g, 0, none⟩) n cap, .int .i64 x, .int .i64 wd] w fun e w' => ∃ g' n' cap', e = .returned (.slice (some ⟨g', 0, none⟩) n' cap') ∧ Buf w' g' n' cap' (l ++ digits x wd) ∧ BufStep w g w' g'
set_option maxRecDepth 100000 in
set_option maxHeartbeats 1000000 in
theorem appendInt_two (x : Int) (g n cap : Nat) (l : Bytes) (w : World) (hb : Buf w g n cap l) (h0 : 0 ≤ x) (h1 : x < 100) (hn : n ≤ 549755813888) : AInt x 2 g n cap l w := by
  have HB := Lib.hid hb
  clear hb
  unfold AInt
  have HD := Lib.hid (digits_two x h0 h1)
  have hq0 : 0 ≤ x / 10 ∧ x / 10 ≤ 9 := by omega
  have hq1 : 0 ≤ x % 10 ∧ x % 10 ≤ 9 := by omega
  have HC : Hid (#[Value.int .u8 (48 + x / 10), .int .u8 (48 + x % 10)] = ([digB (x / 10), digB (x % 10)].map fun b => Value.int .u8 (b.toNat : Int)).toArray) := by
    show _ = _
    simp only [List.map_cons, List.map_nil, digB_nat _ hq0.1 hq0.2, digB_nat _ hq1.1 hq1.2]
  go_enter Tryz.func78, Tryz.ntmps78
  go_wp2_with (first | (go_at_call 118; refine (utod_c _ _ (by omega) (by omega)).mono ?_; rintro e w' ⟨rfl, rfl⟩) | (at_builtin; refine wpList_append_bufL _ rfl (.tmp 31) (.tmp 40) rfl g n cap _ rfl HB.out 2 [digB (x / 10), digB (x % 10)] _ rfl rfl HC.out (by omega) (by omega) ?_; intro g' cap' w' hbuf' hst'; have HBU' := Lib.hid hbuf'; have HST' := Lib.hid hst'; clear hbuf' hst'))
  go_ret
  exact ⟨g', _, cap', rfl, by rw [HD.out]; exact HBU'.out, HST'.out⟩
set_option maxRecDepth 100000 in
set_option maxHeartbeats 1000000 in
theorem appendInt_four (x : Int) (g n cap : Nat) (l : Bytes) (w : World) (hb : Buf w g n cap l) (h0 : 0 ≤ x) (h1 : x < 10000) (hn : n ≤ 549755813888) : AInt x 4 g n cap l w := by
  have HB := Lib.hid hb
  clear hb
  unfold AInt
  have HD := Lib.hid (digits_four x h0 h1)
  have hq0 : 0 ≤ x / 1000 ∧ x / 1000 ≤ 9 := by omega
  have hq1 : 0 ≤ x / 100 % 10 ∧ x / 100 % 10 ≤ 9 := by omega
  have hq2 : 0 ≤ x / 10 % 10 ∧ x / 10 % 10 ≤ 9 := by omega
  have hq3 : 0 ≤ x % 10 ∧ x % 10 ≤ 9 := by omega
  have HC : Hid (#[Value.int .u8 (48 + x / 1000), .int .u8 (48 + x / 100 % 10), .int .u8 (48 + x / 10 % 10), .int .u8 (48 + x % 10)] = ([digB (x / 1000), digB (x / 100 % 10), digB (x / 10 % 10), digB (x % 10)].map fun b => Value.int .u8 (b.toNat : Int)).toArray) := by
    show _ = _
    simp only [List.map_cons, List.map_nil, digB_nat _ hq0.1 hq0.2, digB_nat _ hq1.1 hq1.2, digB_nat _ hq2.1 hq2.2, digB_nat _ hq3.1 hq3.2]
  go_enter Tryz.func78, Tryz.ntmps78
  go_wp2_with (first | (go_at_call 118; refine (utod_c _ _ (by omega) (by omega)).mono ?_; rintro e w' ⟨rfl, rfl⟩) | (at_builtin; refine wpList_append_bufL _ rfl (.tmp 49) (.tmp 68) rfl g n cap _ rfl HB.out 4 [digB (x / 1000), digB (x / 100 % 10), digB (x / 10 % 10), digB (x % 10)] _ rfl rfl HC.out (by omega) (by omega) ?_; intro g' cap' w' hbuf' hst'; have HBU' := Lib.hid hbuf'; have HST' := Lib.hid hst'; clear hbuf' hst'))
  go_ret
  exact ⟨g', _, cap', rfl, by rw [HD.out]; exact HBU'.out, HST'.out⟩
/-- The digits counted so far, and what is left of the number. -/
def CntR (x u : Int) (c : Nat) : Prop := (dec x).length = c + (if u = 0 then 0 else (dec u).length)
theorem CntR.next {x u : Int} {c : Nat} (h : CntR x u c) (h0 : 0 < u) : CntR x (u / 10) (c + 1) := by
  unfold CntR at *
  rw [if_neg (by omega), dec_step u (by omega), List.length_append] at h
  rw [h]
  split <;> simp <;> omega
theorem CntR.zero {x : Int} {c : Nat} (h : CntR x 0 c) : c = (dec x).length := by
  unfold CntR at h; simp at h; omega
theorem dec_len10 (x : Int) (h1 : x ≤ 9999999999) : 1 ≤ (dec x).length ∧ (dec x).length ≤ 10 := by
  have := decN_len 10 x.toNat (by omega)
  unfold dec
  refine ⟨?_, by omega⟩
  rw [decN]
  split <;> simp
/-- The digits written from the end, and what is left of the number. -/
def TailR (x u : Int) (r : Bytes) : Prop := dec x = dec u ++ r
theorem TailR.next {x u : Int} {r : Bytes} (h : TailR x u r) (h0 : 10 ≤ u) : TailR x (u / 10) (digB (u % 10) :: r) := by
  unfold TailR at *
  rw [dec_step u (by omega), if_neg (by omega)] at h
  simpa using h
theorem TailR.last {x u : Int} {r : Bytes} (h : TailR x u r) (h0 : 0 ≤ u) (h1 : u ≤ 9) : dec x = digB u :: r := by
  unfold TailR at h
  rw [dec_small u h0 h1] at h
  simpa using h
theorem TailR.len1 {x u : Int} {r : Bytes} (h : TailR x u r) (h0 : 0 ≤ u) : r.length + 1 ≤ (dec x).length := by
  unfold TailR at h
  rw [h, dec_step u h0]
  simp
theorem TailR.len {x u : Int} {r : Bytes} (h : TailR x u r) (h0 : 10 ≤ u) : r.length + 2 ≤ (dec x).length := by
  unfold TailR at h
  rw [h, dec_step u (by omega), if_neg (by omega)]
  have : 1 ≤ (dec (u / 10)).length := by
    rw [dec_step _ (by omega)]; simp
  simp; omega
set_option maxRecDepth 100000 in
set_option maxHeartbeats 4000000 in
theorem appendInt_p2 (x : Int) (wd : Nat) (g n cap : Nat) (l : Bytes) (w : World) (hb : Buf w g n cap l) (h0 : 0 ≤ x) (h1 : x ≤ 9999999999) (hwd : wd ≤ 10) (hn : n ≤ 549755813888) (hw : wd = 2) (hx : 100 ≤ x) : AInt x wd g n cap l w := by
  have HB := Lib.hid hb
  have hcap := hb.le
  have hmax := hb.max
  simp only [maxLen] at hmax
  clear hb
  unfold AInt
  obtain ⟨L, HL⟩ : ∃ L, Hid ((dec x).length = L) := ⟨_, Lib.hid rfl⟩
  obtain ⟨hL1, hL2⟩ := dec_len10 x h1
  rw [HL.out] at hL1 hL2
  go_enter Tryz.func78, Tryz.ntmps78
  go_wp2_with fail
  go_loop [9, 10] (fun c u => ∃ (c' : Nat) (u' : Int), c = .int .i64 c' ∧ u = .int .u64 u' ∧ 0 ≤ u' ∧ u' ≤ x ∧ CntR x u' c') (fun _ u => (intOf u).toNat)
  case atStart =>
    first
      | exact ⟨0, x, rfl, rfl, h0, Int.le_refl _, by unfold CntR; rw [if_neg (by omega)]; omega⟩
      | exact ⟨1, 0, rfl, rfl, Int.le_refl _, h0, by subst hx; unfold CntR; rw [if_pos rfl, dec_small 0 (by omega) (by omega)]; rfl⟩
  case round =>
    obtain ⟨c', u', rfl, rfl, hu0, hu1, hc⟩ := hrel
    have hcl : c' ≤ L := by
      have := hc
      unfold CntR at this
      rw [HL.out] at this
      omega
    have HC := Lib.hid hc
    clear hc
    by_cases hu : 0 < u'
    · go_wp2_with fail
      go_round
      case rel => exact ⟨c' + 1, u' / 10, by go_num, by first | rfl | rw [Int.tdiv_eq_ediv_of_nonneg hu0], by omega, by omega, HC.out.next hu⟩
      case measure => simp [intOf]; omega
    · obtain rfl : u' = 0 := by omega
      obtain rfl : c' = L := by rw [← HL.out]; exact HC.out.zero
      clear HC hu hu0 hu1 hcl
      have hwa : c' + (wd - c') ≤ 10 := by omega
      go_wp2_with fail
      go_loopw [0, 11] (fun b p wr => ∃ j g1 cap1 : Nat, j ≤ wd - c' ∧ p = .int .i64 ((wd : Int) - c' - j) ∧ b = .slice (some ⟨g1, 0, none⟩) (n + j) cap1 ∧ Buf wr g1 (n + j) cap1 (l ++ List.replicate j 48) ∧ BufStep w g wr g1) (fun _ p _ => (intOf p).toNat)
      case atStart => exact ⟨0, g, cap, Nat.zero_le _, by go_num, rfl, by have := HB.out; simpa using this, BufStep.refl _ _⟩
      case round =>
        obtain ⟨j, g1, cap1, hj, rfl, rfl, hb1, hs1⟩ := hrel
        have hcap1 := hb1.le
        have hmax1 := hb1.max
        simp only [maxLen] at hmax1
        have HB1 := Lib.hid hb1
        have HS1 := Lib.hid hs1
        clear hb1 hs1
        by_cases hlt : j < wd - c'
        · go_wp2_with (at_builtin; refine wpList_append_bufL _ rfl (.tmp 86) (.tmp 87) rfl g1 (n + j) cap1 _ rfl HB1.out 1 [48] _ rfl rfl rfl (by omega) (by omega) ?_; intro g' cap' w' hbuf' hst'; have HBU' := Lib.hid hbuf'; have HST' := Lib.hid hst'; clear hbuf' hst')
          go_roundw
          case rel => exact ⟨j + 1, g', cap', by omega, by go_num, by rw [← Nat.add_assoc], by have := HBU'.out; rw [List.append_assoc, ← List.replicate_succ'] at this; rw [← Nat.add_assoc]; exact this, HS1.out.trans HST'.out⟩
          case measure => simp [intOf] <;> omega
        · obtain rfl : j = wd - c' := by omega
          have hsub : ¬ ((wd : Int) - c' - (wd - c' : Nat) > 0) := by omega
          obtain ⟨N, HN⟩ : ∃ N, Hid (n + (wd - c') = N) := ⟨_, Lib.hid rfl⟩
          obtain ⟨Lp, HLp⟩ : ∃ Lp, Hid (l ++ List.replicate (wd - c') 48 = Lp) := ⟨_, Lib.hid rfl⟩
          obtain ⟨D, HD⟩ : ∃ D : Int, Hid ((wd : Int) - c' - (wd - c' : Nat) = D) := ⟨_, Lib.hid rfl⟩
          have hNb : N ≤ n + 10 := by rw [← HN.out]; omega
          rw [HN.out, HLp.out] at HB1
          rw [HN.out] at hcap1 ⊢
          rw [HD.out] at hsub ⊢
          clear hlt hj
          by_cases hroom : N + c' ≤ cap1
          · have HH : Hid (Hole wr g1 N c' cap1 Lp []) := HB1.out.hole hroom
            go_wp2_with fail
            go_loopw [7, 12, 13] (fun u i q wr => ∃ (u' : Int) (r : Bytes) (o : Nat), u = .int .u64 u' ∧ 0 ≤ u' ∧ u' ≤ x ∧ TailR x u' r ∧ i = .int .i64 (o : Int) ∧ o + r.length + 1 = N + c' ∧ Hole wr g1 N c' cap1 Lp r ∧ BufStep w g wr g1) (fun u _ _ _ => (intOf u).toNat)
            case atStart => exact ⟨x, [], N + c' - 1, rfl, h0, Int.le_refl _, by simp [TailR], by go_num, by simp; omega, HH.out, HS1.out⟩
            case round =>
              obtain ⟨u', r, o, rfl, hu0, hu1, htl, rfl, ho, hh, hs⟩ := hrel
              have hrl : r.length + 1 ≤ c' := by rw [← HL.out]; exact htl.len1 hu0
              have hoc : o < cap1 := by have := hh.le; omega
              have hom : cap1 ≤ maxLen := hh.max
              simp only [maxLen] at hom
              obtain ⟨hsome, hfz⟩ := hh.room o hoc
              obtain ⟨x0, hx0⟩ := Option.isSome_iff_exists.1 hsome
              clear hsome
              have HHr := Lib.hid hh
              have HSr := Lib.hid hs
              have HTl := Lib.hid htl
              have HLx : Hid (10 ≤ u' → r.length + 2 ≤ c') := by show _ → _; intro h; rw [← HL.out]; exact htl.len h
              clear hh hs htl
              by_cases hu : 10 ≤ u'
              · have hrl2 := HLx.out hu
                have hopos : 0 < o := by have := hL2; omega
                have hdig : 0 ≤ u' - u'.tdiv 10 * 10 ∧ u' - u'.tdiv 10 * 10 ≤ 9 := by rw [Int.tdiv_eq_ediv_of_nonneg hu0]; omega
                go_wp2_with (go_at_call 118; refine (utod_c _ _ (by omega) (by omega)).mono ?_; rintro e w' ⟨rfl, rfl⟩)
                go_roundw
                case rel =>
                  refine ⟨u' / 10, digB (u' % 10) :: r, o - 1, by first | rfl | rw [Int.tdiv_eq_ediv_of_nonneg hu0], by omega, by omega, HTl.out.next hu, by go_num, by simp; omega, ?_⟩
                  refine ⟨(HHr.out.store ?_ (digB (u' % 10)) o ?_ _ ?_).1, HSr.out.trans (HHr.out.store ?_ (digB (u' % 10)) o ?_ _ ?_).2⟩
                  all_goals first
                    | omega
                    | (rw [digB_nat _ (by omega) (by omega)]; congr 1; first | omega | (rw [Int.tdiv_eq_ediv_of_nonneg hu0]; omega))
                case measure => simp [intOf]; omega
              · go_wp2_with (go_at_call 118; refine (utod_c _ _ (by omega) (by omega)).mono ?_; rintro e w' ⟨rfl, rfl⟩)
                go_ret
                have hst := HHr.out.store (by omega) (digB u') o (by omega) (.int .u8 (48 + u')) (by rw [digB_nat _ (by omega) (by omega)])
                have hfl := hst.1.full (by rw [← HTl.out.last hu0 (by omega), HL.out])
                have hR : Lp ++ digB u' :: r = l ++ digits x wd := by
                  rw [← HLp.out, ← HTl.out.last hu0 (by omega), List.append_assoc]
                  unfold digits padB
                  rw [HL.out]
                rw [hR] at hfl
                exact ⟨g1, _, cap1, rfl, hfl, HSr.out.trans hst.2⟩
          · go_wp2_with (at_builtin; refine wpList_append_buf_zeros _ rfl (.tmp 102) (.tmp 103) rfl g1 N cap1 _ rfl HB1.out c' rfl (by omega) (by omega) (by omega) ?_; intro g2 cap2 w' hbuf' hst'; have HH := Lib.hid hbuf'.hole_zeros; have HST' := Lib.hid hst'; clear hbuf' hst')
            go_loopw [7, 12, 13] (fun u i q wr => ∃ (u' : Int) (r : Bytes) (o : Nat), u = .int .u64 u' ∧ 0 ≤ u' ∧ u' ≤ x ∧ TailR x u' r ∧ i = .int .i64 (o : Int) ∧ o + r.length + 1 = N + c' ∧ Hole wr g2 N c' cap2 Lp r ∧ BufStep w g wr g2) (fun u _ _ _ => (intOf u).toNat)
            case atStart => exact ⟨x, [], N + c' - 1, rfl, h0, Int.le_refl _, by simp [TailR], by go_num, by simp; omega, HH.out, (HS1.out.trans HST'.out)⟩
            case round =>
              obtain ⟨u', r, o, rfl, hu0, hu1, htl, rfl, ho, hh, hs⟩ := hrel
              have hrl : r.length + 1 ≤ c' := by rw [← HL.out]; exact htl.len1 hu0
              have hoc : o < cap2 := by have := hh.le; omega
              have hom : cap2 ≤ maxLen := hh.max
              simp only [maxLen] at hom
              obtain ⟨hsome, hfz⟩ := hh.room o hoc
              obtain ⟨x0, hx0⟩ := Option.isSome_iff_exists.1 hsome
              clear hsome
              have HHr := Lib.hid hh
              have HSr := Lib.hid hs
              have HTl := Lib.hid htl
              have HLx : Hid (10 ≤ u' → r.length + 2 ≤ c') := by show _ → _; intro h; rw [← HL.out]; exact htl.len h
              clear hh hs htl
              by_cases hu : 10 ≤ u'
              · have hrl2 := HLx.out hu
                have hopos : 0 < o := by have := hL2; omega
                have hdig : 0 ≤ u' - u'.tdiv 10 * 10 ∧ u' - u'.tdiv 10 * 10 ≤ 9 := by rw [Int.tdiv_eq_ediv_of_nonneg hu0]; omega
                go_wp2_with (go_at_call 118; refine (utod_c _ _ (by omega) (by omega)).mono ?_; rintro e w' ⟨rfl, rfl⟩)
                go_roundw
                case rel =>
                  refine ⟨u' / 10, digB (u' % 10) :: r, o - 1, by first | rfl | rw [Int.tdiv_eq_ediv_of_nonneg hu0], by omega, by omega, HTl.out.next hu, by go_num, by simp; omega, ?_⟩
                  refine ⟨(HHr.out.store ?_ (digB (u' % 10)) o ?_ _ ?_).1, HSr.out.trans (HHr.out.store ?_ (digB (u' % 10)) o ?_ _ ?_).2⟩
                  all_goals first
                    | omega
                    | (rw [digB_nat _ (by omega) (by omega)]; congr 1; first | omega | (rw [Int.tdiv_eq_ediv_of_nonneg hu0]; omega))
                case measure => simp [intOf]; omega
              · go_wp2_with (go_at_call 118; refine (utod_c _ _ (by omega) (by omega)).mono ?_; rintro e w' ⟨rfl, rfl⟩)
                go_ret
                have hst := HHr.out.store (by omega) (digB u') o (by omega) (.int .u8 (48 + u')) (by rw [digB_nat _ (by omega) (by omega)])
                have hfl := hst.1.full (by rw [← HTl.out.last hu0 (by omega), HL.out])
                have hR : Lp ++ digB u' :: r = l ++ digits x wd := by
                  rw [← HLp.out, ← HTl.out.last hu0 (by omega), List.append_assoc]
                  unfold digits padB
                  rw [HL.out]
                rw [hR] at hfl
                exact ⟨g2, _, cap2, rfl, hfl, HSr.out.trans hst.2⟩
set_option maxRecDepth 100000 in
set_option maxHeartbeats 4000000 in
theorem appendInt_p4 (x : Int) (wd : Nat) (g n cap : Nat) (l : Bytes) (w : World) (hb : Buf w g n cap l) (h0 : 0 ≤ x) (h1 : x ≤ 9999999999) (hwd : wd ≤ 10) (hn : n ≤ 549755813888) (hw : wd = 4) (hx : 10000 ≤ x) : AInt x wd g n cap l w := by
  have HB := Lib.hid hb
  have hcap := hb.le
  have hmax := hb.max
  simp only [maxLen] at hmax
  clear hb
  unfold AInt
  obtain ⟨L, HL⟩ : ∃ L, Hid ((dec x).length = L) := ⟨_, Lib.hid rfl⟩
  obtain ⟨hL1, hL2⟩ := dec_len10 x h1
  rw [HL.out] at hL1 hL2
  go_enter Tryz.func78, Tryz.ntmps78
  go_wp2_with fail
  go_loop [9, 10] (fun c u => ∃ (c' : Nat) (u' : Int), c = .int .i64 c' ∧ u = .int .u64 u' ∧ 0 ≤ u' ∧ u' ≤ x ∧ CntR x u' c') (fun _ u => (intOf u).toNat)
  case atStart =>
    first
      | exact ⟨0, x, rfl, rfl, h0, Int.le_refl _, by unfold CntR; rw [if_neg (by omega)]; omega⟩
      | exact ⟨1, 0, rfl, rfl, Int.le_refl _, h0, by subst hx; unfold CntR; rw [if_pos rfl, dec_small 0 (by omega) (by omega)]; rfl⟩
  case round =>
    obtain ⟨c', u', rfl, rfl, hu0, hu1, hc⟩ := hrel
    have hcl : c' ≤ L := by
      have := hc
      unfold CntR at this
      rw [HL.out] at this
      omega
    have HC := Lib.hid hc
    clear hc
    by_cases hu : 0 < u'
    · go_wp2_with fail
      go_round
      case rel => exact ⟨c' + 1, u' / 10, by go_num, by first | rfl | rw [Int.tdiv_eq_ediv_of_nonneg hu0], by omega, by omega, HC.out.next hu⟩
      case measure => simp [intOf]; omega
    · obtain rfl : u' = 0 := by omega
      obtain rfl : c' = L := by rw [← HL.out]; exact HC.out.zero
      clear HC hu hu0 hu1 hcl
      have hwa : c' + (wd - c') ≤ 10 := by omega
      go_wp2_with fail
      go_loopw [0, 11] (fun b p wr => ∃ j g1 cap1 : Nat, j ≤ wd - c' ∧ p = .int .i64 ((wd : Int) - c' - j) ∧ b = .slice (some ⟨g1, 0, none⟩) (n + j) cap1 ∧ Buf wr g1 (n + j) cap1 (l ++ List.replicate j 48) ∧ BufStep w g wr g1) (fun _ p _ => (intOf p).toNat)
      case atStart => exact ⟨0, g, cap, Nat.zero_le _, by go_num, rfl, by have := HB.out; simpa using this, BufStep.refl _ _⟩
      case round =>
        obtain ⟨j, g1, cap1, hj, rfl, rfl, hb1, hs1⟩ := hrel
        have hcap1 := hb1.le
        have hmax1 := hb1.max
        simp only [maxLen] at hmax1
        have HB1 := Lib.hid hb1
        have HS1 := Lib.hid hs1
        clear hb1 hs1
        by_cases hlt : j < wd - c'
        · go_wp2_with (at_builtin; refine wpList_append_bufL _ rfl (.tmp 86) (.tmp 87) rfl g1 (n + j) cap1 _ rfl HB1.out 1 [48] _ rfl rfl rfl (by omega) (by omega) ?_; intro g' cap' w' hbuf' hst'; have HBU' := Lib.hid hbuf'; have HST' := Lib.hid hst'; clear hbuf' hst')
          go_roundw
          case rel => exact ⟨j + 1, g', cap', by omega, by go_num, by rw [← Nat.add_assoc], by have := HBU'.out; rw [List.append_assoc, ← List.replicate_succ'] at this; rw [← Nat.add_assoc]; exact this, HS1.out.trans HST'.out⟩
          case measure => simp [intOf] <;> omega
        · obtain rfl : j = wd - c' := by omega
          have hsub : ¬ ((wd : Int) - c' - (wd - c' : Nat) > 0) := by omega
          obtain ⟨N, HN⟩ : ∃ N, Hid (n + (wd - c') = N) := ⟨_, Lib.hid rfl⟩
          obtain ⟨Lp, HLp⟩ : ∃ Lp, Hid (l ++ List.replicate (wd - c') 48 = Lp) := ⟨_, Lib.hid rfl⟩
          obtain ⟨D, HD⟩ : ∃ D : Int, Hid ((wd : Int) - c' - (wd - c' : Nat) = D) := ⟨_, Lib.hid rfl⟩
          have hNb : N ≤ n + 10 := by rw [← HN.out]; omega
          rw [HN.out, HLp.out] at HB1
          rw [HN.out] at hcap1 ⊢
          rw [HD.out] at hsub ⊢
          clear hlt hj
          by_cases hroom : N + c' ≤ cap1
          · have HH : Hid (Hole wr g1 N c' cap1 Lp []) := HB1.out.hole hroom
            go_wp2_with fail
            go_loopw [7, 12, 13] (fun u i q wr => ∃ (u' : Int) (r : Bytes) (o : Nat), u = .int .u64 u' ∧ 0 ≤ u' ∧ u' ≤ x ∧ TailR x u' r ∧ i = .int .i64 (o : Int) ∧ o + r.length + 1 = N + c' ∧ Hole wr g1 N c' cap1 Lp r ∧ BufStep w g wr g1) (fun u _ _ _ => (intOf u).toNat)
            case atStart => exact ⟨x, [], N + c' - 1, rfl, h0, Int.le_refl _, by simp [TailR], by go_num, by simp; omega, HH.out, HS1.out⟩
            case round =>
              obtain ⟨u', r, o, rfl, hu0, hu1, htl, rfl, ho, hh, hs⟩ := hrel
              have hrl : r.length + 1 ≤ c' := by rw [← HL.out]; exact htl.len1 hu0
              have hoc : o < cap1 := by have := hh.le; omega
              have hom : cap1 ≤ maxLen := hh.max
              simp only [maxLen] at hom
              obtain ⟨hsome, hfz⟩ := hh.room o hoc
              obtain ⟨x0, hx0⟩ := Option.isSome_iff_exists.1 hsome
              clear hsome
              have HHr := Lib.hid hh
              have HSr := Lib.hid hs
              have HTl := Lib.hid htl
              have HLx : Hid (10 ≤ u' → r.length + 2 ≤ c') := by show _ → _; intro h; rw [← HL.out]; exact htl.len h
              clear hh hs htl
              by_cases hu : 10 ≤ u'
              · have hrl2 := HLx.out hu
                have hopos : 0 < o := by have := hL2; omega
                have hdig : 0 ≤ u' - u'.tdiv 10 * 10 ∧ u' - u'.tdiv 10 * 10 ≤ 9 := by rw [Int.tdiv_eq_ediv_of_nonneg hu0]; omega
                go_wp2_with (go_at_call 118; refine (utod_c _ _ (by omega) (by omega)).mono ?_; rintro e w' ⟨rfl, rfl⟩)
                go_roundw
                case rel =>
                  refine ⟨u' / 10, digB (u' % 10) :: r, o - 1, by first | rfl | rw [Int.tdiv_eq_ediv_of_nonneg hu0], by omega, by omega, HTl.out.next hu, by go_num, by simp; omega, ?_⟩
                  refine ⟨(HHr.out.store ?_ (digB (u' % 10)) o ?_ _ ?_).1, HSr.out.trans (HHr.out.store ?_ (digB (u' % 10)) o ?_ _ ?_).2⟩
                  all_goals first
                    | omega
                    | (rw [digB_nat _ (by omega) (by omega)]; congr 1; first | omega | (rw [Int.tdiv_eq_ediv_of_nonneg hu0]; omega))
                case measure => simp [intOf]; omega
              · go_wp2_with (go_at_call 118; refine (utod_c _ _ (by omega) (by omega)).mono ?_; rintro e w' ⟨rfl, rfl⟩)
                go_ret
                have hst := HHr.out.store (by omega) (digB u') o (by omega) (.int .u8 (48 + u')) (by rw [digB_nat _ (by omega) (by omega)])
                have hfl := hst.1.full (by rw [← HTl.out.last hu0 (by omega), HL.out])
                have hR : Lp ++ digB u' :: r = l ++ digits x wd := by
                  rw [← HLp.out, ← HTl.out.last hu0 (by omega), List.append_assoc]
                  unfold digits padB
                  rw [HL.out]
                rw [hR] at hfl
                exact ⟨g1, _, cap1, rfl, hfl, HSr.out.trans hst.2⟩
          · go_wp2_with (at_builtin; refine wpList_append_buf_zeros _ rfl (.tmp 102) (.tmp 103) rfl g1 N cap1 _ rfl HB1.out c' rfl (by omega) (by omega) (by omega) ?_; intro g2 cap2 w' hbuf' hst'; have HH := Lib.hid hbuf'.hole_zeros; have HST' := Lib.hid hst'; clear hbuf' hst')
            go_loopw [7, 12, 13] (fun u i q wr => ∃ (u' : Int) (r : Bytes) (o : Nat), u = .int .u64 u' ∧ 0 ≤ u' ∧ u' ≤ x ∧ TailR x u' r ∧ i = .int .i64 (o : Int) ∧ o + r.length + 1 = N + c' ∧ Hole wr g2 N c' cap2 Lp r ∧ BufStep w g wr g2) (fun u _ _ _ => (intOf u).toNat)
            case atStart => exact ⟨x, [], N + c' - 1, rfl, h0, Int.le_refl _, by simp [TailR], by go_num, by simp; omega, HH.out, (HS1.out.trans HST'.out)⟩
            case round =>
              obtain ⟨u', r, o, rfl, hu0, hu1, htl, rfl, ho, hh, hs⟩ := hrel
              have hrl : r.length + 1 ≤ c' := by rw [← HL.out]; exact htl.len1 hu0
              have hoc : o < cap2 := by have := hh.le; omega
              have hom : cap2 ≤ maxLen := hh.max
              simp only [maxLen] at hom
              obtain ⟨hsome, hfz⟩ := hh.room o hoc
              obtain ⟨x0, hx0⟩ := Option.isSome_iff_exists.1 hsome
              clear hsome
              have HHr := Lib.hid hh
              have HSr := Lib.hid hs
              have HTl := Lib.hid htl
              have HLx : Hid (10 ≤ u' → r.length + 2 ≤ c') := by show _ → _; intro h; rw [← HL.out]; exact htl.len h
              clear hh hs htl
              by_cases hu : 10 ≤ u'
              · have hrl2 := HLx.out hu
                have hopos : 0 < o := by have := hL2; omega
                have hdig : 0 ≤ u' - u'.tdiv 10 * 10 ∧ u' - u'.tdiv 10 * 10 ≤ 9 := by rw [Int.tdiv_eq_ediv_of_nonneg hu0]; omega
                go_wp2_with (go_at_call 118; refine (utod_c _ _ (by omega) (by omega)).mono ?_; rintro e w' ⟨rfl, rfl⟩)
                go_roundw
                case rel =>
                  refine ⟨u' / 10, digB (u' % 10) :: r, o - 1, by first | rfl | rw [Int.tdiv_eq_ediv_of_nonneg hu0], by omega, by omega, HTl.out.next hu, by go_num, by simp; omega, ?_⟩
                  refine ⟨(HHr.out.store ?_ (digB (u' % 10)) o ?_ _ ?_).1, HSr.out.trans (HHr.out.store ?_ (digB (u' % 10)) o ?_ _ ?_).2⟩
                  all_goals first
                    | omega
                    | (rw [digB_nat _ (by omega) (by omega)]; congr 1; first | omega | (rw [Int.tdiv_eq_ediv_of_nonneg hu0]; omega))
                case measure => simp [intOf]; omega
              · go_wp2_with (go_at_call 118; refine (utod_c _ _ (by omega) (by omega)).mono ?_; rintro e w' ⟨rfl, rfl⟩)
                go_ret
                have hst := HHr.out.store (by omega) (digB u') o (by omega) (.int .u8 (48 + u')) (by rw [digB_nat _ (by omega) (by omega)])
                have hfl := hst.1.full (by rw [← HTl.out.last hu0 (by omega), HL.out])
                have hR : Lp ++ digB u' :: r = l ++ digits x wd := by
                  rw [← HLp.out, ← HTl.out.last hu0 (by omega), List.append_assoc]
                  unfold digits padB
                  rw [HL.out]
                rw [hR] at hfl
                exact ⟨g2, _, cap2, rfl, hfl, HSr.out.trans hst.2⟩
set_option maxRecDepth 100000 in
set_option maxHeartbeats 4000000 in
theorem appendInt_pg (x : Int) (wd : Nat) (g n cap : Nat) (l : Bytes) (w : World) (hb : Buf w g n cap l) (h0 : 0 ≤ x) (h1 : x ≤ 9999999999) (hwd : wd ≤ 10) (hn : n ≤ 549755813888) (hw : wd ≠ 2) (hw' : wd ≠ 4) (hx : 0 < x) : AInt x wd g n cap l w := by
  have HB := Lib.hid hb
  have hcap := hb.le
  have hmax := hb.max
  simp only [maxLen] at hmax
  clear hb
  unfold AInt
  obtain ⟨L, HL⟩ : ∃ L, Hid ((dec x).length = L) := ⟨_, Lib.hid rfl⟩
  obtain ⟨hL1, hL2⟩ := dec_len10 x h1
  rw [HL.out] at hL1 hL2
  go_enter Tryz.func78, Tryz.ntmps78
  go_wp2_with fail
  go_loop [9, 10] (fun c u => ∃ (c' : Nat) (u' : Int), c = .int .i64 c' ∧ u = .int .u64 u' ∧ 0 ≤ u' ∧ u' ≤ x ∧ CntR x u' c') (fun _ u => (intOf u).toNat)
  case atStart =>
    first
      | exact ⟨0, x, rfl, rfl, h0, Int.le_refl _, by unfold CntR; rw [if_neg (by omega)]; omega⟩
      | exact ⟨1, 0, rfl, rfl, Int.le_refl _, h0, by subst hx; unfold CntR; rw [if_pos rfl, dec_small 0 (by omega) (by omega)]; rfl⟩
  case round =>
    obtain ⟨c', u', rfl, rfl, hu0, hu1, hc⟩ := hrel
    have hcl : c' ≤ L := by
      have := hc
      unfold CntR at this
      rw [HL.out] at this
      omega
    have HC := Lib.hid hc
    clear hc
    by_cases hu : 0 < u'
    · go_wp2_with fail
      go_round
      case rel => exact ⟨c' + 1, u' / 10, by go_num, by first | rfl | rw [Int.tdiv_eq_ediv_of_nonneg hu0], by omega, by omega, HC.out.next hu⟩
      case measure => simp [intOf]; omega
    · obtain rfl : u' = 0 := by omega
      obtain rfl : c' = L := by rw [← HL.out]; exact HC.out.zero
      clear HC hu hu0 hu1 hcl
      have hwa : c' + (wd - c') ≤ 10 := by omega
      go_wp2_with fail
      go_loopw [0, 11] (fun b p wr => ∃ j g1 cap1 : Nat, j ≤ wd - c' ∧ p = .int .i64 ((wd : Int) - c' - j) ∧ b = .slice (some ⟨g1, 0, none⟩) (n + j) cap1 ∧ Buf wr g1 (n + j) cap1 (l ++ List.replicate j 48) ∧ BufStep w g wr g1) (fun _ p _ => (intOf p).toNat)
      case atStart => exact ⟨0, g, cap, Nat.zero_le _, by go_num, rfl, by have := HB.out; simpa using this, BufStep.refl _ _⟩
      case round =>
        obtain ⟨j, g1, cap1, hj, rfl, rfl, hb1, hs1⟩ := hrel
        have hcap1 := hb1.le
        have hmax1 := hb1.max
        simp only [maxLen] at hmax1
        have HB1 := Lib.hid hb1
        have HS1 := Lib.hid hs1
        clear hb1 hs1
        by_cases hlt : j < wd - c'
        · go_wp2_with (at_builtin; refine wpList_append_bufL _ rfl (.tmp 86) (.tmp 87) rfl g1 (n + j) cap1 _ rfl HB1.out 1 [48] _ rfl rfl rfl (by omega) (by omega) ?_; intro g' cap' w' hbuf' hst'; have HBU' := Lib.hid hbuf'; have HST' := Lib.hid hst'; clear hbuf' hst')
          go_roundw
          case rel => exact ⟨j + 1, g', cap', by omega, by go_num, by rw [← Nat.add_assoc], by have := HBU'.out; rw [List.append_assoc, ← List.replicate_succ'] at this; rw [← Nat.add_assoc]; exact this, HS1.out.trans HST'.out⟩
          case measure => simp [intOf] <;> omega
        · obtain rfl : j = wd - c' := by omega
          have hsub : ¬ ((wd : Int) - c' - (wd - c' : Nat) > 0) := by omega
          obtain ⟨N, HN⟩ : ∃ N, Hid (n + (wd - c') = N) := ⟨_, Lib.hid rfl⟩
          obtain ⟨Lp, HLp⟩ : ∃ Lp, Hid (l ++ List.replicate (wd - c') 48 = Lp) := ⟨_, Lib.hid rfl⟩
          obtain ⟨D, HD⟩ : ∃ D : Int, Hid ((wd : Int) - c' - (wd - c' : Nat) = D) := ⟨_, Lib.hid rfl⟩
          have hNb : N ≤ n + 10 := by rw [← HN.out]; omega
          rw [HN.out, HLp.out] at HB1
          rw [HN.out] at hcap1 ⊢
          rw [HD.out] at hsub ⊢
          clear hlt hj
          by_cases hroom : N + c' ≤ cap1
          · have HH : Hid (Hole wr g1 N c' cap1 Lp []) := HB1.out.hole hroom
            go_wp2_with fail
            go_loopw [7, 12, 13] (fun u i q wr => ∃ (u' : Int) (r : Bytes) (o : Nat), u = .int .u64 u' ∧ 0 ≤ u' ∧ u' ≤ x ∧ TailR x u' r ∧ i = .int .i64 (o : Int) ∧ o + r.length + 1 = N + c' ∧ Hole wr g1 N c' cap1 Lp r ∧ BufStep w g wr g1) (fun u _ _ _ => (intOf u).toNat)
            case atStart => exact ⟨x, [], N + c' - 1, rfl, h0, Int.le_refl _, by simp [TailR], by go_num, by simp; omega, HH.out, HS1.out⟩
            case round =>
              obtain ⟨u', r, o, rfl, hu0, hu1, htl, rfl, ho, hh, hs⟩ := hrel
              have hrl : r.length + 1 ≤ c' := by rw [← HL.out]; exact htl.len1 hu0
              have hoc : o < cap1 := by have := hh.le; omega
              have hom : cap1 ≤ maxLen := hh.max
              simp only [maxLen] at hom
              obtain ⟨hsome, hfz⟩ := hh.room o hoc
              obtain ⟨x0, hx0⟩ := Option.isSome_iff_exists.1 hsome
              clear hsome
              have HHr := Lib.hid hh
              have HSr := Lib.hid hs
              have HTl := Lib.hid htl
              have HLx : Hid (10 ≤ u' → r.length + 2 ≤ c') := by show _ → _; intro h; rw [← HL.out]; exact htl.len h
              clear hh hs htl
              by_cases hu : 10 ≤ u'
              · have hrl2 := HLx.out hu
                have hopos : 0 < o := by have := hL2; omega
                have hdig : 0 ≤ u' - u'.tdiv 10 * 10 ∧ u' - u'.tdiv 10 * 10 ≤ 9 := by rw [Int.tdiv_eq_ediv_of_nonneg hu0]; omega
                go_wp2_with (go_at_call 118; refine (utod_c _ _ (by omega) (by omega)).mono ?_; rintro e w' ⟨rfl, rfl⟩)
                go_roundw
                case rel =>
                  refine ⟨u' / 10, digB (u' % 10) :: r, o - 1, by first | rfl | rw [Int.tdiv_eq_ediv_of_nonneg hu0], by omega, by omega, HTl.out.next hu, by go_num, by simp; omega, ?_⟩
                  refine ⟨(HHr.out.store ?_ (digB (u' % 10)) o ?_ _ ?_).1, HSr.out.trans (HHr.out.store ?_ (digB (u' % 10)) o ?_ _ ?_).2⟩
                  all_goals first
                    | omega
                    | (rw [digB_nat _ (by omega) (by omega)]; congr 1; first | omega | (rw [Int.tdiv_eq_ediv_of_nonneg hu0]; omega))
                case measure => simp [intOf]; omega
              · go_wp2_with (go_at_call 118; refine (utod_c _ _ (by omega) (by omega)).mono ?_; rintro e w' ⟨rfl, rfl⟩)
                go_ret
                have hst := HHr.out.store (by omega) (digB u') o (by omega) (.int .u8 (48 + u')) (by rw [digB_nat _ (by omega) (by omega)])
                have hfl := hst.1.full (by rw [← HTl.out.last hu0 (by omega), HL.out])
                have hR : Lp ++ digB u' :: r = l ++ digits x wd := by
                  rw [← HLp.out, ← HTl.out.last hu0 (by omega), List.append_assoc]
                  unfold digits padB
                  rw [HL.out]
                rw [hR] at hfl
                exact ⟨g1, _, cap1, rfl, hfl, HSr.out.trans hst.2⟩
          · go_wp2_with (at_builtin; refine wpList_append_buf_zeros _ rfl (.tmp 102) (.tmp 103) rfl g1 N cap1 _ rfl HB1.out c' rfl (by omega) (by omega) (by omega) ?_; intro g2 cap2 w' hbuf' hst'; have HH := Lib.hid hbuf'.hole_zeros; have HST' := Lib.hid hst'; clear hbuf' hst')
            go_loopw [7, 12, 13] (fun u i q wr => ∃ (u' : Int) (r : Bytes) (o : Nat), u = .int .u64 u' ∧ 0 ≤ u' ∧ u' ≤ x ∧ TailR x u' r ∧ i = .int .i64 (o : Int) ∧ o + r.length + 1 = N + c' ∧ Hole wr g2 N c' cap2 Lp r ∧ BufStep w g wr g2) (fun u _ _ _ => (intOf u).toNat)
            case atStart => exact ⟨x, [], N + c' - 1, rfl, h0, Int.le_refl _, by simp [TailR], by go_num, by simp; omega, HH.out, (HS1.out.trans HST'.out)⟩
            case round =>
              obtain ⟨u', r, o, rfl, hu0, hu1, htl, rfl, ho, hh, hs⟩ := hrel
              have hrl : r.length + 1 ≤ c' := by rw [← HL.out]; exact htl.len1 hu0
              have hoc : o < cap2 := by have := hh.le; omega
              have hom : cap2 ≤ maxLen := hh.max
              simp only [maxLen] at hom
              obtain ⟨hsome, hfz⟩ := hh.room o hoc
              obtain ⟨x0, hx0⟩ := Option.isSome_iff_exists.1 hsome
              clear hsome
              have HHr := Lib.hid hh
              have HSr := Lib.hid hs
              have HTl := Lib.hid htl
              have HLx : Hid (10 ≤ u' → r.length + 2 ≤ c') := by show _ → _; intro h; rw [← HL.out]; exact htl.len h
              clear hh hs htl
              by_cases hu : 10 ≤ u'
              · have hrl2 := HLx.out hu
                have hopos : 0 < o := by have := hL2; omega
                have hdig : 0 ≤ u' - u'.tdiv 10 * 10 ∧ u' - u'.tdiv 10 * 10 ≤ 9 := by rw [Int.tdiv_eq_ediv_of_nonneg hu0]; omega
                go_wp2_with (go_at_call 118; refine (utod_c _ _ (by omega) (by omega)).mono ?_; rintro e w' ⟨rfl, rfl⟩)
                go_roundw
                case rel =>
                  refine ⟨u' / 10, digB (u' % 10) :: r, o - 1, by first | rfl | rw [Int.tdiv_eq_ediv_of_nonneg hu0], by omega, by omega, HTl.out.next hu, by go_num, by simp; omega, ?_⟩
                  refine ⟨(HHr.out.store ?_ (digB (u' % 10)) o ?_ _ ?_).1, HSr.out.trans (HHr.out.store ?_ (digB (u' % 10)) o ?_ _ ?_).2⟩
                  all_goals first
                    | omega
                    | (rw [digB_nat _ (by omega) (by omega)]; congr 1; first | omega | (rw [Int.tdiv_eq_ediv_of_nonneg hu0]; omega))
                case measure => simp [intOf]; omega
              · go_wp2_with (go_at_call 118; refine (utod_c _ _ (by omega) (by omega)).mono ?_; rintro e w' ⟨rfl, rfl⟩)
                go_ret
                have hst := HHr.out.store (by omega) (digB u') o (by omega) (.int .u8 (48 + u')) (by rw [digB_nat _ (by omega) (by omega)])
                have hfl := hst.1.full (by rw [← HTl.out.last hu0 (by omega), HL.out])
                have hR : Lp ++ digB u' :: r = l ++ digits x wd := by
                  rw [← HLp.out, ← HTl.out.last hu0 (by omega), List.append_assoc]
                  unfold digits padB
                  rw [HL.out]
                rw [hR] at hfl
                exact ⟨g2, _, cap2, rfl, hfl, HSr.out.trans hst.2⟩
set_option maxRecDepth 100000 in
set_option maxHeartbeats 4000000 in
theorem appendInt_z (x : Int) (wd : Nat) (g n cap : Nat) (l : Bytes) (w : World) (hb : Buf w g n cap l) (h0 : 0 ≤ x) (h1 : x ≤ 9999999999) (hwd : wd ≤ 10) (hn : n ≤ 549755813888) (hw : wd ≠ 2) (hw' : wd ≠ 4) (hx : x = 0) : AInt x wd g n cap l w := by
  have HB := Lib.hid hb
  have hcap := hb.le
  have hmax := hb.max
  simp only [maxLen] at hmax
  clear hb
  unfold AInt
  obtain ⟨L, HL⟩ : ∃ L, Hid ((dec x).length = L) := ⟨_, Lib.hid rfl⟩
  obtain ⟨hL1, hL2⟩ := dec_len10 x h1
  rw [HL.out] at hL1 hL2
  go_enter Tryz.func78, Tryz.ntmps78
  go_wp2_with fail
  go_loop [9, 10] (fun c u => ∃ (c' : Nat) (u' : Int), c = .int .i64 c' ∧ u = .int .u64 u' ∧ 0 ≤ u' ∧ u' ≤ x ∧ CntR x u' c') (fun _ u => (intOf u).toNat)
  case atStart =>
    first
      | exact ⟨0, x, rfl, rfl, h0, Int.le_refl _, by unfold CntR; rw [if_neg (by omega)]; omega⟩
      | exact ⟨1, 0, rfl, rfl, Int.le_refl _, h0, by subst hx; unfold CntR; rw [if_pos rfl, dec_small 0 (by omega) (by omega)]; rfl⟩
  case round =>
    obtain ⟨c', u', rfl, rfl, hu0, hu1, hc⟩ := hrel
    have hcl : c' ≤ L := by
      have := hc
      unfold CntR at this
      rw [HL.out] at this
      omega
    have HC := Lib.hid hc
    clear hc
    by_cases hu : 0 < u'
    · go_wp2_with fail
      go_round
      case rel => exact ⟨c' + 1, u' / 10, by go_num, by first | rfl | rw [Int.tdiv_eq_ediv_of_nonneg hu0], by omega, by omega, HC.out.next hu⟩
      case measure => simp [intOf]; omega
    · obtain rfl : u' = 0 := by omega
      obtain rfl : c' = L := by rw [← HL.out]; exact HC.out.zero
      clear HC hu hu0 hu1 hcl
      have hwa : c' + (wd - c') ≤ 10 := by omega
      go_wp2_with fail
      go_loopw [0, 11] (fun b p wr => ∃ j g1 cap1 : Nat, j ≤ wd - c' ∧ p = .int .i64 ((wd : Int) - c' - j) ∧ b = .slice (some ⟨g1, 0, none⟩) (n + j) cap1 ∧ Buf wr g1 (n + j) cap1 (l ++ List.replicate j 48) ∧ BufStep w g wr g1) (fun _ p _ => (intOf p).toNat)
      case atStart => exact ⟨0, g, cap, Nat.zero_le _, by go_num, rfl, by have := HB.out; simpa using this, BufStep.refl _ _⟩
      case round =>
        obtain ⟨j, g1, cap1, hj, rfl, rfl, hb1, hs1⟩ := hrel
        have hcap1 := hb1.le
        have hmax1 := hb1.max
        simp only [maxLen] at hmax1
        have HB1 := Lib.hid hb1
        have HS1 := Lib.hid hs1
        clear hb1 hs1
        by_cases hlt : j < wd - c'
        · go_wp2_with (at_builtin; refine wpList_append_bufL _ rfl (.tmp 86) (.tmp 87) rfl g1 (n + j) cap1 _ rfl HB1.out 1 [48] _ rfl rfl rfl (by omega) (by omega) ?_; intro g' cap' w' hbuf' hst'; have HBU' := Lib.hid hbuf'; have HST' := Lib.hid hst'; clear hbuf' hst')
          go_roundw
          case rel => exact ⟨j + 1, g', cap', by omega, by go_num, by rw [← Nat.add_assoc], by have := HBU'.out; rw [List.append_assoc, ← List.replicate_succ'] at this; rw [← Nat.add_assoc]; exact this, HS1.out.trans HST'.out⟩
          case measure => simp [intOf] <;> omega
        · obtain rfl : j = wd - c' := by omega
          have hsub : ¬ ((wd : Int) - c' - (wd - c' : Nat) > 0) := by omega
          obtain ⟨N, HN⟩ : ∃ N, Hid (n + (wd - c') = N) := ⟨_, Lib.hid rfl⟩
          obtain ⟨Lp, HLp⟩ : ∃ Lp, Hid (l ++ List.replicate (wd - c') 48 = Lp) := ⟨_, Lib.hid rfl⟩
          obtain ⟨D, HD⟩ : ∃ D : Int, Hid ((wd : Int) - c' - (wd - c' : Nat) = D) := ⟨_, Lib.hid rfl⟩
          have hNb : N ≤ n + 10 := by rw [← HN.out]; omega
          rw [HN.out, HLp.out] at HB1
          rw [HN.out] at hcap1 ⊢
          rw [HD.out] at hsub ⊢
          clear hlt hj
          by_cases hroom : N + c' ≤ cap1
          · have HH : Hid (Hole wr g1 N c' cap1 Lp []) := HB1.out.hole hroom
            go_wp2_with fail
            go_loopw [7, 12, 13] (fun u i q wr => ∃ (u' : Int) (r : Bytes) (o : Nat), u = .int .u64 u' ∧ 0 ≤ u' ∧ u' ≤ x ∧ TailR x u' r ∧ i = .int .i64 (o : Int) ∧ o + r.length + 1 = N + c' ∧ Hole wr g1 N c' cap1 Lp r ∧ BufStep w g wr g1) (fun u _ _ _ => (intOf u).toNat)
            case atStart => exact ⟨0, [], N + c' - 1, rfl, Int.le_refl _, h0, by simp [TailR, hx], by go_num, by simp; omega, HH.out, HS1.out⟩
            case round =>
              obtain ⟨u', r, o, rfl, hu0, hu1, htl, rfl, ho, hh, hs⟩ := hrel
              have hrl : r.length + 1 ≤ c' := by rw [← HL.out]; exact htl.len1 hu0
              have hoc : o < cap1 := by have := hh.le; omega
              have hom : cap1 ≤ maxLen := hh.max
              simp only [maxLen] at hom
              obtain ⟨hsome, hfz⟩ := hh.room o hoc
              obtain ⟨x0, hx0⟩ := Option.isSome_iff_exists.1 hsome
              clear hsome
              have HHr := Lib.hid hh
              have HSr := Lib.hid hs
              have HTl := Lib.hid htl
              have HLx : Hid (10 ≤ u' → r.length + 2 ≤ c') := by show _ → _; intro h; rw [← HL.out]; exact htl.len h
              clear hh hs htl
              have hu : ¬ 10 ≤ u' := by omega
              go_wp2_with (go_at_call 118; refine (utod_c _ _ (by omega) (by omega)).mono ?_; rintro e w' ⟨rfl, rfl⟩)
              go_ret
              have hst := HHr.out.store (by omega) (digB u') o (by omega) (.int .u8 (48 + u')) (by rw [digB_nat _ (by omega) (by omega)])
              have hfl := hst.1.full (by rw [← HTl.out.last hu0 (by omega), HL.out])
              have hR : Lp ++ digB u' :: r = l ++ digits x wd := by
                rw [← HLp.out, ← HTl.out.last hu0 (by omega), List.append_assoc]
                unfold digits padB
                rw [HL.out]
              rw [hR] at hfl
              exact ⟨g1, _, cap1, rfl, hfl, HSr.out.trans hst.2⟩
          · go_wp2_with (at_builtin; refine wpList_append_buf_zeros _ rfl (.tmp 102) (.tmp 103) rfl g1 N cap1 _ rfl HB1.out c' rfl (by omega) (by omega) (by omega) ?_; intro g2 cap2 w' hbuf' hst'; have HH := Lib.hid hbuf'.hole_zeros; have HST' := Lib.hid hst'; clear hbuf' hst')
            go_loopw [7, 12, 13] (fun u i q wr => ∃ (u' : Int) (r : Bytes) (o : Nat), u = .int .u64 u' ∧ 0 ≤ u' ∧ u' ≤ x ∧ TailR x u' r ∧ i = .int .i64 (o : Int) ∧ o + r.length + 1 = N + c' ∧ Hole wr g2 N c' cap2 Lp r ∧ BufStep w g wr g2) (fun u _ _ _ => (intOf u).toNat)
            case atStart => exact ⟨0, [], N + c' - 1, rfl, Int.le_refl _, h0, by simp [TailR, hx], by go_num, by simp; omega, HH.out, (HS1.out.trans HST'.out)⟩
            case round =>
              obtain ⟨u', r, o, rfl, hu0, hu1, htl, rfl, ho, hh, hs⟩ := hrel
              have hrl : r.length + 1 ≤ c' := by rw [← HL.out]; exact htl.len1 hu0
              have hoc : o < cap2 := by have := hh.le; omega
              have hom : cap2 ≤ maxLen := hh.max
              simp only [maxLen] at hom
              obtain ⟨hsome, hfz⟩ := hh.room o hoc
              obtain ⟨x0, hx0⟩ := Option.isSome_iff_exists.1 hsome
              clear hsome
              have HHr := Lib.hid hh
              have HSr := Lib.hid hs
              have HTl := Lib.hid htl
              have HLx : Hid (10 ≤ u' → r.length + 2 ≤ c') := by show _ → _; intro h; rw [← HL.out]; exact htl.len h
              clear hh hs htl
              have hu : ¬ 10 ≤ u' := by omega
              go_wp2_with (go_at_call 118; refine (utod_c _ _ (by omega) (by omega)).mono ?_; rintro e w' ⟨rfl, rfl⟩)
              go_ret
              have hst := HHr.out.store (by omega) (digB u') o (by omega) (.int .u8 (48 + u')) (by rw [digB_nat _ (by omega) (by omega)])
              have hfl := hst.1.full (by rw [← HTl.out.last hu0 (by omega), HL.out])
              have hR : Lp ++ digB u' :: r = l ++ digits x wd := by
                rw [← HLp.out, ← HTl.out.last hu0 (by omega), List.append_assoc]
                unfold digits padB
                rw [HL.out]
              rw [hR] at hfl
              exact ⟨g2, _, cap2, rfl, hfl, HSr.out.trans hst.2⟩
theorem appendInt_c (x : Int) (wd : Nat) (g n cap : Nat) (l : Bytes) (w : World) (hb : Buf w g n cap l) (h0 : 0 ≤ x) (h1 : x ≤ 9999999999) (hwd : wd ≤ 10) (hn : n ≤ 549755813888) : AInt x wd g n cap l w := by
  by_cases c2 : wd = 2
  · by_cases h : x < 100
    · subst c2; exact appendInt_two x g n cap l w hb h0 h hn
    · exact appendInt_p2 x wd g n cap l w hb h0 h1 hwd hn c2 (by omega)
  by_cases c4 : wd = 4
  · by_cases h : x < 10000
    · subst c4; exact appendInt_four x g n cap l w hb h0 h hn
    · exact appendInt_p4 x wd g n cap l w hb h0 h1 hwd hn c4 (by omega)
  by_cases h : x = 0
  · exact appendInt_z x wd g n cap l w hb h0 h1 hwd hn c2 c4 h
  · exact appendInt_pg x wd g n cap l w hb h0 h1 hwd hn c2 c4 (by omega)
end Go.Proofs.YtndhiemagankeaaGreatDoor
