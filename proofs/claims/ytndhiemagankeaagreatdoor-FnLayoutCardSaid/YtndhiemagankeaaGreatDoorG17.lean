/-
  FnLayout (the statement: for every list of pieces, every time and every zone the call returns true, and its arguments read afterwards as they did), part 17 of 41. In this part: The walks of the reference: layouts. The walks of the reference: layouts, and times written by pieces. The walks of the reference: times written by pieces.
-/
import Derived.Test.YtndhiemagankeaaGreatDoorG07
import Derived.Test.YtndhiemagankeaaGreatDoorG08
/- The walks of the reference: layouts. -/
namespace Go.Proofs.YtndhiemagankeaaGreatDoor
open Go.RowKit
set_option linter.unusedVariables false
set_option linter.unusedSimpArgs false
attribute [local simp] bs_size bs_toList bs_append bs_data
set_option maxRecDepth 100000 in
set_option maxHeartbeats 4000000 in
theorem element_plain (p : Pc) (w : World) (hk : isFraction p.kind = false) (h0 : 0 ≤ p.kind) (h1 : p.kind ≤ 34) : Calls Tryz.prog 30 #[p.val] w fun e w' => e = .returned (S (element p)) ∧ Below w.heap.size w w' := by
  have e33 : p.kind ≠ 33 := by intro h; simp [isFraction, h] at hk
  have e34 : p.kind ≠ 34 := by intro h; simp [isFraction, h] at hk
  unfold Pc.val
  clear hk
  by_cases hz : p.kind = 0
  · go_enter Tryz.func30, Tryz.ntmps30
    go_wp2
    go_ret
    refine ⟨ret_str ?_, below_new _ _⟩
    simp [element, within, hz]
  · have HK : Hid (p.kind = 1 ∨ p.kind = 2 ∨ p.kind = 3 ∨ p.kind = 4 ∨ p.kind = 5 ∨ p.kind = 6 ∨ p.kind = 7 ∨ p.kind = 8 ∨ p.kind = 9 ∨ p.kind = 10 ∨ p.kind = 11 ∨ p.kind = 12 ∨ p.kind = 13 ∨ p.kind = 14 ∨ p.kind = 15 ∨ p.kind = 16 ∨ p.kind = 17 ∨ p.kind = 18 ∨ p.kind = 19 ∨ p.kind = 20 ∨ p.kind = 21 ∨ p.kind = 22 ∨ p.kind = 23 ∨ p.kind = 24 ∨ p.kind = 25 ∨ p.kind = 26 ∨ p.kind = 27 ∨ p.kind = 28 ∨ p.kind = 29 ∨ p.kind = 30 ∨ p.kind = 31 ∨ p.kind = 32) := by show _ ∨ _; omega
    go_enter Tryz.func30, Tryz.ntmps30
    go_wp2
    all_goals
      go_ret
      refine ⟨ret_str ?_, below_new _ _⟩
      have HK := HK.out
      simp_all [element, within, elemTexts]
set_option maxRecDepth 100000 in
set_option maxHeartbeats 4000000 in
theorem element_33 (p : Pc) (w : World) (hk : p.kind = 33) (n0 : 0 ≤ p.n) (n1 : p.n ≤ 9) :
    Calls Tryz.prog 30 #[p.val] w fun e w' => e = .returned (S (mark p.comma ++ List.replicate p.n.toNat 48)) ∧ Below w.heap.size w w' := by
  obtain ⟨n, hn⟩ := Int.eq_ofNat_of_zero_le n0
  have hn9 : n ≤ 9 := by omega
  unfold Pc.val
  rw [hn, hk, Int.toNat_natCast]
  clear n0 n1 hn hk
  have hml := mark_len p.comma
  obtain ⟨cap1, w1, hcv, hB, hb1⟩ := bytes_buf (w.alloc (.cells #[.int .i64 33, S p.text, .int .i64 n, .bool p.comma] 42)) (mark p.comma) (by omega)
  simp only [World.size_alloc] at hcv hB
  have hcc := fun o => hb1.cell (p := ⟨w.heap.size, o, none⟩) (by simp)
  have HB1 := Lib.hid hb1
  have HB := Lib.hid hB
  have hs1 : w.heap.size + 1 < w1.heap.size := hB.lt
  clear hb1 hB
  go_enter Tryz.func30, Tryz.ntmps30
  go_wp2_with (go_at_call 55; refine (mark_c _ _).mono ?_; rintro e w' ⟨rfl, rfl⟩)
  go_loopw [4, 5] (fun o i wr => ∃ j g cap : Nat, j ≤ n ∧ i = .int .i64 j ∧ o = .slice (some ⟨g, 0, none⟩) (1 + j) cap ∧ Buf wr g (1 + j) cap (mark p.comma ++ List.replicate j 48) ∧ BufStep w1 (w.heap.size + 1) wr g) (fun _ i _ => n - (intOf i).toNat)
  case atStart => exact ⟨0, w.heap.size + 1, cap1, Nat.zero_le _, rfl, by first | rfl | rw [hml], by have := HB.out; rw [hml] at this; simpa using this, BufStep.refl _ _⟩
  case round =>
    obtain ⟨j, g, cap, hj, rfl, rfl, hbuf, hst⟩ := hrel
    have hcr : ∀ o, wr.cell? ⟨w.heap.size, o, none⟩ = w1.cell? ⟨w.heap.size, o, none⟩ := fun o => hst.cell (p := ⟨w.heap.size, o, none⟩) (by simp; omega) (by simp)
    have hbb : Below w.heap.size w1 wr := hst.below (by omega) (by omega)
    have HBB := Lib.hid hbb
    have HBU := Lib.hid hbuf
    have HST := Lib.hid hst
    clear hbuf hst hbb
    by_cases hlt : j < n
    · go_wp2_with (at_builtin; refine wpList_append_bufL _ rfl (.tmp 88) (.tmp 90) rfl g (1 + j) cap _ rfl HBU.out 1 [48] _ rfl rfl rfl (by omega) (by omega) ?_; intro g' cap' w' hbuf' hst'; have HBU' := Lib.hid hbuf'; have HST' := Lib.hid hst'; clear hbuf' hst')
      go_roundw
      case rel => exact ⟨j + 1, g', cap', by omega, by go_num, by rw [← Nat.add_assoc], by have := HBU'.out; rw [List.append_assoc, ← List.replicate_succ'] at this; rw [← Nat.add_assoc]; exact this, HST.out.trans HST'.out⟩
      case measure => simp [intOf] <;> omega
    · obtain rfl : j = n := by omega
      have hstr := HBU.out.str
      go_wp2_with fail
      go_ret
      refine ⟨by rfl, ?_⟩
      exact (below_new _ _).trans ((HB1.out.mono (by simp)).trans HBB.out)
set_option maxRecDepth 100000 in
set_option maxHeartbeats 4000000 in
theorem element_34 (p : Pc) (w : World) (hk : p.kind = 34) (n0 : 0 ≤ p.n) (n1 : p.n ≤ 9) :
    Calls Tryz.prog 30 #[p.val] w fun e w' => e = .returned (S (mark p.comma ++ List.replicate p.n.toNat 57)) ∧ Below w.heap.size w w' := by
  obtain ⟨n, hn⟩ := Int.eq_ofNat_of_zero_le n0
  have hn9 : n ≤ 9 := by omega
  unfold Pc.val
  rw [hn, hk, Int.toNat_natCast]
  clear n0 n1 hn hk
  have hml := mark_len p.comma
  obtain ⟨cap1, w1, hcv, hB, hb1⟩ := bytes_buf (w.alloc (.cells #[.int .i64 34, S p.text, .int .i64 n, .bool p.comma] 42)) (mark p.comma) (by omega)
  simp only [World.size_alloc] at hcv hB
  have hcc := fun o => hb1.cell (p := ⟨w.heap.size, o, none⟩) (by simp)
  have HB1 := Lib.hid hb1
  have HB := Lib.hid hB
  have hs1 : w.heap.size + 1 < w1.heap.size := hB.lt
  clear hb1 hB
  go_enter Tryz.func30, Tryz.ntmps30
  go_wp2_with (go_at_call 55; refine (mark_c _ _).mono ?_; rintro e w' ⟨rfl, rfl⟩)
  go_loopw [4, 5] (fun o i wr => ∃ j g cap : Nat, j ≤ n ∧ i = .int .i64 j ∧ o = .slice (some ⟨g, 0, none⟩) (1 + j) cap ∧ Buf wr g (1 + j) cap (mark p.comma ++ List.replicate j 57) ∧ BufStep w1 (w.heap.size + 1) wr g) (fun _ i _ => n - (intOf i).toNat)
  case atStart => exact ⟨0, w.heap.size + 1, cap1, Nat.zero_le _, rfl, by first | rfl | rw [hml], by have := HB.out; rw [hml] at this; simpa using this, BufStep.refl _ _⟩
  case round =>
    obtain ⟨j, g, cap, hj, rfl, rfl, hbuf, hst⟩ := hrel
    have hcr : ∀ o, wr.cell? ⟨w.heap.size, o, none⟩ = w1.cell? ⟨w.heap.size, o, none⟩ := fun o => hst.cell (p := ⟨w.heap.size, o, none⟩) (by simp; omega) (by simp)
    have hbb : Below w.heap.size w1 wr := hst.below (by omega) (by omega)
    have HBB := Lib.hid hbb
    have HBU := Lib.hid hbuf
    have HST := Lib.hid hst
    clear hbuf hst hbb
    by_cases hlt : j < n
    · go_wp2_with (at_builtin; refine wpList_append_bufL _ rfl (.tmp 88) (.tmp 90) rfl g (1 + j) cap _ rfl HBU.out 1 [57] _ rfl rfl rfl (by omega) (by omega) ?_; intro g' cap' w' hbuf' hst'; have HBU' := Lib.hid hbuf'; have HST' := Lib.hid hst'; clear hbuf' hst')
      go_roundw
      case rel => exact ⟨j + 1, g', cap', by omega, by go_num, by rw [← Nat.add_assoc], by have := HBU'.out; rw [List.append_assoc, ← List.replicate_succ'] at this; rw [← Nat.add_assoc]; exact this, HST.out.trans HST'.out⟩
      case measure => simp [intOf] <;> omega
    · obtain rfl : j = n := by omega
      have hstr := HBU.out.str
      go_wp2_with fail
      go_ret
      refine ⟨by rfl, ?_⟩
      exact (below_new _ _).trans ((HB1.out.mono (by simp)).trans HBB.out)
end Go.Proofs.YtndhiemagankeaaGreatDoor
/- The walks of the reference: layouts, and times written by pieces. -/
namespace Go.Proofs.YtndhiemagankeaaGreatDoor
open Go.RowKit
set_option linter.unusedVariables false
set_option linter.unusedSimpArgs false
attribute [local simp] bs_size bs_toList bs_append bs_data
theorem pieceOk_kind {p : Pc} (h : pieceOk p = true) : 0 ≤ p.kind ∧ p.kind ≤ 34 := by
  unfold pieceOk at h
  by_cases h0 : p.kind = 0
  · omega
  · rw [if_neg h0] at h
    by_cases h1 : isFraction p.kind = true
    · simp [isFraction] at h1; omega
    · rw [if_neg h1] at h
      simp [within] at h; omega
theorem pieceOk_n {p : Pc} (h : pieceOk p = true) (hf : isFraction p.kind = true) : 1 ≤ p.n ∧ p.n ≤ 9 := by
  unfold pieceOk at h
  have h0 : p.kind ≠ 0 := by intro e; simp [isFraction, e] at hf
  rw [if_neg h0, if_pos hf] at h
  simp [within] at h; omega
theorem pieceOk_text {p : Pc} (h : pieceOk p = true) : p.text.length ≤ 1000 := by
  unfold pieceOk at h
  by_cases h0 : p.kind = 0
  · rw [if_pos h0] at h
    simp [plain] at h; omega
  · rw [if_neg h0] at h
    by_cases h1 : isFraction p.kind = true
    · rw [if_pos h1] at h; simp at h; simp [h.1]
    · rw [if_neg h1] at h
      simp at h; simp [h.2.1]
theorem elem_len {p : Pc} (h : pieceOk p = true) : (element p).length ≤ 1000 := by
  have hk := pieceOk_kind h
  have ht := pieceOk_text h
  have hm := mark_len p.comma
  unfold element
  split
  · rename_i e
    have := pieceOk_n h (by simp [isFraction, e])
    simp; omega
  · split
    · rename_i e
      have := pieceOk_n h (by simp [isFraction, e])
      simp; omega
    · split
      · rename_i e
        have hK : p.kind = 1 ∨ p.kind = 2 ∨ p.kind = 3 ∨ p.kind = 4 ∨ p.kind = 5 ∨ p.kind = 6 ∨ p.kind = 7 ∨ p.kind = 8 ∨ p.kind = 9 ∨ p.kind = 10 ∨ p.kind = 11 ∨ p.kind = 12 ∨ p.kind = 13 ∨ p.kind = 14 ∨ p.kind = 15 ∨ p.kind = 16 ∨ p.kind = 17 ∨ p.kind = 18 ∨ p.kind = 19 ∨ p.kind = 20 ∨ p.kind = 21 ∨ p.kind = 22 ∨ p.kind = 23 ∨ p.kind = 24 ∨ p.kind = 25 ∨ p.kind = 26 ∨ p.kind = 27 ∨ p.kind = 28 ∨ p.kind = 29 ∨ p.kind = 30 ∨ p.kind = 31 ∨ p.kind = 32 := by simp [within] at e; omega
        rcases hK with e | e | e | e | e | e | e | e | e | e | e | e | e | e | e | e | e | e | e | e | e | e | e | e | e | e | e | e | e | e | e | e <;> rw [e] <;> decide
      · exact ht
theorem element_c (p : Pc) (w : World) (h : pieceOk p = true) : Calls Tryz.prog 30 #[p.val] w fun e w' => e = .returned (S (element p)) ∧ Below w.heap.size w w' := by
  have hk := pieceOk_kind h
  cases hf : isFraction p.kind
  · exact element_plain p w hf hk.1 hk.2
  · have hn := pieceOk_n h hf
    have h34 : p.kind = 33 ∨ p.kind = 34 := by simpa [isFraction] using hf
    rcases h34 with e | e
    · have := element_33 p w e (by omega) (by omega)
      simpa [element, e] using this
    · have := element_34 p w e (by omega) (by omega)
      simpa [element, e] using this
theorem layout_take_succ {ps : List Pc} {j : Nat} (h : j < ps.length) : layout (ps.take (j + 1)) = layout (ps.take j) ++ element ps[j] := by
  unfold layout
  rw [List.take_succ_eq_append_getElem h, List.flatMap_append]
  simp
set_option maxRecDepth 100000 in
set_option maxHeartbeats 1000000 in
theorem layout_c (v : Value) (ps : List Pc) (w : World) (H : PcsAt w v ps) (hn : ps.length ≤ 100) (hok : ∀ i (h : i < ps.length), pieceOk ps[i] = true) :
    Calls Tryz.prog 14 #[v] w fun e w' => e = .returned (S (layout ps)) ∧ Below w.heap.size w w' := by
  have H0 := Lib.hid H
  have HO := Lib.hid hok
  obtain ⟨ao, cap, rfl, hcap, hc⟩ := H
  clear hc hok
  go_enter Tryz.func14, Tryz.ntmps14
  go_wp2
  go_loopw [3, 4] (fun o i wr => ∃ j : Nat, j ≤ ps.length ∧ i = .int .i64 j ∧ o = S (layout (ps.take j)) ∧ (layout (ps.take j)).length ≤ 1000 * j ∧ Below w.heap.size w wr) (fun _ i _ => ps.length - (intOf i).toNat)
  case atStart => exact ⟨0, Nat.zero_le _, rfl, rfl, by simp [layout], Below.refl _ _⟩
  case round =>
    obtain ⟨j, hj, rfl, rfl, hl, hb⟩ := hrel
    have HB := Lib.hid hb
    clear hb
    by_cases hlt : j < ps.length
    · obtain ⟨ao', cap', hv, _, hc⟩ := H0.out.below HB.out
      obtain ⟨rfl, rfl⟩ : ao = ao' ∧ cap = cap' := by simpa using hv
      obtain ⟨b, off, rfl, hbk, q2, q3, q4, q5, _⟩ := hc j hlt
      have hpk := fun w => element_c ps[j] w (HO.out j hlt)
      have hel := elem_len (HO.out j hlt)
      unfold Pc.val at hpk
      have HPK := Lib.hid hpk
      clear hpk hc hv
      go_wp2_with (go_at_call 30; refine (HPK.out _).mono ?_; rintro e w1 ⟨rfl, hb1⟩; have HB1 := Lib.hid hb1; clear hb1)
      go_roundw
      case rel => exact ⟨j + 1, by omega, by go_num, by rw [layout_take_succ hlt], by rw [layout_take_succ hlt]; simp; omega, below_next HB.out HB1.out⟩
      case measure => simp [intOf] <;> omega
    · go_wp2
      go_ret
      exact ⟨ret_str (by rw [List.take_of_length_le (by omega)]), HB.out⟩
end Go.Proofs.YtndhiemagankeaaGreatDoor
/- The walks of the reference: times written by pieces. -/
namespace Go.Proofs.YtndhiemagankeaaGreatDoor
open Go.RowKit
set_option linter.unusedVariables false
set_option linter.unusedSimpArgs false
attribute [local simp] bs_size bs_toList bs_append bs_data bs_extract
/-- What is known of the numbers of a time that is ok. -/
structure CivB (c : Civ) : Prop where
  y0 : 0 ≤ c.year
  y1 : c.year ≤ 9999
  m0 : 1 ≤ c.month
  m1 : c.month ≤ 12
  d0 : 1 ≤ c.day
  d1 : c.day ≤ days c.year c.month
  h0 : 0 ≤ c.hour
  h1 : c.hour ≤ 23
  n0 : 0 ≤ c.minute
  n1 : c.minute ≤ 59
  s0 : 0 ≤ c.second
  s1 : c.second ≤ 59
  f0 : 0 ≤ c.nano
  f1 : c.nano ≤ 999999999
  z : zoneOk c.zone = true
structure ZnB (z : Zn) : Prop where
  ne : z.name ≠ []
  len : z.name.length ≤ 100
  o0 : -86399 ≤ z.off
  o1 : z.off ≤ 86399
  far : z.off = 0 ∨ z.off ≤ -60 ∨ 60 ≤ z.off
  utc : z.name = utcB → z.off = 0
theorem znB {z : Zn} (h : zoneOk z = true) : ZnB z := by
  simp [zoneOk, within] at h
  obtain ⟨h1, h2, h3, h4, h5⟩ := h
  exact ⟨h1, h2, h3.1, h3.2, h4, fun e => by rcases h5 with h5 | h5; exact absurd e h5; exact h5⟩
theorem civB {c : Civ} (h : civilOk c = true) : CivB c := by
  simp [civilOk, dateOk, within] at h
  obtain ⟨⟨⟨a1, a2⟩, ⟨a3, a4⟩, a5, a6⟩, ⟨b1, b2⟩, ⟨b3, b4⟩, ⟨b5, b6⟩, ⟨b7, b8⟩, hz⟩ := h
  exact ⟨a1, a2, a3, a4, a5, a6, b1, b2, b3, b4, b5, b6, b7, b8, hz⟩
theorem blank_ci (n wd : Int) (w : World) (h0 : 0 ≤ n) (hn : n ≤ 9223372036854775807) (hw0 : 0 ≤ wd) (hwd : wd ≤ 100) :
    Calls Tryz.prog 60 #[.int .i64 n, .int .i64 wd] w fun e w' => e = .returned (S (blank n wd.toNat)) ∧ Below w.heap.size w w' := by
  obtain ⟨k, rfl⟩ := Int.eq_ofNat_of_zero_le hw0
  exact blank_c n k w h0 hn (by omega)
theorem fraction_ci (nano d : Int) (b : Bool) (w : World) (d0 : 0 ≤ d) (hd : d ≤ 9) (h0 : 0 ≤ nano) (h1 : nano ≤ 999999999) : Calls Tryz.prog 64 #[.int .i64 nano, .int .i64 d, .bool b] w fun e w' => e = .returned (S (fraction nano d.toNat b)) ∧ Below w.heap.size w w' := by
  obtain ⟨k, rfl⟩ := Int.eq_ofNat_of_zero_le d0
  exact fraction_c nano k b w (by omega) h0 h1
theorem trimmed_ci (nano d : Int) (b : Bool) (w : World) (d0 : 0 ≤ d) (hd : d ≤ 9) (h0 : 0 ≤ nano) (h1 : nano ≤ 999999999) : Calls Tryz.prog 65 #[.int .i64 nano, .int .i64 d, .bool b] w fun e w' => e = .returned (S (trimmed nano d.toNat b)) ∧ Below w.heap.size w w' := by
  obtain ⟨k, rfl⟩ := Int.eq_ofNat_of_zero_le d0
  exact trimmed_c nano k b w (by omega) h0 h1
theorem monthName_len (m : Int) (h0 : 1 ≤ m) (h1 : m ≤ 12) : 3 ≤ (monthName m).length ∧ (monthName m).length ≤ 9 := by
  have hm : m = 1 ∨ m = 2 ∨ m = 3 ∨ m = 4 ∨ m = 5 ∨ m = 6 ∨ m = 7 ∨ m = 8 ∨ m = 9 ∨ m = 10 ∨ m = 11 ∨ m = 12 := by omega
  rcases hm with rfl | rfl | rfl | rfl | rfl | rfl | rfl | rfl | rfl | rfl | rfl | rfl <;> decide
theorem dayName_len (m : Int) (h0 : 0 ≤ m) (h1 : m ≤ 6) : 3 ≤ (dayName m).length ∧ (dayName m).length ≤ 9 := by
  have hm : m = 0 ∨ m = 1 ∨ m = 2 ∨ m = 3 ∨ m = 4 ∨ m = 5 ∨ m = 6 := by omega
  rcases hm with rfl | rfl | rfl | rfl | rfl | rfl | rfl <;> decide
theorem weekday_bd (y m d : Int) : 0 ≤ weekday y m d ∧ weekday y m d ≤ 6 := by unfold weekday; omega
theorem hour12_bd (h : Int) : 1 ≤ hour12 h ∧ hour12 h ≤ 12 := by unfold hour12; split <;> omega
set_option maxRecDepth 100000 in
set_option maxHeartbeats 8000000 in
theorem written_c (p : Pc) (c : Civ) (w : World) (hp : pieceOk p = true) (hc : CivB c) : Calls Tryz.prog 31 #[p.val, c.val] w fun e w' => e = .returned (S (written p c)) ∧ Below w.heap.size w w' := by
  obtain ⟨hk0, hk1⟩ := pieceOk_kind hp
  have HN : Hid (isFraction p.kind = true → 1 ≤ p.n ∧ p.n ≤ 9) := fun h => pieceOk_n hp h
  obtain ⟨y0, y1, m0, m1, d0, d1, h0, h1, n0, n1, s0, s1, f0, f1, hz⟩ := hc
  obtain ⟨z1, z2, o0, o1, z5, z6⟩ := znB hz
  have hdd := days_bd c.year c.month
  have hd31 : c.day ≤ 31 := by omega
  have hml := monthName_len c.month m0 m1
  have hwd := weekday_bd c.year c.month c.day
  have hdl := dayName_len _ hwd.1 hwd.2
  have hyd := yearDay_bd c.year c.month c.day m0 m1 d0 hd31
  have hh := hour12_bd c.hour
  have HY := fun w => yearDay_c c w y0 m0 m1 d0 hd31
  have HW := fun w => weekday_c c w y0 y1 m0 m1 d0 hd31
  unfold Civ.val at HY HW
  have HY := Lib.hid HY
  have HW := Lib.hid HW
  unfold Pc.val Civ.val
  clear hp d1 hz z1 z2 z5 z6 hdd
  have HB0 : Hid (∀ o1 o2, Below w.heap.size w ((w.alloc o1).alloc o2)) := fun o1 o2 => below_next (below_new _ _) (below_new _ _)
  by_cases hf : p.kind = 33 ∨ p.kind = 34
  · have hn := HN.out (by simpa [isFraction] using hf)
    rcases hf with e | e
    all_goals
      go_enter Tryz.func31, Tryz.ntmps31
      go_wp2_with (first
        | (go_at_call 64; refine (fraction_ci _ _ _ _ (by omega) (by omega) (by omega) (by omega)).mono ?_; rintro e w1 ⟨rfl, hb⟩)
        | (go_at_call 65; refine (trimmed_ci _ _ _ _ (by omega) (by omega) (by omega) (by omega)).mono ?_; rintro e w1 ⟨rfl, hb⟩))
      go_ret
      exact ⟨ret_str (by simp [written, e]), below_next (HB0.out _ _) hb⟩
  · go_enter Tryz.func31, Tryz.ntmps31
    go_wp2_with (first
      | (go_at_call 56; refine (digits_ci _ _ _ (by omega) (by omega) (by omega) (by omega)).mono ?_; rintro e w1 ⟨rfl, hb⟩)
      | (go_at_call 60; refine (blank_ci _ _ _ (by omega) (by omega) (by omega) (by omega)).mono ?_; rintro e w1 ⟨rfl, hb⟩)
      | (go_at_call 57; refine (monthName_c _ _ (by omega) (by omega)).mono ?_; rintro e w' ⟨rfl, rfl⟩)
      | (go_at_call 58; refine (dayName_c _ _ (by omega) (by omega)).mono ?_; rintro e w' ⟨rfl, rfl⟩)
      | (go_at_call 59; refine (HW.out _).mono ?_; rintro e w1 ⟨rfl, hy⟩)
      | (go_at_call 61; refine (HY.out _).mono ?_; rintro e w1 ⟨rfl, hy⟩)
      | (go_at_call 62; refine (hour12_c _ _ (by omega)).mono ?_; rintro e w' ⟨rfl, rfl⟩)
      | (go_at_call 63; refine (half_c _ _).mono ?_; rintro e w' ⟨rfl, rfl⟩)
      | (go_at_call 50; refine (isISO_c _ _).mono ?_; rintro e w' ⟨rfl, rfl⟩)
      | (go_at_call 66; refine (zoneText_c _ _ _ (by omega) (by omega)).mono ?_; rintro e w1 ⟨rfl, hb⟩))
    all_goals
      go_ret
      refine ⟨ret_str ?_, ?_⟩
      · clear HY HW HB0 HN
        simp_all [written]
      · first
          | exact HB0.out _ _
          | exact below_next (HB0.out _ _) hb
          | exact below_next (HB0.out _ _) hy
          | exact below_next (below_next (HB0.out _ _) hy) hb
end Go.Proofs.YtndhiemagankeaaGreatDoor
