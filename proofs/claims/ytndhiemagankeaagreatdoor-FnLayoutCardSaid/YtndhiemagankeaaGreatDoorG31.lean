/-
  FnLayout (the statement: for every list of pieces, every time and every zone the call returns true, and its arguments read afterwards as they did), part 31 of 41. In this part: The walk of package time: a time is read by a layout: the loop's last round. The plain law: what the readers of numbers answer at digits that were written. The walk of package time: a time is written by a layout: what the loop reckons ahead of an element. The walk of package time: a time is written by a layout: what the loop holds behind an element. The plain law: how what is written behind an element begins. The plain law: elements that are numbers and names are read back. The walk of package time: a time is written by a layout: elements. The walk of package time: a time is written by a layout: elements. The walk of package time: a time is written by a layout: elements.
-/
import Derived.Deep.DeepCutAuto
import Derived.Test.YtndhiemagankeaaGreatDoorG05
import Derived.Test.YtndhiemagankeaaGreatDoorG12
import Derived.Test.YtndhiemagankeaaGreatDoorG15
import Derived.Test.YtndhiemagankeaaGreatDoorG23
import Derived.Test.YtndhiemagankeaaGreatDoorG25
import Derived.Test.YtndhiemagankeaaGreatDoorG26
import Derived.Test.YtndhiemagankeaaGreatDoorG28
/- The walk of package time: a time is read by a layout: the loop's last round. -/
namespace Go.Proofs.YtndhiemagankeaaGreatDoor
open Go.RowKit
set_option linter.unusedSimpArgs false
set_option linter.unusedVariables false
attribute [local simp] bs_size bs_toList bs_append bs_data bs_extract
set_option maxRecDepth 100000 in
set_option maxHeartbeats 2000000 in
theorem end69 (v : V69) (t : Bytes) (w : World) (I : Act → World → Prop) (Q : Exit → Act → World → Prop) (u : Nat → Value)
    (HN : ∀ w, Calls Tryz.prog 94 #[S v.lay] w fun e w' => e = .returned (.tuple #[S t, .int .i64 0, S []]) ∧ w' = w)
    (HSK : ∀ w, Calls Tryz.prog 95 #[S v.val, S t] w fun e w' => e = .returned (.tuple #[S [], .nilIface]) ∧ ∃ n, w' = w.drewN n)
    (hl : v.lay.length ≤ 1099511627776) (hl2 : t.length ≤ v.lay.length)
    (hQ : ∀ a2 n, At69 { v with val := [] } a2 → Q (.exit 0) a2 (w.drewN n)) :
    body69.wp Tryz.prog (Exit.then I Q) (fr69 v u) w := by
  obtain ⟨lay, val0, loc, p, am, pm, y, m, d, yd, h, mi, s, ns, z, zo, zn⟩ := v
  simp only at HN HSK hl hl2
  have HHN := Lib.hid HN
  have HHS := Lib.hid HSK
  have HQ := Lib.hid hQ
  clear HN HSK hQ
  unfold fr69
  conv => arg 2; whnf
  go_wp2_with (first
    | (go_at_call 94; refine (HHN.out _).mono ?_; rintro e w' ⟨rfl, rfl⟩)
    | (go_at_call 95; refine (HHS.out _).mono ?_; rintro e w' ⟨rfl, k2, rfl⟩))
  all_goals exact HQ.out _ _ ⟨rfl, rfl, rfl, rfl, rfl, rfl, rfl, rfl, rfl, rfl, rfl, rfl, rfl, rfl, rfl, rfl, rfl, rfl, rfl, rfl, rfl, rfl⟩
end Go.Proofs.YtndhiemagankeaaGreatDoor
/- The plain law: what the readers of numbers answer at digits that were written. -/
namespace Go.Proofs.YtndhiemagankeaaGreatDoor
open Go.RowKit
set_option linter.unusedSimpArgs false
set_option linter.unusedVariables false
theorem numD_two (c0 c1 : UInt8) : numD [c0, c1] = 10 * ((c0.toNat : Int) - 48) + ((c1.toNat : Int) - 48) := by
  simp [numD]
theorem numD_one (c0 : UInt8) : numD [c0] = (c0.toNat : Int) - 48 := by
  simp [numD]
/-- Two digits are read, whatever stands behind them. -/
theorem getn_two (x : Int) (rest : Bytes) (b : Bool) (h0 : 0 ≤ x) (h1 : x ≤ 99) (hr : rest.length ≤ 1099511627776) : Getn 102 b (digits x 2 ++ rest) x rest := by
  intro w
  obtain ⟨h2, h3⟩ := digits_law x 2 h0
  rw [digits_two x h0 (by omega)] at h2 h3 ⊢
  rw [numD_two] at h3
  have := getnum2_c (digB (x / 10)) (digB (x % 10)) rest b w (h2 _ (by simp)) (h2 _ (by simp)) hr
  rw [h3] at this
  exact this
/-- A number below a hundred without a zero ahead of it, with no digit behind it. -/
theorem getn_free (x : Int) (rest : Bytes) (h0 : 0 ≤ x) (h1 : x ≤ 99) (hr : rest.length ≤ 1099511627776) (hd : digitAt rest 0 = false) : Getn 102 false (digits x 1 ++ rest) x rest := by
  by_cases hx : x < 10
  · intro w
    obtain ⟨h2, h3⟩ := digits_law x 1 h0
    have e : digits x 1 = [digB x] := by
      unfold digits padB
      rw [dec_small x h0 (by omega)]
      rfl
    rw [e] at h2 h3 ⊢
    rw [numD_one] at h3
    have := getnum1_c (digB x) rest w (h2 _ (by simp)) hd hr
    rw [h3] at this
    exact this
  · have e : digits x 1 = digits x 2 := by
      unfold digits padB
      have hl : (dec x).length = 2 := by
        rw [dec_step x h0, if_neg (by omega), dec_small (x / 10) (by omega) (by omega)]
        rfl
      rw [hl]
    rw [e]
    exact getn_two x rest false h0 h1 hr
end Go.Proofs.YtndhiemagankeaaGreatDoor
/- The walk of package time: a time is written by a layout: what the loop reckons ahead of an element. -/
namespace Go.Proofs.YtndhiemagankeaaGreatDoor
open Go.RowKit
set_option linter.unusedSimpArgs false
set_option linter.unusedVariables false
attribute [local simp] bs_size bs_toList bs_append bs_data bs_extract
/-- What the loop holds where it turns to an element. -/
def Tl85 (c : Civ) (pb : Nat) (name : Bytes) (off abs : Int) (std code : Int) (t r : Bytes) (g : Nat) (l : Bytes) (w : World) (need : Civ → V85 → Prop) (a' : Act) (w' : World) : Prop :=
  ∃ v' g' n' cap', At85s v' std code a' ∧ v'.lay = r ∧ v'.pb = pb ∧ v'.name = name ∧ v'.off = off ∧ v'.abs = abs ∧ v'.b = .slice (some ⟨g', 0, none⟩) n' cap' ∧ Lz c v' ∧ need c v' ∧ Buf w' g' n' cap' (l ++ t) ∧ BufStep w g w' g'
/-- What comes of the element behind a text, when the loop's numbers are there. -/
def Pre85 (k256 k512 k1024 : Int) (need : Civ → V85 → Prop) : Prop :=
  ∀ (c : Civ) (v : V85) (std code : Int) (t r : Bytes) (g n cap : Nat) (l : Bytes) (w : World) (I : Act → World → Prop) (Q : Exit → Act → World → Prop) (u : Nat → Value),
    CivB c → Lz c v → v.abs = cabs c → bits .and .i64 std 256 = k256 → bits .and .i64 std 512 = k512 → bits .and .i64 std 1024 = k1024 → bits .and .i64 std 65535 = code → (std == 0) = false →
    (∀ w, StdAt w → Calls Tryz.prog 94 #[S v.lay] w fun e w' => e = .returned (.tuple #[S t, .int .i64 std, S r]) ∧ ∃ n, w' = w.drewN n) →
    v.lay ≠ [] → v.b = .slice (some ⟨g, 0, none⟩) n cap → StdAt w → Buf w g n cap l → n ≤ 274877906944 → t.length ≤ 274877906944 →
    (∀ a' w', Tl85 c v.pb v.name v.off v.abs std code t r g l w need a' w' → sw85.wp Tryz.prog (Exit.inBlock 1 (Exit.then I Q)) a' w') →
    body85.wp Tryz.prog (Exit.then I Q) (fr85 v u) w
set_option maxRecDepth 100000 in
set_option maxHeartbeats 8000000 in
theorem pre85_date : Pre85 256 0 0 (fun c v => v.y = c.year ∧ v.m = c.month ∧ v.d = c.day) := by
  intro c v std code t r g n cap l w I Q u hc hz ha a1 a2 a3 a4 hs0 HN hne hvb hw hb hn ht hT
  obtain ⟨b, lay, pb, name, off, abs, y, m, d, yd, h, mi, s⟩ := v
  obtain ⟨z1, z2, z3⟩ := hz
  simp only at z1 z2 z3 HN hne hvb hT ha
  subst hvb
  obtain ⟨cb0, cb1, cb2, cb3, cb4, cb5, -⟩ := cabs_bd hc
  have HDA : Hid (∀ w, Calls Tryz.prog 116 #[.int .u64 (abs / 86400)] w fun e w' => e = .returned (.tuple #[.int .i64 c.year, .int .i64 c.month, .int .i64 c.day]) ∧ w' = w) := fun w => by
    rw [ha, cb2]
    exact date_c _ _ _ _ hc.y0 hc.y1 hc.m0 hc.m1 hc.d0 (by have := hc.d1; have := days_bd c.year c.month; omega)
  have hy0 := hc.y0
  have Z2 := Lib.hid z2
  have Z3 := Lib.hid z3
  clear z2 z3
  have HB := Lib.hid hb
  have HW := Lib.hid hw
  have HHN := Lib.hid HN
  have HT := Lib.hid hT
  have hle : List.isEmpty lay = false := by cases lay with
    | nil => exact absurd rfl hne
    | cons => rfl
  clear hb hw HN hT hc ha cb0 cb1 cb2 cb3 cb4 cb5
  rcases z1 with rfl | ⟨rfl, rfl, rfl⟩
  all_goals
    by_cases htl : List.isEmpty t = true
    all_goals
      unfold fr85
      conv => arg 2; whnf
      go_upto_region 22 with (first
        | (go_at_call 94; refine (HHN.out _ HW.out).mono ?_; rintro e w' ⟨rfl, k, rfl⟩; have HB := Lib.hid (HB.out.drewN k); have HS : Hid (BufStep w g (w.drewN k) g) := Lib.hid (BufStep.of_below g (below_drewN w k)))
        | (go_at_call 116; refine (HDA.out _).mono ?_; rintro e w' ⟨rfl, rfl⟩)
        | (at_builtin; refine wpList_append_buf_str _ rfl _ _ rfl _ _ _ _ rfl HB.out _ rfl (by omega) ?_; intro g' cap' w' hbuf' hst'; have HB := Lib.hid hbuf'; have HS := Lib.hid (HS.out.trans hst'); clear hbuf' hst'))
      all_goals
        rename_i hK
        refine Code.wp_mono (Q := Exit.then (fun a' w' => Tl85 c pb name off abs std code t r g l w (fun c v => v.y = c.year ∧ v.m = c.month ∧ v.d = c.day) a' w') (Exit.inBlock 1 (Exit.then I Q))) ?_ ?_
        · intro e a w q
          cases e with
          | normal => exact hK _ _ (HT.out _ _ q)
          | _ => exact q
        · clear hK
          go_wp2_with fail
          refine ⟨⟨_, r, pb, name, off, abs, _, _, _, _, _, _, _⟩, _, _, _, ⟨rfl, rfl, rfl, rfl, rfl, rfl, rfl, rfl, rfl, rfl, rfl, rfl, rfl, rfl, rfl, rfl, rfl, rfl⟩, rfl, rfl, rfl, rfl, rfl, rfl, ⟨.inr ⟨rfl, rfl, rfl⟩, Z2.out, Z3.out⟩, ⟨rfl, rfl, rfl⟩, ?_, HS.out⟩
          first
            | exact HB.out
            | (rw [show t = [] by simpa using htl, List.append_nil]; exact HB.out)
set_option maxRecDepth 100000 in
set_option maxHeartbeats 8000000 in
theorem pre85_yday : Pre85 0 512 0 (fun c v => v.yd = yearDay c.year c.month c.day) := by
  intro c v std code t r g n cap l w I Q u hc hz ha a1 a2 a3 a4 hs0 HN hne hvb hw hb hn ht hT
  obtain ⟨b, lay, pb, name, off, abs, y, m, d, yd, h, mi, s⟩ := v
  obtain ⟨z1, z2, z3⟩ := hz
  simp only at z1 z2 z3 HN hne hvb hT ha
  subst hvb
  obtain ⟨cb0, cb1, cb2, cb3, cb4, cb5, -⟩ := cabs_bd hc
  have HDA : Hid (∀ w, Calls Tryz.prog 125 #[.int .u64 (abs / 86400)] w fun e w' => e = .returned (.tuple #[.int .i64 c.year, .int .i64 (yearDay c.year c.month c.day)]) ∧ w' = w) := fun w => by
    rw [ha, cb2]
    exact yearYday_c _ _ _ _ hc.y0 hc.y1 hc.m0 hc.m1 hc.d0 hc.d1
  have hy0 := (yearDay_bd c.year c.month c.day hc.m0 hc.m1 hc.d0 (by have := hc.d1; have := days_bd c.year c.month; omega)).1
  have Z1 := Lib.hid z1
  have Z3 := Lib.hid z3
  obtain ⟨q, HQ⟩ : ∃ q, Hid (q = yearDay c.year c.month c.day) := ⟨_, Lib.hid rfl⟩
  rw [← HQ.out] at HDA hy0 z2
  clear z1 z3
  have HB := Lib.hid hb
  have HW := Lib.hid hw
  have HHN := Lib.hid HN
  have HT := Lib.hid hT
  have hle : List.isEmpty lay = false := by cases lay with
    | nil => exact absurd rfl hne
    | cons => rfl
  clear hb hw HN hT hc ha cb0 cb1 cb2 cb3 cb4 cb5
  rcases z2 with rfl | rfl
  all_goals
    by_cases htl : List.isEmpty t = true
    all_goals
      unfold fr85
      conv => arg 2; whnf
      go_upto_region 22 with (first
        | (go_at_call 94; refine (HHN.out _ HW.out).mono ?_; rintro e w' ⟨rfl, k, rfl⟩; have HB := Lib.hid (HB.out.drewN k); have HS : Hid (BufStep w g (w.drewN k) g) := Lib.hid (BufStep.of_below g (below_drewN w k)))
        | (go_at_call 125; refine (HDA.out _).mono ?_; rintro e w' ⟨rfl, rfl⟩)
        | (at_builtin; refine wpList_append_buf_str _ rfl _ _ rfl _ _ _ _ rfl HB.out _ rfl (by omega) ?_; intro g' cap' w' hbuf' hst'; have HB := Lib.hid hbuf'; have HS := Lib.hid (HS.out.trans hst'); clear hbuf' hst'))
      all_goals
        rename_i hK
        refine Code.wp_mono (Q := Exit.then (fun a' w' => Tl85 c pb name off abs std code t r g l w (fun c v => v.yd = yearDay c.year c.month c.day) a' w') (Exit.inBlock 1 (Exit.then I Q))) ?_ ?_
        · intro e a w q
          cases e with
          | normal => exact hK _ _ (HT.out _ _ q)
          | _ => exact q
        · clear hK
          go_wp2_with fail
          refine ⟨⟨_, r, pb, name, off, abs, _, _, _, _, _, _, _⟩, _, _, _, ⟨rfl, rfl, rfl, rfl, rfl, rfl, rfl, rfl, rfl, rfl, rfl, rfl, rfl, rfl, rfl, rfl, rfl, rfl⟩, rfl, rfl, rfl, rfl, rfl, rfl, ⟨Z1.out, .inr HQ.out, Z3.out⟩, HQ.out, ?_, HS.out⟩
          first
            | exact HB.out
            | (rw [show t = [] by simpa using htl, List.append_nil]; exact HB.out)
set_option maxRecDepth 100000 in
set_option maxHeartbeats 8000000 in
theorem pre85_clock : Pre85 0 0 1024 (fun c v => v.h = c.hour ∧ v.mi = c.minute ∧ v.s = c.second) := by
  intro c v std code t r g n cap l w I Q u hc hz ha a1 a2 a3 a4 hs0 HN hne hvb hw hb hn ht hT
  obtain ⟨b, lay, pb, name, off, abs, y, m, d, yd, h, mi, s⟩ := v
  obtain ⟨z1, z2, z3⟩ := hz
  simp only at z1 z2 z3 HN hne hvb hT ha
  subst hvb
  obtain ⟨cb0, cb1, cb2, cb3, cb4, cb5, -⟩ := cabs_bd hc
  have HDA : Hid (∀ w, Calls Tryz.prog 117 #[.int .u64 abs] w fun e w' => e = .returned (.tuple #[.int .i64 c.hour, .int .i64 c.minute, .int .i64 c.second]) ∧ w' = w) := fun w => by
    have := clock_c (cabs c) w cb0 cb1
    rw [cb3, cb4, cb5] at this
    rw [ha]
    exact this
  have hy0 := hc.h0
  have Z1 := Lib.hid z1
  have Z2 := Lib.hid z2
  clear z1 z2
  have HB := Lib.hid hb
  have HW := Lib.hid hw
  have HHN := Lib.hid HN
  have HT := Lib.hid hT
  have hle : List.isEmpty lay = false := by cases lay with
    | nil => exact absurd rfl hne
    | cons => rfl
  clear hb hw HN hT hc ha cb0 cb1 cb2 cb3 cb4 cb5
  rcases z3 with rfl | ⟨rfl, rfl, rfl⟩
  all_goals
    by_cases htl : List.isEmpty t = true
    all_goals
      unfold fr85
      conv => arg 2; whnf
      go_upto_region 22 with (first
        | (go_at_call 94; refine (HHN.out _ HW.out).mono ?_; rintro e w' ⟨rfl, k, rfl⟩; have HB := Lib.hid (HB.out.drewN k); have HS : Hid (BufStep w g (w.drewN k) g) := Lib.hid (BufStep.of_below g (below_drewN w k)))
        | (go_at_call 117; refine (HDA.out _).mono ?_; rintro e w' ⟨rfl, rfl⟩)
        | (at_builtin; refine wpList_append_buf_str _ rfl _ _ rfl _ _ _ _ rfl HB.out _ rfl (by omega) ?_; intro g' cap' w' hbuf' hst'; have HB := Lib.hid hbuf'; have HS := Lib.hid (HS.out.trans hst'); clear hbuf' hst'))
      all_goals
        rename_i hK
        refine Code.wp_mono (Q := Exit.then (fun a' w' => Tl85 c pb name off abs std code t r g l w (fun c v => v.h = c.hour ∧ v.mi = c.minute ∧ v.s = c.second) a' w') (Exit.inBlock 1 (Exit.then I Q))) ?_ ?_
        · intro e a w q
          cases e with
          | normal => exact hK _ _ (HT.out _ _ q)
          | _ => exact q
        · clear hK
          go_wp2_with fail
          refine ⟨⟨_, r, pb, name, off, abs, _, _, _, _, _, _, _⟩, _, _, _, ⟨rfl, rfl, rfl, rfl, rfl, rfl, rfl, rfl, rfl, rfl, rfl, rfl, rfl, rfl, rfl, rfl, rfl, rfl⟩, rfl, rfl, rfl, rfl, rfl, rfl, ⟨Z1.out, Z2.out, .inr ⟨rfl, rfl, rfl⟩⟩, ⟨rfl, rfl, rfl⟩, ?_, HS.out⟩
          first
            | exact HB.out
            | (rw [show t = [] by simpa using htl, List.append_nil]; exact HB.out)
set_option maxRecDepth 100000 in
set_option maxHeartbeats 8000000 in
theorem pre85_other : Pre85 0 0 0 (fun c v => True) := by
  intro c v std code t r g n cap l w I Q u hc hz ha a1 a2 a3 a4 hs0 HN hne hvb hw hb hn ht hT
  obtain ⟨b, lay, pb, name, off, abs, y, m, d, yd, h, mi, s⟩ := v
  obtain ⟨z1, z2, z3⟩ := hz
  simp only at z1 z2 z3 HN hne hvb hT ha
  subst hvb
  obtain ⟨cb0, cb1, cb2, cb3, cb4, cb5, -⟩ := cabs_bd hc
  have Z1 := Lib.hid z1
  have Z2 := Lib.hid z2
  have Z3 := Lib.hid z3
  clear z1 z2 z3
  have HB := Lib.hid hb
  have HW := Lib.hid hw
  have HHN := Lib.hid HN
  have HT := Lib.hid hT
  have hle : List.isEmpty lay = false := by cases lay with
    | nil => exact absurd rfl hne
    | cons => rfl
  clear hb hw HN hT hc ha cb0 cb1 cb2 cb3 cb4 cb5
  · by_cases htl : List.isEmpty t = true
    all_goals
      unfold fr85
      conv => arg 2; whnf
      go_upto_region 22 with (first
        | (go_at_call 94; refine (HHN.out _ HW.out).mono ?_; rintro e w' ⟨rfl, k, rfl⟩; have HB := Lib.hid (HB.out.drewN k); have HS : Hid (BufStep w g (w.drewN k) g) := Lib.hid (BufStep.of_below g (below_drewN w k)))
        | (at_builtin; refine wpList_append_buf_str _ rfl _ _ rfl _ _ _ _ rfl HB.out _ rfl (by omega) ?_; intro g' cap' w' hbuf' hst'; have HB := Lib.hid hbuf'; have HS := Lib.hid (HS.out.trans hst'); clear hbuf' hst'))
      all_goals
        rename_i hK
        refine Code.wp_mono (Q := Exit.then (fun a' w' => Tl85 c pb name off abs std code t r g l w (fun c v => True) a' w') (Exit.inBlock 1 (Exit.then I Q))) ?_ ?_
        · intro e a w q
          cases e with
          | normal => exact hK _ _ (HT.out _ _ q)
          | _ => exact q
        · clear hK
          go_wp2_with fail
          refine ⟨⟨_, r, pb, name, off, abs, _, _, _, _, _, _, _⟩, _, _, _, ⟨rfl, rfl, rfl, rfl, rfl, rfl, rfl, rfl, rfl, rfl, rfl, rfl, rfl, rfl, rfl, rfl, rfl, rfl⟩, rfl, rfl, rfl, rfl, rfl, rfl, ⟨Z1.out, Z2.out, Z3.out⟩, trivial, ?_, HS.out⟩
          first
            | exact HB.out
            | (rw [show t = [] by simpa using htl, List.append_nil]; exact HB.out)
/-- What the loop holds where it is left. -/
def Ex85 (g : Nat) (l : Bytes) (w : World) (a' : Act) (w' : World) : Prop :=
  ∃ g' n' cap' v', At85 v' a' ∧ v'.b = .slice (some ⟨g', 0, none⟩) n' cap' ∧ Buf w' g' n' cap' l ∧ BufStep w g w' g'
set_option maxRecDepth 100000 in
set_option maxHeartbeats 8000000 in
theorem end85 (v : V85) (g n cap : Nat) (l : Bytes) (w : World) (I : Act → World → Prop) (Q : Exit → Act → World → Prop) (u : Nat → Value)
    (HN : ∀ w, Calls Tryz.prog 94 #[S v.lay] w fun e w' => e = .returned (.tuple #[S v.lay, .int .i64 0, S []]) ∧ w' = w)
    (hvb : v.b = .slice (some ⟨g, 0, none⟩) n cap) (hb : Buf w g n cap l) (hn : n ≤ 274877906944) (ht : v.lay.length ≤ 274877906944)
    (hQ : ∀ a' w', Ex85 g (l ++ v.lay) w a' w' → Q (.exit 0) a' w') :
    body85.wp Tryz.prog (Exit.then I Q) (fr85 v u) w := by
  obtain ⟨b, lay, pb, name, off, abs, y, m, d, yd, h, mi, s⟩ := v
  simp only at HN hvb ht hQ
  subst hvb
  have HB := Lib.hid hb
  have HHN := Lib.hid HN
  have HQ := Lib.hid hQ
  clear hb HN hQ
  by_cases htl : List.isEmpty lay = true
  all_goals
    unfold fr85
    conv => arg 2; whnf
    go_wp2_with (first
        | (go_at_call 94; refine (HHN.out _).mono ?_; rintro e w' ⟨rfl, rfl⟩; have HS : Hid (BufStep w' g w' g) := Lib.hid (BufStep.refl w' g))
        | (at_builtin; refine wpList_append_buf_str _ rfl _ _ rfl _ _ _ _ rfl HB.out _ rfl (by omega) ?_; intro g' cap' w' hbuf' hst'; have HB := Lib.hid hbuf'; have HS := Lib.hid (HS.out.trans hst'); clear hbuf' hst'))
    first
      | exact HQ.out _ _ ⟨_, _, _, ⟨_, _, _, _, _, _, _, _, _, _, _, _, _⟩, ⟨rfl, rfl, rfl, rfl, rfl, rfl, rfl, rfl, rfl, rfl, rfl, rfl, rfl, rfl, rfl, rfl⟩, rfl, HB.out, HS.out⟩
      | exact HQ.out _ _ ⟨_, _, _, ⟨_, lay, pb, name, off, abs, _, _, _, _, _, _, _⟩, ⟨rfl, rfl, rfl, rfl, rfl, rfl, rfl, rfl, rfl, rfl, rfl, rfl, rfl, rfl, rfl, rfl⟩, rfl, by rw [show lay = [] by simpa using htl, List.append_nil]; exact HB.out, BufStep.refl _ _⟩
      | exact HQ.out _ _ ⟨_, _, _, ⟨_, lay, pb, name, off, abs, _, _, _, _, _, _, _⟩, ⟨rfl, rfl, rfl, rfl, rfl, rfl, rfl, rfl, rfl, rfl, rfl, rfl, rfl, rfl, rfl, rfl⟩, rfl, HB.out, HS.out⟩
end Go.Proofs.YtndhiemagankeaaGreatDoor
/- The walk of package time: a time is written by a layout: what the loop holds behind an element. -/
namespace Go.Proofs.YtndhiemagankeaaGreatDoor
open Go.RowKit
set_option linter.unusedSimpArgs false
set_option linter.unusedVariables false
attribute [local simp] bs_size bs_toList bs_append bs_data bs_extract
/-- What the loop holds behind an element. -/
def Nx85 (v : V85) (txt : Bytes) (g : Nat) (l : Bytes) (w : World) (a' : Act) (w' : World) : Prop :=
  ∃ g' n' cap', At85 { v with b := .slice (some ⟨g', 0, none⟩) n' cap' } a' ∧ Buf w' g' n' cap' (l ++ txt) ∧ BufStep w g w' g'
/-- An element's code writes its text. -/
def Tail85 (std code : Int) (need : Civ → V85 → World → Prop) (txt : Civ → Bytes) : Prop :=
  ∀ (c : Civ) (v : V85) (g n cap : Nat) (l : Bytes) (w : World) (I : Act → World → Prop) (Q : Exit → Act → World → Prop) (u : Nat → Value),
    CivB c → need c v w → v.b = .slice (some ⟨g, 0, none⟩) n cap → Buf w g n cap l → n ≤ 274877906944 → (∀ a' w', Nx85 v (txt c) g l w a' w' → I a' w') →
    sw85.wp Tryz.prog (Exit.inBlock 1 (Exit.then I Q)) (fr85s v std code u) w
theorem digits_01 (n : Int) : digits n 0 = digits n 1 := by
  unfold digits padB
  have : 1 ≤ (dec n).length := by
    unfold dec
    rw [decN]
    split <;> simp
  rw [show 0 - (dec n).length = 0 by omega, show 1 - (dec n).length = 0 by omega]
theorem digs_len120 (n : Int) (wd : Nat) (hn : n ≤ 9223372036854775807) (hwd : wd ≤ 100) : (digits n wd).length ≤ 120 := by
  have := dec_len n hn
  simp [digits, padB]; omega
theorem monthName_len9 (m : Int) (h0 : 1 ≤ m) (h1 : m ≤ 12) : 3 ≤ (monthName m).length ∧ (monthName m).length ≤ 9 := by
  have : m = 1 ∨ m = 2 ∨ m = 3 ∨ m = 4 ∨ m = 5 ∨ m = 6 ∨ m = 7 ∨ m = 8 ∨ m = 9 ∨ m = 10 ∨ m = 11 ∨ m = 12 := by omega
  rcases this with rfl | rfl | rfl | rfl | rfl | rfl | rfl | rfl | rfl | rfl | rfl | rfl <;> decide
theorem dayName_len9 (d : Int) (h0 : 0 ≤ d) (h1 : d ≤ 6) : 3 ≤ (dayName d).length ∧ (dayName d).length ≤ 9 := by
  have : d = 0 ∨ d = 1 ∨ d = 2 ∨ d = 3 ∨ d = 4 ∨ d = 5 ∨ d = 6 := by omega
  rcases this with rfl | rfl | rfl | rfl | rfl | rfl | rfl <;> decide
theorem blank2 (d : Int) (h0 : 0 ≤ d) (h1 : d ≤ 99) : Hid (blank d 2 = if d < 10 then [32] ++ digits d 0 else digits d 0) := by
  show _ = _
  unfold blank digits padB
  by_cases h : d < 10
  · rw [if_pos h, dec_small d h0 (by omega)]; rfl
  · rw [if_neg h, dec_step d h0, if_neg (by omega), dec_small (d / 10) (by omega) (by omega)]; rfl
theorem blank3 (d : Int) (h0 : 0 ≤ d) (h1 : d ≤ 999) : Hid (blank d 3 = if d < 100 then (if d < 10 then [32] ++ ([32] ++ digits d 0) else [32] ++ digits d 0) else digits d 0) := by
  show _ = _
  unfold blank digits padB
  by_cases h : d < 100
  · rw [if_pos h]
    by_cases h' : d < 10
    · rw [if_pos h', dec_small d h0 (by omega)]; rfl
    · rw [if_neg h', dec_step d h0, if_neg (by omega), dec_small (d / 10) (by omega) (by omega)]; rfl
  · rw [if_neg h, dec_step d h0, if_neg (by omega), dec_step (d / 10) (by omega), if_neg (by omega), dec_small (d / 10 / 10) (by omega) (by omega)]; rfl
end Go.Proofs.YtndhiemagankeaaGreatDoor
/- The plain law: how what is written behind an element begins. -/
namespace Go.Proofs.YtndhiemagankeaaGreatDoor
open Go.RowKit
set_option linter.unusedVariables false
set_option linter.unusedSimpArgs false
/-- A text that begins with no digit, point or comma. -/
def Quiet (s : Bytes) : Prop := s = [] ∨ ∃ c t, s = c :: t ∧ isD c = false ∧ (c == 46 || c == 44) = false
theorem Quiet.digit {s : Bytes} (h : Quiet s) : digitAt s 0 = false := by
  rcases h with rfl | ⟨c, t, rfl, h, -⟩
  · rfl
  · simpa [digitAt] using h
theorem quiet_cons {c : UInt8} {t : Bytes} (h : ¬ (48 ≤ c.toNat ∧ c.toNat ≤ 57)) (h1 : c.toNat ≠ 46) (h2 : c.toNat ≠ 44) : Quiet (c :: t) := by
  refine .inr ⟨c, t, rfl, ?_, ?_⟩
  · rw [Bool.eq_false_iff]; intro e; exact h ((isD_iff c).1 e)
  · rw [u8_beq, u8_beq]
    simp [h1, h2]
theorem written_cons (p : Pc) (r : List Pc) (c : Civ) : writtenAll (p :: r) c = written p c ++ writtenAll r c := by simp [writtenAll]
theorem written_plain {p : Pc} (h : p.kind = 0) (c : Civ) : written p c = p.text := by simp [written, h]
theorem written_21 {p : Pc} (h : p.kind = 21) (c : Civ) : written p c = halfB c.hour := by simp [written, h]
theorem written_33 {p : Pc} (h : p.kind = 33) (c : Civ) : written p c = fraction c.nano p.n.toNat p.comma := by simp [written, h]
theorem written_34 {p : Pc} (h : p.kind = 34) (c : Civ) : written p c = trimmed c.nano p.n.toNat p.comma := by simp [written, h]
theorem written_iso {p : Pc} (h : isISO p.kind = true) (c : Civ) : written p c = if c.zone.off = 0 then [90] else zoneText p.kind c.zone.off := by
  obtain ⟨k, t, n, b⟩ := p
  simp [isISO, within] at h
  have : k = 27 ∨ k = 28 ∨ k = 29 ∨ k = 30 ∨ k = 31 := by omega
  rcases this with rfl | rfl | rfl | rfl | rfl <;> simp [written, isISO, within]
theorem zoneText_head (k off : Int) : ∃ c t, zoneText k off = c :: t ∧ (c = 43 ∨ c = 45) := by
  have h : ∀ m s b, ∃ c t, offsetText off m s b = c :: t ∧ (c = 43 ∨ c = 45) := by
    intro m s b
    unfold offsetText
    by_cases ho : off < 0
    · simp [ho]
    · simp [ho]
  unfold zoneText
  split
  · exact h _ _ _
  split
  · exact h _ _ _
  split
  · exact h _ _ _
  split
  · exact h _ _ _
  exact h _ _ _
theorem text_quiet {b : Pc} (h0 : b.kind = 0) (hb : pieceOk b = true) (c : Civ) (s : Bytes) : ∃ ch t, written b c ++ s = ch :: t ∧ signB ch = true := by
  obtain ⟨-, ch, t, hcs, hsg, -⟩ := pieceOk_plain h0 hb
  exact ⟨ch, t ++ s, by rw [written_plain h0, hcs]; rfl, hsg⟩
theorem sign_quiet {ch : UInt8} (h : signB ch = true) (t : Bytes) : Quiet (ch :: t) := by
  have := signB_nat h
  exact quiet_cons (by omega) (by omega) (by omega)
/-- Behind an element that is no second, nothing begins with a digit, a point or a comma. -/
theorem q_nonsec {e : Pc} {r : List Pc} (hs : SufOk (e :: r)) (h0 : e.kind ≠ 0) (hn : isSecond e.kind = false) (c : Civ) : Quiet (writtenAll r c) := by
  cases r with
  | nil => exact .inl rfl
  | cons b r =>
    have hb := hs.all b (by simp)
    have hl : linkOk e b = true := by
      have := hs.chain
      simp [chainOk] at this
      exact this.1
    rw [written_cons]
    by_cases hb0 : b.kind = 0
    · obtain ⟨ch, t, he, hsg⟩ := text_quiet hb0 hb c (writtenAll r c)
      rw [he]
      exact sign_quiet hsg t
    · have ht : touch e.kind b.kind = true := by
        simp [linkOk, hb0, h0] at hl
        exact hl
      unfold touch at ht
      by_cases hf : isFraction b.kind = true
      · rw [if_pos hf, hn] at ht
        exact absurd ht (by decide)
      · rw [if_neg hf] at ht
        by_cases h21 : b.kind = 21
        · rw [written_21 h21]
          unfold halfB
          split <;> exact quiet_cons (by decide) (by decide) (by decide)
        · rw [if_neg h21] at ht
          by_cases hi : isISO b.kind = true
          · rw [written_iso hi]
            split
            · exact quiet_cons (by decide) (by decide) (by decide)
            · obtain ⟨ch, t, he, hc⟩ := zoneText_head b.kind c.zone.off
              rw [he]
              rcases hc with rfl | rfl <;> exact quiet_cons (by decide) (by decide) (by decide)
          · rw [if_neg hi] at ht
            exact absurd ht (by simp)
theorem up_32 {e : Pc} {r : List Pc} (hs : SufOk (e :: r)) (h32 : e.kind = 32) (c : Civ) : upFirst (writtenAll r c) = false := by
  cases r with
  | nil => rfl
  | cons b r =>
    have hb := hs.all b (by simp)
    have hl : linkOk e b = true := by
      have := hs.chain
      simp [chainOk] at this
      exact this.1
    rw [written_cons]
    by_cases hb0 : b.kind = 0
    · obtain ⟨ch, t, he, hsg⟩ := text_quiet hb0 hb c (writtenAll r c)
      rw [he]
      have := signB_nat hsg
      simp [upFirst, upperB]
      omega
    · have ht : touch e.kind b.kind = true := by
        simp [linkOk, hb0, h32] at hl
        rw [h32]
        exact hl
      rw [h32] at ht
      unfold touch at ht
      split at ht
      · exact absurd ht (by decide)
      split at ht
      · exact absurd ht (by decide)
      split at ht
      · exact absurd ht (by decide)
      exact absurd ht (by decide)
/-- The digits of a number below a power of ten. -/
theorem dec_len_pow (w : Nat) (x : Int) (h0 : 0 ≤ x) (h1 : x < 10 ^ (w + 1)) : 1 ≤ (dec x).length ∧ (dec x).length ≤ w + 1 := by
  induction w generalizing x with
  | zero =>
    rw [dec_small x h0 (by simp at h1; omega)]
    simp
  | succ w ih =>
    rw [dec_step x h0]
    by_cases hx : x / 10 = 0
    · rw [if_pos hx]
      simp
    · rw [if_neg hx]
      have hp : (10 : Int) ^ (w + 1 + 1) = 10 ^ (w + 1) * 10 := Int.pow_succ 10 (w + 1)
      rw [hp] at h1
      have := ih (x / 10) (by omega) (by omega)
      simp
      omega
theorem digits_length (w : Nat) (x : Int) (h0 : 0 ≤ x) (hw : 1 ≤ w) (h1 : x < 10 ^ w) : (digits x w).length = w := by
  obtain ⟨k, rfl⟩ : ∃ k, w = k + 1 := ⟨w - 1, by omega⟩
  have := dec_len_pow k x h0 h1
  unfold digits padB
  simp
  omega
theorem quo_rng (nano : Int) (n : Nat) (h0 : 0 ≤ nano) (h1 : nano ≤ 999999999) (hn : n ≤ 9) : 0 ≤ nano / power (9 - n) ∧ nano / power (9 - n) < 10 ^ n := by
  unfold power
  refine ⟨Int.ediv_nonneg h0 (Int.le_of_lt (Int.pow_pos (by decide))), ?_⟩
  rw [Int.ediv_lt_iff_lt_mul (Int.pow_pos (by decide))]
  have : (10 : Int) ^ n * 10 ^ (9 - n) = 1000000000 := by
    rw [← Int.pow_add]
    have : n + (9 - n) = 9 := by omega
    rw [this]
    decide
  omega
theorem trimD_law (d : Nat) (x : Int) (h0 : 0 ≤ x) (h1 : x < 10 ^ d) : (trimD d x).1 ≤ d ∧ 0 ≤ (trimD d x).2 ∧ (trimD d x).2 < 10 ^ (trimD d x).1 ∧ (trimD d x).2 * 10 ^ (d - (trimD d x).1) = x := by
  induction d generalizing x with
  | zero =>
    simp at h1
    have : x = 0 := by omega
    subst this
    simp [trimD]
  | succ d ih =>
    by_cases hx : x % 10 = 0
    · rw [trimD_go d x hx]
      have hp : (10 : Int) ^ (d + 1) = 10 ^ d * 10 := Int.pow_succ 10 d
      rw [hp] at h1
      obtain ⟨i1, i2, i3, i4⟩ := ih (x / 10) (by omega) (by omega)
      refine ⟨by omega, i2, i3, ?_⟩
      have : d + 1 - (trimD d (x / 10)).1 = (d - (trimD d (x / 10)).1) + 1 := by omega
      rw [this, Int.pow_succ, ← Int.mul_assoc, i4]
      omega
    · rw [trimD_stop (d + 1) x (.inr hx)]
      exact ⟨Nat.le_refl _, h0, h1, by simp⟩
/-- A fraction: a mark and its digits. -/
theorem fraction_parts (nano : Int) (n : Nat) (b : Bool) (h0 : 0 ≤ nano) (h1 : nano ≤ 999999999) (n1 : 1 ≤ n) (n9 : n ≤ 9) :
    ∃ m ds, fraction nano n b = m :: ds ∧ (m == 46 || m == 44) = true ∧ ds.length = n ∧ (∀ c ∈ ds, isD c = true) ∧ numD ds * 10 ^ (9 - ds.length) = cut nano n := by
  obtain ⟨q0, q1⟩ := quo_rng nano n h0 h1 n9
  obtain ⟨d1, d2⟩ := digits_law (nano / power (9 - n)) n q0
  have hl := digits_length n _ q0 n1 q1
  refine ⟨if b = true then 44 else 46, digits (nano / power (9 - n)) n, ?_, ?_, hl, d1, ?_⟩
  · unfold fraction mark
    cases b <;> rfl
  · cases b <;> decide
  · rw [hl, d2]
    rfl
theorem trimmed_parts (nano : Int) (n : Nat) (b : Bool) (h0 : 0 ≤ nano) (h1 : nano ≤ 999999999) (n9 : n ≤ 9) :
    (trimmed nano n b = [] ∧ cut nano n = 0) ∨ ∃ m d ds, trimmed nano n b = m :: ((d :: ds)) ∧ (m == 46 || m == 44) = true ∧ ds.length ≤ 8 ∧ (∀ c ∈ d :: ds, isD c = true) ∧ numD (d :: ds) * 10 ^ (9 - (d :: ds).length) = cut nano n := by
  obtain ⟨q0, q1⟩ := quo_rng nano n h0 h1 n9
  obtain ⟨t1, t2, t3, t4⟩ := trimD_law n _ q0 q1
  unfold trimmed cut
  simp only
  generalize trimD n (nano / power (9 - n)) = r at *
  obtain ⟨k, y⟩ := r
  simp only at t1 t2 t3 t4 ⊢
  by_cases hk : k = 0
  · subst hk
    simp at t3
    have hy : y = 0 := by omega
    subst hy
    left
    refine ⟨by simp, ?_⟩
    rw [← t4]
    simp
  · right
    rw [if_neg hk]
    obtain ⟨d1, d2⟩ := digits_law y k t2
    have hl := digits_length k y t2 (by omega) t3
    cases hds : digits y k with
    | nil => rw [hds] at hl; simp at hl; omega
    | cons d ds =>
      rw [hds] at d1 d2 hl
      refine ⟨if b = true then 44 else 46, d, ds, ?_, ?_, ?_, d1, ?_⟩
      · unfold mark
        cases b <;> rfl
      · cases b <;> decide
      · simp at hl; omega
      · rw [d2, hl, ← t4]
        have : 9 - k = (n - k) + (9 - n) := by omega
        rw [this, Int.pow_add, ← Int.mul_assoc]
        rfl
/-- Behind seconds: nothing that is a fraction, or a fraction that the layout has. -/
theorem q_sec {e : Pc} {r : List Pc} (hs : SufOk (e :: r)) (h0 : isSecond e.kind = true) (c : Civ) (f0 : 0 ≤ c.nano) (f1 : c.nano ≤ 999999999) :
    Quiet (writtenAll r c) ∨ ∃ f r2 m d t, r = f :: r2 ∧ isFraction f.kind = true ∧ writtenAll r c = m :: d :: t ∧ (m == 46 || m == 44) = true ∧ isD d = true := by
  have he0 : e.kind ≠ 0 := by
    intro h
    rw [h] at h0
    exact absurd h0 (by decide)
  cases r with
  | nil => exact .inl (.inl rfl)
  | cons b r =>
    have hb := hs.all b (by simp)
    by_cases hf : isFraction b.kind = true
    · have hk : b.kind = 33 ∨ b.kind = 34 := by simpa [isFraction] using hf
      have hn : 1 ≤ b.n ∧ b.n ≤ 9 := by
        have hb0 : b.kind ≠ 0 := by omega
        unfold pieceOk at hb
        rw [if_neg hb0, if_pos hf] at hb
        simp [within] at hb
        exact hb.2
      have hq : Quiet (writtenAll r c) := q_nonsec hs.tail (by omega) (by rcases hk with h | h <;> rw [h] <;> decide) c
      rw [written_cons]
      rcases hk with h | h
      · rw [written_33 h]
        obtain ⟨m, ds, e1, e2, e3, e4, -⟩ := fraction_parts c.nano b.n.toNat b.comma f0 f1 (by omega) (by omega)
        rw [e1]
        cases ds with
        | nil => simp at e3; omega
        | cons d ds => exact .inr ⟨b, r, m, d, ds ++ writtenAll r c, rfl, hf, rfl, e2, e4 d (by simp)⟩
      · rw [written_34 h]
        rcases trimmed_parts c.nano b.n.toNat b.comma f0 f1 (by omega) with ⟨e1, -⟩ | ⟨m, d, ds, e1, e2, -, e4, -⟩
        · rw [e1]
          exact .inl hq
        · rw [e1]
          exact .inr ⟨b, r, m, d, ds ++ writtenAll r c, rfl, hf, rfl, e2, e4 d (by simp)⟩
    · left
      have hl : linkOk e b = true := by
        have := hs.chain
        simp [chainOk] at this
        exact this.1
      rw [written_cons]
      by_cases hb0 : b.kind = 0
      · obtain ⟨ch, t, he, hsg⟩ := text_quiet hb0 hb c (writtenAll r c)
        rw [he]
        exact sign_quiet hsg t
      · have ht : touch e.kind b.kind = true := by
          simp [linkOk, hb0, he0] at hl
          exact hl
        unfold touch at ht
        rw [if_neg hf] at ht
        by_cases h21 : b.kind = 21
        · rw [written_21 h21]
          unfold halfB
          split <;> exact quiet_cons (by decide) (by decide) (by decide)
        · rw [if_neg h21] at ht
          by_cases hi : isISO b.kind = true
          · rw [written_iso hi]
            split
            · exact quiet_cons (by decide) (by decide) (by decide)
            · obtain ⟨ch, t, he, hc⟩ := zoneText_head b.kind c.zone.off
              rw [he]
              rcases hc with rfl | rfl <;> exact quiet_cons (by decide) (by decide) (by decide)
          · rw [if_neg hi] at ht
            exact absurd ht (by simp)
end Go.Proofs.YtndhiemagankeaaGreatDoor
/- The plain law: elements that are numbers and names are read back. -/
namespace Go.Proofs.YtndhiemagankeaaGreatDoor
open Go.RowKit
set_option linter.unusedVariables false
set_option linter.unusedSimpArgs false
theorem elem_1 (c : Civ) (hc : CivB c) (t : Bytes) (n : Int) (b : Bool) (rest : Bytes) (v : V69) (hmx : v.val.length ≤ 1000000000) (hval : v.val = digits c.year 4 ++ rest) :
    Par69R 275 275 v (fun v2 w => Step ⟨1, t, n, b⟩ c rest v v2 w) := by
  have hr : rest.length ≤ 1000000000 := by rw [hval] at hmx; simp at hmx; omega
  obtain ⟨d1, d2⟩ := digits_law c.year 4 hc.y0
  have hl : (digits c.year 4).length = 4 := digits_length 4 _ hc.y0 (by decide) (by have := hc.y1; omega)
  exact (chain69_1 v _ (hand69_1 v (digits c.year 4) rest hval (by omega) hl d1)).r fun w => by rw [d2]; constructor <;> first | rfl | exact .inr (.inr ⟨rfl, rfl⟩) | exact .inr ⟨rfl, rfl⟩ | (simp [within, isFraction]; done) | (simp [within, isFraction]; omega)
theorem elem_2 (c : Civ) (hc : CivB c) (t : Bytes) (n : Int) (b : Bool) (rest : Bytes) (v : V69) (hmx : v.val.length ≤ 1000000000) (hy : 1969 ≤ c.year ∧ c.year ≤ 2068) (hval : v.val = digits (c.year % 100) 2 ++ rest) :
    Par69R 276 276 v (fun v2 w => Step ⟨2, t, n, b⟩ c rest v v2 w) := by
  obtain ⟨d1, d2⟩ := digits_law (c.year % 100) 2 (by omega)
  have hl : (digits (c.year % 100) 2).length = 2 := digits_length 2 _ (by omega) (by decide) (by omega)
  by_cases h69 : 69 ≤ c.year % 100
  · have e : numD (digits (c.year % 100) 2) + 1900 = c.year := by rw [d2]; omega
    exact (chain69_2 v _ (hand69_2a v (digits (c.year % 100) 2) rest hval (by omega) hl d1 (by rw [d2]; exact h69))).r fun w => by rw [e]; constructor <;> first | rfl | exact .inr (.inr ⟨rfl, rfl⟩) | exact .inr ⟨rfl, rfl⟩ | (simp [within, isFraction]; done) | (simp [within, isFraction]; omega)
  · have e : numD (digits (c.year % 100) 2) + 2000 = c.year := by rw [d2]; omega
    exact (chain69_2 v _ (hand69_2b v (digits (c.year % 100) 2) rest hval (by omega) hl d1 (by rw [d2]; omega))).r fun w => by rw [e]; constructor <;> first | rfl | exact .inr (.inr ⟨rfl, rfl⟩) | exact .inr ⟨rfl, rfl⟩ | (simp [within, isFraction]; done) | (simp [within, isFraction]; omega)
theorem short_getD (l : List Bytes) (k : Nat) : (short l).getD k [] = (l.getD k []).take 3 := by
  unfold short
  simp only [List.getD_eq_getElem?_getD, List.getElem?_map]
  cases l[k]? <;> rfl
theorem elem_3 (c : Civ) (hc : CivB c) (t : Bytes) (n : Int) (b : Bool) (rest : Bytes) (v : V69) (hmx : v.val.length ≤ 1000000000) (hval : v.val = monthName c.month ++ rest) :
    Par69R 257 257 v (fun v2 w => Step ⟨3, t, n, b⟩ c rest v v2 w) := by
  have hr : rest.length ≤ 1000000000 := by rw [hval] at hmx; simp at hmx; omega
  have hb0 := hc.m0
  have hb1 := hc.m1
  have e : ((c.month - 1).toNat : Int) + 1 = c.month := by omega
  have hg := monthLook monthNames (.inl rfl) c.month hc.m0 hc.m1 rest hr
  unfold monthName at hval
  rw [← hval] at hg
  exact (par69_3 v _ rest (by omega) hg).r fun w => by rw [e]; constructor <;> first | rfl | exact .inr (.inr ⟨rfl, rfl⟩) | exact .inr ⟨rfl, rfl⟩ | (simp [within, isFraction]; done) | (simp [within, isFraction]; omega)
theorem elem_4 (c : Civ) (hc : CivB c) (t : Bytes) (n : Int) (b : Bool) (rest : Bytes) (v : V69) (hmx : v.val.length ≤ 1000000000) (hval : v.val = (monthName c.month).take 3 ++ rest) :
    Par69R 258 258 v (fun v2 w => Step ⟨4, t, n, b⟩ c rest v v2 w) := by
  have hr : rest.length ≤ 1000000000 := by rw [hval] at hmx; simp at hmx; omega
  have hb0 := hc.m0
  have hb1 := hc.m1
  have e : ((c.month - 1).toNat : Int) + 1 = c.month := by omega
  have hg := monthLook (short monthNames) (.inr rfl) c.month hc.m0 hc.m1 rest hr
  unfold monthName at hval
  rw [← short_getD] at hval
  rw [← hval] at hg
  exact (par69_4 v _ rest (by omega) hg).r fun w => by rw [e]; constructor <;> first | rfl | exact .inr (.inr ⟨rfl, rfl⟩) | exact .inr ⟨rfl, rfl⟩ | (simp [within, isFraction]; done) | (simp [within, isFraction]; omega)
theorem elem_7 (c : Civ) (hc : CivB c) (t : Bytes) (n : Int) (b : Bool) (rest : Bytes) (v : V69) (hmx : v.val.length ≤ 1000000000) (hval : v.val = dayName (weekday c.year c.month c.day) ++ rest) :
    Par69R 261 261 v (fun v2 w => Step ⟨7, t, n, b⟩ c rest v v2 w) := by
  have hr : rest.length ≤ 1000000000 := by rw [hval] at hmx; simp at hmx; omega
  obtain ⟨w0, w1⟩ := weekday_bd c.year c.month c.day
  have hg := dayLook dayNames (.inl rfl) _ w0 w1 rest hr
  unfold dayName at hval
  rw [← hval] at hg
  exact (par69_7 v _ rest (by omega) hg).r fun w => by constructor <;> first | rfl | exact .inr (.inr ⟨rfl, rfl⟩) | exact .inr ⟨rfl, rfl⟩ | (simp [within, isFraction]; done) | (simp [within, isFraction]; omega)
theorem elem_8 (c : Civ) (hc : CivB c) (t : Bytes) (n : Int) (b : Bool) (rest : Bytes) (v : V69) (hmx : v.val.length ≤ 1000000000) (hval : v.val = (dayName (weekday c.year c.month c.day)).take 3 ++ rest) :
    Par69R 262 262 v (fun v2 w => Step ⟨8, t, n, b⟩ c rest v v2 w) := by
  have hr : rest.length ≤ 1000000000 := by rw [hval] at hmx; simp at hmx; omega
  obtain ⟨w0, w1⟩ := weekday_bd c.year c.month c.day
  have hg := dayLook (short dayNames) (.inr rfl) _ w0 w1 rest hr
  unfold dayName at hval
  rw [← short_getD] at hval
  rw [← hval] at hg
  exact (par69_8 v _ rest (by omega) hg).r fun w => by constructor <;> first | rfl | exact .inr (.inr ⟨rfl, rfl⟩) | exact .inr ⟨rfl, rfl⟩ | (simp [within, isFraction]; done) | (simp [within, isFraction]; omega)
theorem elem_5 (c : Civ) (hc : CivB c) (t : Bytes) (n : Int) (b : Bool) (rest : Bytes) (v : V69) (hmx : v.val.length ≤ 1000000000) (hval : v.val = digits c.month 2 ++ rest) :
    Par69R 260 260 v (fun v2 w => Step ⟨5, t, n, b⟩ c rest v v2 w) := by
  have hr : rest.length ≤ 1000000000 := by rw [hval] at hmx; simp at hmx; omega
  have hb0 := hc.m0
  have hb1 := hc.m1
  have hg : Getn 102 true v.val c.month rest := by rw [hval]; exact getn_two c.month rest true (by omega) (by omega) (by omega)
  exact (par69_5 v c.month rest hg (by omega) (by omega)).r fun w => by constructor <;> first | rfl | exact .inr (.inr ⟨rfl, rfl⟩) | exact .inr ⟨rfl, rfl⟩ | (simp [within, isFraction]; done) | (simp [within, isFraction]; omega)
theorem elem_6 (c : Civ) (hc : CivB c) (t : Bytes) (n : Int) (b : Bool) (rest : Bytes) (v : V69) (hmx : v.val.length ≤ 1000000000) (hd : digitAt rest 0 = false) (hval : v.val = digits c.month 1 ++ rest) :
    Par69R 259 259 v (fun v2 w => Step ⟨6, t, n, b⟩ c rest v v2 w) := by
  have hr : rest.length ≤ 1000000000 := by rw [hval] at hmx; simp at hmx; omega
  have hb0 := hc.m0
  have hb1 := hc.m1
  have hg : Getn 102 false v.val c.month rest := by rw [hval]; exact getn_free c.month rest (by omega) (by omega) (by omega) hd
  exact (par69_6 v c.month rest hg (by omega) (by omega)).r fun w => by constructor <;> first | rfl | exact .inr (.inr ⟨rfl, rfl⟩) | exact .inr ⟨rfl, rfl⟩ | (simp [within, isFraction]; done) | (simp [within, isFraction]; omega)
theorem elem_9 (c : Civ) (hc : CivB c) (t : Bytes) (n : Int) (b : Bool) (rest : Bytes) (v : V69) (hmx : v.val.length ≤ 1000000000) (hd : digitAt rest 0 = false) (hval : v.val = digits c.day 1 ++ rest) :
    Par69R 263 263 v (fun v2 w => Step ⟨9, t, n, b⟩ c rest v v2 w) := by
  have hr : rest.length ≤ 1000000000 := by rw [hval] at hmx; simp at hmx; omega
  have hb0 := hc.d0
  have hb1 := hc.d1
  have hb2 := days_bd' c.year c.month
  have hg : Getn 102 false v.val c.day rest := by rw [hval]; exact getn_free c.day rest (by omega) (by omega) (by omega) hd
  exact (par69_9 v c.day rest hg (by omega) (by omega)).r fun w => by constructor <;> first | rfl | exact .inr (.inr ⟨rfl, rfl⟩) | exact .inr ⟨rfl, rfl⟩ | (simp [within, isFraction]; done) | (simp [within, isFraction]; omega)
theorem elem_11 (c : Civ) (hc : CivB c) (t : Bytes) (n : Int) (b : Bool) (rest : Bytes) (v : V69) (hmx : v.val.length ≤ 1000000000) (hval : v.val = digits c.day 2 ++ rest) :
    Par69R 265 265 v (fun v2 w => Step ⟨11, t, n, b⟩ c rest v v2 w) := by
  have hr : rest.length ≤ 1000000000 := by rw [hval] at hmx; simp at hmx; omega
  have hb0 := hc.d0
  have hb1 := hc.d1
  have hb2 := days_bd' c.year c.month
  have hg : Getn 102 true v.val c.day rest := by rw [hval]; exact getn_two c.day rest true (by omega) (by omega) (by omega)
  exact (par69_11 v c.day rest hg (by omega) (by omega)).r fun w => by constructor <;> first | rfl | exact .inr (.inr ⟨rfl, rfl⟩) | exact .inr ⟨rfl, rfl⟩ | (simp [within, isFraction]; done) | (simp [within, isFraction]; omega)
theorem elem_14 (c : Civ) (hc : CivB c) (t : Bytes) (n : Int) (b : Bool) (rest : Bytes) (v : V69) (hmx : v.val.length ≤ 1000000000) (hval : v.val = digits c.hour 2 ++ rest) :
    Par69R 1036 1036 v (fun v2 w => Step ⟨14, t, n, b⟩ c rest v v2 w) := by
  have hr : rest.length ≤ 1000000000 := by rw [hval] at hmx; simp at hmx; omega
  have hb0 := hc.h0
  have hb1 := hc.h1
  have hg : Getn 102 false v.val c.hour rest := by rw [hval]; exact getn_two c.hour rest false (by omega) (by omega) (by omega)
  exact (par69_14 v c.hour rest hg (by omega) (by omega)).r fun w => by constructor <;> first | rfl | exact .inr (.inr ⟨rfl, rfl⟩) | exact .inr ⟨rfl, rfl⟩ | (simp [within, isFraction]; done) | (simp [within, isFraction]; omega)
theorem elem_15 (c : Civ) (hc : CivB c) (t : Bytes) (n : Int) (b : Bool) (rest : Bytes) (v : V69) (hmx : v.val.length ≤ 1000000000) (hd : digitAt rest 0 = false) (hval : v.val = digits (hour12 c.hour) 1 ++ rest) :
    Par69R 1037 1037 v (fun v2 w => Step ⟨15, t, n, b⟩ c rest v v2 w) := by
  have hr : rest.length ≤ 1000000000 := by rw [hval] at hmx; simp at hmx; omega
  have hb := hour12_bd c.hour
  have hg : Getn 102 false v.val (hour12 c.hour) rest := by rw [hval]; exact getn_free (hour12 c.hour) rest (by omega) (by omega) (by omega) hd
  exact (par69_15 v (hour12 c.hour) rest hg (by omega) (by omega)).r fun w => by constructor <;> first | rfl | exact .inr (.inr ⟨rfl, rfl⟩) | exact .inr ⟨rfl, rfl⟩ | (simp [within, isFraction]; done) | (simp [within, isFraction]; omega)
theorem elem_16 (c : Civ) (hc : CivB c) (t : Bytes) (n : Int) (b : Bool) (rest : Bytes) (v : V69) (hmx : v.val.length ≤ 1000000000) (hval : v.val = digits (hour12 c.hour) 2 ++ rest) :
    Par69R 1038 1038 v (fun v2 w => Step ⟨16, t, n, b⟩ c rest v v2 w) := by
  have hr : rest.length ≤ 1000000000 := by rw [hval] at hmx; simp at hmx; omega
  have hb := hour12_bd c.hour
  have hg : Getn 102 true v.val (hour12 c.hour) rest := by rw [hval]; exact getn_two (hour12 c.hour) rest true (by omega) (by omega) (by omega)
  exact (par69_16 v (hour12 c.hour) rest hg (by omega) (by omega)).r fun w => by constructor <;> first | rfl | exact .inr (.inr ⟨rfl, rfl⟩) | exact .inr ⟨rfl, rfl⟩ | (simp [within, isFraction]; done) | (simp [within, isFraction]; omega)
theorem elem_17 (c : Civ) (hc : CivB c) (t : Bytes) (n : Int) (b : Bool) (rest : Bytes) (v : V69) (hmx : v.val.length ≤ 1000000000) (hd : digitAt rest 0 = false) (hval : v.val = digits c.minute 1 ++ rest) :
    Par69R 1039 1039 v (fun v2 w => Step ⟨17, t, n, b⟩ c rest v v2 w) := by
  have hr : rest.length ≤ 1000000000 := by rw [hval] at hmx; simp at hmx; omega
  have hb0 := hc.n0
  have hb1 := hc.n1
  have hg : Getn 102 false v.val c.minute rest := by rw [hval]; exact getn_free c.minute rest (by omega) (by omega) (by omega) hd
  exact (par69_17 v c.minute rest hg (by omega) (by omega)).r fun w => by constructor <;> first | rfl | exact .inr (.inr ⟨rfl, rfl⟩) | exact .inr ⟨rfl, rfl⟩ | (simp [within, isFraction]; done) | (simp [within, isFraction]; omega)
theorem elem_18 (c : Civ) (hc : CivB c) (t : Bytes) (n : Int) (b : Bool) (rest : Bytes) (v : V69) (hmx : v.val.length ≤ 1000000000) (hval : v.val = digits c.minute 2 ++ rest) :
    Par69R 1040 1040 v (fun v2 w => Step ⟨18, t, n, b⟩ c rest v v2 w) := by
  have hr : rest.length ≤ 1000000000 := by rw [hval] at hmx; simp at hmx; omega
  have hb0 := hc.n0
  have hb1 := hc.n1
  have hg : Getn 102 true v.val c.minute rest := by rw [hval]; exact getn_two c.minute rest true (by omega) (by omega) (by omega)
  exact (par69_18 v c.minute rest hg (by omega) (by omega)).r fun w => by constructor <;> first | rfl | exact .inr (.inr ⟨rfl, rfl⟩) | exact .inr ⟨rfl, rfl⟩ | (simp [within, isFraction]; done) | (simp [within, isFraction]; omega)
theorem digits1_head (x : Int) (h0 : 0 ≤ x) (w : Nat) (rest : Bytes) : ∃ ch t, digits x (w + 1) ++ rest = ch :: t ∧ isD ch = true := by
  obtain ⟨d1, d2⟩ := digits_law x (w + 1) h0
  cases hd : digits x (w + 1) with
  | nil =>
    have : (digits x (w + 1)).length = 0 := by rw [hd]; rfl
    unfold digits padB at this
    rw [List.length_append, List.length_replicate] at this
    omega
  | cons ch t =>
    rw [hd] at d1
    exact ⟨ch, t ++ rest, rfl, d1 ch (by simp)⟩
theorem elem_10 (c : Civ) (hc : CivB c) (t : Bytes) (n : Int) (b : Bool) (rest : Bytes) (v : V69) (hmx : v.val.length ≤ 1000000000) (hd : digitAt rest 0 = false) (hval : v.val = digits c.day 1 ++ rest ∨ v.val = 32 :: (digits c.day 1 ++ rest)) :
    Par69R 264 264 v (fun v2 w => Step ⟨10, t, n, b⟩ c rest v v2 w) := by
  have hr : rest.length ≤ 1000000000 := by rcases hval with h | h <;> rw [h] at hmx <;> simp at hmx <;> omega
  have hb0 := hc.d0
  have hb1 := hc.d1
  have hb2 := days_bd' c.year c.month
  have hg : Getn 102 false (digits c.day 1 ++ rest) c.day rest := getn_free c.day rest (by omega) (by omega) (by omega) hd
  rcases hval with h | h
  · obtain ⟨ch, s, hh, hch⟩ := digits1_head c.day (by omega) 0 rest
    rw [← h] at hg
    exact (par69_10a v c.day rest hg ch s (h.trans hh) (by have := (isD_iff ch).1 hch; omega) (by omega) (by omega) (by omega)).r fun w => by constructor <;> first | rfl | exact .inr (.inr ⟨rfl, rfl⟩) | exact .inr ⟨rfl, rfl⟩ | (simp [within, isFraction]; done) | (simp [within, isFraction]; omega)
  · exact (chain69_10 v _ (hand69_10b v c.day _ rest hg h (by omega) (by omega) (by omega))).r fun w => by constructor <;> first | rfl | exact .inr (.inr ⟨rfl, rfl⟩) | exact .inr ⟨rfl, rfl⟩ | (simp [within, isFraction]; done) | (simp [within, isFraction]; omega)
end Go.Proofs.YtndhiemagankeaaGreatDoor
/- The walk of package time: a time is written by a layout: elements. -/
namespace Go.Proofs.YtndhiemagankeaaGreatDoor
open Go.RowKit
set_option linter.unusedSimpArgs false
set_option linter.unusedVariables false
attribute [local simp] bs_size bs_toList bs_append bs_data bs_extract
set_option maxRecDepth 100000 in
set_option maxHeartbeats 4000000 in
theorem tail85_1 : Tail85 275 275 (fun c v _ => v.y = c.year ∧ v.m = c.month ∧ v.d = c.day) (fun c => digits c.year 4) := by
  intro c v g n cap l w I Q u hc hneed hvb hb hn hI
  obtain ⟨b, lay, pb, name, off, abs, y, m, d, yd, h, mi, s⟩ := v
  obtain ⟨h1, h2, h3⟩ := hneed
  simp only at hvb
  subst hvb
  simp only at h1 h2 h3
  subst h1 h2 h3
  have hcy := hc.y0
  have hcy1 := hc.y1
  have hcm := hc.m0
  have hcm1 := hc.m1
  have hcd := hc.d0
  have hcd1 : c.day ≤ 31 := by have := hc.d1; have := days_bd c.year c.month; omega
  have hch := hc.h0
  have hch1 := hc.h1
  have hcn := hc.n0
  have hcn1 := hc.n1
  have hcs := hc.s0
  have hcs1 := hc.s1
  have hl0 := hb.len
  have HB := Lib.hid hb
  have HS : Hid (BufStep w g w g) := Lib.hid (BufStep.refl w g)
  have HI := Lib.hid hI
  clear hb hI hc
  unfold fr85s
  conv => arg 2; whnf
  go_wp2_with (first
    | (go_at_call 78; refine (appendInt_c c.year 4 _ _ _ _ _ HB.out (by omega) (by omega) (by omega) (by omega)).mono ?_; rintro e w1 ⟨g1, n1, cap1, rfl, hb1, hs1⟩; have hl1 := hb1.len; have hl3 := digs_len120 c.year 4 (by omega) (by omega); simp only [List.length_append] at hl1; have HB := Lib.hid hb1; have HS := Lib.hid (HS.out.trans hs1); clear hb1 hs1))
  all_goals exact HI.out _ _ ⟨g1, _, cap1, ⟨rfl, rfl, rfl, rfl, rfl, rfl, rfl, rfl, rfl, rfl, rfl, rfl, rfl, rfl, rfl, rfl⟩, by exact HB.out, HS.out⟩
set_option maxRecDepth 100000 in
set_option maxHeartbeats 4000000 in
theorem tail85_2 : Tail85 276 276 (fun c v _ => v.y = c.year ∧ v.m = c.month ∧ v.d = c.day) (fun c => digits (c.year % 100) 2) := by
  intro c v g n cap l w I Q u hc hneed hvb hb hn hI
  obtain ⟨b, lay, pb, name, off, abs, y, m, d, yd, h, mi, s⟩ := v
  obtain ⟨h1, h2, h3⟩ := hneed
  simp only at hvb
  subst hvb
  simp only at h1 h2 h3
  subst h1 h2 h3
  have hm : c.year.tmod 100 = c.year % 100 := Int.tmod_eq_emod_of_nonneg hc.y0
  have hcy := hc.y0
  have hcy1 := hc.y1
  have hcm := hc.m0
  have hcm1 := hc.m1
  have hcd := hc.d0
  have hcd1 : c.day ≤ 31 := by have := hc.d1; have := days_bd c.year c.month; omega
  have hch := hc.h0
  have hch1 := hc.h1
  have hcn := hc.n0
  have hcn1 := hc.n1
  have hcs := hc.s0
  have hcs1 := hc.s1
  have hl0 := hb.len
  have HB := Lib.hid hb
  have HS : Hid (BufStep w g w g) := Lib.hid (BufStep.refl w g)
  have HI := Lib.hid hI
  clear hb hI hc
  unfold fr85s
  conv => arg 2; whnf
  go_wp2_with (first
    | (go_at_call 78; refine (appendInt_c (c.year % 100) 2 _ _ _ _ _ HB.out (by omega) (by omega) (by omega) (by omega)).mono ?_; rintro e w1 ⟨g1, n1, cap1, rfl, hb1, hs1⟩; have hl1 := hb1.len; have hl3 := digs_len120 (c.year % 100) 2 (by omega) (by omega); simp only [List.length_append] at hl1; have HB := Lib.hid hb1; have HS := Lib.hid (HS.out.trans hs1); clear hb1 hs1))
  all_goals exact HI.out _ _ ⟨g1, _, cap1, ⟨rfl, rfl, rfl, rfl, rfl, rfl, rfl, rfl, rfl, rfl, rfl, rfl, rfl, rfl, rfl, rfl⟩, by exact HB.out, HS.out⟩
set_option maxRecDepth 100000 in
set_option maxHeartbeats 4000000 in
theorem tail85_3 : Tail85 257 257 (fun c v _ => v.y = c.year ∧ v.m = c.month ∧ v.d = c.day) (fun c => monthName c.month) := by
  intro c v g n cap l w I Q u hc hneed hvb hb hn hI
  obtain ⟨b, lay, pb, name, off, abs, y, m, d, yd, h, mi, s⟩ := v
  obtain ⟨h1, h2, h3⟩ := hneed
  simp only at hvb
  subst hvb
  simp only at h1 h2 h3
  subst h1 h2 h3
  have hml := monthName_len9 c.month hc.m0 hc.m1
  have hcy := hc.y0
  have hcy1 := hc.y1
  have hcm := hc.m0
  have hcm1 := hc.m1
  have hcd := hc.d0
  have hcd1 : c.day ≤ 31 := by have := hc.d1; have := days_bd c.year c.month; omega
  have hch := hc.h0
  have hch1 := hc.h1
  have hcn := hc.n0
  have hcn1 := hc.n1
  have hcs := hc.s0
  have hcs1 := hc.s1
  have hl0 := hb.len
  have HB := Lib.hid hb
  have HS : Hid (BufStep w g w g) := Lib.hid (BufStep.refl w g)
  have HI := Lib.hid hI
  clear hb hI hc
  unfold fr85s
  conv => arg 2; whnf
  go_wp2_with (first
    | (go_at_call 126; refine (monthString_c _ _ (by omega) (by omega)).mono ?_; rintro e w1 ⟨rfl, hbel⟩; have HB := Lib.hid (HB.out.kept hbel); have HS := Lib.hid (HS.out.trans (.of_below _ hbel)); clear hbel)
    | (at_builtin; refine wpList_append_buf_str _ rfl _ _ rfl _ _ _ _ rfl HB.out _ rfl (by omega) ?_; intro g1 cap1 w1 hb1 hs1; have hl1 := hb1.len; have HB := Lib.hid hb1; have HS := Lib.hid (HS.out.trans hs1); clear hb1 hs1))
  all_goals exact HI.out _ _ ⟨g1, _, cap1, ⟨rfl, rfl, rfl, rfl, rfl, rfl, rfl, rfl, rfl, rfl, rfl, rfl, rfl, rfl, rfl, rfl⟩, by exact HB.out, HS.out⟩
set_option maxRecDepth 100000 in
set_option maxHeartbeats 4000000 in
theorem tail85_4 : Tail85 258 258 (fun c v _ => v.y = c.year ∧ v.m = c.month ∧ v.d = c.day) (fun c => (monthName c.month).take 3) := by
  intro c v g n cap l w I Q u hc hneed hvb hb hn hI
  obtain ⟨b, lay, pb, name, off, abs, y, m, d, yd, h, mi, s⟩ := v
  obtain ⟨h1, h2, h3⟩ := hneed
  simp only at hvb
  subst hvb
  simp only at h1 h2 h3
  subst h1 h2 h3
  have hml := monthName_len9 c.month hc.m0 hc.m1
  have htk : ((monthName c.month).take 3).length = 3 := by simp; omega
  have hcy := hc.y0
  have hcy1 := hc.y1
  have hcm := hc.m0
  have hcm1 := hc.m1
  have hcd := hc.d0
  have hcd1 : c.day ≤ 31 := by have := hc.d1; have := days_bd c.year c.month; omega
  have hch := hc.h0
  have hch1 := hc.h1
  have hcn := hc.n0
  have hcn1 := hc.n1
  have hcs := hc.s0
  have hcs1 := hc.s1
  have hl0 := hb.len
  have HB := Lib.hid hb
  have HS : Hid (BufStep w g w g) := Lib.hid (BufStep.refl w g)
  have HI := Lib.hid hI
  clear hb hI hc
  unfold fr85s
  conv => arg 2; whnf
  go_wp2_with (first
    | (go_at_call 126; refine (monthString_c _ _ (by omega) (by omega)).mono ?_; rintro e w1 ⟨rfl, hbel⟩; have HB := Lib.hid (HB.out.kept hbel); have HS := Lib.hid (HS.out.trans (.of_below _ hbel)); clear hbel)
    | (at_builtin; refine wpList_append_buf_str _ rfl _ _ rfl _ _ _ _ rfl HB.out _ rfl (by omega) ?_; intro g1 cap1 w1 hb1 hs1; have hl1 := hb1.len; have HB := Lib.hid hb1; have HS := Lib.hid (HS.out.trans hs1); clear hb1 hs1))
  all_goals exact HI.out _ _ ⟨g1, _, cap1, ⟨rfl, rfl, rfl, rfl, rfl, rfl, rfl, rfl, rfl, rfl, rfl, rfl, rfl, rfl, rfl, rfl⟩, by (have h := HB.out; rw [htk] at h; exact h), HS.out⟩
set_option maxRecDepth 100000 in
set_option maxHeartbeats 4000000 in
theorem tail85_5 : Tail85 260 260 (fun c v _ => v.y = c.year ∧ v.m = c.month ∧ v.d = c.day) (fun c => digits c.month 2) := by
  intro c v g n cap l w I Q u hc hneed hvb hb hn hI
  obtain ⟨b, lay, pb, name, off, abs, y, m, d, yd, h, mi, s⟩ := v
  obtain ⟨h1, h2, h3⟩ := hneed
  simp only at hvb
  subst hvb
  simp only at h1 h2 h3
  subst h1 h2 h3
  have hcy := hc.y0
  have hcy1 := hc.y1
  have hcm := hc.m0
  have hcm1 := hc.m1
  have hcd := hc.d0
  have hcd1 : c.day ≤ 31 := by have := hc.d1; have := days_bd c.year c.month; omega
  have hch := hc.h0
  have hch1 := hc.h1
  have hcn := hc.n0
  have hcn1 := hc.n1
  have hcs := hc.s0
  have hcs1 := hc.s1
  have hl0 := hb.len
  have HB := Lib.hid hb
  have HS : Hid (BufStep w g w g) := Lib.hid (BufStep.refl w g)
  have HI := Lib.hid hI
  clear hb hI hc
  unfold fr85s
  conv => arg 2; whnf
  go_wp2_with (first
    | (go_at_call 78; refine (appendInt_c c.month 2 _ _ _ _ _ HB.out (by omega) (by omega) (by omega) (by omega)).mono ?_; rintro e w1 ⟨g1, n1, cap1, rfl, hb1, hs1⟩; have hl1 := hb1.len; have hl3 := digs_len120 c.month 2 (by omega) (by omega); simp only [List.length_append] at hl1; have HB := Lib.hid hb1; have HS := Lib.hid (HS.out.trans hs1); clear hb1 hs1))
  all_goals exact HI.out _ _ ⟨g1, _, cap1, ⟨rfl, rfl, rfl, rfl, rfl, rfl, rfl, rfl, rfl, rfl, rfl, rfl, rfl, rfl, rfl, rfl⟩, by exact HB.out, HS.out⟩
set_option maxRecDepth 100000 in
set_option maxHeartbeats 4000000 in
theorem tail85_6 : Tail85 259 259 (fun c v _ => v.y = c.year ∧ v.m = c.month ∧ v.d = c.day) (fun c => digits c.month 1) := by
  intro c v g n cap l w I Q u hc hneed hvb hb hn hI
  obtain ⟨b, lay, pb, name, off, abs, y, m, d, yd, h, mi, s⟩ := v
  obtain ⟨h1, h2, h3⟩ := hneed
  simp only at hvb
  subst hvb
  simp only at h1 h2 h3
  subst h1 h2 h3
  have hcy := hc.y0
  have hcy1 := hc.y1
  have hcm := hc.m0
  have hcm1 := hc.m1
  have hcd := hc.d0
  have hcd1 : c.day ≤ 31 := by have := hc.d1; have := days_bd c.year c.month; omega
  have hch := hc.h0
  have hch1 := hc.h1
  have hcn := hc.n0
  have hcn1 := hc.n1
  have hcs := hc.s0
  have hcs1 := hc.s1
  have hl0 := hb.len
  have HB := Lib.hid hb
  have HS : Hid (BufStep w g w g) := Lib.hid (BufStep.refl w g)
  have HI := Lib.hid hI
  clear hb hI hc
  unfold fr85s
  conv => arg 2; whnf
  go_wp2_with (first
    | (go_at_call 78; refine (appendInt_c c.month 0 _ _ _ _ _ HB.out (by omega) (by omega) (by omega) (by omega)).mono ?_; rintro e w1 ⟨g1, n1, cap1, rfl, hb1, hs1⟩; have hl1 := hb1.len; have hl3 := digs_len120 c.month 0 (by omega) (by omega); simp only [List.length_append] at hl1; have HB := Lib.hid hb1; have HS := Lib.hid (HS.out.trans hs1); clear hb1 hs1))
  all_goals exact HI.out _ _ ⟨g1, _, cap1, ⟨rfl, rfl, rfl, rfl, rfl, rfl, rfl, rfl, rfl, rfl, rfl, rfl, rfl, rfl, rfl, rfl⟩, by (rw [← digits_01]; exact HB.out), HS.out⟩
set_option maxRecDepth 100000 in
set_option maxHeartbeats 4000000 in
theorem tail85_9 : Tail85 263 263 (fun c v _ => v.y = c.year ∧ v.m = c.month ∧ v.d = c.day) (fun c => digits c.day 1) := by
  intro c v g n cap l w I Q u hc hneed hvb hb hn hI
  obtain ⟨b, lay, pb, name, off, abs, y, m, d, yd, h, mi, s⟩ := v
  obtain ⟨h1, h2, h3⟩ := hneed
  simp only at hvb
  subst hvb
  simp only at h1 h2 h3
  subst h1 h2 h3
  have hcy := hc.y0
  have hcy1 := hc.y1
  have hcm := hc.m0
  have hcm1 := hc.m1
  have hcd := hc.d0
  have hcd1 : c.day ≤ 31 := by have := hc.d1; have := days_bd c.year c.month; omega
  have hch := hc.h0
  have hch1 := hc.h1
  have hcn := hc.n0
  have hcn1 := hc.n1
  have hcs := hc.s0
  have hcs1 := hc.s1
  have hl0 := hb.len
  have HB := Lib.hid hb
  have HS : Hid (BufStep w g w g) := Lib.hid (BufStep.refl w g)
  have HI := Lib.hid hI
  clear hb hI hc
  unfold fr85s
  conv => arg 2; whnf
  go_wp2_with (first
    | (go_at_call 78; refine (appendInt_c c.day 0 _ _ _ _ _ HB.out (by omega) (by omega) (by omega) (by omega)).mono ?_; rintro e w1 ⟨g1, n1, cap1, rfl, hb1, hs1⟩; have hl1 := hb1.len; have hl3 := digs_len120 c.day 0 (by omega) (by omega); simp only [List.length_append] at hl1; have HB := Lib.hid hb1; have HS := Lib.hid (HS.out.trans hs1); clear hb1 hs1))
  all_goals exact HI.out _ _ ⟨g1, _, cap1, ⟨rfl, rfl, rfl, rfl, rfl, rfl, rfl, rfl, rfl, rfl, rfl, rfl, rfl, rfl, rfl, rfl⟩, by (rw [← digits_01]; exact HB.out), HS.out⟩
set_option maxRecDepth 100000 in
set_option maxHeartbeats 4000000 in
theorem tail85_11 : Tail85 265 265 (fun c v _ => v.y = c.year ∧ v.m = c.month ∧ v.d = c.day) (fun c => digits c.day 2) := by
  intro c v g n cap l w I Q u hc hneed hvb hb hn hI
  obtain ⟨b, lay, pb, name, off, abs, y, m, d, yd, h, mi, s⟩ := v
  obtain ⟨h1, h2, h3⟩ := hneed
  simp only at hvb
  subst hvb
  simp only at h1 h2 h3
  subst h1 h2 h3
  have hcy := hc.y0
  have hcy1 := hc.y1
  have hcm := hc.m0
  have hcm1 := hc.m1
  have hcd := hc.d0
  have hcd1 : c.day ≤ 31 := by have := hc.d1; have := days_bd c.year c.month; omega
  have hch := hc.h0
  have hch1 := hc.h1
  have hcn := hc.n0
  have hcn1 := hc.n1
  have hcs := hc.s0
  have hcs1 := hc.s1
  have hl0 := hb.len
  have HB := Lib.hid hb
  have HS : Hid (BufStep w g w g) := Lib.hid (BufStep.refl w g)
  have HI := Lib.hid hI
  clear hb hI hc
  unfold fr85s
  conv => arg 2; whnf
  go_wp2_with (first
    | (go_at_call 78; refine (appendInt_c c.day 2 _ _ _ _ _ HB.out (by omega) (by omega) (by omega) (by omega)).mono ?_; rintro e w1 ⟨g1, n1, cap1, rfl, hb1, hs1⟩; have hl1 := hb1.len; have hl3 := digs_len120 c.day 2 (by omega) (by omega); simp only [List.length_append] at hl1; have HB := Lib.hid hb1; have HS := Lib.hid (HS.out.trans hs1); clear hb1 hs1))
  all_goals exact HI.out _ _ ⟨g1, _, cap1, ⟨rfl, rfl, rfl, rfl, rfl, rfl, rfl, rfl, rfl, rfl, rfl, rfl, rfl, rfl, rfl, rfl⟩, by exact HB.out, HS.out⟩
end Go.Proofs.YtndhiemagankeaaGreatDoor
/- The walk of package time: a time is written by a layout: elements. -/
namespace Go.Proofs.YtndhiemagankeaaGreatDoor
open Go.RowKit
set_option linter.unusedSimpArgs false
set_option linter.unusedVariables false
attribute [local simp] bs_size bs_toList bs_append bs_data bs_extract
set_option maxRecDepth 100000 in
set_option maxHeartbeats 4000000 in
theorem tail85_7 : Tail85 261 261 (fun c v _ => v.abs = cabs c) (fun c => dayName ((cabs c / 86400 + 3) % 7)) := by
  intro c v g n cap l w I Q u hc hneed hvb hb hn hI
  obtain ⟨b, lay, pb, name, off, abs, y, m, d, yd, h, mi, s⟩ := v
  have h1 := hneed
  clear hneed
  simp only at hvb
  subst hvb
  obtain ⟨hq1, hq2, -⟩ := cabs_bd hc
  simp only at h1
  subst h1
  have hml := dayName_len9 ((cabs c / 86400 + 3) % 7) (by omega) (by omega)
  have htk : ((dayName ((cabs c / 86400 + 3) % 7)).take 3).length = 3 := by simp; omega
  have hcy := hc.y0
  have hcy1 := hc.y1
  have hcm := hc.m0
  have hcm1 := hc.m1
  have hcd := hc.d0
  have hcd1 : c.day ≤ 31 := by have := hc.d1; have := days_bd c.year c.month; omega
  have hch := hc.h0
  have hch1 := hc.h1
  have hcn := hc.n0
  have hcn1 := hc.n1
  have hcs := hc.s0
  have hcs1 := hc.s1
  have hl0 := hb.len
  have HB := Lib.hid hb
  have HS : Hid (BufStep w g w g) := Lib.hid (BufStep.refl w g)
  have HI := Lib.hid hI
  clear hb hI hc
  unfold fr85s
  conv => arg 2; whnf
  go_wp2_with (first
    | (go_at_call 127; refine (weekdayOf_c _ _ (by omega) (by omega)).mono ?_; rintro e w1 ⟨rfl, rfl⟩)
    | (go_at_call 128; refine (dayString_c _ _ (by omega) (by omega)).mono ?_; rintro e w1 ⟨rfl, hbel⟩; have HB := Lib.hid (HB.out.kept hbel); have HS := Lib.hid (HS.out.trans (.of_below _ hbel)); clear hbel)
    | (at_builtin; refine wpList_append_buf_str _ rfl _ _ rfl _ _ _ _ rfl HB.out _ rfl (by omega) ?_; intro g1 cap1 w1 hb1 hs1; have hl1 := hb1.len; have HB := Lib.hid hb1; have HS := Lib.hid (HS.out.trans hs1); clear hb1 hs1))
  all_goals exact HI.out _ _ ⟨g1, _, cap1, ⟨rfl, rfl, rfl, rfl, rfl, rfl, rfl, rfl, rfl, rfl, rfl, rfl, rfl, rfl, rfl, rfl⟩, by exact HB.out, HS.out⟩
set_option maxRecDepth 100000 in
set_option maxHeartbeats 4000000 in
theorem tail85_8 : Tail85 262 262 (fun c v _ => v.abs = cabs c) (fun c => (dayName ((cabs c / 86400 + 3) % 7)).take 3) := by
  intro c v g n cap l w I Q u hc hneed hvb hb hn hI
  obtain ⟨b, lay, pb, name, off, abs, y, m, d, yd, h, mi, s⟩ := v
  have h1 := hneed
  clear hneed
  simp only at hvb
  subst hvb
  obtain ⟨hq1, hq2, -⟩ := cabs_bd hc
  simp only at h1
  subst h1
  have hml := dayName_len9 ((cabs c / 86400 + 3) % 7) (by omega) (by omega)
  have htk : ((dayName ((cabs c / 86400 + 3) % 7)).take 3).length = 3 := by simp; omega
  have hcy := hc.y0
  have hcy1 := hc.y1
  have hcm := hc.m0
  have hcm1 := hc.m1
  have hcd := hc.d0
  have hcd1 : c.day ≤ 31 := by have := hc.d1; have := days_bd c.year c.month; omega
  have hch := hc.h0
  have hch1 := hc.h1
  have hcn := hc.n0
  have hcn1 := hc.n1
  have hcs := hc.s0
  have hcs1 := hc.s1
  have hl0 := hb.len
  have HB := Lib.hid hb
  have HS : Hid (BufStep w g w g) := Lib.hid (BufStep.refl w g)
  have HI := Lib.hid hI
  clear hb hI hc
  unfold fr85s
  conv => arg 2; whnf
  go_wp2_with (first
    | (go_at_call 127; refine (weekdayOf_c _ _ (by omega) (by omega)).mono ?_; rintro e w1 ⟨rfl, rfl⟩)
    | (go_at_call 128; refine (dayString_c _ _ (by omega) (by omega)).mono ?_; rintro e w1 ⟨rfl, hbel⟩; have HB := Lib.hid (HB.out.kept hbel); have HS := Lib.hid (HS.out.trans (.of_below _ hbel)); clear hbel)
    | (at_builtin; refine wpList_append_buf_str _ rfl _ _ rfl _ _ _ _ rfl HB.out _ rfl (by omega) ?_; intro g1 cap1 w1 hb1 hs1; have hl1 := hb1.len; have HB := Lib.hid hb1; have HS := Lib.hid (HS.out.trans hs1); clear hb1 hs1))
  all_goals exact HI.out _ _ ⟨g1, _, cap1, ⟨rfl, rfl, rfl, rfl, rfl, rfl, rfl, rfl, rfl, rfl, rfl, rfl, rfl, rfl, rfl, rfl⟩, by (have h := HB.out; rw [htk] at h; exact h), HS.out⟩
set_option maxRecDepth 100000 in
set_option maxHeartbeats 4000000 in
theorem tail85_10 : Tail85 264 264 (fun c v _ => v.y = c.year ∧ v.m = c.month ∧ v.d = c.day) (fun c => blank c.day 2) := by
  intro c v g n cap l w I Q u hc hneed hvb hb hn hI
  obtain ⟨b, lay, pb, name, off, abs, y, m, d, yd, h, mi, s⟩ := v
  obtain ⟨h1, h2, h3⟩ := hneed
  simp only at hvb
  subst hvb
  simp only at h1 h2 h3
  subst h1 h2 h3
  have HT2 : Hid (blank c.day 2 = if c.day < 10 then [32] ++ digits c.day 0 else digits c.day 0) := blank2 c.day (by have := hc.d0; omega) (by have := hc.d1; have := days_bd c.year c.month; omega)
  have hcy := hc.y0
  have hcy1 := hc.y1
  have hcm := hc.m0
  have hcm1 := hc.m1
  have hcd := hc.d0
  have hcd1 : c.day ≤ 31 := by have := hc.d1; have := days_bd c.year c.month; omega
  have hch := hc.h0
  have hch1 := hc.h1
  have hcn := hc.n0
  have hcn1 := hc.n1
  have hcs := hc.s0
  have hcs1 := hc.s1
  have hl0 := hb.len
  have HB := Lib.hid hb
  have HS : Hid (BufStep w g w g) := Lib.hid (BufStep.refl w g)
  have HI := Lib.hid hI
  clear hb hI hc
  unfold fr85s
  conv => arg 2; whnf
  go_wp2_with (first
    | (at_builtin; refine wpList_append_bufL _ rfl _ _ rfl _ _ _ _ rfl HB.out 1 [32] _ rfl rfl rfl (by omega) (by omega) ?_; intro g1 cap1 w1 hb1 hs1; have hl1 := hb1.len; have HB := Lib.hid hb1; have HS := Lib.hid (HS.out.trans hs1); clear hb1 hs1)
    | (go_at_call 78; refine (appendInt_c c.day 0 _ _ _ _ _ HB.out (by omega) (by omega) (by omega) (by omega)).mono ?_; rintro e w1 ⟨g1, n1, cap1, rfl, hb1, hs1⟩; have hl1 := hb1.len; have hl3 := digs_len120 c.day 0 (by omega) (by omega); simp only [List.length_append] at hl1; have HB := Lib.hid hb1; have HS := Lib.hid (HS.out.trans hs1); clear hb1 hs1))
  all_goals exact HI.out _ _ ⟨g1, _, cap1, ⟨rfl, rfl, rfl, rfl, rfl, rfl, rfl, rfl, rfl, rfl, rfl, rfl, rfl, rfl, rfl, rfl⟩, by (rw [HT2.out]; first | (rw [if_pos (by omega), ← List.append_assoc]; exact HB.out) | (rw [if_neg (by omega)]; exact HB.out)), HS.out⟩
set_option maxRecDepth 100000 in
set_option maxHeartbeats 4000000 in
theorem tail85_12 : Tail85 522 522 (fun c v _ => v.yd = yearDay c.year c.month c.day) (fun c => blank (yearDay c.year c.month c.day) 3) := by
  intro c v g n cap l w I Q u hc hneed hvb hb hn hI
  obtain ⟨b, lay, pb, name, off, abs, y, m, d, yd, h, mi, s⟩ := v
  have h1 := hneed
  clear hneed
  simp only at hvb
  subst hvb
  have hy := yearDay_bd c.year c.month c.day hc.m0 hc.m1 hc.d0 (by have := hc.d1; have := days_bd c.year c.month; omega)
  simp only at h1
  obtain ⟨q, HQ⟩ : ∃ q, Hid (q = yearDay c.year c.month c.day) := ⟨_, Lib.hid rfl⟩
  dsimp only at hI
  rw [← HQ.out] at hI h1 hy
  subst h1
  have HT2 : Hid (blank yd 3 = if yd < 100 then (if yd < 10 then [32] ++ ([32] ++ digits yd 0) else [32] ++ digits yd 0) else digits yd 0) := blank3 yd (by omega) (by omega)
  have hcy := hc.y0
  have hcy1 := hc.y1
  have hcm := hc.m0
  have hcm1 := hc.m1
  have hcd := hc.d0
  have hcd1 : c.day ≤ 31 := by have := hc.d1; have := days_bd c.year c.month; omega
  have hch := hc.h0
  have hch1 := hc.h1
  have hcn := hc.n0
  have hcn1 := hc.n1
  have hcs := hc.s0
  have hcs1 := hc.s1
  have hl0 := hb.len
  have HB := Lib.hid hb
  have HS : Hid (BufStep w g w g) := Lib.hid (BufStep.refl w g)
  have HI := Lib.hid hI
  clear hb hI hc
  unfold fr85s
  conv => arg 2; whnf
  go_wp2_with (first
    | (at_builtin; refine wpList_append_bufL _ rfl _ _ rfl _ _ _ _ rfl HB.out 1 [32] _ rfl rfl rfl (by omega) (by omega) ?_; intro g1 cap1 w1 hb1 hs1; have hl1 := hb1.len; have HB := Lib.hid hb1; have HS := Lib.hid (HS.out.trans hs1); clear hb1 hs1)
    | (go_at_call 78; refine (appendInt_c yd 0 _ _ _ _ _ HB.out (by omega) (by omega) (by omega) (by omega)).mono ?_; rintro e w1 ⟨g1, n1, cap1, rfl, hb1, hs1⟩; have hl1 := hb1.len; have hl3 := digs_len120 yd 0 (by omega) (by omega); simp only [List.length_append] at hl1; have HB := Lib.hid hb1; have HS := Lib.hid (HS.out.trans hs1); clear hb1 hs1))
  all_goals exact HI.out _ _ ⟨g1, _, cap1, ⟨rfl, rfl, rfl, rfl, rfl, rfl, rfl, rfl, rfl, rfl, rfl, rfl, rfl, rfl, rfl, rfl⟩, by (rw [HT2.out]; first | (rw [if_pos (by omega), if_pos (by omega), ← List.append_assoc, ← List.append_assoc]; exact HB.out) | (rw [if_pos (by omega), if_neg (by omega), ← List.append_assoc]; exact HB.out) | (rw [if_neg (by omega)]; exact HB.out)), HS.out⟩
set_option maxRecDepth 100000 in
set_option maxHeartbeats 4000000 in
theorem tail85_13 : Tail85 523 523 (fun c v _ => v.yd = yearDay c.year c.month c.day) (fun c => digits (yearDay c.year c.month c.day) 3) := by
  intro c v g n cap l w I Q u hc hneed hvb hb hn hI
  obtain ⟨b, lay, pb, name, off, abs, y, m, d, yd, h, mi, s⟩ := v
  have h1 := hneed
  clear hneed
  simp only at hvb
  subst hvb
  have hy := yearDay_bd c.year c.month c.day hc.m0 hc.m1 hc.d0 (by have := hc.d1; have := days_bd c.year c.month; omega)
  simp only at h1
  obtain ⟨q, HQ⟩ : ∃ q, Hid (q = yearDay c.year c.month c.day) := ⟨_, Lib.hid rfl⟩
  dsimp only at hI
  rw [← HQ.out] at hI h1 hy
  subst h1
  have hcy := hc.y0
  have hcy1 := hc.y1
  have hcm := hc.m0
  have hcm1 := hc.m1
  have hcd := hc.d0
  have hcd1 : c.day ≤ 31 := by have := hc.d1; have := days_bd c.year c.month; omega
  have hch := hc.h0
  have hch1 := hc.h1
  have hcn := hc.n0
  have hcn1 := hc.n1
  have hcs := hc.s0
  have hcs1 := hc.s1
  have hl0 := hb.len
  have HB := Lib.hid hb
  have HS : Hid (BufStep w g w g) := Lib.hid (BufStep.refl w g)
  have HI := Lib.hid hI
  clear hb hI hc
  unfold fr85s
  conv => arg 2; whnf
  go_wp2_with (first
    | (go_at_call 78; refine (appendInt_c yd 3 _ _ _ _ _ HB.out (by omega) (by omega) (by omega) (by omega)).mono ?_; rintro e w1 ⟨g1, n1, cap1, rfl, hb1, hs1⟩; have hl1 := hb1.len; have hl3 := digs_len120 yd 3 (by omega) (by omega); simp only [List.length_append] at hl1; have HB := Lib.hid hb1; have HS := Lib.hid (HS.out.trans hs1); clear hb1 hs1))
  all_goals exact HI.out _ _ ⟨g1, _, cap1, ⟨rfl, rfl, rfl, rfl, rfl, rfl, rfl, rfl, rfl, rfl, rfl, rfl, rfl, rfl, rfl, rfl⟩, by exact HB.out, HS.out⟩
set_option maxRecDepth 100000 in
set_option maxHeartbeats 4000000 in
theorem tail85_14 : Tail85 1036 1036 (fun c v _ => v.h = c.hour ∧ v.mi = c.minute ∧ v.s = c.second) (fun c => digits c.hour 2) := by
  intro c v g n cap l w I Q u hc hneed hvb hb hn hI
  obtain ⟨b, lay, pb, name, off, abs, y, m, d, yd, h, mi, s⟩ := v
  obtain ⟨h1, h2, h3⟩ := hneed
  simp only at hvb
  subst hvb
  simp only at h1 h2 h3
  subst h1 h2 h3
  have hcy := hc.y0
  have hcy1 := hc.y1
  have hcm := hc.m0
  have hcm1 := hc.m1
  have hcd := hc.d0
  have hcd1 : c.day ≤ 31 := by have := hc.d1; have := days_bd c.year c.month; omega
  have hch := hc.h0
  have hch1 := hc.h1
  have hcn := hc.n0
  have hcn1 := hc.n1
  have hcs := hc.s0
  have hcs1 := hc.s1
  have hl0 := hb.len
  have HB := Lib.hid hb
  have HS : Hid (BufStep w g w g) := Lib.hid (BufStep.refl w g)
  have HI := Lib.hid hI
  clear hb hI hc
  unfold fr85s
  conv => arg 2; whnf
  go_wp2_with (first
    | (go_at_call 78; refine (appendInt_c c.hour 2 _ _ _ _ _ HB.out (by omega) (by omega) (by omega) (by omega)).mono ?_; rintro e w1 ⟨g1, n1, cap1, rfl, hb1, hs1⟩; have hl1 := hb1.len; have hl3 := digs_len120 c.hour 2 (by omega) (by omega); simp only [List.length_append] at hl1; have HB := Lib.hid hb1; have HS := Lib.hid (HS.out.trans hs1); clear hb1 hs1))
  all_goals exact HI.out _ _ ⟨g1, _, cap1, ⟨rfl, rfl, rfl, rfl, rfl, rfl, rfl, rfl, rfl, rfl, rfl, rfl, rfl, rfl, rfl, rfl⟩, by exact HB.out, HS.out⟩
set_option maxRecDepth 100000 in
set_option maxHeartbeats 4000000 in
theorem tail85_15 : Tail85 1037 1037 (fun c v _ => v.h = c.hour ∧ v.mi = c.minute ∧ v.s = c.second) (fun c => digits (hour12 c.hour) 1) := by
  intro c v g n cap l w I Q u hc hneed hvb hb hn hI
  obtain ⟨b, lay, pb, name, off, abs, y, m, d, yd, h, mi, s⟩ := v
  obtain ⟨h1, h2, h3⟩ := hneed
  simp only at hvb
  subst hvb
  simp only at h1 h2 h3
  subst h1 h2 h3
  obtain ⟨q, HQ⟩ : ∃ q, Hid (q = c.hour % 12) := ⟨_, Lib.hid rfl⟩
  have hmm : c.hour.tmod 12 = q := by rw [HQ.out]; exact Int.tmod_eq_emod_of_nonneg hc.h0
  have HT2 : Hid (hour12 c.hour = if q = 0 then 12 else q) := by rw [HQ.out]; exact Lib.hid rfl
  have hqb : 0 ≤ q ∧ q ≤ 11 := by rw [HQ.out]; omega
  have hcy := hc.y0
  have hcy1 := hc.y1
  have hcm := hc.m0
  have hcm1 := hc.m1
  have hcd := hc.d0
  have hcd1 : c.day ≤ 31 := by have := hc.d1; have := days_bd c.year c.month; omega
  have hch := hc.h0
  have hch1 := hc.h1
  have hcn := hc.n0
  have hcn1 := hc.n1
  have hcs := hc.s0
  have hcs1 := hc.s1
  have hl0 := hb.len
  have HB := Lib.hid hb
  have HS : Hid (BufStep w g w g) := Lib.hid (BufStep.refl w g)
  have HI := Lib.hid hI
  clear hb hI hc
  by_cases hsp : q = 0
  all_goals
    unfold fr85s
    conv => arg 2; whnf
    go_wp2_with (first
      | (go_at_call 78; refine (appendInt_c _ 0 _ _ _ _ _ HB.out (by omega) (by omega) (by omega) (by omega)).mono ?_; rintro e w1 ⟨g1, n1, cap1, rfl, hb1, hs1⟩; have HB := Lib.hid hb1; have HS := Lib.hid (HS.out.trans hs1); clear hb1 hs1))
    all_goals exact HI.out _ _ ⟨g1, _, cap1, ⟨rfl, rfl, rfl, rfl, rfl, rfl, rfl, rfl, rfl, rfl, rfl, rfl, rfl, rfl, rfl, rfl⟩, by (rw [HT2.out, ← digits_01]; first | (rw [if_pos (by omega)]; exact HB.out) | (rw [if_neg (by omega)]; exact HB.out)), HS.out⟩
set_option maxRecDepth 100000 in
set_option maxHeartbeats 4000000 in
theorem tail85_16 : Tail85 1038 1038 (fun c v _ => v.h = c.hour ∧ v.mi = c.minute ∧ v.s = c.second) (fun c => digits (hour12 c.hour) 2) := by
  intro c v g n cap l w I Q u hc hneed hvb hb hn hI
  obtain ⟨b, lay, pb, name, off, abs, y, m, d, yd, h, mi, s⟩ := v
  obtain ⟨h1, h2, h3⟩ := hneed
  simp only at hvb
  subst hvb
  simp only at h1 h2 h3
  subst h1 h2 h3
  obtain ⟨q, HQ⟩ : ∃ q, Hid (q = c.hour % 12) := ⟨_, Lib.hid rfl⟩
  have hmm : c.hour.tmod 12 = q := by rw [HQ.out]; exact Int.tmod_eq_emod_of_nonneg hc.h0
  have HT2 : Hid (hour12 c.hour = if q = 0 then 12 else q) := by rw [HQ.out]; exact Lib.hid rfl
  have hqb : 0 ≤ q ∧ q ≤ 11 := by rw [HQ.out]; omega
  have hcy := hc.y0
  have hcy1 := hc.y1
  have hcm := hc.m0
  have hcm1 := hc.m1
  have hcd := hc.d0
  have hcd1 : c.day ≤ 31 := by have := hc.d1; have := days_bd c.year c.month; omega
  have hch := hc.h0
  have hch1 := hc.h1
  have hcn := hc.n0
  have hcn1 := hc.n1
  have hcs := hc.s0
  have hcs1 := hc.s1
  have hl0 := hb.len
  have HB := Lib.hid hb
  have HS : Hid (BufStep w g w g) := Lib.hid (BufStep.refl w g)
  have HI := Lib.hid hI
  clear hb hI hc
  by_cases hsp : q = 0
  all_goals
    unfold fr85s
    conv => arg 2; whnf
    go_wp2_with (first
      | (go_at_call 78; refine (appendInt_c _ 2 _ _ _ _ _ HB.out (by omega) (by omega) (by omega) (by omega)).mono ?_; rintro e w1 ⟨g1, n1, cap1, rfl, hb1, hs1⟩; have HB := Lib.hid hb1; have HS := Lib.hid (HS.out.trans hs1); clear hb1 hs1))
    all_goals exact HI.out _ _ ⟨g1, _, cap1, ⟨rfl, rfl, rfl, rfl, rfl, rfl, rfl, rfl, rfl, rfl, rfl, rfl, rfl, rfl, rfl, rfl⟩, by (rw [HT2.out]; first | (rw [if_pos (by omega)]; exact HB.out) | (rw [if_neg (by omega)]; exact HB.out)), HS.out⟩
end Go.Proofs.YtndhiemagankeaaGreatDoor
/- The walk of package time: a time is written by a layout: elements. -/
namespace Go.Proofs.YtndhiemagankeaaGreatDoor
open Go.RowKit
set_option linter.unusedSimpArgs false
set_option linter.unusedVariables false
attribute [local simp] bs_size bs_toList bs_append bs_data bs_extract
set_option maxRecDepth 100000 in
set_option maxHeartbeats 4000000 in
theorem tail85_17 : Tail85 1039 1039 (fun c v _ => v.h = c.hour ∧ v.mi = c.minute ∧ v.s = c.second) (fun c => digits c.minute 1) := by
  intro c v g n cap l w I Q u hc hneed hvb hb hn hI
  obtain ⟨b, lay, pb, name, off, abs, y, m, d, yd, h, mi, s⟩ := v
  obtain ⟨h1, h2, h3⟩ := hneed
  simp only at hvb
  subst hvb
  simp only at h1 h2 h3
  subst h1 h2 h3
  have hcy := hc.y0
  have hcy1 := hc.y1
  have hcm := hc.m0
  have hcm1 := hc.m1
  have hcd := hc.d0
  have hcd1 : c.day ≤ 31 := by have := hc.d1; have := days_bd c.year c.month; omega
  have hch := hc.h0
  have hch1 := hc.h1
  have hcn := hc.n0
  have hcn1 := hc.n1
  have hcs := hc.s0
  have hcs1 := hc.s1
  have hl0 := hb.len
  have HB := Lib.hid hb
  have HS : Hid (BufStep w g w g) := Lib.hid (BufStep.refl w g)
  have HI := Lib.hid hI
  clear hb hI hc
  unfold fr85s
  conv => arg 2; whnf
  go_wp2_with (first
    | (go_at_call 78; refine (appendInt_c c.minute 0 _ _ _ _ _ HB.out (by omega) (by omega) (by omega) (by omega)).mono ?_; rintro e w1 ⟨g1, n1, cap1, rfl, hb1, hs1⟩; have hl1 := hb1.len; have hl3 := digs_len120 c.minute 0 (by omega) (by omega); simp only [List.length_append] at hl1; have HB := Lib.hid hb1; have HS := Lib.hid (HS.out.trans hs1); clear hb1 hs1))
  all_goals exact HI.out _ _ ⟨g1, _, cap1, ⟨rfl, rfl, rfl, rfl, rfl, rfl, rfl, rfl, rfl, rfl, rfl, rfl, rfl, rfl, rfl, rfl⟩, by (rw [← digits_01]; exact HB.out), HS.out⟩
set_option maxRecDepth 100000 in
set_option maxHeartbeats 4000000 in
theorem tail85_18 : Tail85 1040 1040 (fun c v _ => v.h = c.hour ∧ v.mi = c.minute ∧ v.s = c.second) (fun c => digits c.minute 2) := by
  intro c v g n cap l w I Q u hc hneed hvb hb hn hI
  obtain ⟨b, lay, pb, name, off, abs, y, m, d, yd, h, mi, s⟩ := v
  obtain ⟨h1, h2, h3⟩ := hneed
  simp only at hvb
  subst hvb
  simp only at h1 h2 h3
  subst h1 h2 h3
  have hcy := hc.y0
  have hcy1 := hc.y1
  have hcm := hc.m0
  have hcm1 := hc.m1
  have hcd := hc.d0
  have hcd1 : c.day ≤ 31 := by have := hc.d1; have := days_bd c.year c.month; omega
  have hch := hc.h0
  have hch1 := hc.h1
  have hcn := hc.n0
  have hcn1 := hc.n1
  have hcs := hc.s0
  have hcs1 := hc.s1
  have hl0 := hb.len
  have HB := Lib.hid hb
  have HS : Hid (BufStep w g w g) := Lib.hid (BufStep.refl w g)
  have HI := Lib.hid hI
  clear hb hI hc
  unfold fr85s
  conv => arg 2; whnf
  go_wp2_with (first
    | (go_at_call 78; refine (appendInt_c c.minute 2 _ _ _ _ _ HB.out (by omega) (by omega) (by omega) (by omega)).mono ?_; rintro e w1 ⟨g1, n1, cap1, rfl, hb1, hs1⟩; have hl1 := hb1.len; have hl3 := digs_len120 c.minute 2 (by omega) (by omega); simp only [List.length_append] at hl1; have HB := Lib.hid hb1; have HS := Lib.hid (HS.out.trans hs1); clear hb1 hs1))
  all_goals exact HI.out _ _ ⟨g1, _, cap1, ⟨rfl, rfl, rfl, rfl, rfl, rfl, rfl, rfl, rfl, rfl, rfl, rfl, rfl, rfl, rfl, rfl⟩, by exact HB.out, HS.out⟩
set_option maxRecDepth 100000 in
set_option maxHeartbeats 4000000 in
theorem tail85_19 : Tail85 1041 1041 (fun c v _ => v.h = c.hour ∧ v.mi = c.minute ∧ v.s = c.second) (fun c => digits c.second 1) := by
  intro c v g n cap l w I Q u hc hneed hvb hb hn hI
  obtain ⟨b, lay, pb, name, off, abs, y, m, d, yd, h, mi, s⟩ := v
  obtain ⟨h1, h2, h3⟩ := hneed
  simp only at hvb
  subst hvb
  simp only at h1 h2 h3
  subst h1 h2 h3
  have hcy := hc.y0
  have hcy1 := hc.y1
  have hcm := hc.m0
  have hcm1 := hc.m1
  have hcd := hc.d0
  have hcd1 : c.day ≤ 31 := by have := hc.d1; have := days_bd c.year c.month; omega
  have hch := hc.h0
  have hch1 := hc.h1
  have hcn := hc.n0
  have hcn1 := hc.n1
  have hcs := hc.s0
  have hcs1 := hc.s1
  have hl0 := hb.len
  have HB := Lib.hid hb
  have HS : Hid (BufStep w g w g) := Lib.hid (BufStep.refl w g)
  have HI := Lib.hid hI
  clear hb hI hc
  unfold fr85s
  conv => arg 2; whnf
  go_wp2_with (first
    | (go_at_call 78; refine (appendInt_c c.second 0 _ _ _ _ _ HB.out (by omega) (by omega) (by omega) (by omega)).mono ?_; rintro e w1 ⟨g1, n1, cap1, rfl, hb1, hs1⟩; have hl1 := hb1.len; have hl3 := digs_len120 c.second 0 (by omega) (by omega); simp only [List.length_append] at hl1; have HB := Lib.hid hb1; have HS := Lib.hid (HS.out.trans hs1); clear hb1 hs1))
  all_goals exact HI.out _ _ ⟨g1, _, cap1, ⟨rfl, rfl, rfl, rfl, rfl, rfl, rfl, rfl, rfl, rfl, rfl, rfl, rfl, rfl, rfl, rfl⟩, by (rw [← digits_01]; exact HB.out), HS.out⟩
set_option maxRecDepth 100000 in
set_option maxHeartbeats 4000000 in
theorem tail85_20 : Tail85 1042 1042 (fun c v _ => v.h = c.hour ∧ v.mi = c.minute ∧ v.s = c.second) (fun c => digits c.second 2) := by
  intro c v g n cap l w I Q u hc hneed hvb hb hn hI
  obtain ⟨b, lay, pb, name, off, abs, y, m, d, yd, h, mi, s⟩ := v
  obtain ⟨h1, h2, h3⟩ := hneed
  simp only at hvb
  subst hvb
  simp only at h1 h2 h3
  subst h1 h2 h3
  have hcy := hc.y0
  have hcy1 := hc.y1
  have hcm := hc.m0
  have hcm1 := hc.m1
  have hcd := hc.d0
  have hcd1 : c.day ≤ 31 := by have := hc.d1; have := days_bd c.year c.month; omega
  have hch := hc.h0
  have hch1 := hc.h1
  have hcn := hc.n0
  have hcn1 := hc.n1
  have hcs := hc.s0
  have hcs1 := hc.s1
  have hl0 := hb.len
  have HB := Lib.hid hb
  have HS : Hid (BufStep w g w g) := Lib.hid (BufStep.refl w g)
  have HI := Lib.hid hI
  clear hb hI hc
  unfold fr85s
  conv => arg 2; whnf
  go_wp2_with (first
    | (go_at_call 78; refine (appendInt_c c.second 2 _ _ _ _ _ HB.out (by omega) (by omega) (by omega) (by omega)).mono ?_; rintro e w1 ⟨g1, n1, cap1, rfl, hb1, hs1⟩; have hl1 := hb1.len; have hl3 := digs_len120 c.second 2 (by omega) (by omega); simp only [List.length_append] at hl1; have HB := Lib.hid hb1; have HS := Lib.hid (HS.out.trans hs1); clear hb1 hs1))
  all_goals exact HI.out _ _ ⟨g1, _, cap1, ⟨rfl, rfl, rfl, rfl, rfl, rfl, rfl, rfl, rfl, rfl, rfl, rfl, rfl, rfl, rfl, rfl⟩, by exact HB.out, HS.out⟩
set_option maxRecDepth 100000 in
set_option maxHeartbeats 4000000 in
theorem tail85_21 : Tail85 1045 1045 (fun c v _ => v.h = c.hour ∧ v.mi = c.minute ∧ v.s = c.second) (fun c => halfB c.hour) := by
  intro c v g n cap l w I Q u hc hneed hvb hb hn hI
  obtain ⟨b, lay, pb, name, off, abs, y, m, d, yd, h, mi, s⟩ := v
  obtain ⟨h1, h2, h3⟩ := hneed
  simp only at hvb
  subst hvb
  simp only at h1 h2 h3
  subst h1 h2 h3
  have HT2 : Hid (halfB c.hour = if 12 ≤ c.hour then [80, 77] else [65, 77]) := Lib.hid rfl
  have hcy := hc.y0
  have hcy1 := hc.y1
  have hcm := hc.m0
  have hcm1 := hc.m1
  have hcd := hc.d0
  have hcd1 : c.day ≤ 31 := by have := hc.d1; have := days_bd c.year c.month; omega
  have hch := hc.h0
  have hch1 := hc.h1
  have hcn := hc.n0
  have hcn1 := hc.n1
  have hcs := hc.s0
  have hcs1 := hc.s1
  have hl0 := hb.len
  have HB := Lib.hid hb
  have HS : Hid (BufStep w g w g) := Lib.hid (BufStep.refl w g)
  have HI := Lib.hid hI
  clear hb hI hc
  unfold fr85s
  conv => arg 2; whnf
  go_wp2_with (first
    | (at_builtin; refine wpList_append_buf_str _ rfl _ _ rfl _ _ _ _ rfl HB.out [80, 77] rfl (by simp; omega) ?_; intro g1 cap1 w1 hb1 hs1; have HB := Lib.hid hb1; have HS := Lib.hid (HS.out.trans hs1); clear hb1 hs1)
    | (at_builtin; refine wpList_append_buf_str _ rfl _ _ rfl _ _ _ _ rfl HB.out [65, 77] rfl (by simp; omega) ?_; intro g1 cap1 w1 hb1 hs1; have HB := Lib.hid hb1; have HS := Lib.hid (HS.out.trans hs1); clear hb1 hs1))
  all_goals exact HI.out _ _ ⟨g1, _, cap1, ⟨rfl, rfl, rfl, rfl, rfl, rfl, rfl, rfl, rfl, rfl, rfl, rfl, rfl, rfl, rfl, rfl⟩, by (rw [HT2.out]; first | (rw [if_pos (by omega)]; exact HB.out) | (rw [if_neg (by omega)]; exact HB.out)), HS.out⟩
set_option maxRecDepth 100000 in
set_option maxHeartbeats 4000000 in
theorem tail85_32 : Tail85 23 23 (fun c v _ => v.name = c.zone.name) (fun c => c.zone.name) := by
  intro c v g n cap l w I Q u hc hneed hvb hb hn hI
  obtain ⟨b, lay, pb, name, off, abs, y, m, d, yd, h, mi, s⟩ := v
  have h1 := hneed
  clear hneed
  simp only at hvb
  subst hvb
  simp only at h1
  subst h1
  have hzl := (znB hc.z).len
  have hze : List.isEmpty c.zone.name = false := by
    have := (znB hc.z).ne
    cases hh : c.zone.name with
    | nil => exact absurd hh this
    | cons => rfl
  have hcy := hc.y0
  have hcy1 := hc.y1
  have hcm := hc.m0
  have hcm1 := hc.m1
  have hcd := hc.d0
  have hcd1 : c.day ≤ 31 := by have := hc.d1; have := days_bd c.year c.month; omega
  have hch := hc.h0
  have hch1 := hc.h1
  have hcn := hc.n0
  have hcn1 := hc.n1
  have hcs := hc.s0
  have hcs1 := hc.s1
  have hl0 := hb.len
  have HB := Lib.hid hb
  have HS : Hid (BufStep w g w g) := Lib.hid (BufStep.refl w g)
  have HI := Lib.hid hI
  clear hb hI hc
  unfold fr85s
  conv => arg 2; whnf
  go_wp2_with (first
    | (at_builtin; refine wpList_append_buf_str _ rfl _ _ rfl _ _ _ _ rfl HB.out _ rfl (by omega) ?_; intro g1 cap1 w1 hb1 hs1; have hl1 := hb1.len; have HB := Lib.hid hb1; have HS := Lib.hid (HS.out.trans hs1); clear hb1 hs1))
  all_goals exact HI.out _ _ ⟨g1, _, cap1, ⟨rfl, rfl, rfl, rfl, rfl, rfl, rfl, rfl, rfl, rfl, rfl, rfl, rfl, rfl, rfl, rfl⟩, by exact HB.out, HS.out⟩
end Go.Proofs.YtndhiemagankeaaGreatDoor
