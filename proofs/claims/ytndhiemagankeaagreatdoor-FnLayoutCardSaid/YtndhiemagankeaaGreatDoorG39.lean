/-
  FnLayout (the statement: for every list of pieces, every time and every zone the call returns true, and its arguments read afterwards as they did), part 39 of 41. In this part: The walk of the statement: FnLayout answers true, where all arguments are ones that it speaks of.
-/
import Derived.BigRegion
import Derived.Deep.RegionHeld3
import Derived.Test.YtndhiemagankeaaGreatDoorG02
import Derived.Test.YtndhiemagankeaaGreatDoorG04
import Derived.Test.YtndhiemagankeaaGreatDoorG20
import Derived.Test.YtndhiemagankeaaGreatDoorG38
/- The walk of the statement: FnLayout answers true, where all arguments are ones that it speaks of. -/
namespace Go.Proofs.YtndhiemagankeaaGreatDoor
open Go.RowKit
set_option linter.unusedVariables false
set_option linter.unusedSimpArgs false
attribute [local simp] bs_size bs_toList bs_append bs_data bs_extract
structure Pk (ps : List Pc) : Prop where
  suf : SufOk ps
  len : ps.length ≤ 100
  lay : (layout ps).length ≤ 100000
theorem Pk.of {ps : List Pc} (h : piecesOk ps = true) : Pk ps := by
  have hs := SufOk.of ps h
  simp only [piecesOk, Bool.and_eq_true, decide_eq_true_eq] at h
  refine ⟨hs, h.2.2.2.1, ?_⟩
  have := layout_len hs.all
  have := h.2.2.2.1
  omega
theorem digitsN_bd {ps : List Pc} (h : ∀ p ∈ ps, pieceOk p = true) : 0 ≤ digitsN ps ∧ digitsN ps ≤ 9 := by
  unfold digitsN
  split
  · rename_i p hp
    have h1 := List.mem_of_find?_eq_some hp
    have h2 := List.find?_some hp
    have h3 := h p h1
    have hk : p.kind = 33 ∨ p.kind = 34 := by simpa [isFraction] using h2
    unfold pieceOk at h3
    rw [if_neg (by omega), if_pos h2] at h3
    simp [within] at h3
    omega
  · omega
/-- Whether a code begins with a region; the rest of a code from a region on. -/
def startsR (n : Nat) : Code → Bool
  | .region k _ _ => k == n
  | .seq a _ => startsR n a
  | _ => false
def fromR (n : Nat) : Code → Option Code
  | .seq a b => if startsR n b = true then some b else (fromR n b).or (fromR n a)
  | .block _ a => fromR n a
  | .scope a => fromR n a
  | _ => none
noncomputable def end3 : Code := (Tryz.f3.body.bind (fromR 11)).getD .skip
noncomputable def fr3 (pv : Value) (cb zb gb : Nat) (u : Nat → Value) : Act := { tmps := #[pv, u 1, u 2, u 3, .pointer (some ⟨cb, 0, none⟩), .pointer (some ⟨zb, 0, none⟩), u 6, u 7, .pointer (some ⟨gb, 0, none⟩), u 9, u 10, u 11, u 12, u 13, u 14, u 15, u 16, u 17, u 18, u 19, u 20, u 21, u 22, u 23, u 24, u 25, u 26, u 27, u 28, u 29, u 30, u 31, u 32, u 33, u 34, u 35, u 36, u 37, u 38, u 39, u 40, u 41, u 42, u 43, u 44, u 45, u 46, u 47, u 48, u 49, u 50, u 51, u 52, u 53, u 54, u 55, u 56, u 57, u 58, u 59, u 60, u 61, u 62, u 63, u 64, u 65, u 66, u 67, u 68, u 69, u 70, u 71, u 72, u 73, u 74, u 75, u 76, u 77, u 78, u 79, u 80, u 81, u 82, u 83], defers := [] }
structure At3 (pv : Value) (cb zb gb : Nat) (a : Act) : Prop where
  size : a.tmps.size = 84
  defers : a.defers = []
  s0 : a.tmps.getD 0 undef = pv
  s4 : a.tmps.getD 4 undef = .pointer (some ⟨cb, 0, none⟩)
  s5 : a.tmps.getD 5 undef = .pointer (some ⟨zb, 0, none⟩)
  s8 : a.tmps.getD 8 undef = .pointer (some ⟨gb, 0, none⟩)
set_option maxRecDepth 100000 in
theorem range3 (u : Nat → Value) : (#[u 0, u 1, u 2, u 3, u 4, u 5, u 6, u 7, u 8, u 9, u 10, u 11, u 12, u 13, u 14, u 15, u 16, u 17, u 18, u 19, u 20, u 21, u 22, u 23, u 24, u 25, u 26, u 27, u 28, u 29, u 30, u 31, u 32, u 33, u 34, u 35, u 36, u 37, u 38, u 39, u 40, u 41, u 42, u 43, u 44, u 45, u 46, u 47, u 48, u 49, u 50, u 51, u 52, u 53, u 54, u 55, u 56, u 57, u 58, u 59, u 60, u 61, u 62, u 63, u 64, u 65, u 66, u 67, u 68, u 69, u 70, u 71, u 72, u 73, u 74, u 75, u 76, u 77, u 78, u 79, u 80, u 81, u 82, u 83] : Array Value) = ((List.range 84).map u).toArray := by kernel_rfl
set_option maxRecDepth 100000 in
theorem fr3_eq (pv : Value) (cb zb gb : Nat) (u : Nat → Value) (h0 : u 0 = pv) (h4 : u 4 = .pointer (some ⟨cb, 0, none⟩)) (h5 : u 5 = .pointer (some ⟨zb, 0, none⟩)) (h8 : u 8 = .pointer (some ⟨gb, 0, none⟩)) : fr3 pv cb zb gb u = { tmps := ((List.range 84).map u).toArray, defers := [] } := by
  rw [← range3, h0, h4, h5, h8]
  rfl
set_option maxRecDepth 100000 in
theorem At3.open {pv : Value} {cb zb gb : Nat} {a : Act} (h : At3 pv cb zb gb a) : ∃ u, a = fr3 pv cb zb gb u := by
  cases a with
  | mk tmps defers =>
    have h1 := h.size
    have h2 := h.defers
    simp only at h1 h2
    subst h2
    refine ⟨fun k => tmps.getD k undef, ?_⟩
    rw [fr3_eq pv cb zb gb _ h.s0 h.s4 h.s5 h.s8]
    congr 1
    apply Array.ext
    · simp [h1]
    · intro j j1 j2
      simp [j1]
set_option maxRecDepth 100000 in
set_option maxHeartbeats 2000000 in
theorem end3_c (pv : Value) (ps : List Pc) (c : Civ) (z : Zn) (td : Civ) (nm : Bytes) (w1 : World) (cb zb gb : Nat) (hs : StdAt w1) (H : PcsAt w1 pv ps) (hn : ps.length ≤ 100) (hok : ∀ p ∈ ps, pieceOk p = true) (f0 : 0 ≤ c.nano) (f1 : c.nano ≤ 999999999)
    (C : CAt w1 cb [.int .i64 c.year, .int .i64 c.month, .int .i64 c.day, .int .i64 c.hour, .int .i64 c.minute, .int .i64 c.second, .int .i64 c.nano, S c.zone.name, .int .i64 c.zone.off]) (Z : CAt w1 zb [S z.name, .int .i64 z.off]) (G : CAt w1 gb [.int .i64 td.year, .int .i64 td.month, .int .i64 td.day, .int .i64 td.hour, .int .i64 td.minute, .int .i64 td.second, .int .i64 td.nano, S nm, .int .i64 td.zone.off, .bool true]) (hnm : td.zone.name = [] ∨ nm = td.zone.name) (htd : td = told ps c z)
    (a : Act) (hA : At3 pv cb zb gb a) (R : Ending → World → Prop) (hR : ∀ w2, Below w1.heap.size w1 w2 → R (.returned (.bool true)) w2) : end3.wp Tryz.prog (bodyPost Tryz.prog Tryz.f3 R) a w1 := by
  obtain ⟨u, rfl⟩ := hA.open
  have hdn : 0 ≤ digitsN ps ∧ digitsN ps ≤ 9 := digitsN_bd hok
  have H19 : Hid (∀ w', Below w1.heap.size w1 w' → Calls Tryz.prog 19 #[pv, .agg #[.int .i64 c.year, .int .i64 c.month, .int .i64 c.day, .int .i64 c.hour, .int .i64 c.minute, .int .i64 c.second, .int .i64 c.nano, S c.zone.name, .int .i64 c.zone.off], .agg #[S z.name, .int .i64 z.off]] w' fun e w'' => e = .returned (.agg #[.int .i64 td.year, .int .i64 td.month, .int .i64 td.day, .int .i64 td.hour, .int .i64 td.minute, .int .i64 td.second, .int .i64 td.nano, S td.zone.name, .int .i64 td.zone.off]) ∧ Below w'.heap.size w' w'') := fun w' hb => by
    rw [htd]
    exact told_c pv ps c z w' (H.below hb) (by omega) hdn f0 f1
  have H18 : Hid (∀ w', Below w1.heap.size w1 w' → Calls Tryz.prog 18 #[.agg #[.int .i64 td.year, .int .i64 td.month, .int .i64 td.day, .int .i64 td.hour, .int .i64 td.minute, .int .i64 td.second, .int .i64 td.nano, S nm, .int .i64 td.zone.off], .agg #[.int .i64 td.year, .int .i64 td.month, .int .i64 td.day, .int .i64 td.hour, .int .i64 td.minute, .int .i64 td.second, .int .i64 td.nano, S td.zone.name, .int .i64 td.zone.off]] w' fun e w'' => e = .returned (.bool true) ∧ Below w'.heap.size w' w'') := fun w' _ => same_c td nm w' hnm
  have H11 : Hid (∀ w', Below w1.heap.size w1 w' → Calls Tryz.prog 11 #[] w' fun e w'' => e = .returned (.bool true) ∧ Below w'.heap.size w' w'') := fun w' hb => reads_c w' (hs.below hb)
  have H12 : Hid (∀ w', Below w1.heap.size w1 w' → Calls Tryz.prog 12 #[] w' fun e w'' => e = .returned (.bool true) ∧ Below w'.heap.size w' w'') := fun w' hb => writes_c w' (hs.below hb)
  have HF : Hid (∀ w', Below w1.heap.size w1 w' → w'.cell? ⟨cb, 0, none⟩ = some (.int .i64 c.year) ∧ w'.cell? ⟨cb, 1, none⟩ = some (.int .i64 c.month) ∧ w'.cell? ⟨cb, 2, none⟩ = some (.int .i64 c.day) ∧ w'.cell? ⟨cb, 3, none⟩ = some (.int .i64 c.hour) ∧ w'.cell? ⟨cb, 4, none⟩ = some (.int .i64 c.minute) ∧ w'.cell? ⟨cb, 5, none⟩ = some (.int .i64 c.second) ∧ w'.cell? ⟨cb, 6, none⟩ = some (.int .i64 c.nano) ∧ w'.cell? ⟨cb, 7, none⟩ = some (S c.zone.name) ∧ w'.cell? ⟨cb, 8, none⟩ = some (.int .i64 c.zone.off) ∧ w'.cell? ⟨zb, 0, none⟩ = some (S z.name) ∧ w'.cell? ⟨zb, 1, none⟩ = some (.int .i64 z.off) ∧ w'.cell? ⟨gb, 0, none⟩ = some (.int .i64 td.year) ∧ w'.cell? ⟨gb, 1, none⟩ = some (.int .i64 td.month) ∧ w'.cell? ⟨gb, 2, none⟩ = some (.int .i64 td.day) ∧ w'.cell? ⟨gb, 3, none⟩ = some (.int .i64 td.hour) ∧ w'.cell? ⟨gb, 4, none⟩ = some (.int .i64 td.minute) ∧ w'.cell? ⟨gb, 5, none⟩ = some (.int .i64 td.second) ∧ w'.cell? ⟨gb, 6, none⟩ = some (.int .i64 td.nano) ∧ w'.cell? ⟨gb, 7, none⟩ = some (S nm) ∧ w'.cell? ⟨gb, 8, none⟩ = some (.int .i64 td.zone.off) ∧ w'.cell? ⟨gb, 9, none⟩ = some (.bool true) ∧ Below w1.heap.size w1 w') := by
    show ∀ w', _
    intro w' hb
    obtain ⟨⟨a0, a1, a2, a3, a4, a5, a6, a7, a8⟩, -⟩ := (C.below hb).cells9
    have hz := Z.below hb
    obtain ⟨⟨g0, g1, g2, g3, g4, g5, g6, g7, g8, g9⟩, -⟩ := (G.below hb).cells10
    exact ⟨a0, a1, a2, a3, a4, a5, a6, a7, a8, (hz.2 0 (by simp)).1, (hz.2 1 (by simp)).1, g0, g1, g2, g3, g4, g5, g6, g7, g8, g9, hb⟩
  have HR := Lib.hid hR
  have hfc := field_civil
  have hfo := field_ok
  clear hs H hn hok f0 f1 C Z G hnm htd hA hR hdn
  have HS0 := HF.out w1 (Below.refl _ _)
  obtain ⟨a0, a1, a2, a3, a4, a5, a6, a7, a8, z0, z1, g0, g1, g2, g3, g4, g5, g6, g7, g8, g9, bw⟩ := HS0
  unfold fr3
  conv => arg 2; whnf
  go_upto_region 11 with fail
  rename_i K hK
  go_region_held3 (fun w' => w'.cell? ⟨cb, 0, none⟩ = some (.int .i64 c.year) ∧ w'.cell? ⟨cb, 1, none⟩ = some (.int .i64 c.month) ∧ w'.cell? ⟨cb, 2, none⟩ = some (.int .i64 c.day) ∧ w'.cell? ⟨cb, 3, none⟩ = some (.int .i64 c.hour) ∧ w'.cell? ⟨cb, 4, none⟩ = some (.int .i64 c.minute) ∧ w'.cell? ⟨cb, 5, none⟩ = some (.int .i64 c.second) ∧ w'.cell? ⟨cb, 6, none⟩ = some (.int .i64 c.nano) ∧ w'.cell? ⟨cb, 7, none⟩ = some (S c.zone.name) ∧ w'.cell? ⟨cb, 8, none⟩ = some (.int .i64 c.zone.off) ∧ w'.cell? ⟨zb, 0, none⟩ = some (S z.name) ∧ w'.cell? ⟨zb, 1, none⟩ = some (.int .i64 z.off) ∧ w'.cell? ⟨gb, 0, none⟩ = some (.int .i64 td.year) ∧ w'.cell? ⟨gb, 1, none⟩ = some (.int .i64 td.month) ∧ w'.cell? ⟨gb, 2, none⟩ = some (.int .i64 td.day) ∧ w'.cell? ⟨gb, 3, none⟩ = some (.int .i64 td.hour) ∧ w'.cell? ⟨gb, 4, none⟩ = some (.int .i64 td.minute) ∧ w'.cell? ⟨gb, 5, none⟩ = some (.int .i64 td.second) ∧ w'.cell? ⟨gb, 6, none⟩ = some (.int .i64 td.nano) ∧ w'.cell? ⟨gb, 7, none⟩ = some (S nm) ∧ w'.cell? ⟨gb, 8, none⟩ = some (.int .i64 td.zone.off) ∧ w'.cell? ⟨gb, 9, none⟩ = some (.bool true) ∧ Below w1.heap.size w1 w') (first | exact HF.out _ (by (repeat (first | with_reducible assumption | with_reducible refine Below.drew ?_ | with_reducible refine Below.alloc ?_ (Below.size (by first | with_reducible assumption | exact Below.drew (by with_reducible assumption))) _ | with_reducible refine Below.setCell ?_ (Below.size (by first | with_reducible assumption | exact Below.drew (by with_reducible assumption))) _))) | go_keep)
    (first
      | (go_at_call 19; refine (H19.out _ (by (repeat (first | with_reducible assumption | with_reducible refine Below.drew ?_ | with_reducible refine Below.alloc ?_ (Below.size (by first | with_reducible assumption | exact Below.drew (by with_reducible assumption))) _ | with_reducible refine Below.setCell ?_ (Below.size (by first | with_reducible assumption | exact Below.drew (by with_reducible assumption))) _)))).mono ?_; rintro e w2 ⟨rfl, hb⟩; obtain ⟨a0, a1, a2, a3, a4, a5, a6, a7, a8, z0, z1, g0, g1, g2, g3, g4, g5, g6, g7, g8, g9, bw⟩ := HF.out _ (below_next (by (repeat (first | with_reducible assumption | with_reducible refine Below.drew ?_ | with_reducible refine Below.alloc ?_ (Below.size (by first | with_reducible assumption | exact Below.drew (by with_reducible assumption))) _ | with_reducible refine Below.setCell ?_ (Below.size (by first | with_reducible assumption | exact Below.drew (by with_reducible assumption))) _))) hb); clear hb)
      | (go_at_call 18; refine (H18.out _ (by (repeat (first | with_reducible assumption | with_reducible refine Below.drew ?_ | with_reducible refine Below.alloc ?_ (Below.size (by first | with_reducible assumption | exact Below.drew (by with_reducible assumption))) _ | with_reducible refine Below.setCell ?_ (Below.size (by first | with_reducible assumption | exact Below.drew (by with_reducible assumption))) _)))).mono ?_; rintro e w2 ⟨rfl, hb⟩; obtain ⟨a0, a1, a2, a3, a4, a5, a6, a7, a8, z0, z1, g0, g1, g2, g3, g4, g5, g6, g7, g8, g9, bw⟩ := HF.out _ (below_next (by (repeat (first | with_reducible assumption | with_reducible refine Below.drew ?_ | with_reducible refine Below.alloc ?_ (Below.size (by first | with_reducible assumption | exact Below.drew (by with_reducible assumption))) _ | with_reducible refine Below.setCell ?_ (Below.size (by first | with_reducible assumption | exact Below.drew (by with_reducible assumption))) _))) hb); clear hb)
      | (go_at_call 11; refine (H11.out _ (by (repeat (first | with_reducible assumption | with_reducible refine Below.drew ?_ | with_reducible refine Below.alloc ?_ (Below.size (by first | with_reducible assumption | exact Below.drew (by with_reducible assumption))) _ | with_reducible refine Below.setCell ?_ (Below.size (by first | with_reducible assumption | exact Below.drew (by with_reducible assumption))) _)))).mono ?_; rintro e w2 ⟨rfl, hb⟩; obtain ⟨a0, a1, a2, a3, a4, a5, a6, a7, a8, z0, z1, g0, g1, g2, g3, g4, g5, g6, g7, g8, g9, bw⟩ := HF.out _ (below_next (by (repeat (first | with_reducible assumption | with_reducible refine Below.drew ?_ | with_reducible refine Below.alloc ?_ (Below.size (by first | with_reducible assumption | exact Below.drew (by with_reducible assumption))) _ | with_reducible refine Below.setCell ?_ (Below.size (by first | with_reducible assumption | exact Below.drew (by with_reducible assumption))) _))) hb); clear hb)
      | (go_at_call 12; refine (H12.out _ (by (repeat (first | with_reducible assumption | with_reducible refine Below.drew ?_ | with_reducible refine Below.alloc ?_ (Below.size (by first | with_reducible assumption | exact Below.drew (by with_reducible assumption))) _ | with_reducible refine Below.setCell ?_ (Below.size (by first | with_reducible assumption | exact Below.drew (by with_reducible assumption))) _)))).mono ?_; rintro e w2 ⟨rfl, hb⟩; obtain ⟨a0, a1, a2, a3, a4, a5, a6, a7, a8, z0, z1, g0, g1, g2, g3, g4, g5, g6, g7, g8, g9, bw⟩ := HF.out _ (below_next (by (repeat (first | with_reducible assumption | with_reducible refine Below.drew ?_ | with_reducible refine Below.alloc ?_ (Below.size (by first | with_reducible assumption | exact Below.drew (by with_reducible assumption))) _ | with_reducible refine Below.setCell ?_ (Below.size (by first | with_reducible assumption | exact Below.drew (by with_reducible assumption))) _))) hb); clear hb))
  refine then_no (hK _ _ ?_)
  clear hK
  refine wp_ret ?_
  exact bodyPost_ret (v := .bool true) (by simp [results, Tryz.results3, go_sem]) rfl (HR.out _ bw)
theorem CAt.set10 {w : World} {b : Nat} {v0 v1 v2 v3 v4 v5 v6 v7 v8 v9 : Value} (h : CAt w b [v0, v1, v2, v3, v4, v5, v6, v7, v8, v9]) (x0 x1 x2 x3 x4 x5 x6 x7 x8 x9 : Value) : CAt ((((((((((w.setCell ⟨b, 0, none⟩ x0).setCell ⟨b, 1, none⟩ x1).setCell ⟨b, 2, none⟩ x2).setCell ⟨b, 3, none⟩ x3).setCell ⟨b, 4, none⟩ x4).setCell ⟨b, 5, none⟩ x5).setCell ⟨b, 6, none⟩ x6).setCell ⟨b, 7, none⟩ x7).setCell ⟨b, 8, none⟩ x8).setCell ⟨b, 9, none⟩ x9) b [x0, x1, x2, x3, x4, x5, x6, x7, x8, x9] :=
  ((((((((((h.set 0 x0 (by simp)).set 1 x1 (by simp)).set 2 x2 (by simp)).set 3 x3 (by simp)).set 4 x4 (by simp)).set 5 x5 (by simp)).set 6 x6 (by simp)).set 7 x7 (by simp)).set 8 x8 (by simp)).set 9 x9 (by simp))
set_option maxRecDepth 100000 in
set_option maxHeartbeats 4000000 in
theorem fnLayout_e (pv : Value) (ps : List Pc) (c : Civ) (z : Zn) (w : World) (hs : StdAt w) (H : PcsAt w pv ps) (hn : ps.length ≤ 9223372036854775807) (hcl : c.zone.name.length ≤ 9223372036854775807) (hzl : z.name.length ≤ 9223372036854775807) (hpk : piecesOk ps = true) (hck : civilOk c = true) (hzk : zoneOk z = true) (hfk : fits ps c = true) (hrk : readable ps c = false) : Calls Tryz.prog 3 #[pv, c.val, z.val] w fun e w' => e = .returned (.bool true) ∧ Below w.heap.size w w' := by
  obtain ⟨w0, HW0⟩ : ∃ w0, Hid (w0 = (w.alloc (.cells #[.int .i64 c.year, .int .i64 c.month, .int .i64 c.day, .int .i64 c.hour, .int .i64 c.minute, .int .i64 c.second, .int .i64 c.nano, S c.zone.name, .int .i64 c.zone.off] 26)).alloc (.cells #[S z.name, .int .i64 z.off] 24)) := ⟨_, Lib.hid rfl⟩
  have C0 : CAt w0 w.heap.size [.int .i64 c.year, .int .i64 c.month, .int .i64 c.day, .int .i64 c.hour, .int .i64 c.minute, .int .i64 c.second, .int .i64 c.nano, S c.zone.name, .int .i64 c.zone.off] := by
    rw [HW0.out]
    exact (CAt.new w _ 26).below (below_new _ _)
  have Z0 : CAt w0 (w.heap.size + 1) [S z.name, .int .i64 z.off] := by
    rw [HW0.out]
    have := CAt.new (w.alloc (.cells #[.int .i64 c.year, .int .i64 c.month, .int .i64 c.day, .int .i64 c.hour, .int .i64 c.minute, .int .i64 c.second, .int .i64 c.nano, S c.zone.name, .int .i64 c.zone.off] 26)) [S z.name, .int .i64 z.off] 24
    rwa [World.size_alloc] at this
  have B0 : Below w.heap.size w w0 := by rw [HW0.out]; exact below_next (below_new _ _) (below_new _ _)
  have HF : Hid (∀ w', Below w0.heap.size w0 w' → w'.cell? ⟨w.heap.size, 0, none⟩ = some (.int .i64 c.year) ∧ w'.cell? ⟨w.heap.size, 1, none⟩ = some (.int .i64 c.month) ∧ w'.cell? ⟨w.heap.size, 2, none⟩ = some (.int .i64 c.day) ∧ w'.cell? ⟨w.heap.size, 3, none⟩ = some (.int .i64 c.hour) ∧ w'.cell? ⟨w.heap.size, 4, none⟩ = some (.int .i64 c.minute) ∧ w'.cell? ⟨w.heap.size, 5, none⟩ = some (.int .i64 c.second) ∧ w'.cell? ⟨w.heap.size, 6, none⟩ = some (.int .i64 c.nano) ∧ w'.cell? ⟨w.heap.size, 7, none⟩ = some (S c.zone.name) ∧ w'.cell? ⟨w.heap.size, 8, none⟩ = some (.int .i64 c.zone.off) ∧ w'.cell? ⟨w.heap.size + 1, 0, none⟩ = some (S z.name) ∧ w'.cell? ⟨w.heap.size + 1, 1, none⟩ = some (.int .i64 z.off) ∧ Below w0.heap.size w0 w') := by
    show ∀ w', _
    intro w' hb
    obtain ⟨⟨a0, a1, a2, a3, a4, a5, a6, a7, a8⟩, -⟩ := (C0.below hb).cells9
    have hz := Z0.below hb
    exact ⟨a0, a1, a2, a3, a4, a5, a6, a7, a8, (hz.2 0 (by simp)).1, (hz.2 1 (by simp)).1, hb⟩
  have HB0 := Lib.hid B0
  have hs0 := hs.below B0
  have HP0 := H.below B0
  have hps := Pk.of hpk
  have H4 : Hid (∀ w', Below w0.heap.size w0 w' → Calls Tryz.prog 4 #[pv] w' fun e w'' => (∃ b, e = .returned (.bool b) ∧ (b = true → ps.length ≤ 2147483647)) ∧ Below w'.heap.size w' w'') := fun w' hb => zzFits1_c pv ps w' (HP0.below hb) hn
  have H5 : Hid (∀ w', Below w0.heap.size w0 w' → Calls Tryz.prog 5 #[.agg #[.int .i64 c.year, .int .i64 c.month, .int .i64 c.day, .int .i64 c.hour, .int .i64 c.minute, .int .i64 c.second, .int .i64 c.nano, S c.zone.name, .int .i64 c.zone.off]] w' fun e w'' => (∃ b, e = .returned (.bool b) ∧ (b = true → c.zone.name.length ≤ 2147483647)) ∧ Below w'.heap.size w' w'') := fun w' _ => zzFits3_c c w' hcl
  have H6 : Hid (∀ w', Below w0.heap.size w0 w' → Calls Tryz.prog 6 #[.agg #[S z.name, .int .i64 z.off]] w' fun e w'' => (∃ b, e = .returned (.bool b) ∧ (b = true → z.name.length ≤ 2147483647)) ∧ Below w'.heap.size w' w'') := fun w' _ => zzFits4_c z w' hzl
  have H7 : Hid (∀ w', ps.length ≤ 2147483647 → Below w0.heap.size w0 w' → Calls Tryz.prog 7 #[pv] w' fun e w'' => e = .returned (.bool true) ∧ Below w'.heap.size w' w'') := fun w' hn hb => by have := piecesOk_c pv ps w' (HP0.below hb) hn; rwa [hpk] at this
  have H8 : Hid (∀ w', Below w0.heap.size w0 w' → Calls Tryz.prog 8 #[.agg #[.int .i64 c.year, .int .i64 c.month, .int .i64 c.day, .int .i64 c.hour, .int .i64 c.minute, .int .i64 c.second, .int .i64 c.nano, S c.zone.name, .int .i64 c.zone.off]] w' fun e w'' => e = .returned (.bool true) ∧ Below w'.heap.size w' w'') := fun w' _ => by have := civilOk_c c w' hcl; rwa [hck] at this
  have H9 : Hid (∀ w', Below w0.heap.size w0 w' → Calls Tryz.prog 9 #[.agg #[S z.name, .int .i64 z.off]] w' fun e w'' => e = .returned (.bool true) ∧ Below w'.heap.size w' w'') := fun w' _ => by have := zoneOk_c z w' hzl; rwa [hzk] at this
  have H10 : Hid (∀ w', ps.length ≤ 2147483647 → Below w0.heap.size w0 w' → Calls Tryz.prog 10 #[pv, .agg #[.int .i64 c.year, .int .i64 c.month, .int .i64 c.day, .int .i64 c.hour, .int .i64 c.minute, .int .i64 c.second, .int .i64 c.nano, S c.zone.name, .int .i64 c.zone.off]] w' fun e w'' => e = .returned (.bool true) ∧ Below w'.heap.size w' w'') := fun w' hn hb => by have := fits_c pv ps c w' (HP0.below hb) hn; rwa [hfk] at this
  have H11 : Hid (∀ w', Below w0.heap.size w0 w' → Calls Tryz.prog 11 #[] w' fun e w'' => e = .returned (.bool true) ∧ Below w'.heap.size w' w'') := fun w' hb => reads_c w' (hs0.below hb)
  have H12 : Hid (∀ w', Below w0.heap.size w0 w' → Calls Tryz.prog 12 #[] w' fun e w'' => e = .returned (.bool true) ∧ Below w'.heap.size w' w'') := fun w' hb => writes_c w' (hs0.below hb)
  have H14 : Hid (∀ w', Below w0.heap.size w0 w' → Calls Tryz.prog 14 #[pv] w' fun e w'' => e = .returned (S (layout ps)) ∧ Below w'.heap.size w' w'') := fun w' hb => layout_c pv ps w' (HP0.below hb) hps.len (fun i h => hps.suf.all _ (List.getElem_mem h))
  have H13 : Hid (∀ w', Below w0.heap.size w0 w' → Calls Tryz.prog 13 #[.agg #[.int .i64 c.year, .int .i64 c.month, .int .i64 c.day, .int .i64 c.hour, .int .i64 c.minute, .int .i64 c.second, .int .i64 c.nano, S c.zone.name, .int .i64 c.zone.off], S (layout ps)] w' fun e w'' => e = .returned (S (writtenAll ps c)) ∧ Below w'.heap.size w' w'') := fun w' hb => implFormat_c ps c w' hps.suf hps.len (by have := hps.lay; omega) (civB hck) (hs0.below hb)
  have H15 : Hid (∀ w', Below w0.heap.size w0 w' → Calls Tryz.prog 15 #[pv, .agg #[.int .i64 c.year, .int .i64 c.month, .int .i64 c.day, .int .i64 c.hour, .int .i64 c.minute, .int .i64 c.second, .int .i64 c.nano, S c.zone.name, .int .i64 c.zone.off]] w' fun e w'' => e = .returned (S (writtenAll ps c)) ∧ Below w'.heap.size w' w'') := fun w' hb => writtenAll_c pv ps c w' (HP0.below hb) hps.len (fun i h => hps.suf.all _ (List.getElem_mem h)) (civB hck)
  have H16 : Hid (∀ w', Below w0.heap.size w0 w' → Calls Tryz.prog 16 #[pv, .agg #[.int .i64 c.year, .int .i64 c.month, .int .i64 c.day, .int .i64 c.hour, .int .i64 c.minute, .int .i64 c.second, .int .i64 c.nano, S c.zone.name, .int .i64 c.zone.off]] w' fun e w'' => e = .returned (.bool false) ∧ Below w'.heap.size w' w'') := fun w' hb => by have := readable_c pv ps c w' (HP0.below hb) (by have := hps.len; omega) hcl; rwa [hrk] at this
  clear hs hs0 H HP0 C0 Z0 B0 hpk hck hzk hfk hrk hps
  have HS0 := HF.out w0 (Below.refl _ _)
  obtain ⟨a0, a1, a2, a3, a4, a5, a6, a7, a8, z0, z1, bw⟩ := HS0
  generalize layout ps = lay at *
  generalize writtenAll ps c = wr at *
  unfold Civ.val Zn.val
  go_enter Tryz.func3, Tryz.ntmps3
  go_upto_region 1 with fail
  rw [← HW0.out]
  go_upto_region 5 with (first
    | (go_at_call 5; refine (H5.out _ (by assumption)).mono ?_; rintro e w1 ⟨⟨b, rfl, hz⟩, hb⟩; obtain ⟨a0, a1, a2, a3, a4, a5, a6, a7, a8, z0, z1, bw⟩ := HF.out _ (below_next (by assumption) hb); clear hb; cases b)
    | (go_at_call 6; refine (H6.out _ (by assumption)).mono ?_; rintro e w1 ⟨⟨b, rfl, hz⟩, hb⟩; obtain ⟨a0, a1, a2, a3, a4, a5, a6, a7, a8, z0, z1, bw⟩ := HF.out _ (below_next (by assumption) hb); clear hb; cases b)
    | (go_at_call 4; refine (H4.out _ (by assumption)).mono ?_; rintro e w1 ⟨⟨b, rfl, hz4⟩, hb⟩; have HZ4 := Lib.hid hz4; clear hz4; obtain ⟨a0, a1, a2, a3, a4, a5, a6, a7, a8, z0, z1, bw⟩ := HF.out _ (below_next (by assumption) hb); clear hb; cases b)
    | (go_at_call 7; refine (H7.out _ (by first | exact HZ4.out trivial | exact HZ4.out rfl) (by assumption)).mono ?_; rintro e w1 ⟨rfl, hb⟩; obtain ⟨a0, a1, a2, a3, a4, a5, a6, a7, a8, z0, z1, bw⟩ := HF.out _ (below_next (by assumption) hb); clear hb)
    | (go_at_call 8; refine (H8.out _ (by assumption)).mono ?_; rintro e w1 ⟨rfl, hb⟩; obtain ⟨a0, a1, a2, a3, a4, a5, a6, a7, a8, z0, z1, bw⟩ := HF.out _ (below_next (by assumption) hb); clear hb)
    | (go_at_call 9; refine (H9.out _ (by assumption)).mono ?_; rintro e w1 ⟨rfl, hb⟩; obtain ⟨a0, a1, a2, a3, a4, a5, a6, a7, a8, z0, z1, bw⟩ := HF.out _ (below_next (by assumption) hb); clear hb)
    | (go_at_call 10; refine (H10.out _ (by first | exact HZ4.out trivial | exact HZ4.out rfl) (by assumption)).mono ?_; rintro e w1 ⟨rfl, hb⟩; obtain ⟨a0, a1, a2, a3, a4, a5, a6, a7, a8, z0, z1, bw⟩ := HF.out _ (below_next (by assumption) hb); clear hb)
    | (go_at_call 11; refine (H11.out _ (by assumption)).mono ?_; rintro e w1 ⟨rfl, hb⟩; obtain ⟨a0, a1, a2, a3, a4, a5, a6, a7, a8, z0, z1, bw⟩ := HF.out _ (below_next (by assumption) hb); clear hb)
    | (go_at_call 12; refine (H12.out _ (by assumption)).mono ?_; rintro e w1 ⟨rfl, hb⟩; obtain ⟨a0, a1, a2, a3, a4, a5, a6, a7, a8, z0, z1, bw⟩ := HF.out _ (below_next (by assumption) hb); clear hb))
  all_goals first | (go_ret; exact ⟨by first | rfl | simp, below_next HB0.out bw⟩) | skip
  go_region_held3 (fun w' => w'.cell? ⟨w.heap.size, 0, none⟩ = some (.int .i64 c.year) ∧ w'.cell? ⟨w.heap.size, 1, none⟩ = some (.int .i64 c.month) ∧ w'.cell? ⟨w.heap.size, 2, none⟩ = some (.int .i64 c.day) ∧ w'.cell? ⟨w.heap.size, 3, none⟩ = some (.int .i64 c.hour) ∧ w'.cell? ⟨w.heap.size, 4, none⟩ = some (.int .i64 c.minute) ∧ w'.cell? ⟨w.heap.size, 5, none⟩ = some (.int .i64 c.second) ∧ w'.cell? ⟨w.heap.size, 6, none⟩ = some (.int .i64 c.nano) ∧ w'.cell? ⟨w.heap.size, 7, none⟩ = some (S c.zone.name) ∧ w'.cell? ⟨w.heap.size, 8, none⟩ = some (.int .i64 c.zone.off) ∧ w'.cell? ⟨w.heap.size + 1, 0, none⟩ = some (S z.name) ∧ w'.cell? ⟨w.heap.size + 1, 1, none⟩ = some (.int .i64 z.off) ∧ Below w0.heap.size w0 w') (first | exact HF.out _ (by (repeat (first | with_reducible assumption | with_reducible refine Below.drew ?_ | with_reducible refine Below.alloc ?_ (Below.size (by first | with_reducible assumption | exact Below.drew (by with_reducible assumption))) _ | with_reducible refine Below.setCell ?_ (Below.size (by first | with_reducible assumption | exact Below.drew (by with_reducible assumption))) _))) | go_keep)
    (first
      | (go_at_call 14; refine (H14.out _ (by (repeat (first | with_reducible assumption | with_reducible refine Below.drew ?_ | with_reducible refine Below.alloc ?_ (Below.size (by first | with_reducible assumption | exact Below.drew (by with_reducible assumption))) _ | with_reducible refine Below.setCell ?_ (Below.size (by first | with_reducible assumption | exact Below.drew (by with_reducible assumption))) _)))).mono ?_; rintro e w1 ⟨rfl, hb⟩; obtain ⟨a0, a1, a2, a3, a4, a5, a6, a7, a8, z0, z1, bw⟩ := HF.out _ (below_next (by (repeat (first | with_reducible assumption | with_reducible refine Below.drew ?_ | with_reducible refine Below.alloc ?_ (Below.size (by first | with_reducible assumption | exact Below.drew (by with_reducible assumption))) _ | with_reducible refine Below.setCell ?_ (Below.size (by first | with_reducible assumption | exact Below.drew (by with_reducible assumption))) _))) hb); clear hb)
      | (go_at_call 13; refine (H13.out _ (by (repeat (first | with_reducible assumption | with_reducible refine Below.drew ?_ | with_reducible refine Below.alloc ?_ (Below.size (by first | with_reducible assumption | exact Below.drew (by with_reducible assumption))) _ | with_reducible refine Below.setCell ?_ (Below.size (by first | with_reducible assumption | exact Below.drew (by with_reducible assumption))) _)))).mono ?_; rintro e w1 ⟨rfl, hb⟩; obtain ⟨a0, a1, a2, a3, a4, a5, a6, a7, a8, z0, z1, bw⟩ := HF.out _ (below_next (by (repeat (first | with_reducible assumption | with_reducible refine Below.drew ?_ | with_reducible refine Below.alloc ?_ (Below.size (by first | with_reducible assumption | exact Below.drew (by with_reducible assumption))) _ | with_reducible refine Below.setCell ?_ (Below.size (by first | with_reducible assumption | exact Below.drew (by with_reducible assumption))) _))) hb); clear hb))
  go_wp2_with (first
    | (go_at_call 15; refine (H15.out _ (by assumption)).mono ?_; rintro e w1 ⟨rfl, hb⟩; obtain ⟨a0, a1, a2, a3, a4, a5, a6, a7, a8, z0, z1, bw⟩ := HF.out _ (below_next (by assumption) hb); clear hb)
    | (go_at_call 16; refine (H16.out _ (by assumption)).mono ?_; rintro e w1 ⟨rfl, hb⟩; obtain ⟨a0, a1, a2, a3, a4, a5, a6, a7, a8, z0, z1, bw⟩ := HF.out _ (below_next (by assumption) hb); clear hb)
    | (go_at_call 11; refine (H11.out _ (by assumption)).mono ?_; rintro e w1 ⟨rfl, hb⟩; obtain ⟨a0, a1, a2, a3, a4, a5, a6, a7, a8, z0, z1, bw⟩ := HF.out _ (below_next (by assumption) hb); clear hb)
    | (go_at_call 12; refine (H12.out _ (by assumption)).mono ?_; rintro e w1 ⟨rfl, hb⟩; obtain ⟨a0, a1, a2, a3, a4, a5, a6, a7, a8, z0, z1, bw⟩ := HF.out _ (below_next (by assumption) hb); clear hb))
  all_goals
    go_ret
    exact ⟨by first | rfl | simp, below_next HB0.out bw⟩
set_option maxRecDepth 100000 in
set_option maxHeartbeats 4000000 in
theorem fnLayout_f (pv : Value) (ps : List Pc) (c : Civ) (z : Zn) (w : World) (hs : StdAt w) (H : PcsAt w pv ps) (hn : ps.length ≤ 9223372036854775807) (hcl : c.zone.name.length ≤ 9223372036854775807) (hzl : z.name.length ≤ 9223372036854775807) (hpk : piecesOk ps = true) (hck : civilOk c = true) (hzk : zoneOk z = true) (hfk : fits ps c = true) (hrk : readable ps c = true) : Calls Tryz.prog 3 #[pv, c.val, z.val] w fun e w' => e = .returned (.bool true) ∧ Below w.heap.size w w' := by
  obtain ⟨w0, HW0⟩ : ∃ w0, Hid (w0 = (w.alloc (.cells #[.int .i64 c.year, .int .i64 c.month, .int .i64 c.day, .int .i64 c.hour, .int .i64 c.minute, .int .i64 c.second, .int .i64 c.nano, S c.zone.name, .int .i64 c.zone.off] 26)).alloc (.cells #[S z.name, .int .i64 z.off] 24)) := ⟨_, Lib.hid rfl⟩
  have C0 : CAt w0 w.heap.size [.int .i64 c.year, .int .i64 c.month, .int .i64 c.day, .int .i64 c.hour, .int .i64 c.minute, .int .i64 c.second, .int .i64 c.nano, S c.zone.name, .int .i64 c.zone.off] := by
    rw [HW0.out]
    exact (CAt.new w _ 26).below (below_new _ _)
  have Z0 : CAt w0 (w.heap.size + 1) [S z.name, .int .i64 z.off] := by
    rw [HW0.out]
    have := CAt.new (w.alloc (.cells #[.int .i64 c.year, .int .i64 c.month, .int .i64 c.day, .int .i64 c.hour, .int .i64 c.minute, .int .i64 c.second, .int .i64 c.nano, S c.zone.name, .int .i64 c.zone.off] 26)) [S z.name, .int .i64 z.off] 24
    rwa [World.size_alloc] at this
  have B0 : Below w.heap.size w w0 := by rw [HW0.out]; exact below_next (below_new _ _) (below_new _ _)
  have HF : Hid (∀ w', Below w0.heap.size w0 w' → w'.cell? ⟨w.heap.size, 0, none⟩ = some (.int .i64 c.year) ∧ w'.cell? ⟨w.heap.size, 1, none⟩ = some (.int .i64 c.month) ∧ w'.cell? ⟨w.heap.size, 2, none⟩ = some (.int .i64 c.day) ∧ w'.cell? ⟨w.heap.size, 3, none⟩ = some (.int .i64 c.hour) ∧ w'.cell? ⟨w.heap.size, 4, none⟩ = some (.int .i64 c.minute) ∧ w'.cell? ⟨w.heap.size, 5, none⟩ = some (.int .i64 c.second) ∧ w'.cell? ⟨w.heap.size, 6, none⟩ = some (.int .i64 c.nano) ∧ w'.cell? ⟨w.heap.size, 7, none⟩ = some (S c.zone.name) ∧ w'.cell? ⟨w.heap.size, 8, none⟩ = some (.int .i64 c.zone.off) ∧ w'.cell? ⟨w.heap.size + 1, 0, none⟩ = some (S z.name) ∧ w'.cell? ⟨w.heap.size + 1, 1, none⟩ = some (.int .i64 z.off) ∧ Below w0.heap.size w0 w') := by
    show ∀ w', _
    intro w' hb
    obtain ⟨⟨a0, a1, a2, a3, a4, a5, a6, a7, a8⟩, -⟩ := (C0.below hb).cells9
    have hz := Z0.below hb
    exact ⟨a0, a1, a2, a3, a4, a5, a6, a7, a8, (hz.2 0 (by simp)).1, (hz.2 1 (by simp)).1, hb⟩
  have HB0 := Lib.hid B0
  have hs0 := hs.below B0
  have HP0 := H.below B0
  have hps := Pk.of hpk
  have H4 : Hid (∀ w', Below w0.heap.size w0 w' → Calls Tryz.prog 4 #[pv] w' fun e w'' => (∃ b, e = .returned (.bool b) ∧ (b = true → ps.length ≤ 2147483647)) ∧ Below w'.heap.size w' w'') := fun w' hb => zzFits1_c pv ps w' (HP0.below hb) hn
  have H5 : Hid (∀ w', Below w0.heap.size w0 w' → Calls Tryz.prog 5 #[.agg #[.int .i64 c.year, .int .i64 c.month, .int .i64 c.day, .int .i64 c.hour, .int .i64 c.minute, .int .i64 c.second, .int .i64 c.nano, S c.zone.name, .int .i64 c.zone.off]] w' fun e w'' => (∃ b, e = .returned (.bool b) ∧ (b = true → c.zone.name.length ≤ 2147483647)) ∧ Below w'.heap.size w' w'') := fun w' _ => zzFits3_c c w' hcl
  have H6 : Hid (∀ w', Below w0.heap.size w0 w' → Calls Tryz.prog 6 #[.agg #[S z.name, .int .i64 z.off]] w' fun e w'' => (∃ b, e = .returned (.bool b) ∧ (b = true → z.name.length ≤ 2147483647)) ∧ Below w'.heap.size w' w'') := fun w' _ => zzFits4_c z w' hzl
  have H7 : Hid (∀ w', ps.length ≤ 2147483647 → Below w0.heap.size w0 w' → Calls Tryz.prog 7 #[pv] w' fun e w'' => e = .returned (.bool true) ∧ Below w'.heap.size w' w'') := fun w' hn hb => by have := piecesOk_c pv ps w' (HP0.below hb) hn; rwa [hpk] at this
  have H8 : Hid (∀ w', Below w0.heap.size w0 w' → Calls Tryz.prog 8 #[.agg #[.int .i64 c.year, .int .i64 c.month, .int .i64 c.day, .int .i64 c.hour, .int .i64 c.minute, .int .i64 c.second, .int .i64 c.nano, S c.zone.name, .int .i64 c.zone.off]] w' fun e w'' => e = .returned (.bool true) ∧ Below w'.heap.size w' w'') := fun w' _ => by have := civilOk_c c w' hcl; rwa [hck] at this
  have H9 : Hid (∀ w', Below w0.heap.size w0 w' → Calls Tryz.prog 9 #[.agg #[S z.name, .int .i64 z.off]] w' fun e w'' => e = .returned (.bool true) ∧ Below w'.heap.size w' w'') := fun w' _ => by have := zoneOk_c z w' hzl; rwa [hzk] at this
  have H10 : Hid (∀ w', ps.length ≤ 2147483647 → Below w0.heap.size w0 w' → Calls Tryz.prog 10 #[pv, .agg #[.int .i64 c.year, .int .i64 c.month, .int .i64 c.day, .int .i64 c.hour, .int .i64 c.minute, .int .i64 c.second, .int .i64 c.nano, S c.zone.name, .int .i64 c.zone.off]] w' fun e w'' => e = .returned (.bool true) ∧ Below w'.heap.size w' w'') := fun w' hn hb => by have := fits_c pv ps c w' (HP0.below hb) hn; rwa [hfk] at this
  have H11 : Hid (∀ w', Below w0.heap.size w0 w' → Calls Tryz.prog 11 #[] w' fun e w'' => e = .returned (.bool true) ∧ Below w'.heap.size w' w'') := fun w' hb => reads_c w' (hs0.below hb)
  have H12 : Hid (∀ w', Below w0.heap.size w0 w' → Calls Tryz.prog 12 #[] w' fun e w'' => e = .returned (.bool true) ∧ Below w'.heap.size w' w'') := fun w' hb => writes_c w' (hs0.below hb)
  have H14 : Hid (∀ w', Below w0.heap.size w0 w' → Calls Tryz.prog 14 #[pv] w' fun e w'' => e = .returned (S (layout ps)) ∧ Below w'.heap.size w' w'') := fun w' hb => layout_c pv ps w' (HP0.below hb) hps.len (fun i h => hps.suf.all _ (List.getElem_mem h))
  have H13 : Hid (∀ w', Below w0.heap.size w0 w' → Calls Tryz.prog 13 #[.agg #[.int .i64 c.year, .int .i64 c.month, .int .i64 c.day, .int .i64 c.hour, .int .i64 c.minute, .int .i64 c.second, .int .i64 c.nano, S c.zone.name, .int .i64 c.zone.off], S (layout ps)] w' fun e w'' => e = .returned (S (writtenAll ps c)) ∧ Below w'.heap.size w' w'') := fun w' hb => implFormat_c ps c w' hps.suf hps.len (by have := hps.lay; omega) (civB hck) (hs0.below hb)
  have H15 : Hid (∀ w', Below w0.heap.size w0 w' → Calls Tryz.prog 15 #[pv, .agg #[.int .i64 c.year, .int .i64 c.month, .int .i64 c.day, .int .i64 c.hour, .int .i64 c.minute, .int .i64 c.second, .int .i64 c.nano, S c.zone.name, .int .i64 c.zone.off]] w' fun e w'' => e = .returned (S (writtenAll ps c)) ∧ Below w'.heap.size w' w'') := fun w' hb => writtenAll_c pv ps c w' (HP0.below hb) hps.len (fun i h => hps.suf.all _ (List.getElem_mem h)) (civB hck)
  have H16 : Hid (∀ w', Below w0.heap.size w0 w' → Calls Tryz.prog 16 #[pv, .agg #[.int .i64 c.year, .int .i64 c.month, .int .i64 c.day, .int .i64 c.hour, .int .i64 c.minute, .int .i64 c.second, .int .i64 c.nano, S c.zone.name, .int .i64 c.zone.off]] w' fun e w'' => e = .returned (.bool true) ∧ Below w'.heap.size w' w'') := fun w' hb => by have := readable_c pv ps c w' (HP0.below hb) (by have := hps.len; omega) hcl; rwa [hrk] at this
  have hrd := Rd.of hrk
  have hrdb := Rdb.of hpk hrd (by have := hps.lay; omega)
  obtain ⟨td, HTD⟩ : ∃ td, td = told ps c z := ⟨_, rfl⟩
  have hcb := civB hck
  have H17 : Hid (∀ w', Below w0.heap.size w0 w' → Calls Tryz.prog 17 #[S (layout ps), S (writtenAll ps c), .agg #[S z.name, .int .i64 z.off]] w' fun e w'' => (∃ nm, e = .returned (.agg #[.int .i64 td.year, .int .i64 td.month, .int .i64 td.day, .int .i64 td.hour, .int .i64 td.minute, .int .i64 td.second, .int .i64 td.nano, S nm, .int .i64 td.zone.off, .bool true]) ∧ (td.zone.name = [] ∨ nm = td.zone.name)) ∧ Below w'.heap.size w' w'') := fun w' hb => by
    rw [HTD]
    exact implParse_c ps c z hcb (znB hzk) hrdb hrd w' (hs0.below hb)
  have HEND : Hid (∀ gb nm w' a, At3 pv w.heap.size (w.heap.size + 1) gb a → CAt w' gb [.int .i64 td.year, .int .i64 td.month, .int .i64 td.day, .int .i64 td.hour, .int .i64 td.minute, .int .i64 td.second, .int .i64 td.nano, S nm, .int .i64 td.zone.off, .bool true] → (td.zone.name = [] ∨ nm = td.zone.name) → Below w0.heap.size w0 w' → end3.wp Tryz.prog (bodyPost Tryz.prog Tryz.f3 fun e w' => e = .returned (.bool true) ∧ Below w.heap.size w w') a w') := by
    show ∀ gb nm w' a, _
    intro gb nm w' a hA hG hnm hb
    exact end3_c pv ps c z td nm w' _ _ gb (hs0.below hb) (HP0.below hb) hps.len hps.suf.all hcb.f0 hcb.f1 (C0.below hb) (Z0.below hb) hG hnm HTD a hA _ (fun w2 hb2 => ⟨rfl, below_next (below_next B0 hb) hb2⟩)
  clear hrd hrdb HTD hcb
  clear hs hs0 H HP0 C0 Z0 B0 hpk hck hzk hfk hrk hps
  have HS0 := HF.out w0 (Below.refl _ _)
  obtain ⟨a0, a1, a2, a3, a4, a5, a6, a7, a8, z0, z1, bw⟩ := HS0
  generalize layout ps = lay at *
  generalize writtenAll ps c = wr at *
  unfold Civ.val Zn.val
  go_enter Tryz.func3, Tryz.ntmps3
  go_upto_region 1 with fail
  rw [← HW0.out]
  go_upto_region 5 with (first
    | (go_at_call 5; refine (H5.out _ (by assumption)).mono ?_; rintro e w1 ⟨⟨b, rfl, hz⟩, hb⟩; obtain ⟨a0, a1, a2, a3, a4, a5, a6, a7, a8, z0, z1, bw⟩ := HF.out _ (below_next (by assumption) hb); clear hb; cases b)
    | (go_at_call 6; refine (H6.out _ (by assumption)).mono ?_; rintro e w1 ⟨⟨b, rfl, hz⟩, hb⟩; obtain ⟨a0, a1, a2, a3, a4, a5, a6, a7, a8, z0, z1, bw⟩ := HF.out _ (below_next (by assumption) hb); clear hb; cases b)
    | (go_at_call 4; refine (H4.out _ (by assumption)).mono ?_; rintro e w1 ⟨⟨b, rfl, hz4⟩, hb⟩; have HZ4 := Lib.hid hz4; clear hz4; obtain ⟨a0, a1, a2, a3, a4, a5, a6, a7, a8, z0, z1, bw⟩ := HF.out _ (below_next (by assumption) hb); clear hb; cases b)
    | (go_at_call 7; refine (H7.out _ (by first | exact HZ4.out trivial | exact HZ4.out rfl) (by assumption)).mono ?_; rintro e w1 ⟨rfl, hb⟩; obtain ⟨a0, a1, a2, a3, a4, a5, a6, a7, a8, z0, z1, bw⟩ := HF.out _ (below_next (by assumption) hb); clear hb)
    | (go_at_call 8; refine (H8.out _ (by assumption)).mono ?_; rintro e w1 ⟨rfl, hb⟩; obtain ⟨a0, a1, a2, a3, a4, a5, a6, a7, a8, z0, z1, bw⟩ := HF.out _ (below_next (by assumption) hb); clear hb)
    | (go_at_call 9; refine (H9.out _ (by assumption)).mono ?_; rintro e w1 ⟨rfl, hb⟩; obtain ⟨a0, a1, a2, a3, a4, a5, a6, a7, a8, z0, z1, bw⟩ := HF.out _ (below_next (by assumption) hb); clear hb)
    | (go_at_call 10; refine (H10.out _ (by first | exact HZ4.out trivial | exact HZ4.out rfl) (by assumption)).mono ?_; rintro e w1 ⟨rfl, hb⟩; obtain ⟨a0, a1, a2, a3, a4, a5, a6, a7, a8, z0, z1, bw⟩ := HF.out _ (below_next (by assumption) hb); clear hb)
    | (go_at_call 11; refine (H11.out _ (by assumption)).mono ?_; rintro e w1 ⟨rfl, hb⟩; obtain ⟨a0, a1, a2, a3, a4, a5, a6, a7, a8, z0, z1, bw⟩ := HF.out _ (below_next (by assumption) hb); clear hb)
    | (go_at_call 12; refine (H12.out _ (by assumption)).mono ?_; rintro e w1 ⟨rfl, hb⟩; obtain ⟨a0, a1, a2, a3, a4, a5, a6, a7, a8, z0, z1, bw⟩ := HF.out _ (below_next (by assumption) hb); clear hb))
  all_goals first | (go_ret; exact ⟨by first | rfl | simp, below_next HB0.out bw⟩) | skip
  go_region_held3 (fun w' => w'.cell? ⟨w.heap.size, 0, none⟩ = some (.int .i64 c.year) ∧ w'.cell? ⟨w.heap.size, 1, none⟩ = some (.int .i64 c.month) ∧ w'.cell? ⟨w.heap.size, 2, none⟩ = some (.int .i64 c.day) ∧ w'.cell? ⟨w.heap.size, 3, none⟩ = some (.int .i64 c.hour) ∧ w'.cell? ⟨w.heap.size, 4, none⟩ = some (.int .i64 c.minute) ∧ w'.cell? ⟨w.heap.size, 5, none⟩ = some (.int .i64 c.second) ∧ w'.cell? ⟨w.heap.size, 6, none⟩ = some (.int .i64 c.nano) ∧ w'.cell? ⟨w.heap.size, 7, none⟩ = some (S c.zone.name) ∧ w'.cell? ⟨w.heap.size, 8, none⟩ = some (.int .i64 c.zone.off) ∧ w'.cell? ⟨w.heap.size + 1, 0, none⟩ = some (S z.name) ∧ w'.cell? ⟨w.heap.size + 1, 1, none⟩ = some (.int .i64 z.off) ∧ Below w0.heap.size w0 w') (first | exact HF.out _ (by (repeat (first | with_reducible assumption | with_reducible refine Below.drew ?_ | with_reducible refine Below.alloc ?_ (Below.size (by first | with_reducible assumption | exact Below.drew (by with_reducible assumption))) _ | with_reducible refine Below.setCell ?_ (Below.size (by first | with_reducible assumption | exact Below.drew (by with_reducible assumption))) _))) | go_keep)
    (first
      | (go_at_call 14; refine (H14.out _ (by (repeat (first | with_reducible assumption | with_reducible refine Below.drew ?_ | with_reducible refine Below.alloc ?_ (Below.size (by first | with_reducible assumption | exact Below.drew (by with_reducible assumption))) _ | with_reducible refine Below.setCell ?_ (Below.size (by first | with_reducible assumption | exact Below.drew (by with_reducible assumption))) _)))).mono ?_; rintro e w1 ⟨rfl, hb⟩; obtain ⟨a0, a1, a2, a3, a4, a5, a6, a7, a8, z0, z1, bw⟩ := HF.out _ (below_next (by (repeat (first | with_reducible assumption | with_reducible refine Below.drew ?_ | with_reducible refine Below.alloc ?_ (Below.size (by first | with_reducible assumption | exact Below.drew (by with_reducible assumption))) _ | with_reducible refine Below.setCell ?_ (Below.size (by first | with_reducible assumption | exact Below.drew (by with_reducible assumption))) _))) hb); clear hb)
      | (go_at_call 13; refine (H13.out _ (by (repeat (first | with_reducible assumption | with_reducible refine Below.drew ?_ | with_reducible refine Below.alloc ?_ (Below.size (by first | with_reducible assumption | exact Below.drew (by with_reducible assumption))) _ | with_reducible refine Below.setCell ?_ (Below.size (by first | with_reducible assumption | exact Below.drew (by with_reducible assumption))) _)))).mono ?_; rintro e w1 ⟨rfl, hb⟩; obtain ⟨a0, a1, a2, a3, a4, a5, a6, a7, a8, z0, z1, bw⟩ := HF.out _ (below_next (by (repeat (first | with_reducible assumption | with_reducible refine Below.drew ?_ | with_reducible refine Below.alloc ?_ (Below.size (by first | with_reducible assumption | exact Below.drew (by with_reducible assumption))) _ | with_reducible refine Below.setCell ?_ (Below.size (by first | with_reducible assumption | exact Below.drew (by with_reducible assumption))) _))) hb); clear hb))
  go_upto_region 10 with (first
    | (go_at_call 15; refine (H15.out _ (by assumption)).mono ?_; rintro e w1 ⟨rfl, hb⟩; obtain ⟨a0, a1, a2, a3, a4, a5, a6, a7, a8, z0, z1, bw⟩ := HF.out _ (below_next (by assumption) hb); clear hb)
    | (go_at_call 16; refine (H16.out _ (by assumption)).mono ?_; rintro e w1 ⟨rfl, hb⟩; obtain ⟨a0, a1, a2, a3, a4, a5, a6, a7, a8, z0, z1, bw⟩ := HF.out _ (below_next (by assumption) hb); clear hb))
  rename_i K hK
  have lz0 : ∀ o, (w1.alloc o).cell? ⟨w.heap.size + 1, 0, none⟩ = some (S z.name) := fun o => (HF.out _ (Below.alloc bw (Below.size bw) o)).2.2.2.2.2.2.2.2.2.1
  have lz1 : ∀ o, (w1.alloc o).cell? ⟨w.heap.size + 1, 1, none⟩ = some (.int .i64 z.off) := fun o => (HF.out _ (Below.alloc bw (Below.size bw) o)).2.2.2.2.2.2.2.2.2.2.1
  clear H4 H5 H6 H7 H8 H9 H10 H11 H12 H13 H15 H16
  go_region_with (first
    | (go_at_call 14; refine (H14.out _ (by (repeat (first | with_reducible assumption | with_reducible refine Below.drew ?_ | with_reducible refine Below.alloc ?_ (Below.size (by first | with_reducible assumption | exact Below.drew (by with_reducible assumption))) _ | with_reducible refine Below.setCell ?_ (Below.size (by first | with_reducible assumption | exact Below.drew (by with_reducible assumption))) _)))).mono ?_; rintro e w1 ⟨rfl, hb⟩; (first | (have HG := Lib.hid ((CAt.new _ [.int .i64 0, .int .i64 0, .int .i64 0, .int .i64 0, .int .i64 0, .int .i64 0, .int .i64 0, .string ⟨#[]⟩, .int .i64 0, .bool false] 36).below hb)) | (have HG := Lib.hid (((CAt.new _ [.int .i64 0, .int .i64 0, .int .i64 0, .int .i64 0, .int .i64 0, .int .i64 0, .int .i64 0, .string ⟨#[]⟩, .int .i64 0, .bool false] 36).below (below_drew _)).below hb)) | skip); obtain ⟨a0, a1, a2, a3, a4, a5, a6, a7, a8, z0, z1, bw⟩ := HF.out _ (below_next (by (repeat (first | with_reducible assumption | with_reducible refine Below.drew ?_ | with_reducible refine Below.alloc ?_ (Below.size (by first | with_reducible assumption | exact Below.drew (by with_reducible assumption))) _ | with_reducible refine Below.setCell ?_ (Below.size (by first | with_reducible assumption | exact Below.drew (by with_reducible assumption))) _))) hb); clear hb; have lz0 : ∀ o, (w1.alloc o).cell? ⟨w.heap.size + 1, 0, none⟩ = some (S z.name) := fun o => (HF.out _ (Below.alloc bw (Below.size bw) o)).2.2.2.2.2.2.2.2.2.1; have lz1 : ∀ o, (w1.alloc o).cell? ⟨w.heap.size + 1, 1, none⟩ = some (.int .i64 z.off) := fun o => (HF.out _ (Below.alloc bw (Below.size bw) o)).2.2.2.2.2.2.2.2.2.2.1)
    | (go_at_call 17; refine (H17.out _ (by (repeat (first | with_reducible assumption | with_reducible refine Below.drew ?_ | with_reducible refine Below.alloc ?_ (Below.size (by first | with_reducible assumption | exact Below.drew (by with_reducible assumption))) _ | with_reducible refine Below.setCell ?_ (Below.size (by first | with_reducible assumption | exact Below.drew (by with_reducible assumption))) _)))).mono ?_; rintro e w1 ⟨⟨nm, rfl, hnm⟩, hb⟩; have HNM := Lib.hid hnm; clear hnm; (first | (have HG := Lib.hid (HG.out.below hb)) | (have HG := Lib.hid (HG.out.below ((below_drew _).trans hb))) | (have HG := Lib.hid ((CAt.new _ [.int .i64 0, .int .i64 0, .int .i64 0, .int .i64 0, .int .i64 0, .int .i64 0, .int .i64 0, .string ⟨#[]⟩, .int .i64 0, .bool false] 36).below hb)) | (have HG := Lib.hid (((CAt.new _ [.int .i64 0, .int .i64 0, .int .i64 0, .int .i64 0, .int .i64 0, .int .i64 0, .int .i64 0, .string ⟨#[]⟩, .int .i64 0, .bool false] 36).below (below_drew _)).below hb)) | skip); obtain ⟨a0, a1, a2, a3, a4, a5, a6, a7, a8, z0, z1, bw⟩ := HF.out _ (below_next (by (repeat (first | with_reducible assumption | with_reducible refine Below.drew ?_ | with_reducible refine Below.alloc ?_ (Below.size (by first | with_reducible assumption | exact Below.drew (by with_reducible assumption))) _ | with_reducible refine Below.setCell ?_ (Below.size (by first | with_reducible assumption | exact Below.drew (by with_reducible assumption))) _))) hb); clear hb; (first | obtain ⟨⟨r0, r1, r2, r3, r4, r5, r6, r7, r8, r9⟩, ⟨k0, k1, k2, k3, k4, k5, k6, k7, k8, k9⟩⟩ := HG.out.cells10 | skip)))
  all_goals
    refine then_no (hK _ _ ?_)
    refine HEND.out _ nm _ _ ⟨rfl, rfl, rfl, rfl, rfl, rfl⟩ ?_ HNM.out ?_
    rotate_left
    · exact (by (repeat (first | with_reducible assumption | with_reducible refine Below.drew ?_ | with_reducible refine Below.alloc ?_ (Below.size (by first | with_reducible assumption | exact Below.drew (by with_reducible assumption))) _ | with_reducible refine Below.setCell ?_ (Below.size (by first | with_reducible assumption | exact Below.drew (by with_reducible assumption))) _)))
    first
      | (with_reducible refine CAt.set10 HG.out _ _ _ _ _ _ _ _ _ _)
      | exact CAt.new _ _ _
end Go.Proofs.YtndhiemagankeaaGreatDoor
