/-
  FnLayout (the statement: for every list of pieces, every time and every zone the call returns true, and its arguments read afterwards as they did), part 40 of 41. In this part: FnLayout answers true for whatever its arguments are: the walk's cases joined, and the arguments opened.
-/
import Derived.Test.YtndhiemagankeaaGreatDoorRows
import Derived.ProofKit
import Derived.LaidMore
import Derived.OpenShut
import Derived.Stop.Joined
import Derived.Deep.Slices
import Derived.Lib.SmallJoins
import Derived.Lib.LaidTab
import Derived.OpenVars
import Derived.Test.YtndhiemagankeaaGreatDoorG39
/- FnLayout answers true for whatever its arguments are: the walk's cases joined, and the arguments opened. -/
namespace Go.Proofs.YtndhiemagankeaaGreatDoor
open Go.ChangeShapes Go.WideShapes Go.ChangeAt Go.RowKit Go.Deep Go.Joins
set_option linter.unusedVariables false
set_option linter.unusedSimpArgs false
theorem fnLayout_any (pv : Value) (ps : List Pc) (c : Civ) (z : Zn) (w : World) (hs : StdAt w) (H : PcsAt w pv ps) (hn : ps.length ≤ 9223372036854775807) (hcl : c.zone.name.length ≤ 9223372036854775807) (hzl : z.name.length ≤ 9223372036854775807) :
    Calls Tryz.prog 3 #[pv, c.val, z.val] w fun e w' => e = .returned (.bool true) ∧ Below w.heap.size w w' := by
  cases hp : piecesOk ps with
  | false => exact fnLayout_a pv ps c z w hs H hn hcl hzl hp
  | true =>
    cases hc : civilOk c with
    | false => exact fnLayout_b pv ps c z w hs H hn hcl hzl hp hc
    | true =>
      cases hz : zoneOk z with
      | false => exact fnLayout_c pv ps c z w hs H hn hcl hzl hp hc hz
      | true =>
        cases hf : fits ps c with
        | false => exact fnLayout_d pv ps c z w hs H hn hcl hzl hp hc hz hf
        | true =>
          cases hr : readable ps c with
          | false => exact fnLayout_e pv ps c z w hs H hn hcl hzl hp hc hz hf hr
          | true => exact fnLayout_f pv ps c z w hs H hn hcl hzl hp hc hz hf hr
theorem Tryz.own : ownKnob Tryz.prog.godebug = none := by kernel_rfl
theorem Tryz.laidOut : laidOutB Tryz.prog = true := by kernel_rfl
section
variable {H : Type} {enc : TypeId × Value → H} {w : World} {base : Nat} {spare : Nat → Bool} {held : Bool}
set_option maxRecDepth 100000 in
/-- A zone's two cells. -/
theorem open_zone {n : Nat} {cs : List Value} {x : DataW H × List MemPlace} (h : DataW.trod enc Tryz.prog w base spare held n 24 cs = some x) : ∃ z : Zn, cs = [S z.name, .int .i64 z.off] ∧ z.name.length ≤ 9223372036854775807 := by
  obtain ⟨xs, m, _, -, hl, hlen, hf⟩ := DataW.trod_struct Tryz.underlying24 h
  have hl : cs.length = 2 := hl.trans (by kernel_rfl)
  obtain ⟨c0, c1, rfl⟩ : ∃ c0 c1, cs = [c0, c1] := by
    match cs, hl with
    | [c0, c1], _ => exact ⟨c0, c1, rfl⟩
  obtain ⟨x0, x1, rfl⟩ : ∃ x0 x1, xs = [x0, x1] := by
    match xs, hlen with
    | [x0, x1], _ => exact ⟨x0, x1, rfl⟩
  clear hl hlen
  have h0 := hf 0 _ rfl
  have h1 := hf 1 _ rfl
  obtain ⟨s, e0, -, hs⟩ := DataW.trod_string Tryz.underlying9 (show DataW.trod enc Tryz.prog w base spare held m 9 [c0] = some x0 from h0)
  obtain ⟨k, e1, -, -⟩ := DataW.trod_int Tryz.underlying3 (show DataW.trod enc Tryz.prog w base spare held m 3 [c1] = some x1 from h1)
  simp at e0 e1
  subst e0 e1
  refine ⟨⟨s.data.toList, k⟩, ?_, ?_⟩
  · show [Value.string s, Value.int .i64 k] = [Value.string (bs s.data.toList), Value.int .i64 k]
    rw [bs_of]
  · have h1 : s.size = s.data.toList.length := by rw [← bs_size, bs_of]
    simp only [maxLen] at hs
    show s.data.toList.length ≤ _
    omega
set_option maxRecDepth 100000 in
/-- A time's nine cells. -/
theorem open_civ {n : Nat} {cs : List Value} {x : DataW H × List MemPlace} (h : DataW.trod enc Tryz.prog w base spare held n 26 cs = some x) :
    ∃ c : Civ, cs = [.int .i64 c.year, .int .i64 c.month, .int .i64 c.day, .int .i64 c.hour, .int .i64 c.minute, .int .i64 c.second, .int .i64 c.nano, S c.zone.name, .int .i64 c.zone.off] ∧ c.zone.name.length ≤ 9223372036854775807 := by
  obtain ⟨xs, m, _, -, hl, hlen, hf⟩ := DataW.trod_struct Tryz.underlying26 h
  have hl : cs.length = 9 := hl.trans (by kernel_rfl)
  obtain ⟨c0, c1, c2, c3, c4, c5, c6, c7, c8, rfl⟩ : ∃ c0 c1 c2 c3 c4 c5 c6 c7 c8, cs = [c0, c1, c2, c3, c4, c5, c6, c7, c8] := by
    match cs, hl with
    | [c0, c1, c2, c3, c4, c5, c6, c7, c8], _ => exact ⟨c0, c1, c2, c3, c4, c5, c6, c7, c8, rfl⟩
  obtain ⟨x0, x1, x2, x3, x4, x5, x6, x7, rfl⟩ : ∃ x0 x1 x2 x3 x4 x5 x6 x7, xs = [x0, x1, x2, x3, x4, x5, x6, x7] := by
    match xs, hlen with
    | [x0, x1, x2, x3, x4, x5, x6, x7], _ => exact ⟨x0, x1, x2, x3, x4, x5, x6, x7, rfl⟩
  clear hl hlen
  have h0 := hf 0 _ rfl
  have h1 := hf 1 _ rfl
  have h2 := hf 2 _ rfl
  have h3 := hf 3 _ rfl
  have h4 := hf 4 _ rfl
  have h5 := hf 5 _ rfl
  have h6 := hf 6 _ rfl
  have h7 := hf 7 _ rfl
  obtain ⟨k0, e0, -, -⟩ := DataW.trod_int Tryz.underlying3 (show DataW.trod enc Tryz.prog w base spare held m 3 [c0] = some x0 from h0)
  obtain ⟨k1, e1, -, -⟩ := DataW.trod_int Tryz.underlying3 (show DataW.trod enc Tryz.prog w base spare held m 3 [c1] = some x1 from h1)
  obtain ⟨k2, e2, -, -⟩ := DataW.trod_int Tryz.underlying3 (show DataW.trod enc Tryz.prog w base spare held m 3 [c2] = some x2 from h2)
  obtain ⟨k3, e3, -, -⟩ := DataW.trod_int Tryz.underlying3 (show DataW.trod enc Tryz.prog w base spare held m 3 [c3] = some x3 from h3)
  obtain ⟨k4, e4, -, -⟩ := DataW.trod_int Tryz.underlying3 (show DataW.trod enc Tryz.prog w base spare held m 3 [c4] = some x4 from h4)
  obtain ⟨k5, e5, -, -⟩ := DataW.trod_int Tryz.underlying3 (show DataW.trod enc Tryz.prog w base spare held m 3 [c5] = some x5 from h5)
  obtain ⟨k6, e6, -, -⟩ := DataW.trod_int Tryz.underlying3 (show DataW.trod enc Tryz.prog w base spare held m 3 [c6] = some x6 from h6)
  obtain ⟨z, e7, hz⟩ := open_zone (show DataW.trod enc Tryz.prog w base spare held m 24 [c7, c8] = some x7 from h7)
  simp only [List.cons.injEq, and_true] at e0 e1 e2 e3 e4 e5 e6 e7
  obtain ⟨e7, e8⟩ := e7
  subst e0 e1 e2 e3 e4 e5 e6 e7 e8
  exact ⟨⟨k0, k1, k2, k3, k4, k5, k6, z⟩, rfl, hz⟩
set_option maxRecDepth 100000 in
/-- A piece's four cells. -/
theorem open_pc {n : Nat} {cs : List Value} {x : DataW H × List MemPlace} (h : DataW.trod enc Tryz.prog w base spare held n 42 cs = some x) :
    ∃ p : Pc, cs = [.int .i64 p.kind, S p.text, .int .i64 p.n, .bool p.comma] ∧ p.text.length ≤ 9223372036854775807 := by
  obtain ⟨xs, m, _, -, hl, hlen, hf⟩ := DataW.trod_struct Tryz.underlying42 h
  have hl : cs.length = 4 := hl.trans (by kernel_rfl)
  obtain ⟨c0, c1, c2, c3, rfl⟩ : ∃ c0 c1 c2 c3, cs = [c0, c1, c2, c3] := by
    match cs, hl with
    | [c0, c1, c2, c3], _ => exact ⟨c0, c1, c2, c3, rfl⟩
  obtain ⟨x0, x1, x2, x3, rfl⟩ : ∃ x0 x1 x2 x3, xs = [x0, x1, x2, x3] := by
    match xs, hlen with
    | [x0, x1, x2, x3], _ => exact ⟨x0, x1, x2, x3, rfl⟩
  clear hl hlen
  have h0 := hf 0 _ rfl
  have h1 := hf 1 _ rfl
  have h2 := hf 2 _ rfl
  have h3 := hf 3 _ rfl
  obtain ⟨k, e0, -, -⟩ := DataW.trod_int Tryz.underlying3 (show DataW.trod enc Tryz.prog w base spare held m 3 [c0] = some x0 from h0)
  obtain ⟨s, e1, -, hs⟩ := DataW.trod_string Tryz.underlying9 (show DataW.trod enc Tryz.prog w base spare held m 9 [c1] = some x1 from h1)
  obtain ⟨k2, e2, -, -⟩ := DataW.trod_int Tryz.underlying3 (show DataW.trod enc Tryz.prog w base spare held m 3 [c2] = some x2 from h2)
  obtain ⟨b, e3, -⟩ := DataW.trod_bool Tryz.underlying4 (show DataW.trod enc Tryz.prog w base spare held m 4 [c3] = some x3 from h3)
  simp at e0 e1 e2 e3
  subst e0 e1 e2 e3
  refine ⟨⟨k, s.data.toList, k2, b⟩, ?_, ?_⟩
  · show [Value.int .i64 k, Value.string s, Value.int .i64 k2, Value.bool b] = [Value.int .i64 k, Value.string (bs s.data.toList), Value.int .i64 k2, Value.bool b]
    rw [bs_of]
  · have h1 : s.size = s.data.toList.length := by rw [← bs_size, bs_of]
    simp only [maxLen] at hs
    show s.data.toList.length ≤ _
    omega
end
end Go.Proofs.YtndhiemagankeaaGreatDoor
