/-
  FnLayout (the statement: for every list of pieces, every time and every zone the call returns true, and its arguments read afterwards as they did), part 41 of 41. In this part: The statement on FnLayout, out of its walk: whatever the input, the call returns true and the arguments and the named variables read as they did. FnLayout: for every list of pieces, every time and every zone (whatever they are: where the statement's guards do not let them in, it answers true by itself), the call returns true and its arguments read afterwards as they did; the card ties the four package variables to the program's text.
-/
import Derived.Test.YtndhiemagankeaaGreatDoorCards
import Derived.Test.YtndhiemagankeaaGreatDoorTie
import Derived.SevenTiedAt
import Derived.Test.YtndhiemagankeaaGreatDoorG40
/- The statement on FnLayout, out of its walk: whatever the input, the call returns true and the arguments and the named variables read as they did. -/
namespace Go.Proofs.YtndhiemagankeaaGreatDoor
open Go.ChangeShapes Go.WideShapes Go.ChangeAt Go.RowKit Go.Deep Go.Joins
set_option linter.unusedVariables false
set_option linter.unusedSimpArgs false
instance : Inhabited Pc := ⟨⟨0, [], 0, false⟩⟩
set_option maxRecDepth 100000 in
/-- A slice of pieces that came in, as the walk reads it. -/
theorem open_pcs {H : Type} {enc : TypeId × Value → H} {w : World} {base : Nat} {spare : Nat → Bool} {held : Bool} {fuel : Nat} {v : Value} {x : DataW H × List MemPlace} (h : DataW.trod enc Tryz.prog w base spare held fuel 22 [v] = some x) :
    ∃ ps : List Pc, PcsAt w v ps ∧ ps.length ≤ 9223372036854775807 := by
  have hc4 : Tryz.prog.cellsOf 42 = 4 := by kernel_rfl
  rcases open_slice Tryz.underlying22 h with ⟨hcs, -⟩ | ⟨a, len, cap, m, n, D, Pl, hcs, hb, hl, hm, hmm, -, hel⟩
  · simp only [List.cons.injEq, and_true] at hcs
    subst hcs
    exact ⟨[], ⟨none, 0, rfl, Nat.le_refl _, fun i h => absurd h (Nat.not_lt_zero i)⟩, Nat.zero_le _⟩
  · simp only [List.cons.injEq, and_true] at hcs
    subst hcs
    have hlm : len ≤ m := by rw [hmm]; split <;> omega
    have hsp : 0 < len → a.spot = none := by
      intro h0
      obtain ⟨cs', h1, h2⟩ := hel 0 (by omega)
      rw [hc4] at h1
      obtain ⟨p, rfl, hp⟩ := open_pc h2
      obtain ⟨-, -, hcell⟩ := World.cells?_some h1
      have := World.cell?_spot (hcell 0 (by decide))
      simpa [Addr.add] using this
    have key : ∀ i, i < len → ∃ p : Pc, (∃ b off, a = ⟨b, off, none⟩ ∧ b < w.heap.size ∧
        w.cell? ⟨b, off + i * 4, none⟩ = some (.int .i64 p.kind) ∧ w.cell? ⟨b, off + i * 4 + 1, none⟩ = some (S p.text) ∧
        w.cell? ⟨b, off + i * 4 + 2, none⟩ = some (.int .i64 p.n) ∧ w.cell? ⟨b, off + i * 4 + 3, none⟩ = some (.bool p.comma)) ∧ p.text.length ≤ 9223372036854775807 := by
      intro i hi
      obtain ⟨cs', h1, h2⟩ := hel i (by omega)
      rw [hc4] at h1
      obtain ⟨p, rfl, hp⟩ := open_pc h2
      have hlt := World.cells?_block h1 (by decide)
      obtain ⟨-, -, hcell⟩ := World.cells?_some h1
      obtain ⟨b, off, spot⟩ := a
      have g0 := hcell 0 (by decide)
      have g1 := hcell 1 (by decide)
      have g2 := hcell 2 (by decide)
      have g3 := hcell 3 (by decide)
      have hspot : spot = none := hsp (by omega)
      subst hspot
      have hadd : ∀ k : Nat, (⟨b, off, none⟩ : Addr).add k = ⟨b, off + k, none⟩ := by
        intro k
        unfold Addr.add
        by_cases hk : k = 0
        · subst hk; rfl
        · simp [hk]
      rw [add_add, hadd] at g0 g1 g2 g3
      rw [hadd] at hlt
      refine ⟨p, ⟨b, off, rfl, hlt, ?_, ?_, ?_, ?_⟩, hp⟩
      · simpa using g0
      · simpa [Nat.add_assoc] using g1
      · simpa [Nat.add_assoc] using g2
      · simpa [Nat.add_assoc] using g3
    obtain ⟨f, hf⟩ := choose_lt key
    have hlen : ((List.range len).map f).length = len := by simp
    refine ⟨(List.range len).map f, ⟨some a, cap, by rw [hlen], by rw [hlen]; exact hl, ?_⟩, by rw [hlen]; simp only [maxLen] at hm; omega⟩
    intro i h
    rw [hlen] at h
    obtain ⟨⟨b, off, ha, hblt, k0, k1, k2, k3⟩, hp⟩ := hf i h
    have hget : ((List.range len).map f)[i]'(by simpa using h) = f i := by simp
    refine ⟨b, off, by rw [ha], hblt, ?_, ?_, ?_, ?_, ?_⟩
    · rw [hget]; exact k0
    · rw [hget]; exact k1
    · rw [hget]; exact k2
    · rw [hget]; exact k3
    · rw [hget]; exact hp
theorem gStd : Tryz.prog.globalNamed "loop.example/pub-layouttheorem/pub/gotime.std0x" = some 1 := by kernel_rfl
theorem gStdType : (Tryz.prog.globals[1]?).map (·.type) = some 150 := by kernel_rfl
theorem cells150 : Tryz.prog.cellsOf 150 = 6 := by kernel_rfl
theorem cells3 : Tryz.prog.cellsOf 3 = 1 := by kernel_rfl
/-- What the row's list gives: the table's cells. -/
theorem std_at {W : World} (h : laidMetH Tryz.prog Rows.fnLayoutRow.laid W) : StdAt W := by
  have ht : Lib.TabIs Tryz.prog W "loop.example/pub-layouttheorem/pub/gotime.std0x" .i64 [260, 265, 1038, 1040, 1042, 276] :=
    Lib.tabIs_of_head gStd gStdType Tryz.underlying150 Tryz.underlying3 cells3 cells150 h
  have c0 := ht.cell gStd 0 (by decide)
  have c1 := ht.cell gStd 1 (by decide)
  have c2 := ht.cell gStd 2 (by decide)
  have c3 := ht.cell gStd 3 (by decide)
  have c4 := ht.cell gStd 4 (by decide)
  have c5 := ht.cell gStd 5 (by decide)
  exact ⟨c0, c1, c2, c3, c4, c5, World.block_lt_of_cell? _ _ c0⟩
set_option maxRecDepth 100000 in
/-- What the walk gives, for every argument and every world that holds the table. -/
theorem contract (H : Type) (enc : TypeId × Value → H) (W : World) (base : Nat) (args : Array Value) (ds gs : List (DataW H)) (before : List MemPlace)
    (hval : ∀ (j : Nat) t v, Tryz.f3.params[j]? = some t → args[j]? = some v → Value.okWide Tryz.prog W .any base t v)
    (hW : DataW.Whole enc Tryz.prog Tryz.f3.params.toList Rows.fnLayoutSpec.vars false W args.toList ds gs before) (hL : laidMetH Tryz.prog Rows.fnLayoutRow.laid W) :
    Calls Tryz.prog 3 args W fun e W' => ∃ v, e = .returned v ∧ Rows.fnLayoutSpec.post enc Tryz.prog Tryz.f3 false true false false W args v W' := by
  have hW' := hW
  obtain ⟨p, q, hA0, hV, rfl, hfz, hnd⟩ := hW
  have hA : DataW.TrodAll enc Tryz.prog W 0 (fun _ => true) true Tryz.f3.params.toList args.toList ds p := hA0
  rw [Tryz.params3] at hA hval
  obtain ⟨v0, vs0, d0, ds0, p0, q0, hargs, rfl, rfl, h0, r0⟩ := trodAll_cons hA
  obtain ⟨v1, vs1, d1, ds1, p1, q1, rfl, rfl, rfl, h1, r1⟩ := trodAll_cons r0
  obtain ⟨v2, vs2, d2, ds2, p2, q2, rfl, rfl, rfl, h2, r2⟩ := trodAll_cons r1
  obtain ⟨rfl, rfl, rfl⟩ := trodAll_nil r2
  obtain rfl : args = #[v0, v1, v2] := by cases args; simp_all
  have k0 := h0
  have k1 := h1
  have k2 := h2
  have lt0 : ∀ x ∈ p0, x.block < W.heap.size := by obtain ⟨m, hm⟩ := k0; exact DataW.trod_lt m _ _ _ hm
  have lt1 : ∀ x ∈ p1, x.block < W.heap.size := by obtain ⟨m, hm⟩ := k1; exact DataW.trod_lt m _ _ _ hm
  have lt2 : ∀ x ∈ p2, x.block < W.heap.size := by obtain ⟨m, hm⟩ := k2; exact DataW.trod_lt m _ _ _ hm
  obtain ⟨a0, len0, cap0, rfl⟩ := okWide_slice Tryz.underlying22 (hval 0 22 v0 rfl rfl)
  obtain ⟨cs1, rfl, -⟩ := okWide_struct Tryz.underlying26 (hval 1 26 v1 rfl rfl)
  obtain ⟨cs2, rfl, -⟩ := okWide_struct Tryz.underlying24 (hval 2 24 v2 rfl rfl)
  obtain ⟨n0, e0⟩ := h0
  obtain ⟨n1, e1⟩ := h1
  obtain ⟨n2, e2⟩ := h2
  obtain ⟨ps, hps, hn⟩ := open_pcs (show DataW.trod enc Tryz.prog W 0 (fun _ => true) true n0 22 [.slice a0 len0 cap0] = some (d0, p0) from e0)
  obtain ⟨c, hc, hcl⟩ := open_civ (show DataW.trod enc Tryz.prog W 0 (fun _ => true) true n1 26 cs1.toList = some (d1, p1) from e1)
  obtain ⟨z, hz, hzl⟩ := open_zone (show DataW.trod enc Tryz.prog W 0 (fun _ => true) true n2 24 cs2.toList = some (d2, p2) from e2)
  have hc' : (Value.agg cs1) = c.val := by
    unfold Civ.val
    congr 1
    exact Array.ext' hc
  have hz' : (Value.agg cs2) = z.val := by
    unfold Zn.val
    congr 1
    exact Array.ext' hz
  have walk := fnLayout_any (.slice a0 len0 cap0) ps c z W (std_at hL) hps hn hcl hzl
  rw [← hc', ← hz'] at walk
  refine walk.mono fun e W' ⟨he, bel⟩ => ?_
  subst he
  have hvars := Below.trodVars Tryz.laidOut bel (by kernel_rfl) hV
  have hargs2 := trodAll_cons_mk (Below.trod Tryz.laidOut (by kernel_rfl) (of_decide_eq_true (by kernel_rfl)) k0 bel lt0) (trodAll_cons_mk (Below.trod Tryz.laidOut (by kernel_rfl) (of_decide_eq_true (by kernel_rfl)) k1 bel lt1) (trodAll_cons_mk (Below.trod Tryz.laidOut (by kernel_rfl) (of_decide_eq_true (by kernel_rfl)) k2 bel lt2) trodAll_mk0))
  obtain ⟨g1, g2, g3, g4, rfl⟩ : ∃ g1 g2 g3 g4, gs = [g1, g2, g3, g4] := by
    match gs, hV with
    | [], hV => exact hV.elim
    | [_], hV => obtain ⟨_, _, _, _, _, _, _, _, _, _, h, _⟩ := hV; exact h.elim
    | [_, _], hV => obtain ⟨_, _, _, _, _, _, _, _, _, _, h, _⟩ := hV; obtain ⟨_, _, _, _, _, _, _, _, _, _, h, _⟩ := h; exact h.elim
    | [_, _, _], hV => obtain ⟨_, _, _, _, _, _, _, _, _, _, h, _⟩ := hV; obtain ⟨_, _, _, _, _, _, _, _, _, _, h, _⟩ := h; obtain ⟨_, _, _, _, _, _, _, _, _, _, h, _⟩ := h; exact h.elim
    | [g1, g2, g3, g4], _ => exact ⟨g1, g2, g3, g4, rfl⟩
    | _ :: _ :: _ :: _ :: _ :: _, hV => obtain ⟨_, _, _, _, _, _, _, _, _, _, h, _⟩ := hV; obtain ⟨_, _, _, _, _, _, _, _, _, _, h, _⟩ := h; obtain ⟨_, _, _, _, _, _, _, _, _, _, h, _⟩ := h; obtain ⟨_, _, _, _, _, _, _, _, _, _, h, _⟩ := h; exact h.elim
  exact ⟨_, rfl, _, _, _, [], _, _, hW', trodAll_mk1 (shut_bool Tryz.underlying4 _), hargs2, hvars, bel.frame _, fun h => by cases h⟩
end Go.Proofs.YtndhiemagankeaaGreatDoor
/- FnLayout: for every list of pieces, every time and every zone (whatever they are: where the statement's guards do not let them in, it answers true by itself), the call returns true and its arguments read afterwards as they did; the card ties the four package variables to the program's text. -/
namespace Go.Proofs.YtndhiemagankeaaGreatDoor
open Go Go.ChangeShapes Go.WideShapes Go.ChangeAt Go.RowKit Go.Deep Go.Joins
set_option linter.unusedVariables false
set_option linter.unusedSimpArgs false
/-- The heap that the door's own run leaves meets the row's condition. -/
theorem door_met (os : Os) (args : Array Value) : laidMetH Tryz.prog Rows.fnLayoutRow.laid ((World.doorLaid Tryz.prog 100 os).forCall (fun _ _ => 0) ⟨#[], args, []⟩).memory :=
  laidMetH_of_parts3 (fuel := 8) (laidMet_of_run' 8 (by kernel_rfl) (by kernel_rfl)) (by kernel_rfl) (by kernel_rfl)
def startArgs : Array Value := #[.slice none 0 0, .agg #[.int .i64 0, .int .i64 0, .int .i64 0, .int .i64 0, .int .i64 0, .int .i64 0, .int .i64 0, .string ⟨#[]⟩, .int .i64 0], .agg #[.string ⟨#[]⟩, .int .i64 0]]
set_option maxRecDepth 100000 in
theorem lifted (os : Os) (started : os.Started) (H : Type) (enc : TypeId × Value → H) :
    ReturnsInHanded {} Tryz.checked os 3 .any (fun w args => (Rows.fnLayoutSpec.pre enc Tryz.prog Tryz.f3 [] false w args ∧ laidMetH Tryz.prog Rows.fnLayoutRow.laid w) ∧ sizedMet enc Tryz.prog Tryz.f3 (OpenSpec.ofChange Rows.fnLayoutSpec) false w args)
      (Rows.fnLayoutSpec.post enc Tryz.prog Tryz.f3 false true false false) := by
  refine returnsInHanded_of_change_and (C := Tryz.checked) (X := fun w _ => laidMetH Tryz.prog Rows.fnLayoutRow.laid w) (fun _ _ _ hh h => h.of_heap hh) Tryz.own started (by kernel_rfl) Tryz.func3
    (ChangeSpec.witness_shaped (enc := enc) (C := Tryz.checked) (os := os) (X := fun w _ => laidMetH Tryz.prog Rows.fnLayoutRow.laid w) false (World.doorLaid Tryz.prog 100 os) startArgs 8 rfl (World.shaped_of_RefB (by kernel_rfl) (by kernel_rfl)) (by kernel_rfl) (by kernel_rfl) (by kernel_rfl) (door_met os _)) ?_
  intro W base args ds gs before hval0 hW _ _ hL _
  exact contract H enc W base args ds gs before hval0 hW hL
theorem said : Rows.FnLayoutSaid :=
  OpenClaim.holds_of_wide 3 Tryz.f3 rfl rfl rfl rfl rfl rfl rfl ⟨rfl, rfl, rfl, rfl, rfl⟩ rfl rfl rfl rfl rfl (by kernel_rfl) Tryz.func3 (by kernel_rfl)
    (of_decide_eq_true (by kernel_rfl)) (by unfold Func.isWrapper; first | (rw [if_pos (by decide +kernel)]; kernel_rfl) | (rw [if_neg (by decide +kernel)]; exact ⟨rfl, rfl⟩))
    (fun os started H enc _ => lifted os started H enc)
/-- No parameter wants a stand-in; the program's own looks are off. -/
theorem plainFn (f : FuncId) (fn : Func) (hf : Tryz.pinned.checked.prog.funcNamed "loop.example/pub-layouttheorem/laws.FnLayout" = some f) (hfn : Tryz.pinned.checked.prog.funcs[f]? = some fn) :
    false = Tryz.pinned.checked.prog.looks [] ∧ ∀ (j : Nat) t, fn.params[j]? = some t → Tryz.pinned.checked.prog.wantsStandIn t = false := by
  obtain rfl : f = 3 := Option.some.inj ((show Tryz.prog.funcNamed "loop.example/pub-layouttheorem/laws.FnLayout" = some 3 by kernel_rfl).symm.trans hf) |>.symm
  obtain rfl : fn = Tryz.f3 := (Option.some.inj (Tryz.func3.symm.trans hfn)).symm
  refine ⟨by kernel_rfl, fun j t ht => ?_⟩
  rw [Tryz.params3] at ht
  have hm : t ∈ [22, 26, 24] := by simpa using Array.mem_of_getElem? ht
  have hall : ([22, 26, 24].all fun u => !Tryz.prog.wantsStandIn u) = true := by kernel_rfl
  exact (show Tryz.prog.wantsStandIn t = false by simpa using List.all_eq_true.1 hall t hm)
/-- The card. -/
theorem fnLayout_card : Rows.FnLayoutCardSaid :=
  Claim7.holds_tied_plain_at .later [] _ _ _ _ said (fun _ h => by cases h) (by kernel_rfl) (fun _ h => by cases h) fnLayout_row_tie rfl ⟨rfl, rfl⟩ (by kernel_rfl) rfl plainFn (by kernel_rfl)
#print axioms fnLayout_card
end Go.Proofs.YtndhiemagankeaaGreatDoor
