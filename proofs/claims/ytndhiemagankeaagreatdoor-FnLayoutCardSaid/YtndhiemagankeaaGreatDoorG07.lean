/-
  FnLayout (the statement: for every list of pieces, every time and every zone the call returns true, and its arguments read afterwards as they did), part 7 of 41. In this part: A buffer of bytes that is appended to, whatever call made its row: what 'append' does to it.
-/
import Derived.ArgAppend
import Derived.Lib.AppendStr
import Derived.Laws.IdiomStrings
import Derived.Test.YtndhiemagankeaaGreatDoorG02
/- A buffer of bytes that is appended to, whatever call made its row: what 'append' does to it. -/
namespace Go.Proofs.YtndhiemagankeaaGreatDoor
open Go.RowKit
set_option linter.unusedSimpArgs false
set_option linter.unusedVariables false
/-- The slice at the head of block g, of length n and capacity cap, holds the bytes l; its cells may be written. -/
structure Buf (w : World) (g n cap : Nat) (l : Bytes) : Prop where
  len : l.length = n
  le : n ≤ cap
  max : cap ≤ maxLen
  lt : g < w.heap.size
  cellAt : ∀ j (h : j < l.length), w.cell? ⟨g, j, none⟩ = some (.int .u8 l[j].toNat)
  room : ∀ j, j < cap → (w.cell? ⟨g, j, none⟩).isSome = true ∧ w.frozen? ⟨g, j, none⟩ = false
/-- From one world to a later one all blocks but g are as they were; the buffer lies in g still, or in a new block. -/
structure BufStep (w : World) (g : Nat) (w' : World) (g' : Nat) : Prop where
  os : w'.os = w.os
  tape : w'.tape = w.tape
  output : w'.output = w.output
  size : w.heap.size ≤ w'.heap.size
  block : ∀ k, k < w.heap.size → k ≠ g → w'.heap[k]? = w.heap[k]?
  row : g' = g ∨ w.heap.size ≤ g'
theorem BufStep.refl (w : World) (g : Nat) : BufStep w g w g := ⟨rfl, rfl, rfl, Nat.le_refl _, fun _ _ _ => rfl, .inl rfl⟩
theorem BufStep.trans {w0 w1 w2 : World} {g0 g1 g2 : Nat} (h : BufStep w0 g0 w1 g1) (k : BufStep w1 g1 w2 g2) : BufStep w0 g0 w2 g2 :=
  ⟨k.os.trans h.os, k.tape.trans h.tape, k.output.trans h.output, Nat.le_trans h.size k.size,
    fun i hi hne => (k.block i (Nat.lt_of_lt_of_le hi h.size) (by rcases h.row with e | e <;> omega)).trans (h.block i hi hne),
    by have := h.size; rcases h.row with e | e <;> rcases k.row with e' | e' <;> omega⟩
theorem BufStep.grown {w w' : World} {g g' : Nat} (h : w.grownBy w' (some g)) (hr : g' = g ∨ w.heap.size ≤ g') : BufStep w g w' g' :=
  ⟨h.os, h.tape, h.output, h.size, fun k hk hne => h.block k hk (by simpa using hne), hr⟩
theorem BufStep.of_below {w w' : World} (g : Nat) (h : Below w.heap.size w w') : BufStep w g w' g :=
  ⟨h.os, h.tape, h.output, h.size, fun k hk _ => h.block k hk, .inl rfl⟩
theorem BufStep.alloc (w : World) (g : Nat) (o : Obj) : BufStep w g (w.alloc o) g := .of_below g (below_new w o)
theorem BufStep.cell {w w' : World} {g g' : Nat} (h : BufStep w g w' g') {p : Addr} (hp : p.block < w.heap.size) (hne : p.block ≠ g) : w'.cell? p = w.cell? p :=
  World.cell?_of_block (h.block _ hp hne)
theorem BufStep.frozen {w w' : World} {g g' : Nat} (h : BufStep w g w' g') {p : Addr} (hp : p.block < w.heap.size) (hne : p.block ≠ g) : w'.frozen? p = w.frozen? p :=
  World.frozen?_of_block (h.block _ hp hne)
/-- A buffer in blocks from B on: below B nothing turns. -/
theorem BufStep.below {w w' : World} {g g' B : Nat} (h : BufStep w g w' g') (hB : B ≤ w.heap.size) (hg : B ≤ g) : Below B w w' :=
  ⟨h.os, h.tape, h.output, h.size, fun k hk => h.block k (by omega) (by omega)⟩
theorem Buf.kept {w w' : World} {g n cap : Nat} {l : Bytes} (h : Buf w g n cap l) (hb : Below w.heap.size w w') : Buf w' g n cap l :=
  ⟨h.len, h.le, h.max, Nat.lt_of_lt_of_le h.lt hb.size, fun j hj => by rw [hb.cell (p := ⟨g, j, none⟩) h.lt]; exact h.cellAt j hj,
    fun j hj => by rw [hb.cell (p := ⟨g, j, none⟩) h.lt, hb.frozen (p := ⟨g, j, none⟩) h.lt]; exact h.room j hj⟩
/-- What a made row holds. -/
theorem Buf.of_owns {w : World} {base e n : Nat} {v : Value} {l : Bytes} (hn : 0 < n) (hl : l.length = n) (h : w.ownsRow base e 1 v n (l.map fun b => Value.int .u8 b.toNat)) :
    ∃ g cap, v = .slice (some ⟨g, 0, none⟩) n cap ∧ base ≤ g ∧ Buf w g n cap l := by
  rcases h.2 with ⟨_, rfl⟩ | ⟨g, cap, cur, rfl, hbg, hg, hnc, hcm, hcs, htake⟩
  · omega
  · refine ⟨g, cap, rfl, hbg, hl, hnc, hcm, (Array.getElem?_eq_some_iff.1 hg).1, fun j hj => ?_, fun j hj => ?_⟩
    · rw [h.cellAt j (by omega)]
      simp [List.getElem?_eq_getElem hj]
    · rw [cell_of_row w g j cur e (0, 0) hg, h.frozenAt j]
      have : j < cur.size := by omega
      simp [this]
section
variable {P : Program} (w : World)
/-- What the cells hold where there was room. -/
theorem Buf.wrote {w : World} {g n cap : Nat} {l nb : Bytes} (h : Buf w g n cap l) (hr : n + nb.length ≤ cap) :
    Buf (w.setCells g n (nb.map fun b => Value.int .u8 b.toNat)) g (n + nb.length) cap (l ++ nb) ∧ BufStep w g (w.setCells g n (nb.map fun b => Value.int .u8 b.toNat)) g := by
  have hin : ∀ j, j < (nb.map fun b => Value.int .u8 (b.toNat : Int)).length → (w.cell? ⟨g, n + j, none⟩).isSome = true := fun j hj => (h.room (n + j) (by simp at hj; omega)).1
  have hk := World.keptBut_setCells g (may := fun p => ∃ o, p = .cell g o) (nb.map fun b => Value.int .u8 (b.toNat : Int)) n w (fun j _ => ⟨_, rfl⟩)
  have hsz : ∀ (vs : List Value) (o : Nat) (w : World), (w.setCells g o vs).heap.size = w.heap.size ∧ (w.setCells g o vs).os = w.os ∧ (w.setCells g o vs).tape = w.tape ∧ (w.setCells g o vs).output = w.output ∧ ∀ k, k ≠ g → (w.setCells g o vs).heap[k]? = w.heap[k]? := by
    intro vs
    induction vs with
    | nil => intro o w; exact ⟨rfl, rfl, rfl, rfl, fun _ _ => rfl⟩
    | cons v r ih =>
      intro o w
      obtain ⟨a1, a2, a3, a4, a5⟩ := ih (o + 1) (w.setCell ⟨g, o, none⟩ v)
      exact ⟨by rw [World.setCells, a1]; simp [World.setCell], by rw [World.setCells, a2]; rfl, by rw [World.setCells, a3]; rfl, by rw [World.setCells, a4]; rfl,
        fun k hk => by rw [World.setCells, a5 k hk]; exact Below.heap_setCell _ _ _ _ hk⟩
  obtain ⟨s1, s2, s3, s4, s5⟩ := hsz (nb.map fun b => Value.int .u8 (b.toNat : Int)) n w
  refine ⟨⟨by rw [List.length_append, h.len], hr, h.max, by rw [s1]; exact h.lt, fun j hj => ?_, fun j hj => ?_⟩, ⟨s2, s3, s4, by rw [s1]; exact Nat.le_refl _, fun k _ hne => s5 k hne, .inl rfl⟩⟩
  · by_cases hjn : j < n
    · rw [World.cell?_setCells_out g _ n w ⟨g, j, none⟩ (fun _ _ => .inl hjn), h.cellAt j (by rw [h.len]; exact hjn), List.getElem_append_left (by rw [h.len]; exact hjn)]
    · have hj2 : j - n < nb.length := by rw [List.length_append, h.len] at hj; omega
      have := World.cell?_setCells_in g (nb.map fun b => Value.int .u8 (b.toNat : Int)) n w hin (j - n) (by simpa using hj2)
      rw [show n + (j - n) = j by omega] at this
      rw [this, List.getElem_append_right (by rw [h.len]; omega)]
      simp [h.len]
  · rw [World.frozen?_setCells]
    refine ⟨?_, (h.room j hj).2⟩
    by_cases hjn : j < n
    · rw [World.cell?_setCells_out g _ n w ⟨g, j, none⟩ (fun _ _ => .inl hjn)]; exact (h.room j hj).1
    · by_cases hj2 : j - n < nb.length
      · have := World.cell?_setCells_in g (nb.map fun b => Value.int .u8 (b.toNat : Int)) n w hin (j - n) (by simpa using hj2)
        rw [show n + (j - n) = j by omega] at this
        rw [this]; rfl
      · rw [World.cell?_setCells_out g _ n w ⟨g, j, none⟩ (fun _ _ => .inr (by simp; omega))]; exact (h.room j hj).1
theorem bytes_oneCell (nb : Bytes) : ∀ u ∈ nb.map (fun b => Value.int .u8 (b.toNat : Int)), u.oneCell' = true := by
  intro u hu
  simp only [List.mem_map] at hu
  obtain ⟨b, _, rfl⟩ := hu
  rfl
theorem run_append_buf (t ty e : TypeId) (i : TypeInfo) (ht : P.underlying t = some (.slice e)) (hi : P.info? e = some i) (hz : i.zero = some (.int .u8 0)) (h1 : i.size = 1) (hby : i.bytes = 1)
    (g n cap : Nat) (l : Bytes) (h : Buf w g n cap l) (a : Addr) (m c : Nat) (nb : Bytes) (hm : nb.length = m) (hnews : ∀ j (hj : j < nb.length), w.cell? (a.add j) = some (.int .u8 nb[j].toNat))
    (h0 : 0 < m) (hsz : n + m ≤ 1099511627776) :
    ∃ g' cap' w', (Builtin.append_ #[t, t] ty #[.slice (some ⟨g, 0, none⟩) n cap, .slice (some a) m c]).run P w = .ok (.slice (some ⟨g', 0, none⟩) (n + m) cap') w' ∧ Buf w' g' (n + m) cap' (l ++ nb) ∧ BufStep w g w' g' := by
  subst hm
  have hnews' : ∀ j u, (nb.map fun b => Value.int .u8 (b.toNat : Int))[j]? = some u → w.cell? (a.add j) = some u := by
    intro j u hu
    obtain ⟨hj, rfl⟩ := List.getElem?_eq_some_iff.1 hu
    rw [hnews j (by simpa using hj)]
    simp
  by_cases hr : n + nb.length ≤ cap
  · have hrun := run_append_room_cells (P := P) w t ty e i ht hi g 0 n cap a nb.length c (nb.map fun b => Value.int .u8 (b.toNat : Int)) (by simp [h1]) hnews' (bytes_oneCell nb) hr
      (fun j hj => by rw [h1, Nat.mul_one, Nat.zero_add]; exact (h.room _ (by simp at hj; omega)).1) (fun j hj => by rw [h1, Nat.mul_one, Nat.zero_add]; exact (h.room _ (by simp at hj; omega)).2)
    rw [h1, Nat.mul_one, Nat.zero_add] at hrun
    obtain ⟨q1, q2⟩ := h.wrote hr
    exact ⟨g, cap, _, hrun, q1, q2⟩
  · have holds : ∀ j u, (l.map fun b => Value.int .u8 (b.toNat : Int))[j]? = some u → w.cell? ((⟨g, 0, none⟩ : Addr).add j) = some u := by
      intro j u hu
      obtain ⟨hj, rfl⟩ := List.getElem?_eq_some_iff.1 hu
      rw [Addr.add_lit, Nat.zero_add, h.cellAt j (by simpa using hj)]
      simp
    obtain ⟨v', w', hrun, hown, hgr⟩ := run_append_arg_grows (P := P) w t ty e i (.int .u8 0) 1 1 ht hi hz h1 hby rfl (by omega) ⟨g, 0, none⟩ n cap (l.map fun b => Value.int .u8 (b.toNat : Int)) (by simp [h.len]) holds
      a nb.length c (nb.map fun b => Value.int .u8 (b.toNat : Int)) (by simp) hnews' (by omega) (by simp [maxLen]; omega) (by omega)
    rw [← List.map_append] at hown
    obtain ⟨g', cap', rfl, hg', hbuf⟩ := Buf.of_owns (by omega) (by rw [List.length_append, h.len]) hown
    exact ⟨g', cap', w', hrun, hbuf, ⟨hgr.os, hgr.tape, hgr.output, hgr.size, fun k hk _ => hgr.block k hk (by simp), .inr hg'⟩⟩
theorem run_append_buf_str (t u ty e : TypeId) (i : TypeInfo) (ht : P.underlying t = some (.slice e)) (hu : P.underlying u = some .string) (hi : P.info? e = some i) (hz : i.zero = some (.int .u8 0)) (h1 : i.size = 1) (hby : i.bytes = 1)
    (g n cap : Nat) (l : Bytes) (h : Buf w g n cap l) (nb : Bytes) (hsz : n + nb.length ≤ 1099511627776) :
    ∃ g' cap' w', (Builtin.append_ #[t, u] ty #[.slice (some ⟨g, 0, none⟩) n cap, S nb]).run P w = .ok (.slice (some ⟨g', 0, none⟩) (n + nb.length) cap') w' ∧ Buf w' g' (n + nb.length) cap' (l ++ nb) ∧ BufStep w g w' g' := by
  have hsc : Lib.strCells (bs nb) = nb.map fun b => Value.int .u8 (b.toNat : Int) := by simp [Lib.strCells, bs_data]
  have hf := fun w => Lib.run_firstCells_string (P := P) w 1 (bs nb)
  rw [hsc, bs_size] at hf
  by_cases hr : n + nb.length ≤ cap
  · have hst := run_storeCells_cells (P := P) g n (nb.map fun b => Value.int .u8 (b.toNat : Int)) 0 w (fun j hj => by simpa using (h.room (n + j) (by simp at hj; omega)).1) (fun j hj => by simpa using (h.room (n + j) (by simp at hj; omega)).2) (bytes_oneCell nb)
    simp only [Nat.add_zero] at hst
    obtain ⟨q1, q2⟩ := h.wrote hr
    refine ⟨g, cap, _, ?_, q1, q2⟩
    simp [Builtin.append_, run_underlying ht, run_underlying hu, sizeOf, typeInfo, hi, h1, Builtin.lenOf, hr, hf, Addr.add_lit, hst, bs_size]
  · have holds : ∀ j u, (l.map fun b => Value.int .u8 (b.toNat : Int))[j]? = some u → w.cell? ((⟨g, 0, none⟩ : Addr).add j) = some u := by
      intro j u hu
      obtain ⟨hj, rfl⟩ := List.getElem?_eq_some_iff.1 hu
      rw [Addr.add_lit, Nat.zero_add, h.cellAt j (by simpa using hj)]
      simp
    have hfit := growslice_fits (bytes := i.bytes) (show cap < n + nb.length by omega) (by rw [hby]; omega)
    have hrun := Lib.run_append_grow_string (P := P) w t u ty e i (.int .u8 0) ht hu hi hz ⟨g, 0, none⟩ n cap (l.map fun b => Value.int .u8 (b.toNat : Int)) (by simp [h.len, h1]) holds (bs nb) (by rw [bs_size]; omega) (by rw [bs_size]; omega) (by rw [bs_size]; exact hfit)
    rw [bs_size, hsc] at hrun
    have hge := grownCap_ge w (n + nb.length) cap e
    have hcm : grownCap w (n + nb.length) cap e ≤ maxLen := grownCap_le_maxLen w (n + nb.length) cap e (by simp [maxLen]; omega)
    refine ⟨w.heap.size, _, _, hrun, ?_, ⟨rfl, rfl, rfl, by simp, fun k hk _ => Below.heap_alloc w.drew _ k hk, .inr (Nat.le_refl _)⟩⟩
    have hh := heap_alloc_new w.drew (.cells ((l.map fun b => Value.int .u8 (b.toNat : Int)).toArray ++ (nb.map fun b => Value.int .u8 (b.toNat : Int)).toArray ++ Builtin.zeroCells (Value.int .u8 0).cells (grownCap w (n + nb.length) cap e - (n + nb.length))) e)
    have hsz2 : (Builtin.zeroCells (Value.int .u8 0).cells (grownCap w (n + nb.length) cap e - (n + nb.length))).size = grownCap w (n + nb.length) cap e - (n + nb.length) := by
      rw [size_zeroCells]; simp [Value.cells]
    refine ⟨by rw [List.length_append, h.len], hge, hcm, by simp, fun j hj => ?_, fun j hj => ?_⟩
    · rw [cell_of_row _ w.heap.size j _ e (0, 0) hh]
      rw [Array.getElem?_append_left (by simpa using hj)]
      simp only [List.append_toArray, ← List.map_append, List.getElem?_toArray, List.getElem?_map, List.getElem?_eq_getElem hj]
      rfl
    · refine ⟨?_, frozen_of_row _ w.heap.size j _ e hh⟩
      rw [cell_of_row _ w.heap.size j _ e (0, 0) hh]
      have hlt : j < ((l.map fun b => Value.int .u8 (b.toNat : Int)).toArray ++ (nb.map fun b => Value.int .u8 (b.toNat : Int)).toArray ++ Builtin.zeroCells (Value.int .u8 0).cells (grownCap w (n + nb.length) cap e - (n + nb.length))).size := by
        simp only [Array.size_append, hsz2, List.size_toArray, List.length_map, h.len]
        omega
      rw [Array.getElem?_eq_getElem hlt]
      rfl
end
/-- 'append(b, x..)' onto a buffer, for the walk. -/
theorem wpList_append_buf (w : World) {ops : Array Oper} {rest : List Oper} {o : Oper} {a : Act} {Q : Exit → Act → World → Prop}
    (hg : o.guard = none) (s x : Operand) (hop : o.op = Op.call { callee := Callee.builtin Builtin.append, args := #[s, x], argTypes := #[69, 69] })
    (g n cap : Nat) (l : Bytes) (hs : a.eval s = .slice (some ⟨g, 0, none⟩) n cap) (h : Buf w g n cap l) (ad : Addr) (m c : Nat) (nb : Bytes) (hx : a.eval x = .slice (some ad) m c) (hm : nb.length = m)
    (hnews : ∀ j (hj : j < nb.length), w.cell? (ad.add j) = some (.int .u8 nb[j].toNat)) (h0 : 0 < m) (hsz : n + m ≤ 1099511627776)
    (hK : ∀ g' cap' w', Buf w' g' (n + m) cap' (l ++ nb) → BufStep w g w' g' → wpList Tryz.prog ops Q rest (a.put o.dst (.slice (some ⟨g', 0, none⟩) (n + m) cap')) w') :
    wpList Tryz.prog ops Q (o :: rest) a w := by
  refine wpList_plain hg fun K hK' => ?_
  obtain ⟨i, hi, hz, h1, h2⟩ := info_parts (show (Tryz.prog.info? 5).map (fun i => (i.zero, i.size, i.bytes)) = some (some (.int .u8 0), 1, 1) by kernel_rfl)
  obtain ⟨g', cap', w', hrun, r1, r2⟩ := run_append_buf (P := Tryz.prog) w 69 o.type 5 i Tryz.underlying69 hi hz h1 h2 g n cap l h ad m c nb hm hnews h0 hsz
  unfold Oper.wp
  simp [execOp, hop, resolve, invoke, builtin, hs, hx, hrun, Result.andThen]
  exact hK' _ _ (hK g' cap' w' r1 r2)
/-- 'append(b, s...)' onto a buffer, s a string, for the walk. -/
theorem wpList_append_buf_str (w : World) {ops : Array Oper} {rest : List Oper} {o : Oper} {a : Act} {Q : Exit → Act → World → Prop}
    (hg : o.guard = none) (s x : Operand) (hop : o.op = Op.call { callee := Callee.builtin Builtin.append, args := #[s, x], argTypes := #[69, 9] })
    (g n cap : Nat) (l : Bytes) (hs : a.eval s = .slice (some ⟨g, 0, none⟩) n cap) (h : Buf w g n cap l) (nb : Bytes) (hx : a.eval x = S nb) (hsz : n + nb.length ≤ 1099511627776)
    (hK : ∀ g' cap' w', Buf w' g' (n + nb.length) cap' (l ++ nb) → BufStep w g w' g' → wpList Tryz.prog ops Q rest (a.put o.dst (.slice (some ⟨g', 0, none⟩) (n + nb.length) cap')) w') :
    wpList Tryz.prog ops Q (o :: rest) a w := by
  refine wpList_plain hg fun K hK' => ?_
  obtain ⟨i, hi, hz, h1, h2⟩ := info_parts (show (Tryz.prog.info? 5).map (fun i => (i.zero, i.size, i.bytes)) = some (some (.int .u8 0), 1, 1) by kernel_rfl)
  obtain ⟨g', cap', w', hrun, r1, r2⟩ := run_append_buf_str (P := Tryz.prog) w 69 9 o.type 5 i Tryz.underlying69 Tryz.underlying9 hi hz h1 h2 g n cap l h nb hsz
  unfold Oper.wp
  simp [execOp, hop, resolve, invoke, builtin, hs, hx, hrun, Result.andThen]
  exact hK' _ _ (hK g' cap' w' r1 r2)
/-- 'append(b, x, y ..)' onto a buffer: the new bytes lie in a block that the call has just laid. -/
theorem wpList_append_bufL (w : World) {ops : Array Oper} {rest : List Oper} {o : Oper} {a : Act} {Q : Exit → Act → World → Prop}
    (hg : o.guard = none) (s x : Operand) (hop : o.op = Op.call { callee := Callee.builtin Builtin.append, args := #[s, x], argTypes := #[69, 69] })
    (g n cap : Nat) (l : Bytes) (hs : a.eval s = .slice (some ⟨g, 0, none⟩) n cap) (h : Buf w g n cap l) (m : Nat) (nb : Bytes) (cs : Array Value) (hx : a.eval x = .slice (some ⟨w.heap.size, 0, none⟩) m m) (hm : nb.length = m)
    (hcs : cs = (nb.map fun b => Value.int .u8 (b.toNat : Int)).toArray) (h0 : 0 < m) (hsz : n + m ≤ 1099511627776)
    (hK : ∀ g' cap' w', Buf w' g' (n + m) cap' (l ++ nb) → BufStep w g w' g' → wpList Tryz.prog ops Q rest (a.put o.dst (.slice (some ⟨g', 0, none⟩) (n + m) cap')) w') :
    wpList Tryz.prog ops Q (o :: rest) a (w.alloc (.cells cs 5)) := by
  refine wpList_append_buf _ hg s x hop g n cap l hs (h.kept (below_new _ _)) ⟨w.heap.size, 0, none⟩ m m nb hx hm (fun j hj => ?_) h0 hsz (fun g' cap' w' hb hst => hK g' cap' w' hb ((BufStep.alloc w g _).trans hst))
  rw [Addr.add_lit, Nat.zero_add, hcs]
  have := World.cell?_alloc_mark w (nb.map fun b => Value.int .u8 (b.toNat : Int)).toArray 5 (0, 0) j
  refine Eq.trans this ?_
  simp [hj]
/-- '[]byte(s)': a buffer in a new block. -/
theorem bytes_buf (w : World) (l : Bytes) (hsz : l.length ≤ 1099511627776) :
    ∃ cap w', (convert 9 69 (S l)).run Tryz.prog w = .ok (.slice (some ⟨w.heap.size, 0, none⟩) l.length cap) w' ∧ Buf w' w.heap.size l.length cap l ∧ Below w.heap.size w w' := by
  have hrun := run_bytes_of_string (P := Tryz.prog) w 9 69 5 (bs l) Tryz.underlying9 Tryz.underlying69 Tryz.underlying5
  rw [bs_size] at hrun
  refine ⟨_, _, hrun, ?_, (Below.refl w.heap.size w).drew.alloc (Nat.le_refl _) _⟩
  have hge := grownCap_ge w l.length 0 5
  have hcm : grownCap w l.length 0 5 ≤ maxLen := grownCap_le_maxLen w l.length 0 5 (by simp [maxLen]; omega)
  have hsize : (bytesRow (bs l) (grownCap w l.length 0 5)).size = grownCap w l.length 0 5 := by
    have : (bs l).data.size = l.length := by simp [bs]
    simp only [bytesRow, Array.size_append, Array.size_map, Array.size_replicate, bs_size, this]
    omega
  refine ⟨rfl, hge, hcm, by simp, fun j hj => ?_, fun j hj => ?_⟩
  · have := World.cell?_alloc_mark w.drew (bytesRow (bs l) (grownCap w l.length 0 5)) 5 ((bytesRow (bs l) (grownCap w l.length 0 5)).size, (bytesRow (bs l) (grownCap w l.length 0 5)).size + 1) j
    refine Eq.trans this ?_
    rw [bytesRow_at (bs l) _ j (by simpa [bs] using hj)]
    simp [bs]
  · have h1 := World.cell?_alloc_mark w.drew (bytesRow (bs l) (grownCap w l.length 0 5)) 5 ((bytesRow (bs l) (grownCap w l.length 0 5)).size, (bytesRow (bs l) (grownCap w l.length 0 5)).size + 1) j
    have h2 := World.frozen?_alloc_mark w.drew (bytesRow (bs l) (grownCap w l.length 0 5)) 5 (bytesRow (bs l) (grownCap w l.length 0 5)).size ((bytesRow (bs l) (grownCap w l.length 0 5)).size + 1) j
    refine ⟨?_, Eq.trans h2 ?_⟩
    · refine (congrArg Option.isSome h1).trans ?_
      rw [Array.getElem?_eq_getElem (by rw [hsize]; exact hj)]
      rfl
    · rw [hsize]
      simp; omega
/-- 'string(b)' of a buffer. -/
theorem Buf.str {w : World} {g n cap : Nat} {l : Bytes} (h : Buf w g n cap l) : (convert 69 9 (.slice (some ⟨g, 0, none⟩) n cap)).run Tryz.prog w = .ok (S l) w := by
  obtain rfl := h.len
  exact run_convert_bytes_back (P := Tryz.prog) w 69 9 5 ⟨g, 0, none⟩ cap l Tryz.underlying69 Tryz.underlying5 Tryz.underlying9 (fun j hj => by rw [Addr.add_lit, Nat.zero_add]; exact h.cellAt j hj)
end Go.Proofs.YtndhiemagankeaaGreatDoor
