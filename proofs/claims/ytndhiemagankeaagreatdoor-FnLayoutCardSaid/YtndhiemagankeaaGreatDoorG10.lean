/-
  FnLayout (the statement: for every list of pieces, every time and every zone the call returns true, and its arguments read afterwards as they did), part 10 of 41. In this part: 'append(b, make([]byte, n)...)' onto a buffer without room: a new block that holds the old bytes and zeros.
-/
import Derived.Laws.AppendOwn
import Derived.Test.YtndhiemagankeaaGreatDoorG07
/- 'append(b, make([]byte, n)...)' onto a buffer without room: a new block that holds the old bytes and zeros. -/
namespace Go.Proofs.YtndhiemagankeaaGreatDoor
open Go.RowKit
set_option linter.unusedSimpArgs false
set_option linter.unusedVariables false
theorem run_append_buf_zeros {P : Program} (w : World) (t ti ty e : TypeId) (k : IntKind) (i : TypeInfo) (ht : P.underlying t = some (.slice e)) (hti : P.underlying ti = some (.int k)) (hi : P.info? e = some i) (hz : i.zero = some (.int .u8 0)) (h1 : i.size = 1) (hby : i.bytes = 1)
    (g n cap : Nat) (l : Bytes) (h : Buf w g n cap l) (m : Nat) (h0 : 0 < m) (hr : cap < n + m) (hsz : n + m ≤ 1099511627776) :
    ∃ g' cap' w', (Builtin.append_ #[t, ti] ty #[.slice (some ⟨g, 0, none⟩) n cap, .int .i64 (m : Int)]).run P w = .ok (.slice (some ⟨g', 0, none⟩) (n + m) cap') w' ∧ Buf w' g' (n + m) cap' (l ++ List.replicate m 0) ∧ BufStep w g w' g' := by
  have h63 : n + m ≤ maxLen := by simp only [maxLen]; omega
  have hw : IntKind.i64.wrap (m : Int) = m := by rw [IntKind.wrap_i64]; omega
  have hneg : ¬ ((m : Int) < 0) := by omega
  have hbig : ¬ (281474976710656 < (m : Int)) := by omega
  have hmz : ¬ (m = 0) := by omega
  have holds : ∀ j u, (l.map fun b => Value.int .u8 (b.toNat : Int))[j]? = some u → w.cell? ((⟨g, 0, none⟩ : Addr).add j) = some u := by
    intro j u hu
    obtain ⟨hj, rfl⟩ := List.getElem?_eq_some_iff.1 hu
    rw [Addr.add_lit, Nat.zero_add, h.cellAt j (by simpa using hj)]
    simp
  have hfo := run_firstCells_some (P := P) w.drew 1 n ⟨g, 0, none⟩ n cap (l.map fun b => Value.int .u8 (b.toNat : Int)) (by simp [h.len]) (by simpa using holds)
  have hfit := growslice_fits (bytes := 1) (show cap < n + m by omega) (by omega)
  have hge := grownCap_ge w (n + m) cap e
  have hcm : grownCap w (n + m) cap e ≤ maxLen := grownCap_le_maxLen w (n + m) cap e h63
  have hn : ¬ (n + m ≤ cap) := by omega
  have h63' : ¬ (9223372036854775807 < ((n : Int) + (m : Int))) := by omega
  have h48' : ¬ (281474976710656 < Builtin.nextslicecap (n + m) cap) := by omega
  have hzc : ∀ q, (Builtin.zeroCells (Value.int .u8 0).cells q) = Array.replicate q (Value.int .u8 0) := by
    intro q
    apply Array.ext
    · simp [size_zeroCells, Value.cells]
    · intro j h1 h2
      simp [Builtin.zeroCells, Value.cells, Nat.mod_one]
  obtain ⟨cur, hcur⟩ : ∃ cur : List Value, cur = (l.map fun b => Value.int .u8 (b.toNat : Int)) ++ (List.replicate m (Value.int .u8 0) ++ List.replicate (grownCap w (n + m) cap e - (n + m)) (Value.int .u8 0)) := ⟨_, rfl⟩
  have hrun : (Builtin.append_ #[t, ti] ty #[.slice (some ⟨g, 0, none⟩) n cap, .int .i64 (m : Int)]).run P w = .ok (.slice (some ⟨w.heap.size, 0, none⟩) (n + m) (grownCap w (n + m) cap e)) (w.drew.alloc (.cells cur.toArray e)) := by
    simp [Builtin.append_, run_underlying ht, run_underlying hti, sizeOf, typeInfo, zeroValue, hi, hz, h1, hby, asInt, asIntOf, hw, hneg, hbig, hn, h63', h48', Question.forced, hfo, newRow, grownCap, hmz, hzc, hcur]
    congr 2
    apply Array.ext'
    simp
  refine ⟨w.heap.size, _, _, hrun, ?_, ⟨rfl, rfl, rfl, by simp, fun k hk _ => Below.heap_alloc w.drew _ k hk, .inr (Nat.le_refl _)⟩⟩
  have hh := heap_alloc_new w.drew (.cells cur.toArray e)
  have hl := h.len
  have hcl : cur.length = grownCap w (n + m) cap e := by
    rw [hcur]
    simp only [List.length_append, List.length_map, List.length_replicate, hl]
    omega
  clear hrun hw hneg hbig hmz hfo hfit hn h63' h48'
  refine ⟨by simp [h.len], hge, hcm, by simp, fun j hj => ?_, fun j hj => ?_⟩
  · rw [cell_of_row _ w.heap.size j _ e (0, 0) hh]
    simp only [List.getElem?_toArray, hcur]
    by_cases hjl : j < l.length
    · rw [List.getElem?_append_left (by simpa using hjl), List.getElem_append_left hjl]
      simp [hjl]
    · rw [List.getElem?_append_right (by simp; omega), List.getElem_append_right (by omega)]
      have hj2 : j - l.length < m := by simp at hj; omega
      rw [List.getElem?_append_left (by simpa using hj2)]
      simp [hj2]
  · refine ⟨?_, frozen_of_row _ w.heap.size j _ e hh⟩
    rw [cell_of_row _ w.heap.size j _ e (0, 0) hh]
    simp only [List.getElem?_toArray]
    rw [List.getElem?_eq_getElem (by omega)]
    rfl
/-- 'append(b, make([]byte, n)...)' onto a buffer without room, for the walk. -/
theorem wpList_append_buf_zeros (w : World) {ops : Array Oper} {rest : List Oper} {o : Oper} {a : Act} {Q : Exit → Act → World → Prop}
    (hg : o.guard = none) (s x : Operand) (hop : o.op = Op.call { callee := Callee.builtin Builtin.append, args := #[s, x], argTypes := #[69, 3] })
    (g n cap : Nat) (l : Bytes) (hs : a.eval s = .slice (some ⟨g, 0, none⟩) n cap) (h : Buf w g n cap l) (m : Nat) (hx : a.eval x = .int .i64 (m : Int))
    (h0 : 0 < m) (hr : cap < n + m) (hsz : n + m ≤ 1099511627776)
    (hK : ∀ g' cap' w', Buf w' g' (n + m) cap' (l ++ List.replicate m 0) → BufStep w g w' g' → wpList Tryz.prog ops Q rest (a.put o.dst (.slice (some ⟨g', 0, none⟩) (n + m) cap')) w') :
    wpList Tryz.prog ops Q (o :: rest) a w := by
  refine wpList_plain hg fun K hK' => ?_
  obtain ⟨i, hi, hz, h1, h2⟩ := info_parts (show (Tryz.prog.info? 5).map (fun i => (i.zero, i.size, i.bytes)) = some (some (.int .u8 0), 1, 1) by kernel_rfl)
  obtain ⟨g', cap', w', hrun, r1, r2⟩ := run_append_buf_zeros (P := Tryz.prog) w 69 3 o.type 5 .i64 i Tryz.underlying69 Tryz.underlying3 hi hz h1 h2 g n cap l h m h0 hr hsz
  unfold Oper.wp
  simp [execOp, hop, resolve, invoke, builtin, hs, hx, hrun, Result.andThen]
  exact hK' _ _ (hK g' cap' w' r1 r2)
/-- A buffer whose row goes on behind it for k cells, the last of which hold r already. -/
structure Hole (w : World) (g n k cap : Nat) (l r : Bytes) : Prop where
  len : l.length = n
  rle : r.length ≤ k
  le : n + k ≤ cap
  max : cap ≤ maxLen
  lt : g < w.heap.size
  cellAt : ∀ j (h : j < l.length), w.cell? ⟨g, j, none⟩ = some (.int .u8 l[j].toNat)
  tailAt : ∀ j (h : j < r.length), w.cell? ⟨g, n + k - r.length + j, none⟩ = some (.int .u8 r[j].toNat)
  room : ∀ j, j < cap → (w.cell? ⟨g, j, none⟩).isSome = true ∧ w.frozen? ⟨g, j, none⟩ = false
theorem Buf.hole {w : World} {g n cap : Nat} {l : Bytes} (h : Buf w g n cap l) {k : Nat} (hk : n + k ≤ cap) : Hole w g n k cap l [] :=
  ⟨h.len, Nat.zero_le _, hk, h.max, h.lt, h.cellAt, fun j hj => absurd hj (Nat.not_lt_zero j), h.room⟩
theorem Buf.hole_zeros {w : World} {g n m cap : Nat} {l : Bytes} (h : Buf w g (n + m) cap (l ++ List.replicate m 0)) : Hole w g n m cap l [] := by
  have hl := h.len
  rw [List.length_append, List.length_replicate] at hl
  refine ⟨by omega, Nat.zero_le _, h.le, h.max, h.lt, fun j hj => ?_, fun j hj => absurd hj (Nat.not_lt_zero j), h.room⟩
  rw [h.cellAt j (by rw [List.length_append]; omega), List.getElem_append_left hj]
theorem Hole.full {w : World} {g n k cap : Nat} {l r : Bytes} (h : Hole w g n k cap l r) (hr : r.length = k) : Buf w g (n + k) cap (l ++ r) := by
  refine ⟨by rw [List.length_append, h.len, hr], h.le, h.max, h.lt, fun j hj => ?_, h.room⟩
  have hl := h.len
  by_cases hjl : j < l.length
  · rw [h.cellAt j hjl, List.getElem_append_left hjl]
  · rw [List.getElem_append_right (by omega)]
    have := h.tailAt (j - l.length) (by rw [List.length_append] at hj; omega)
    rw [show n + k - r.length + (j - l.length) = j by omega] at this
    exact this
/-- One more byte from the end. -/
theorem Hole.store {w : World} {g n k cap : Nat} {l r : Bytes} (h : Hole w g n k cap l r) (hr : r.length < k) (c : UInt8) (o : Nat) (ho : o + r.length + 1 = n + k) (v : Value) (hv : v = .int .u8 (c.toNat : Int)) :
    Hole (w.setCell ⟨g, o, none⟩ v) g n k cap l (c :: r) ∧ BufStep w g (w.setCell ⟨g, o, none⟩ v) g := by
  subst hv
  have hle := h.le
  have hlen := h.len
  have hsz : (w.setCell ⟨g, o, none⟩ (.int .u8 (c.toNat : Int))).heap.size = w.heap.size := by simp [World.setCell]
  refine ⟨⟨h.len, by simp; omega, h.le, h.max, by rw [hsz]; exact h.lt, fun j hj => ?_, fun j hj => ?_, fun j hj => ?_⟩, ⟨rfl, rfl, rfl, by rw [hsz]; exact Nat.le_refl _, fun i _ hne => Below.heap_setCell _ _ _ _ hne, .inl rfl⟩⟩
  · rw [World.cell?_setCell_other (h := by intro e; have := congrArg Addr.off e; simp at this; omega)]
    exact h.cellAt j hj
  · cases j with
    | zero =>
      rw [show n + k - (c :: r).length + 0 = o by simp; omega]
      obtain ⟨x, hx⟩ := Option.isSome_iff_exists.1 (h.room o (by omega)).1
      rw [World.cell?_setCell_same (h := hx)]
      rfl
    | succ j =>
      simp only [List.length_cons] at hj
      rw [show n + k - (c :: r).length + (j + 1) = n + k - r.length + j by simp; omega]
      rw [World.cell?_setCell_other (h := by intro e; have := congrArg Addr.off e; simp at this; omega)]
      exact h.tailAt j (by omega)
  · rw [World.frozen?_setCell]
    refine ⟨?_, (h.room j hj).2⟩
    by_cases e : j = o
    · subst e
      obtain ⟨x, hx⟩ := Option.isSome_iff_exists.1 (h.room j hj).1
      rw [World.cell?_setCell_same (h := hx)]
      rfl
    · rw [World.cell?_setCell_other (h := by intro e'; have := congrArg Addr.off e'; simp at this; omega)]
      exact (h.room j hj).1
end Go.Proofs.YtndhiemagankeaaGreatDoor
