/-
  FnLayout (the statement: for every list of pieces, every time and every zone the call returns true, and its arguments read afterwards as they did), part 16 of 41. In this part: The walks of package time: times.
-/
import Derived.Test.YtndhiemagankeaaGreatDoorG06
import Derived.Test.YtndhiemagankeaaGreatDoorG09
/- The walks of package time: times. -/
namespace Go.Proofs.YtndhiemagankeaaGreatDoor
open Go.RowKit
set_option linter.unusedVariables false
set_option linter.unusedSimpArgs false
attribute [local simp] bs_size bs_toList bs_append bs_data bs_extract
theorem top_u64 (n : Int) (h0 : 0 ≤ n) (h1 : n < 4611686018427387904) : bits .and .u64 n 9223372036854775808 = 0 := by
  obtain ⟨k, rfl⟩ := Int.eq_ofNat_of_zero_le h0
  rw [show (9223372036854775808 : Int) = ((9223372036854775808 : Nat) : Int) from rfl, u64_and_nat k _ (by omega) (by decide)]
  have : k &&& 2 ^ 63 = 0 := by
    apply Nat.eq_of_testBit_eq
    intro i
    rw [Nat.testBit_and, Nat.testBit_two_pow, Nat.zero_testBit]
    by_cases hi : 63 = i
    · subst hi; rw [Nat.testBit_lt_two_pow (by omega)]; rfl
    · simp [hi]
  simpa using this
/-- A time in memory. -/
structure TAt (w : World) (b : Nat) (nano ext : Int) (lo : Value) : Prop where
  lt : b < w.heap.size
  c0 : w.cell? ⟨b, 0, none⟩ = some (.int .u64 nano)
  c1 : w.cell? ⟨b, 1, none⟩ = some (.int .i64 ext)
  c2 : w.cell? ⟨b, 2, none⟩ = some lo
  f0 : w.frozen? ⟨b, 0, none⟩ = false
  f1 : w.frozen? ⟨b, 1, none⟩ = false
  f2 : w.frozen? ⟨b, 2, none⟩ = false
section
variable (b : Nat) (nano ext : Int) (lo : Value) (w : World) (n0 : 0 ≤ nano) (n1 : nano ≤ 999999999) (e0 : -1000000000000 ≤ ext) (e1 : ext ≤ 1000000000000)
include n0 n1
theorem sec_c (H : TAt w b nano ext lo) : Calls Tryz.prog 129 #[.pointer (some ⟨b, 0, none⟩)] w fun e w' => e = .returned (.int .i64 ext) ∧ w' = w := by
  obtain ⟨h, c0, c1, c2, f0, f1, f2⟩ := H
  have ht := top_u64 nano n0 (by omega)
  go_enter Tryz.func129, Tryz.ntmps129
  go_wp2
  go_ret
  exact ⟨rfl, rfl⟩
theorem nsec_c (H : TAt w b nano ext lo) : Calls Tryz.prog 113 #[.pointer (some ⟨b, 0, none⟩)] w fun e w' => e = .returned (.int .i32 nano) ∧ w' = w := by
  obtain ⟨h, c0, c1, c2, f0, f1, f2⟩ := H
  have ht : bits .and .u64 nano 1073741823 = nano % 1073741824 := mask_u64 30 (by decide) nano n0 (by omega)
  go_enter Tryz.func113, Tryz.ntmps113
  go_wp2
  go_ret
  exact ⟨ret_int (by go_num), rfl⟩
theorem stripMono_c (H : TAt w b nano ext lo) : Calls Tryz.prog 121 #[.pointer (some ⟨b, 0, none⟩)] w fun e w' => e = .returned (.tuple #[]) ∧ w' = w := by
  obtain ⟨h, c0, c1, c2, f0, f1, f2⟩ := H
  have ht := top_u64 nano n0 (by omega)
  go_enter Tryz.func121, Tryz.ntmps121
  go_wp2
  go_end0
  exact ⟨rfl, rfl⟩
include e0 e1
theorem unixSec_c (H : TAt w b nano ext lo) : Calls Tryz.prog 93 #[.pointer (some ⟨b, 0, none⟩)] w fun e w' => e = .returned (.int .i64 (ext - 62135596800)) ∧ w' = w := by
  have HS := Lib.hid (sec_c b nano ext lo w n0 n1 H)
  clear H
  go_enter Tryz.func93, Tryz.ntmps93
  go_wp2_with (go_at_call 129; refine (HS.out).mono ?_; rintro e w' ⟨rfl, rfl⟩)
  go_ret
  exact ⟨ret_int (by omega), rfl⟩
end
section
variable (b : Nat) (nano ext : Int) (lo : Value) (w : World) (n0 : 0 ≤ nano) (n1 : nano ≤ 999999999)
include n0 n1
theorem setLoc_utc (v : Value) (H : TAt w b nano ext lo) (HL : UtcAt w v) : Calls Tryz.prog 83 #[.pointer (some ⟨b, 0, none⟩), v] w fun e w' => e = .returned (.tuple #[]) ∧ w' = w.setCell ⟨b, 2, none⟩ (.pointer none) := by
  have HS := Lib.hid (stripMono_c b nano ext lo w n0 n1 H)
  obtain ⟨h, c0, c1, c2, f0, f1, f2⟩ := H
  obtain ⟨k, rfl, h1, h2, h3⟩ := HL
  go_enter Tryz.func83, Tryz.ntmps83
  go_wp2_with (go_at_call 121; refine (HS.out).mono ?_; rintro e w' ⟨rfl, rfl⟩)
  go_end0
  exact ⟨rfl, rfl⟩
theorem setLoc_fix (v : Value) (z : Zn) (H : TAt w b nano ext lo) (HL : FixAt w v z) : Calls Tryz.prog 83 #[.pointer (some ⟨b, 0, none⟩), v] w fun e w' => e = .returned (.tuple #[]) ∧ w' = w.setCell ⟨b, 2, none⟩ v := by
  have HS := Lib.hid (stripMono_c b nano ext lo w n0 n1 H)
  obtain ⟨h, c0, c1, c2, f0, f1, f2⟩ := H
  obtain ⟨k, g, rfl, h1, h1', h2, h3, h4, h5, h6, h7, h8, h9⟩ := HL
  go_enter Tryz.func83, Tryz.ntmps83
  go_wp2_with (go_at_call 121; refine (HS.out).mono ?_; rintro e w' ⟨rfl, rfl⟩)
  go_end0
  exact ⟨rfl, rfl⟩
theorem addSec_c (d : Int) (H : TAt w b nano ext lo) (e0 : -1000000000000 ≤ ext) (e1 : ext ≤ 1000000000000) (d0 : -1000000000 ≤ d) (d1 : d ≤ 1000000000) : Calls Tryz.prog 92 #[.pointer (some ⟨b, 0, none⟩), .int .i64 d] w fun e w' => e = .returned (.tuple #[]) ∧ w' = w.setCell ⟨b, 1, none⟩ (.int .i64 (ext + d)) := by
  obtain ⟨h, c0, c1, c2, f0, f1, f2⟩ := H
  have ht := top_u64 nano n0 (by omega)
  by_cases hd : 0 < d
  · have hq : decide (ext < ext + d) = true := decide_eq_true (by omega)
    have hq2 : decide (0 < d) = true := decide_eq_true hd
    go_enter Tryz.func92, Tryz.ntmps92
    go_wp2
    go_end0
    exact ⟨rfl, rfl⟩
  · have hq : decide (ext < ext + d) = false := decide_eq_false (by omega)
    have hq2 : decide (0 < d) = false := decide_eq_false hd
    go_enter Tryz.func92, Tryz.ntmps92
    go_wp2
    go_end0
    exact ⟨rfl, rfl⟩
end
theorem TAt.below {w w' : World} {b : Nat} {nano ext : Int} {lo : Value} (h : TAt w b nano ext lo) (hb : Below w.heap.size w w') : TAt w' b nano ext lo := by
  obtain ⟨h1, c0, c1, c2, f0, f1, f2⟩ := h
  have hc : ∀ o, w'.cell? ⟨b, o, none⟩ = w.cell? ⟨b, o, none⟩ := fun o => hb.cell (p := ⟨b, o, none⟩) h1
  have hf : ∀ o, w'.frozen? ⟨b, o, none⟩ = w.frozen? ⟨b, o, none⟩ := fun o => hb.frozen (p := ⟨b, o, none⟩) h1
  exact ⟨Nat.lt_of_lt_of_le h1 hb.size, by rw [hc]; exact c0, by rw [hc]; exact c1, by rw [hc]; exact c2, by rw [hf]; exact f0, by rw [hf]; exact f1, by rw [hf]; exact f2⟩
/-- A time's value. -/
def tv (nano ext : Int) (lo : Value) : Value := .agg #[.int .u64 nano, .int .i64 ext, lo]
theorem TAt.new (w : World) (nano ext : Int) (lo : Value) : TAt (w.alloc (.cells #[.int .u64 nano, .int .i64 ext, lo] 51)) w.heap.size nano ext lo :=
  ⟨by simp, by simp, by simp, by simp, by simp, by simp, by simp⟩
section
variable (nano ext : Int) (lo : Value) (z : Zn) (w : World) (n0 : 0 ≤ nano) (n1 : nano ≤ 999999999) (e0 : -1000000000000 ≤ ext) (e1 : ext ≤ 1000000000000) (z0 : -86399 ≤ z.off) (z1 : z.off ≤ 86399)
include n0 n1 e0 e1 z0 z1
set_option maxHeartbeats 1000000 in
theorem absSec_c (H : TimeLoc w lo z) : Calls Tryz.prog 114 #[tv nano ext lo] w fun e w' => e = .returned (.int .u64 (ext + z.off + 9223371966606163200)) ∧ Below w.heap.size w w' := by
  have HT : Hid (∀ w, TAt w 0 0 0 lo → True) := fun _ _ => trivial
  unfold tv
  obtain ⟨w0, HW0⟩ : ∃ w0, Hid (w0 = w.alloc (.cells #[.int .u64 nano, .int .i64 ext, lo] 51)) := ⟨_, Lib.hid rfl⟩
  have hta : TAt w0 w.heap.size nano ext lo := by rw [HW0.out]; exact TAt.new w nano ext lo
  have hbl : Below w.heap.size w w0 := by rw [HW0.out]; exact below_new _ _
  rcases H with ⟨rfl, rfl⟩ | H
  · go_enter Tryz.func114, Tryz.ntmps114
    go_upto_region 4 with (go_at_call 119; refine (get_nil_c _).mono ?_; rintro e w1 ⟨⟨v, rfl, hv⟩, hb⟩)
    rw [← HW0.out] at hb
    have HU := Lib.hid (unixSec_c w.heap.size nano ext (.pointer none) w1 n0 n1 e0 e1 (hta.below hb))
    obtain ⟨b, rfl, h1, h2, h3⟩ := hv
    have HB := Lib.hid (below_next hbl hb)
    clear hta hbl hb
    go_wp2_with (go_at_call 93; refine (HU.out).mono ?_; rintro e w' ⟨rfl, rfl⟩)
    go_ret
    exact ⟨ret_int (by have : utcZ.off = 0 := rfl; simp only [wrapU, wrap64]; omega), HB.out⟩
  · have HU := Lib.hid (unixSec_c w.heap.size nano ext lo w0 n0 n1 e0 e1 hta)
    have H2 := H.below hbl
    obtain ⟨b, g, rfl, h1, h1', h2, h3, h4, h5, h6, h7, h8, h9⟩ := H2
    rw [HW0.out] at HU h1 h1' h2 h3 h4 h5 h6 h7 h8 h9
    clear hta H
    go_enter Tryz.func114, Tryz.ntmps114
    go_wp2_with (go_at_call 93; refine (HU.out).mono ?_; rintro e w' ⟨rfl, rfl⟩)
    go_ret
    exact ⟨ret_int (by simp only [wrapU, wrap64]; omega), by rw [HW0.out] at hbl; exact hbl⟩
end
end Go.Proofs.YtndhiemagankeaaGreatDoor
