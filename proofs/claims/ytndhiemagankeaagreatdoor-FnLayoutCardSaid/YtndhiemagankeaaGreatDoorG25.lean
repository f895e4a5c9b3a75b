/-
  FnLayout (the statement: for every list of pieces, every time and every zone the call returns true, and its arguments read afterwards as they did), part 25 of 41. In this part: The walk of package time: a time is written by a layout: the loop's frame. The walk of package time: a time is read by a layout: the loop's frame. The walk of package time: a time is read by a layout: what the loop does ahead of an element. The walk of package time: a time is read by a layout: what an element's code leaves. The walk of package time: a time is read by a layout: numbers and names. The walk of package time: a time is read by a layout: numbers and names. The walk of package time: a time is read by a layout: numbers and names.
-/
import Derived.Deep.DeepCutAuto
import Derived.Test.YtndhiemagankeaaGreatDoorG12
import Derived.Test.YtndhiemagankeaaGreatDoorG15
import Derived.Test.YtndhiemagankeaaGreatDoorG22
import Derived.Test.YtndhiemagankeaaGreatDoorG23
/- The walk of package time: a time is written by a layout: the loop's frame. -/
namespace Go.Proofs.YtndhiemagankeaaGreatDoor
open Go.RowKit
set_option linter.unusedSimpArgs false
set_option linter.unusedVariables false
/-- A block in a code, by its number. -/
noncomputable def findBlk (n : Nat) : Code → Option Code
  | .seq a b => (findBlk n a).or (findBlk n b)
  | .cond _ a b => (findBlk n a).or (findBlk n b)
  | .block k a => if k == n then some (.block k a) else findBlk n a
  | .scope a => findBlk n a
  | .loop a => findBlk n a
  | _ => none
noncomputable def body85 : Code := (Tryz.f85.body.bind firstLoop).getD .skip
noncomputable def sw85 : Code := (Tryz.f85.body.bind (findBlk 2)).getD .skip
/-- What the loop's slots hold. -/
structure V85 where
  b : Value
  lay : Bytes
  pb : Nat
  name : Bytes
  off : Int
  abs : Int
  y : Int
  m : Int
  d : Int
  yd : Int
  h : Int
  mi : Int
  s : Int
noncomputable def fr85 (v : V85) (u : Nat → Value) : Act := { tmps := #[u 0, v.b, S v.lay, .pointer (some ⟨v.pb, 0, none⟩), u 4, u 5, u 6, S v.name, .int .i64 v.off, .int .u64 v.abs, .int .u64 (v.abs / 86400), .int .i64 v.y, .int .i64 v.m, .int .i64 v.d, .int .i64 v.yd, .int .i64 v.h, .int .i64 v.mi, .int .i64 v.s, u 18, u 19, u 20, u 21, u 22, u 23, u 24, u 25, u 26, u 27, u 28, u 29, u 30, u 31, u 32, u 33, u 34, u 35, u 36, u 37, u 38, u 39, u 40, u 41, u 42, u 43, u 44, u 45, u 46, u 47, u 48, u 49, u 50, u 51, u 52, u 53, u 54, u 55, u 56, u 57, u 58, u 59, u 60, u 61, u 62, u 63, u 64, u 65, u 66, u 67, u 68, u 69, u 70, u 71, u 72, u 73, u 74, u 75, u 76, u 77, u 78, u 79, u 80, u 81, u 82, u 83, u 84, u 85, u 86, u 87, u 88, u 89, u 90, u 91, u 92, u 93, u 94, u 95, u 96, u 97, u 98, u 99, u 100, u 101, u 102, u 103, u 104, u 105, u 106, u 107, u 108, u 109, u 110, u 111, u 112, u 113, u 114, u 115, u 116, u 117, u 118, u 119, u 120, u 121, u 122, u 123, u 124, u 125, u 126, u 127, u 128, u 129, u 130, u 131, u 132, u 133, u 134, u 135, u 136, u 137, u 138, u 139, u 140, u 141, u 142, u 143, u 144, u 145, u 146, u 147, u 148, u 149, u 150, u 151, u 152, u 153, u 154, u 155, u 156, u 157, u 158, u 159, u 160, u 161, u 162, u 163, u 164, u 165, u 166, u 167, u 168, u 169, u 170, u 171, u 172, u 173, u 174, u 175, u 176, u 177, u 178, u 179, u 180, u 181, u 182, u 183, u 184, u 185, u 186, u 187, u 188, u 189, u 190, u 191, u 192, u 193, u 194, u 195, u 196, u 197, u 198, u 199, u 200, u 201, u 202, u 203, u 204, u 205, u 206, u 207, u 208, u 209, u 210, u 211, u 212, u 213, u 214, u 215, u 216, u 217, u 218, u 219, u 220, u 221, u 222, u 223, u 224, u 225, u 226, u 227, u 228, u 229, u 230, u 231, u 232, u 233, u 234, u 235, u 236, u 237, u 238, u 239, u 240, u 241, u 242, u 243, u 244, u 245, u 246, u 247, u 248, u 249, u 250, u 251, u 252, u 253, u 254, u 255, u 256, u 257, u 258, u 259, u 260, u 261, u 262, u 263, u 264, u 265, u 266, u 267, u 268, u 269, u 270, u 271, u 272, u 273, u 274, u 275, u 276, u 277, u 278, u 279, u 280, u 281, u 282, u 283, u 284, u 285, u 286, u 287, u 288, u 289, u 290, u 291, u 292, u 293, u 294, u 295, u 296, u 297, u 298, u 299, u 300, u 301, u 302, u 303, u 304, u 305, u 306, u 307, u 308, u 309, u 310, u 311, u 312, u 313, u 314, u 315, u 316, u 317, u 318, u 319, u 320, u 321, u 322, u 323, u 324, u 325, u 326, u 327, u 328, u 329, u 330, u 331, u 332, u 333, u 334, u 335, u 336, u 337, u 338, u 339, u 340, u 341, u 342, u 343, u 344, u 345, u 346, u 347, u 348, u 349, u 350, u 351, u 352, u 353, u 354, u 355, u 356, u 357, u 358, u 359, u 360, u 361, u 362, u 363, u 364, u 365, u 366, u 367, u 368, u 369, u 370, u 371, u 372, u 373, u 374, u 375, u 376, u 377, u 378, u 379, u 380, u 381, u 382, u 383, u 384, u 385, u 386, u 387, u 388, u 389, u 390, u 391, u 392], defers := [] }
noncomputable def fr85s (v : V85) (std code : Int) (u : Nat → Value) : Act := { tmps := #[u 0, v.b, S v.lay, .pointer (some ⟨v.pb, 0, none⟩), u 4, u 5, u 6, S v.name, .int .i64 v.off, .int .u64 v.abs, .int .u64 (v.abs / 86400), .int .i64 v.y, .int .i64 v.m, .int .i64 v.d, .int .i64 v.yd, .int .i64 v.h, .int .i64 v.mi, .int .i64 v.s, u 18, .int .i64 std, u 20, u 21, u 22, u 23, u 24, u 25, u 26, u 27, u 28, u 29, u 30, u 31, u 32, u 33, u 34, u 35, u 36, u 37, u 38, u 39, u 40, u 41, u 42, u 43, u 44, u 45, u 46, u 47, u 48, u 49, u 50, u 51, u 52, u 53, u 54, u 55, u 56, u 57, u 58, u 59, u 60, u 61, u 62, u 63, u 64, u 65, u 66, u 67, u 68, u 69, u 70, u 71, u 72, u 73, u 74, u 75, u 76, u 77, u 78, u 79, u 80, u 81, u 82, u 83, u 84, u 85, u 86, u 87, u 88, u 89, u 90, u 91, .int .i64 code, u 93, u 94, u 95, u 96, u 97, u 98, u 99, u 100, u 101, u 102, u 103, u 104, u 105, u 106, u 107, u 108, u 109, u 110, u 111, u 112, u 113, u 114, u 115, u 116, u 117, u 118, u 119, u 120, u 121, u 122, u 123, u 124, u 125, u 126, u 127, u 128, u 129, u 130, u 131, u 132, u 133, u 134, u 135, u 136, u 137, u 138, u 139, u 140, u 141, u 142, u 143, u 144, u 145, u 146, u 147, u 148, u 149, u 150, u 151, u 152, u 153, u 154, u 155, u 156, u 157, u 158, u 159, u 160, u 161, u 162, u 163, u 164, u 165, u 166, u 167, u 168, u 169, u 170, u 171, u 172, u 173, u 174, u 175, u 176, u 177, u 178, u 179, u 180, u 181, u 182, u 183, u 184, u 185, u 186, u 187, u 188, u 189, u 190, u 191, u 192, u 193, u 194, u 195, u 196, u 197, u 198, u 199, u 200, u 201, u 202, u 203, u 204, u 205, u 206, u 207, u 208, u 209, u 210, u 211, u 212, u 213, u 214, u 215, u 216, u 217, u 218, u 219, u 220, u 221, u 222, u 223, u 224, u 225, u 226, u 227, u 228, u 229, u 230, u 231, u 232, u 233, u 234, u 235, u 236, u 237, u 238, u 239, u 240, u 241, u 242, u 243, u 244, u 245, u 246, u 247, u 248, u 249, u 250, u 251, u 252, u 253, u 254, u 255, u 256, u 257, u 258, u 259, u 260, u 261, u 262, u 263, u 264, u 265, u 266, u 267, u 268, u 269, u 270, u 271, u 272, u 273, u 274, u 275, u 276, u 277, u 278, u 279, u 280, u 281, u 282, u 283, u 284, u 285, u 286, u 287, u 288, u 289, u 290, u 291, u 292, u 293, u 294, u 295, u 296, u 297, u 298, u 299, u 300, u 301, u 302, u 303, u 304, u 305, u 306, u 307, u 308, u 309, u 310, u 311, u 312, u 313, u 314, u 315, u 316, u 317, u 318, u 319, u 320, u 321, u 322, u 323, u 324, u 325, u 326, u 327, u 328, u 329, u 330, u 331, u 332, u 333, u 334, u 335, u 336, u 337, u 338, u 339, u 340, u 341, u 342, u 343, u 344, u 345, u 346, u 347, u 348, u 349, u 350, u 351, u 352, u 353, u 354, u 355, u 356, u 357, u 358, u 359, u 360, u 361, u 362, u 363, u 364, u 365, u 366, u 367, u 368, u 369, u 370, u 371, u 372, u 373, u 374, u 375, u 376, u 377, u 378, u 379, u 380, u 381, u 382, u 383, u 384, u 385, u 386, u 387, u 388, u 389, u 390, u 391, u 392], defers := [] }
structure At85 (v : V85) (a : Act) : Prop where
  size : a.tmps.size = 393
  defers : a.defers = []
  s1 : a.tmps.getD 1 undef = v.b
  s2 : a.tmps.getD 2 undef = S v.lay
  s3 : a.tmps.getD 3 undef = .pointer (some ⟨v.pb, 0, none⟩)
  s7 : a.tmps.getD 7 undef = S v.name
  s8 : a.tmps.getD 8 undef = .int .i64 v.off
  s9 : a.tmps.getD 9 undef = .int .u64 v.abs
  s10 : a.tmps.getD 10 undef = .int .u64 (v.abs / 86400)
  s11 : a.tmps.getD 11 undef = .int .i64 v.y
  s12 : a.tmps.getD 12 undef = .int .i64 v.m
  s13 : a.tmps.getD 13 undef = .int .i64 v.d
  s14 : a.tmps.getD 14 undef = .int .i64 v.yd
  s15 : a.tmps.getD 15 undef = .int .i64 v.h
  s16 : a.tmps.getD 16 undef = .int .i64 v.mi
  s17 : a.tmps.getD 17 undef = .int .i64 v.s
structure At85s (v : V85) (std code : Int) (a : Act) : Prop where
  size : a.tmps.size = 393
  defers : a.defers = []
  s1 : a.tmps.getD 1 undef = v.b
  s2 : a.tmps.getD 2 undef = S v.lay
  s3 : a.tmps.getD 3 undef = .pointer (some ⟨v.pb, 0, none⟩)
  s7 : a.tmps.getD 7 undef = S v.name
  s8 : a.tmps.getD 8 undef = .int .i64 v.off
  s9 : a.tmps.getD 9 undef = .int .u64 v.abs
  s10 : a.tmps.getD 10 undef = .int .u64 (v.abs / 86400)
  s11 : a.tmps.getD 11 undef = .int .i64 v.y
  s12 : a.tmps.getD 12 undef = .int .i64 v.m
  s13 : a.tmps.getD 13 undef = .int .i64 v.d
  s14 : a.tmps.getD 14 undef = .int .i64 v.yd
  s15 : a.tmps.getD 15 undef = .int .i64 v.h
  s16 : a.tmps.getD 16 undef = .int .i64 v.mi
  s17 : a.tmps.getD 17 undef = .int .i64 v.s
  s19 : a.tmps.getD 19 undef = .int .i64 std
  s92 : a.tmps.getD 92 undef = .int .i64 code
set_option maxRecDepth 100000 in
theorem range85 (u : Nat → Value) : (#[u 0, u 1, u 2, u 3, u 4, u 5, u 6, u 7, u 8, u 9, u 10, u 11, u 12, u 13, u 14, u 15, u 16, u 17, u 18, u 19, u 20, u 21, u 22, u 23, u 24, u 25, u 26, u 27, u 28, u 29, u 30, u 31, u 32, u 33, u 34, u 35, u 36, u 37, u 38, u 39, u 40, u 41, u 42, u 43, u 44, u 45, u 46, u 47, u 48, u 49, u 50, u 51, u 52, u 53, u 54, u 55, u 56, u 57, u 58, u 59, u 60, u 61, u 62, u 63, u 64, u 65, u 66, u 67, u 68, u 69, u 70, u 71, u 72, u 73, u 74, u 75, u 76, u 77, u 78, u 79, u 80, u 81, u 82, u 83, u 84, u 85, u 86, u 87, u 88, u 89, u 90, u 91, u 92, u 93, u 94, u 95, u 96, u 97, u 98, u 99, u 100, u 101, u 102, u 103, u 104, u 105, u 106, u 107, u 108, u 109, u 110, u 111, u 112, u 113, u 114, u 115, u 116, u 117, u 118, u 119, u 120, u 121, u 122, u 123, u 124, u 125, u 126, u 127, u 128, u 129, u 130, u 131, u 132, u 133, u 134, u 135, u 136, u 137, u 138, u 139, u 140, u 141, u 142, u 143, u 144, u 145, u 146, u 147, u 148, u 149, u 150, u 151, u 152, u 153, u 154, u 155, u 156, u 157, u 158, u 159, u 160, u 161, u 162, u 163, u 164, u 165, u 166, u 167, u 168, u 169, u 170, u 171, u 172, u 173, u 174, u 175, u 176, u 177, u 178, u 179, u 180, u 181, u 182, u 183, u 184, u 185, u 186, u 187, u 188, u 189, u 190, u 191, u 192, u 193, u 194, u 195, u 196, u 197, u 198, u 199, u 200, u 201, u 202, u 203, u 204, u 205, u 206, u 207, u 208, u 209, u 210, u 211, u 212, u 213, u 214, u 215, u 216, u 217, u 218, u 219, u 220, u 221, u 222, u 223, u 224, u 225, u 226, u 227, u 228, u 229, u 230, u 231, u 232, u 233, u 234, u 235, u 236, u 237, u 238, u 239, u 240, u 241, u 242, u 243, u 244, u 245, u 246, u 247, u 248, u 249, u 250, u 251, u 252, u 253, u 254, u 255, u 256, u 257, u 258, u 259, u 260, u 261, u 262, u 263, u 264, u 265, u 266, u 267, u 268, u 269, u 270, u 271, u 272, u 273, u 274, u 275, u 276, u 277, u 278, u 279, u 280, u 281, u 282, u 283, u 284, u 285, u 286, u 287, u 288, u 289, u 290, u 291, u 292, u 293, u 294, u 295, u 296, u 297, u 298, u 299, u 300, u 301, u 302, u 303, u 304, u 305, u 306, u 307, u 308, u 309, u 310, u 311, u 312, u 313, u 314, u 315, u 316, u 317, u 318, u 319, u 320, u 321, u 322, u 323, u 324, u 325, u 326, u 327, u 328, u 329, u 330, u 331, u 332, u 333, u 334, u 335, u 336, u 337, u 338, u 339, u 340, u 341, u 342, u 343, u 344, u 345, u 346, u 347, u 348, u 349, u 350, u 351, u 352, u 353, u 354, u 355, u 356, u 357, u 358, u 359, u 360, u 361, u 362, u 363, u 364, u 365, u 366, u 367, u 368, u 369, u 370, u 371, u 372, u 373, u 374, u 375, u 376, u 377, u 378, u 379, u 380, u 381, u 382, u 383, u 384, u 385, u 386, u 387, u 388, u 389, u 390, u 391, u 392] : Array Value) = ((List.range 393).map u).toArray := by kernel_rfl
set_option maxRecDepth 100000 in
theorem fr85_eq (v : V85) (u : Nat → Value) (h1 : u 1 = v.b) (h2 : u 2 = S v.lay) (h3 : u 3 = .pointer (some ⟨v.pb, 0, none⟩)) (h7 : u 7 = S v.name) (h8 : u 8 = .int .i64 v.off) (h9 : u 9 = .int .u64 v.abs) (h10 : u 10 = .int .u64 (v.abs / 86400)) (h11 : u 11 = .int .i64 v.y) (h12 : u 12 = .int .i64 v.m) (h13 : u 13 = .int .i64 v.d) (h14 : u 14 = .int .i64 v.yd) (h15 : u 15 = .int .i64 v.h) (h16 : u 16 = .int .i64 v.mi) (h17 : u 17 = .int .i64 v.s) : fr85 v u = { tmps := ((List.range 393).map u).toArray, defers := [] } := by
  rw [← range85, h1, h2, h3, h7, h8, h9, h10, h11, h12, h13, h14, h15, h16, h17]
  rfl
set_option maxRecDepth 100000 in
theorem fr85s_eq (v : V85) (std code : Int) (u : Nat → Value) (h1 : u 1 = v.b) (h2 : u 2 = S v.lay) (h3 : u 3 = .pointer (some ⟨v.pb, 0, none⟩)) (h7 : u 7 = S v.name) (h8 : u 8 = .int .i64 v.off) (h9 : u 9 = .int .u64 v.abs) (h10 : u 10 = .int .u64 (v.abs / 86400)) (h11 : u 11 = .int .i64 v.y) (h12 : u 12 = .int .i64 v.m) (h13 : u 13 = .int .i64 v.d) (h14 : u 14 = .int .i64 v.yd) (h15 : u 15 = .int .i64 v.h) (h16 : u 16 = .int .i64 v.mi) (h17 : u 17 = .int .i64 v.s) (h19 : u 19 = .int .i64 std) (h92 : u 92 = .int .i64 code) : fr85s v std code u = { tmps := ((List.range 393).map u).toArray, defers := [] } := by
  rw [← range85, h1, h2, h3, h7, h8, h9, h10, h11, h12, h13, h14, h15, h16, h17, h19, h92]
  rfl
set_option maxRecDepth 100000 in
theorem At85.open {v : V85} {a : Act} (h : At85 v a) : ∃ u, a = fr85 v u := by
  cases a with
  | mk tmps defers =>
    have h1 := h.size
    have h2 := h.defers
    simp only at h1 h2
    subst h2
    refine ⟨fun k => tmps.getD k undef, ?_⟩
    rw [fr85_eq v _ h.s1 h.s2 h.s3 h.s7 h.s8 h.s9 h.s10 h.s11 h.s12 h.s13 h.s14 h.s15 h.s16 h.s17]
    congr 1
    apply Array.ext
    · simp [h1]
    · intro j j1 j2
      simp [j1]
set_option maxRecDepth 100000 in
theorem At85s.open {v : V85} {std code : Int} {a : Act} (h : At85s v std code a) : ∃ u, a = fr85s v std code u := by
  cases a with
  | mk tmps defers =>
    have h1 := h.size
    have h2 := h.defers
    simp only at h1 h2
    subst h2
    refine ⟨fun k => tmps.getD k undef, ?_⟩
    rw [fr85s_eq v std code _ h.s1 h.s2 h.s3 h.s7 h.s8 h.s9 h.s10 h.s11 h.s12 h.s13 h.s14 h.s15 h.s16 h.s17 h.s19 h.s92]
    congr 1
    apply Array.ext
    · simp [h1]
    · intro j j1 j2
      simp [j1]
/-- What is reckoned so far of a time. -/
structure Lz (c : Civ) (v : V85) : Prop where
  date : v.y = -1 ∨ (v.y = c.year ∧ v.m = c.month ∧ v.d = c.day)
  yday : v.yd = -1 ∨ v.yd = yearDay c.year c.month c.day
  clock : v.h = -1 ∨ (v.h = c.hour ∧ v.mi = c.minute ∧ v.s = c.second)
theorem Buf.drewN {w : World} {g n cap : Nat} {l : Bytes} (h : Buf w g n cap l) (k : Nat) : Buf (w.drewN k) g n cap l := h.kept (below_drewN w k)
end Go.Proofs.YtndhiemagankeaaGreatDoor
/- The walk of package time: a time is read by a layout: the loop's frame. -/
namespace Go.Proofs.YtndhiemagankeaaGreatDoor
open Go.RowKit
set_option linter.unusedSimpArgs false
set_option linter.unusedVariables false
noncomputable def body69 : Code := (Tryz.f69.body.bind firstLoop).getD .skip
noncomputable def sw69 : Code := (Tryz.f69.body.bind (findBlk 2)).getD .skip
/-- What the loop's slots hold. -/
structure V69 where
  lay : Bytes
  val : Bytes
  loc : Value
  p : Nat
  am : Bool
  pm : Bool
  y : Int
  m : Int
  d : Int
  yd : Int
  h : Int
  mi : Int
  s : Int
  ns : Int
  z : Value
  zo : Int
  zn : Bytes
noncomputable def fr69 (v : V69) (u : Nat → Value) : Act := { tmps := #[S v.lay, S v.val, v.loc, v.loc, u 4, u 5, u 6, u 7, .pointer (some ⟨v.p, 0, none⟩), .nilIface, u 10, u 11, S [], .bool v.am, .bool v.pm, .int .i64 v.y, .int .i64 v.m, .int .i64 v.d, .int .i64 v.yd, .int .i64 v.h, .int .i64 v.mi, .int .i64 v.s, .int .i64 v.ns, v.z, .int .i64 v.zo, S v.zn, u 26, u 27, u 28, u 29, u 30, u 31, u 32, u 33, u 34, u 35, u 36, u 37, u 38, u 39, u 40, u 41, u 42, u 43, u 44, u 45, u 46, u 47, u 48, u 49, u 50, u 51, u 52, u 53, u 54, u 55, u 56, u 57, u 58, u 59, u 60, u 61, u 62, u 63, u 64, u 65, u 66, u 67, u 68, u 69, u 70, u 71, u 72, u 73, u 74, u 75, u 76, u 77, u 78, u 79, u 80, u 81, u 82, u 83, u 84, u 85, u 86, u 87, u 88, u 89, u 90, u 91, u 92, u 93, u 94, u 95, u 96, u 97, u 98, u 99, u 100, u 101, u 102, u 103, u 104, u 105, u 106, u 107, u 108, u 109, u 110, u 111, u 112, u 113, u 114, u 115, u 116, u 117, u 118, u 119, u 120, u 121, u 122, u 123, u 124, u 125, u 126, u 127, u 128, u 129, u 130, u 131, u 132, u 133, u 134, u 135, u 136, u 137, u 138, u 139, u 140, u 141, u 142, u 143, u 144, u 145, u 146, u 147, u 148, u 149, u 150, u 151, u 152, u 153, u 154, u 155, u 156, u 157, u 158, u 159, u 160, u 161, u 162, u 163, u 164, u 165, u 166, u 167, u 168, u 169, u 170, u 171, u 172, u 173, u 174, u 175, u 176, u 177, u 178, u 179, u 180, u 181, u 182, u 183, u 184, u 185, u 186, u 187, u 188, u 189, u 190, u 191, u 192, u 193, u 194, u 195, u 196, u 197, u 198, u 199, u 200, u 201, u 202, u 203, u 204, u 205, u 206, u 207, u 208, u 209, u 210, u 211, u 212, u 213, u 214, u 215, u 216, u 217, u 218, u 219, u 220, u 221, u 222, u 223, u 224, u 225, u 226, u 227, u 228, u 229, u 230, u 231, u 232, u 233, u 234, u 235, u 236, u 237, u 238, u 239, u 240, u 241, u 242, u 243, u 244, u 245, u 246, u 247, u 248, u 249, u 250, u 251, u 252, u 253, u 254, u 255, u 256, u 257, u 258, u 259, u 260, u 261, u 262, u 263, u 264, u 265, u 266, u 267, u 268, u 269, u 270, u 271, u 272, u 273, u 274, u 275, u 276, u 277, u 278, u 279, u 280, u 281, u 282, u 283, u 284, u 285, u 286, u 287, u 288, u 289, u 290, u 291, u 292, u 293, u 294, u 295, u 296, u 297, u 298, u 299, u 300, u 301, u 302, u 303, u 304, u 305, u 306, u 307, u 308, u 309, u 310, u 311, u 312, u 313, u 314, u 315, u 316, u 317, u 318, u 319, u 320, u 321, u 322, u 323, u 324, u 325, u 326, u 327, u 328, u 329, u 330, u 331, u 332, u 333, u 334, u 335, u 336, u 337, u 338, u 339, u 340, u 341, u 342, u 343, u 344, u 345, u 346, u 347, u 348, u 349, u 350, u 351, u 352, u 353, u 354, u 355, u 356, u 357, u 358, u 359, u 360, u 361, u 362, u 363, u 364, u 365, u 366, u 367, u 368, u 369, u 370, u 371, u 372, u 373, u 374, u 375, u 376, u 377, u 378, u 379, u 380, u 381, u 382, u 383, u 384, u 385, u 386, u 387, u 388, u 389, u 390, u 391, u 392, u 393, u 394, u 395, u 396, u 397, u 398, u 399, u 400, u 401, u 402, u 403, u 404, u 405, u 406, u 407, u 408, u 409, u 410, u 411, u 412, u 413, u 414, u 415, u 416, u 417, u 418, u 419, u 420, u 421, u 422, u 423, u 424, u 425, u 426, u 427, u 428, u 429, u 430, u 431, u 432, u 433, u 434, u 435, u 436, u 437, u 438, u 439, u 440, u 441, u 442, u 443, u 444, u 445, u 446, u 447, u 448, u 449, u 450, u 451, u 452, u 453, u 454, u 455, u 456, u 457, u 458, u 459, u 460, u 461, u 462, u 463, u 464, u 465, u 466, u 467, u 468, u 469, u 470, u 471, u 472, u 473, u 474, u 475, u 476, u 477, u 478, u 479, u 480, u 481, u 482, u 483, u 484, u 485, u 486, u 487, u 488, u 489, u 490, u 491, u 492, u 493, u 494, u 495, u 496, u 497, u 498, u 499, u 500, u 501, u 502, u 503, u 504, u 505, u 506, u 507, u 508, u 509, u 510, u 511, u 512, u 513, u 514, u 515, u 516, u 517, u 518, u 519, u 520, u 521, u 522, u 523, u 524, u 525, u 526, u 527, u 528, u 529, u 530, u 531, u 532, u 533, u 534, u 535, u 536, u 537, u 538, u 539, u 540, u 541, u 542, u 543, u 544, u 545, u 546, u 547, u 548, u 549, u 550, u 551, u 552, u 553, u 554, u 555, u 556, u 557, u 558, u 559, u 560, u 561, u 562, u 563, u 564, u 565, u 566, u 567, u 568, u 569, u 570, u 571, u 572, u 573, u 574, u 575, u 576, u 577, u 578, u 579, u 580, u 581, u 582, u 583, u 584, u 585, u 586, u 587, u 588, u 589, u 590, u 591, u 592, u 593, u 594, u 595, u 596, u 597, u 598, u 599, u 600, u 601, u 602, u 603, u 604, u 605, u 606, u 607, u 608, u 609, u 610, u 611, u 612, u 613, u 614, u 615, u 616, u 617, u 618, u 619, u 620, u 621, u 622, u 623, u 624, u 625, u 626, u 627, u 628, u 629, u 630, u 631, u 632, u 633, u 634, u 635, u 636, u 637, u 638, u 639, u 640, u 641, u 642, u 643, u 644, u 645, u 646, u 647, u 648, u 649, u 650, u 651, u 652, u 653, u 654, u 655, u 656, u 657, u 658, u 659, u 660, u 661, u 662, u 663, u 664, u 665, u 666, u 667, u 668, u 669, u 670, u 671, u 672, u 673, u 674, u 675, u 676, u 677, u 678, u 679, u 680, u 681, u 682, u 683, u 684, u 685, u 686, u 687, u 688, u 689, u 690, u 691, u 692, u 693, u 694, u 695, u 696, u 697, u 698, u 699, u 700, u 701, u 702, u 703, u 704, u 705, u 706, u 707, u 708, u 709, u 710, u 711, u 712, u 713, u 714, u 715, u 716, u 717, u 718, u 719, u 720, u 721, u 722, u 723, u 724, u 725, u 726, u 727, u 728, u 729, u 730, u 731, u 732, u 733, u 734, u 735, u 736, u 737, u 738, u 739, u 740, u 741, u 742, u 743, u 744, u 745, u 746, u 747, u 748, u 749, u 750, u 751, u 752, u 753, u 754, u 755, u 756, u 757, u 758, u 759, u 760, u 761, u 762, u 763, u 764, u 765, u 766, u 767, u 768, u 769, u 770, u 771, u 772, u 773, u 774, u 775, u 776, u 777, u 778, u 779, u 780, u 781, u 782, u 783, u 784, u 785, u 786, u 787, u 788, u 789, u 790, u 791, u 792, u 793, u 794, u 795, u 796, u 797, u 798, u 799, u 800, u 801, u 802, u 803, u 804, u 805, u 806, u 807, u 808, u 809, u 810, u 811, u 812, u 813, u 814, u 815, u 816, u 817, u 818, u 819, u 820, u 821, u 822, u 823, u 824, u 825, u 826, u 827, u 828, u 829, u 830, u 831, u 832, u 833, u 834, u 835, u 836, u 837, u 838, u 839, u 840, u 841, u 842, u 843, u 844, u 845, u 846, u 847, u 848, u 849, u 850, u 851, u 852, u 853, u 854, u 855, u 856, u 857, u 858, u 859, u 860, u 861, u 862, u 863, u 864, u 865, u 866, u 867, u 868, u 869, u 870, u 871, u 872, u 873, u 874, u 875, u 876, u 877, u 878, u 879, u 880, u 881, u 882, u 883, u 884, u 885, u 886, u 887, u 888, u 889, u 890, u 891, u 892, u 893, u 894, u 895, u 896, u 897, u 898, u 899, u 900, u 901, u 902, u 903, u 904, u 905, u 906, u 907, u 908, u 909, u 910], defers := [] }
noncomputable def fr69t (v : V69) (std code : Int) (u : Nat → Value) : Act := { tmps := #[S v.lay, S v.val, v.loc, v.loc, u 4, u 5, u 6, u 7, .pointer (some ⟨v.p, 0, none⟩), .nilIface, u 10, u 11, S [], .bool v.am, .bool v.pm, .int .i64 v.y, .int .i64 v.m, .int .i64 v.d, .int .i64 v.yd, .int .i64 v.h, .int .i64 v.mi, .int .i64 v.s, .int .i64 v.ns, v.z, .int .i64 v.zo, S v.zn, .nilIface, u 27, .int .i64 std, u 29, u 30, u 31, u 32, u 33, u 34, u 35, u 36, u 37, u 38, u 39, u 40, u 41, u 42, u 43, u 44, u 45, u 46, u 47, u 48, u 49, u 50, u 51, u 52, u 53, u 54, u 55, u 56, u 57, u 58, u 59, u 60, u 61, u 62, u 63, u 64, u 65, u 66, u 67, u 68, u 69, u 70, u 71, u 72, u 73, u 74, u 75, u 76, u 77, u 78, u 79, u 80, u 81, u 82, u 83, u 84, u 85, u 86, u 87, u 88, u 89, u 90, u 91, u 92, u 93, u 94, u 95, u 96, u 97, u 98, u 99, u 100, u 101, u 102, u 103, u 104, u 105, u 106, u 107, .int .i64 code, u 109, u 110, u 111, u 112, u 113, u 114, u 115, u 116, u 117, u 118, u 119, u 120, u 121, u 122, u 123, u 124, u 125, u 126, u 127, u 128, u 129, u 130, u 131, u 132, u 133, u 134, u 135, u 136, u 137, u 138, u 139, u 140, u 141, u 142, u 143, u 144, u 145, u 146, u 147, u 148, u 149, u 150, u 151, u 152, u 153, u 154, u 155, u 156, u 157, u 158, u 159, u 160, u 161, u 162, u 163, u 164, u 165, u 166, u 167, u 168, u 169, u 170, u 171, u 172, u 173, u 174, u 175, u 176, u 177, u 178, u 179, u 180, u 181, u 182, u 183, u 184, u 185, u 186, u 187, u 188, u 189, u 190, u 191, u 192, u 193, u 194, u 195, u 196, u 197, u 198, u 199, u 200, u 201, u 202, u 203, u 204, u 205, u 206, u 207, u 208, u 209, u 210, u 211, u 212, u 213, u 214, u 215, u 216, u 217, u 218, u 219, u 220, u 221, u 222, u 223, u 224, u 225, u 226, u 227, u 228, u 229, u 230, u 231, u 232, u 233, u 234, u 235, u 236, u 237, u 238, u 239, u 240, u 241, u 242, u 243, u 244, u 245, u 246, u 247, u 248, u 249, u 250, u 251, u 252, u 253, u 254, u 255, u 256, u 257, u 258, u 259, u 260, u 261, u 262, u 263, u 264, u 265, u 266, u 267, u 268, u 269, u 270, u 271, u 272, u 273, u 274, u 275, u 276, u 277, u 278, u 279, u 280, u 281, u 282, u 283, u 284, u 285, u 286, u 287, u 288, u 289, u 290, u 291, u 292, u 293, u 294, u 295, u 296, u 297, u 298, u 299, u 300, u 301, u 302, u 303, u 304, u 305, u 306, u 307, u 308, u 309, u 310, u 311, u 312, u 313, u 314, u 315, u 316, u 317, u 318, u 319, u 320, u 321, u 322, u 323, u 324, u 325, u 326, u 327, u 328, u 329, u 330, u 331, u 332, u 333, u 334, u 335, u 336, u 337, u 338, u 339, u 340, u 341, u 342, u 343, u 344, u 345, u 346, u 347, u 348, u 349, u 350, u 351, u 352, u 353, u 354, u 355, u 356, u 357, u 358, u 359, u 360, u 361, u 362, u 363, u 364, u 365, u 366, u 367, u 368, u 369, u 370, u 371, u 372, u 373, u 374, u 375, u 376, u 377, u 378, u 379, u 380, u 381, u 382, u 383, u 384, u 385, u 386, u 387, u 388, u 389, u 390, u 391, u 392, u 393, u 394, u 395, u 396, u 397, u 398, u 399, u 400, u 401, u 402, u 403, u 404, u 405, u 406, u 407, u 408, u 409, u 410, u 411, u 412, u 413, u 414, u 415, u 416, u 417, u 418, u 419, u 420, u 421, u 422, u 423, u 424, u 425, u 426, u 427, u 428, u 429, u 430, u 431, u 432, u 433, u 434, u 435, u 436, u 437, u 438, u 439, u 440, u 441, u 442, u 443, u 444, u 445, u 446, u 447, u 448, u 449, u 450, u 451, u 452, u 453, u 454, u 455, u 456, u 457, u 458, u 459, u 460, u 461, u 462, u 463, u 464, u 465, u 466, u 467, u 468, u 469, u 470, u 471, u 472, u 473, u 474, u 475, u 476, u 477, u 478, u 479, u 480, u 481, u 482, u 483, u 484, u 485, u 486, u 487, u 488, u 489, u 490, u 491, u 492, u 493, u 494, u 495, u 496, u 497, u 498, u 499, u 500, u 501, u 502, u 503, u 504, u 505, u 506, u 507, u 508, u 509, u 510, u 511, u 512, u 513, u 514, u 515, u 516, u 517, u 518, u 519, u 520, u 521, u 522, u 523, u 524, u 525, u 526, u 527, u 528, u 529, u 530, u 531, u 532, u 533, u 534, u 535, u 536, u 537, u 538, u 539, u 540, u 541, u 542, u 543, u 544, u 545, u 546, u 547, u 548, u 549, u 550, u 551, u 552, u 553, u 554, u 555, u 556, u 557, u 558, u 559, u 560, u 561, u 562, u 563, u 564, u 565, u 566, u 567, u 568, u 569, u 570, u 571, u 572, u 573, u 574, u 575, u 576, u 577, u 578, u 579, u 580, u 581, u 582, u 583, u 584, u 585, u 586, u 587, u 588, u 589, u 590, u 591, u 592, u 593, u 594, u 595, u 596, u 597, u 598, u 599, u 600, u 601, u 602, u 603, u 604, u 605, u 606, u 607, u 608, u 609, u 610, u 611, u 612, u 613, u 614, u 615, u 616, u 617, u 618, u 619, u 620, u 621, u 622, u 623, u 624, u 625, u 626, u 627, u 628, u 629, u 630, u 631, u 632, u 633, u 634, u 635, u 636, u 637, u 638, u 639, u 640, u 641, u 642, u 643, u 644, u 645, u 646, u 647, u 648, u 649, u 650, u 651, u 652, u 653, u 654, u 655, u 656, u 657, u 658, u 659, u 660, u 661, u 662, u 663, u 664, u 665, u 666, u 667, u 668, u 669, u 670, u 671, u 672, u 673, u 674, u 675, u 676, u 677, u 678, u 679, u 680, u 681, u 682, u 683, u 684, u 685, u 686, u 687, u 688, u 689, u 690, u 691, u 692, u 693, u 694, u 695, u 696, u 697, u 698, u 699, u 700, u 701, u 702, u 703, u 704, u 705, u 706, u 707, u 708, u 709, u 710, u 711, u 712, u 713, u 714, u 715, u 716, u 717, u 718, u 719, u 720, u 721, u 722, u 723, u 724, u 725, u 726, u 727, u 728, u 729, u 730, u 731, u 732, u 733, u 734, u 735, u 736, u 737, u 738, u 739, u 740, u 741, u 742, u 743, u 744, u 745, u 746, u 747, u 748, u 749, u 750, u 751, u 752, u 753, u 754, u 755, u 756, u 757, u 758, u 759, u 760, u 761, u 762, u 763, u 764, u 765, u 766, u 767, u 768, u 769, u 770, u 771, u 772, u 773, u 774, u 775, u 776, u 777, u 778, u 779, u 780, u 781, u 782, u 783, u 784, u 785, u 786, u 787, u 788, u 789, u 790, u 791, u 792, u 793, u 794, u 795, u 796, u 797, u 798, u 799, u 800, u 801, u 802, u 803, u 804, u 805, u 806, u 807, u 808, u 809, u 810, u 811, u 812, u 813, u 814, u 815, u 816, u 817, u 818, u 819, u 820, u 821, u 822, u 823, u 824, u 825, u 826, u 827, u 828, u 829, u 830, u 831, u 832, u 833, u 834, u 835, u 836, u 837, u 838, u 839, u 840, u 841, u 842, u 843, u 844, u 845, u 846, u 847, u 848, u 849, u 850, u 851, u 852, u 853, u 854, u 855, u 856, u 857, u 858, u 859, u 860, u 861, u 862, u 863, u 864, u 865, u 866, u 867, u 868, u 869, u 870, u 871, u 872, u 873, u 874, u 875, u 876, u 877, u 878, u 879, u 880, u 881, u 882, u 883, u 884, u 885, u 886, u 887, u 888, u 889, u 890, u 891, u 892, u 893, u 894, u 895, u 896, u 897, u 898, u 899, u 900, u 901, u 902, u 903, u 904, u 905, u 906, u 907, u 908, u 909, u 910], defers := [] }
structure At69 (v : V69) (a : Act) : Prop where
  size : a.tmps.size = 911
  defers : a.defers = []
  s0 : a.tmps.getD 0 undef = S v.lay
  s1 : a.tmps.getD 1 undef = S v.val
  s2 : a.tmps.getD 2 undef = v.loc
  s3 : a.tmps.getD 3 undef = v.loc
  s8 : a.tmps.getD 8 undef = .pointer (some ⟨v.p, 0, none⟩)
  s9 : a.tmps.getD 9 undef = .nilIface
  s12 : a.tmps.getD 12 undef = S []
  s13 : a.tmps.getD 13 undef = .bool v.am
  s14 : a.tmps.getD 14 undef = .bool v.pm
  s15 : a.tmps.getD 15 undef = .int .i64 v.y
  s16 : a.tmps.getD 16 undef = .int .i64 v.m
  s17 : a.tmps.getD 17 undef = .int .i64 v.d
  s18 : a.tmps.getD 18 undef = .int .i64 v.yd
  s19 : a.tmps.getD 19 undef = .int .i64 v.h
  s20 : a.tmps.getD 20 undef = .int .i64 v.mi
  s21 : a.tmps.getD 21 undef = .int .i64 v.s
  s22 : a.tmps.getD 22 undef = .int .i64 v.ns
  s23 : a.tmps.getD 23 undef = v.z
  s24 : a.tmps.getD 24 undef = .int .i64 v.zo
  s25 : a.tmps.getD 25 undef = S v.zn
structure At69t (v : V69) (std code : Int) (a : Act) : Prop where
  size : a.tmps.size = 911
  defers : a.defers = []
  s0 : a.tmps.getD 0 undef = S v.lay
  s1 : a.tmps.getD 1 undef = S v.val
  s2 : a.tmps.getD 2 undef = v.loc
  s3 : a.tmps.getD 3 undef = v.loc
  s8 : a.tmps.getD 8 undef = .pointer (some ⟨v.p, 0, none⟩)
  s9 : a.tmps.getD 9 undef = .nilIface
  s12 : a.tmps.getD 12 undef = S []
  s13 : a.tmps.getD 13 undef = .bool v.am
  s14 : a.tmps.getD 14 undef = .bool v.pm
  s15 : a.tmps.getD 15 undef = .int .i64 v.y
  s16 : a.tmps.getD 16 undef = .int .i64 v.m
  s17 : a.tmps.getD 17 undef = .int .i64 v.d
  s18 : a.tmps.getD 18 undef = .int .i64 v.yd
  s19 : a.tmps.getD 19 undef = .int .i64 v.h
  s20 : a.tmps.getD 20 undef = .int .i64 v.mi
  s21 : a.tmps.getD 21 undef = .int .i64 v.s
  s22 : a.tmps.getD 22 undef = .int .i64 v.ns
  s23 : a.tmps.getD 23 undef = v.z
  s24 : a.tmps.getD 24 undef = .int .i64 v.zo
  s25 : a.tmps.getD 25 undef = S v.zn
  s26 : a.tmps.getD 26 undef = .nilIface
  s28 : a.tmps.getD 28 undef = .int .i64 std
  s108 : a.tmps.getD 108 undef = .int .i64 code
set_option maxRecDepth 100000 in
theorem range69 (u : Nat → Value) : (#[u 0, u 1, u 2, u 3, u 4, u 5, u 6, u 7, u 8, u 9, u 10, u 11, u 12, u 13, u 14, u 15, u 16, u 17, u 18, u 19, u 20, u 21, u 22, u 23, u 24, u 25, u 26, u 27, u 28, u 29, u 30, u 31, u 32, u 33, u 34, u 35, u 36, u 37, u 38, u 39, u 40, u 41, u 42, u 43, u 44, u 45, u 46, u 47, u 48, u 49, u 50, u 51, u 52, u 53, u 54, u 55, u 56, u 57, u 58, u 59, u 60, u 61, u 62, u 63, u 64, u 65, u 66, u 67, u 68, u 69, u 70, u 71, u 72, u 73, u 74, u 75, u 76, u 77, u 78, u 79, u 80, u 81, u 82, u 83, u 84, u 85, u 86, u 87, u 88, u 89, u 90, u 91, u 92, u 93, u 94, u 95, u 96, u 97, u 98, u 99, u 100, u 101, u 102, u 103, u 104, u 105, u 106, u 107, u 108, u 109, u 110, u 111, u 112, u 113, u 114, u 115, u 116, u 117, u 118, u 119, u 120, u 121, u 122, u 123, u 124, u 125, u 126, u 127, u 128, u 129, u 130, u 131, u 132, u 133, u 134, u 135, u 136, u 137, u 138, u 139, u 140, u 141, u 142, u 143, u 144, u 145, u 146, u 147, u 148, u 149, u 150, u 151, u 152, u 153, u 154, u 155, u 156, u 157, u 158, u 159, u 160, u 161, u 162, u 163, u 164, u 165, u 166, u 167, u 168, u 169, u 170, u 171, u 172, u 173, u 174, u 175, u 176, u 177, u 178, u 179, u 180, u 181, u 182, u 183, u 184, u 185, u 186, u 187, u 188, u 189, u 190, u 191, u 192, u 193, u 194, u 195, u 196, u 197, u 198, u 199, u 200, u 201, u 202, u 203, u 204, u 205, u 206, u 207, u 208, u 209, u 210, u 211, u 212, u 213, u 214, u 215, u 216, u 217, u 218, u 219, u 220, u 221, u 222, u 223, u 224, u 225, u 226, u 227, u 228, u 229, u 230, u 231, u 232, u 233, u 234, u 235, u 236, u 237, u 238, u 239, u 240, u 241, u 242, u 243, u 244, u 245, u 246, u 247, u 248, u 249, u 250, u 251, u 252, u 253, u 254, u 255, u 256, u 257, u 258, u 259, u 260, u 261, u 262, u 263, u 264, u 265, u 266, u 267, u 268, u 269, u 270, u 271, u 272, u 273, u 274, u 275, u 276, u 277, u 278, u 279, u 280, u 281, u 282, u 283, u 284, u 285, u 286, u 287, u 288, u 289, u 290, u 291, u 292, u 293, u 294, u 295, u 296, u 297, u 298, u 299, u 300, u 301, u 302, u 303, u 304, u 305, u 306, u 307, u 308, u 309, u 310, u 311, u 312, u 313, u 314, u 315, u 316, u 317, u 318, u 319, u 320, u 321, u 322, u 323, u 324, u 325, u 326, u 327, u 328, u 329, u 330, u 331, u 332, u 333, u 334, u 335, u 336, u 337, u 338, u 339, u 340, u 341, u 342, u 343, u 344, u 345, u 346, u 347, u 348, u 349, u 350, u 351, u 352, u 353, u 354, u 355, u 356, u 357, u 358, u 359, u 360, u 361, u 362, u 363, u 364, u 365, u 366, u 367, u 368, u 369, u 370, u 371, u 372, u 373, u 374, u 375, u 376, u 377, u 378, u 379, u 380, u 381, u 382, u 383, u 384, u 385, u 386, u 387, u 388, u 389, u 390, u 391, u 392, u 393, u 394, u 395, u 396, u 397, u 398, u 399, u 400, u 401, u 402, u 403, u 404, u 405, u 406, u 407, u 408, u 409, u 410, u 411, u 412, u 413, u 414, u 415, u 416, u 417, u 418, u 419, u 420, u 421, u 422, u 423, u 424, u 425, u 426, u 427, u 428, u 429, u 430, u 431, u 432, u 433, u 434, u 435, u 436, u 437, u 438, u 439, u 440, u 441, u 442, u 443, u 444, u 445, u 446, u 447, u 448, u 449, u 450, u 451, u 452, u 453, u 454, u 455, u 456, u 457, u 458, u 459, u 460, u 461, u 462, u 463, u 464, u 465, u 466, u 467, u 468, u 469, u 470, u 471, u 472, u 473, u 474, u 475, u 476, u 477, u 478, u 479, u 480, u 481, u 482, u 483, u 484, u 485, u 486, u 487, u 488, u 489, u 490, u 491, u 492, u 493, u 494, u 495, u 496, u 497, u 498, u 499, u 500, u 501, u 502, u 503, u 504, u 505, u 506, u 507, u 508, u 509, u 510, u 511, u 512, u 513, u 514, u 515, u 516, u 517, u 518, u 519, u 520, u 521, u 522, u 523, u 524, u 525, u 526, u 527, u 528, u 529, u 530, u 531, u 532, u 533, u 534, u 535, u 536, u 537, u 538, u 539, u 540, u 541, u 542, u 543, u 544, u 545, u 546, u 547, u 548, u 549, u 550, u 551, u 552, u 553, u 554, u 555, u 556, u 557, u 558, u 559, u 560, u 561, u 562, u 563, u 564, u 565, u 566, u 567, u 568, u 569, u 570, u 571, u 572, u 573, u 574, u 575, u 576, u 577, u 578, u 579, u 580, u 581, u 582, u 583, u 584, u 585, u 586, u 587, u 588, u 589, u 590, u 591, u 592, u 593, u 594, u 595, u 596, u 597, u 598, u 599, u 600, u 601, u 602, u 603, u 604, u 605, u 606, u 607, u 608, u 609, u 610, u 611, u 612, u 613, u 614, u 615, u 616, u 617, u 618, u 619, u 620, u 621, u 622, u 623, u 624, u 625, u 626, u 627, u 628, u 629, u 630, u 631, u 632, u 633, u 634, u 635, u 636, u 637, u 638, u 639, u 640, u 641, u 642, u 643, u 644, u 645, u 646, u 647, u 648, u 649, u 650, u 651, u 652, u 653, u 654, u 655, u 656, u 657, u 658, u 659, u 660, u 661, u 662, u 663, u 664, u 665, u 666, u 667, u 668, u 669, u 670, u 671, u 672, u 673, u 674, u 675, u 676, u 677, u 678, u 679, u 680, u 681, u 682, u 683, u 684, u 685, u 686, u 687, u 688, u 689, u 690, u 691, u 692, u 693, u 694, u 695, u 696, u 697, u 698, u 699, u 700, u 701, u 702, u 703, u 704, u 705, u 706, u 707, u 708, u 709, u 710, u 711, u 712, u 713, u 714, u 715, u 716, u 717, u 718, u 719, u 720, u 721, u 722, u 723, u 724, u 725, u 726, u 727, u 728, u 729, u 730, u 731, u 732, u 733, u 734, u 735, u 736, u 737, u 738, u 739, u 740, u 741, u 742, u 743, u 744, u 745, u 746, u 747, u 748, u 749, u 750, u 751, u 752, u 753, u 754, u 755, u 756, u 757, u 758, u 759, u 760, u 761, u 762, u 763, u 764, u 765, u 766, u 767, u 768, u 769, u 770, u 771, u 772, u 773, u 774, u 775, u 776, u 777, u 778, u 779, u 780, u 781, u 782, u 783, u 784, u 785, u 786, u 787, u 788, u 789, u 790, u 791, u 792, u 793, u 794, u 795, u 796, u 797, u 798, u 799, u 800, u 801, u 802, u 803, u 804, u 805, u 806, u 807, u 808, u 809, u 810, u 811, u 812, u 813, u 814, u 815, u 816, u 817, u 818, u 819, u 820, u 821, u 822, u 823, u 824, u 825, u 826, u 827, u 828, u 829, u 830, u 831, u 832, u 833, u 834, u 835, u 836, u 837, u 838, u 839, u 840, u 841, u 842, u 843, u 844, u 845, u 846, u 847, u 848, u 849, u 850, u 851, u 852, u 853, u 854, u 855, u 856, u 857, u 858, u 859, u 860, u 861, u 862, u 863, u 864, u 865, u 866, u 867, u 868, u 869, u 870, u 871, u 872, u 873, u 874, u 875, u 876, u 877, u 878, u 879, u 880, u 881, u 882, u 883, u 884, u 885, u 886, u 887, u 888, u 889, u 890, u 891, u 892, u 893, u 894, u 895, u 896, u 897, u 898, u 899, u 900, u 901, u 902, u 903, u 904, u 905, u 906, u 907, u 908, u 909, u 910] : Array Value) = ((List.range 911).map u).toArray := by kernel_rfl
set_option maxRecDepth 100000 in
theorem fr69_eq (v : V69) (u : Nat → Value) (h0 : u 0 = S v.lay) (h1 : u 1 = S v.val) (h2 : u 2 = v.loc) (h3 : u 3 = v.loc) (h8 : u 8 = .pointer (some ⟨v.p, 0, none⟩)) (h9 : u 9 = .nilIface) (h12 : u 12 = S []) (h13 : u 13 = .bool v.am) (h14 : u 14 = .bool v.pm) (h15 : u 15 = .int .i64 v.y) (h16 : u 16 = .int .i64 v.m) (h17 : u 17 = .int .i64 v.d) (h18 : u 18 = .int .i64 v.yd) (h19 : u 19 = .int .i64 v.h) (h20 : u 20 = .int .i64 v.mi) (h21 : u 21 = .int .i64 v.s) (h22 : u 22 = .int .i64 v.ns) (h23 : u 23 = v.z) (h24 : u 24 = .int .i64 v.zo) (h25 : u 25 = S v.zn) : fr69 v u = { tmps := ((List.range 911).map u).toArray, defers := [] } := by
  rw [← range69, h0, h1, h2, h3, h8, h9, h12, h13, h14, h15, h16, h17, h18, h19, h20, h21, h22, h23, h24, h25]
  rfl
set_option maxRecDepth 100000 in
theorem fr69t_eq (v : V69) (std code : Int) (u : Nat → Value) (h0 : u 0 = S v.lay) (h1 : u 1 = S v.val) (h2 : u 2 = v.loc) (h3 : u 3 = v.loc) (h8 : u 8 = .pointer (some ⟨v.p, 0, none⟩)) (h9 : u 9 = .nilIface) (h12 : u 12 = S []) (h13 : u 13 = .bool v.am) (h14 : u 14 = .bool v.pm) (h15 : u 15 = .int .i64 v.y) (h16 : u 16 = .int .i64 v.m) (h17 : u 17 = .int .i64 v.d) (h18 : u 18 = .int .i64 v.yd) (h19 : u 19 = .int .i64 v.h) (h20 : u 20 = .int .i64 v.mi) (h21 : u 21 = .int .i64 v.s) (h22 : u 22 = .int .i64 v.ns) (h23 : u 23 = v.z) (h24 : u 24 = .int .i64 v.zo) (h25 : u 25 = S v.zn) (h26 : u 26 = .nilIface) (h28 : u 28 = .int .i64 std) (h108 : u 108 = .int .i64 code) : fr69t v std code u = { tmps := ((List.range 911).map u).toArray, defers := [] } := by
  rw [← range69, h0, h1, h2, h3, h8, h9, h12, h13, h14, h15, h16, h17, h18, h19, h20, h21, h22, h23, h24, h25, h26, h28, h108]
  rfl
noncomputable def fr69n (v : V69) (u : Nat → Value) : Act := { tmps := #[S v.lay, S v.val, v.loc, v.loc, u 4, u 5, u 6, u 7, .pointer (some ⟨v.p, 0, none⟩), .nilIface, u 10, u 11, S [], .bool v.am, .bool v.pm, .int .i64 v.y, .int .i64 v.m, .int .i64 v.d, .int .i64 v.yd, .int .i64 v.h, .int .i64 v.mi, .int .i64 v.s, .int .i64 v.ns, v.z, .int .i64 v.zo, S v.zn, .nilIface, u 27, u 28, u 29, u 30, u 31, u 32, u 33, u 34, u 35, u 36, u 37, u 38, u 39, u 40, u 41, u 42, u 43, u 44, u 45, u 46, u 47, u 48, u 49, u 50, u 51, u 52, u 53, u 54, u 55, u 56, u 57, u 58, u 59, u 60, u 61, u 62, u 63, u 64, u 65, u 66, u 67, u 68, u 69, u 70, u 71, u 72, u 73, u 74, u 75, u 76, u 77, u 78, u 79, u 80, u 81, u 82, u 83, u 84, u 85, u 86, u 87, u 88, u 89, u 90, u 91, u 92, u 93, u 94, u 95, u 96, u 97, u 98, u 99, u 100, u 101, u 102, u 103, u 104, u 105, u 106, u 107, u 108, u 109, u 110, u 111, u 112, u 113, u 114, u 115, u 116, u 117, u 118, u 119, u 120, u 121, u 122, u 123, u 124, u 125, u 126, u 127, u 128, u 129, u 130, u 131, u 132, u 133, u 134, u 135, u 136, u 137, u 138, u 139, u 140, u 141, u 142, u 143, u 144, u 145, u 146, u 147, u 148, u 149, u 150, u 151, u 152, u 153, u 154, u 155, u 156, u 157, u 158, u 159, u 160, u 161, u 162, u 163, u 164, u 165, u 166, u 167, u 168, u 169, u 170, u 171, u 172, u 173, u 174, u 175, u 176, u 177, u 178, u 179, u 180, u 181, u 182, u 183, u 184, u 185, u 186, u 187, u 188, u 189, u 190, u 191, u 192, u 193, u 194, u 195, u 196, u 197, u 198, u 199, u 200, u 201, u 202, u 203, u 204, u 205, u 206, u 207, u 208, u 209, u 210, u 211, u 212, u 213, u 214, u 215, u 216, u 217, u 218, u 219, u 220, u 221, u 222, u 223, u 224, u 225, u 226, u 227, u 228, u 229, u 230, u 231, u 232, u 233, u 234, u 235, u 236, u 237, u 238, u 239, u 240, u 241, u 242, u 243, u 244, u 245, u 246, u 247, u 248, u 249, u 250, u 251, u 252, u 253, u 254, u 255, u 256, u 257, u 258, u 259, u 260, u 261, u 262, u 263, u 264, u 265, u 266, u 267, u 268, u 269, u 270, u 271, u 272, u 273, u 274, u 275, u 276, u 277, u 278, u 279, u 280, u 281, u 282, u 283, u 284, u 285, u 286, u 287, u 288, u 289, u 290, u 291, u 292, u 293, u 294, u 295, u 296, u 297, u 298, u 299, u 300, u 301, u 302, u 303, u 304, u 305, u 306, u 307, u 308, u 309, u 310, u 311, u 312, u 313, u 314, u 315, u 316, u 317, u 318, u 319, u 320, u 321, u 322, u 323, u 324, u 325, u 326, u 327, u 328, u 329, u 330, u 331, u 332, u 333, u 334, u 335, u 336, u 337, u 338, u 339, u 340, u 341, u 342, u 343, u 344, u 345, u 346, u 347, u 348, u 349, u 350, u 351, u 352, u 353, u 354, u 355, u 356, u 357, u 358, u 359, u 360, u 361, u 362, u 363, u 364, u 365, u 366, u 367, u 368, u 369, u 370, u 371, u 372, u 373, u 374, u 375, u 376, u 377, u 378, u 379, u 380, u 381, u 382, u 383, u 384, u 385, u 386, u 387, u 388, u 389, u 390, u 391, u 392, u 393, u 394, u 395, u 396, u 397, u 398, u 399, u 400, u 401, u 402, u 403, u 404, u 405, u 406, u 407, u 408, u 409, u 410, u 411, u 412, u 413, u 414, u 415, u 416, u 417, u 418, u 419, u 420, u 421, u 422, u 423, u 424, u 425, u 426, u 427, u 428, u 429, u 430, u 431, u 432, u 433, u 434, u 435, u 436, u 437, u 438, u 439, u 440, u 441, u 442, u 443, u 444, u 445, u 446, u 447, u 448, u 449, u 450, u 451, u 452, u 453, u 454, u 455, u 456, u 457, u 458, u 459, u 460, u 461, u 462, u 463, u 464, u 465, u 466, u 467, u 468, u 469, u 470, u 471, u 472, u 473, u 474, u 475, u 476, u 477, u 478, u 479, u 480, u 481, u 482, u 483, u 484, u 485, u 486, u 487, u 488, u 489, u 490, u 491, u 492, u 493, u 494, u 495, u 496, u 497, u 498, u 499, u 500, u 501, u 502, u 503, u 504, u 505, u 506, u 507, u 508, u 509, u 510, u 511, u 512, u 513, u 514, u 515, u 516, u 517, u 518, u 519, u 520, u 521, u 522, u 523, u 524, u 525, u 526, u 527, u 528, u 529, u 530, u 531, u 532, u 533, u 534, u 535, u 536, u 537, u 538, u 539, u 540, u 541, u 542, u 543, u 544, u 545, u 546, u 547, u 548, u 549, u 550, u 551, u 552, u 553, u 554, u 555, u 556, u 557, u 558, u 559, u 560, u 561, u 562, u 563, u 564, u 565, u 566, u 567, u 568, u 569, u 570, u 571, u 572, u 573, u 574, u 575, u 576, u 577, u 578, u 579, u 580, u 581, u 582, u 583, u 584, u 585, u 586, u 587, u 588, u 589, u 590, u 591, u 592, u 593, u 594, u 595, u 596, u 597, u 598, u 599, u 600, u 601, u 602, u 603, u 604, u 605, u 606, u 607, u 608, u 609, u 610, u 611, u 612, u 613, u 614, u 615, u 616, u 617, u 618, u 619, u 620, u 621, u 622, u 623, u 624, u 625, u 626, u 627, u 628, u 629, u 630, u 631, u 632, u 633, u 634, u 635, u 636, u 637, u 638, u 639, u 640, u 641, u 642, u 643, u 644, u 645, u 646, u 647, u 648, u 649, u 650, u 651, u 652, u 653, u 654, u 655, u 656, u 657, u 658, u 659, u 660, u 661, u 662, u 663, u 664, u 665, u 666, u 667, u 668, u 669, u 670, u 671, u 672, u 673, u 674, u 675, u 676, u 677, u 678, u 679, u 680, u 681, u 682, u 683, u 684, u 685, u 686, u 687, u 688, u 689, u 690, u 691, u 692, u 693, u 694, u 695, u 696, u 697, u 698, u 699, u 700, u 701, u 702, u 703, u 704, u 705, u 706, u 707, u 708, u 709, u 710, u 711, u 712, u 713, u 714, u 715, u 716, u 717, u 718, u 719, u 720, u 721, u 722, u 723, u 724, u 725, u 726, u 727, u 728, u 729, u 730, u 731, u 732, u 733, u 734, u 735, u 736, u 737, u 738, u 739, u 740, u 741, u 742, u 743, u 744, u 745, u 746, u 747, u 748, u 749, u 750, u 751, u 752, u 753, u 754, u 755, u 756, u 757, u 758, u 759, u 760, u 761, u 762, u 763, u 764, u 765, u 766, u 767, u 768, u 769, u 770, u 771, u 772, u 773, u 774, u 775, u 776, u 777, u 778, u 779, u 780, u 781, u 782, u 783, u 784, u 785, u 786, u 787, u 788, u 789, u 790, u 791, u 792, u 793, u 794, u 795, u 796, u 797, u 798, u 799, u 800, u 801, u 802, u 803, u 804, u 805, u 806, u 807, u 808, u 809, u 810, u 811, u 812, u 813, u 814, u 815, u 816, u 817, u 818, u 819, u 820, u 821, u 822, u 823, u 824, u 825, u 826, u 827, u 828, u 829, u 830, u 831, u 832, u 833, u 834, u 835, u 836, u 837, u 838, u 839, u 840, u 841, u 842, u 843, u 844, u 845, u 846, u 847, u 848, u 849, u 850, u 851, u 852, u 853, u 854, u 855, u 856, u 857, u 858, u 859, u 860, u 861, u 862, u 863, u 864, u 865, u 866, u 867, u 868, u 869, u 870, u 871, u 872, u 873, u 874, u 875, u 876, u 877, u 878, u 879, u 880, u 881, u 882, u 883, u 884, u 885, u 886, u 887, u 888, u 889, u 890, u 891, u 892, u 893, u 894, u 895, u 896, u 897, u 898, u 899, u 900, u 901, u 902, u 903, u 904, u 905, u 906, u 907, u 908, u 909, u 910], defers := [] }
structure At69n (v : V69) (a : Act) : Prop where
  size : a.tmps.size = 911
  defers : a.defers = []
  s0 : a.tmps.getD 0 undef = S v.lay
  s1 : a.tmps.getD 1 undef = S v.val
  s2 : a.tmps.getD 2 undef = v.loc
  s3 : a.tmps.getD 3 undef = v.loc
  s8 : a.tmps.getD 8 undef = .pointer (some ⟨v.p, 0, none⟩)
  s9 : a.tmps.getD 9 undef = .nilIface
  s12 : a.tmps.getD 12 undef = S []
  s13 : a.tmps.getD 13 undef = .bool v.am
  s14 : a.tmps.getD 14 undef = .bool v.pm
  s15 : a.tmps.getD 15 undef = .int .i64 v.y
  s16 : a.tmps.getD 16 undef = .int .i64 v.m
  s17 : a.tmps.getD 17 undef = .int .i64 v.d
  s18 : a.tmps.getD 18 undef = .int .i64 v.yd
  s19 : a.tmps.getD 19 undef = .int .i64 v.h
  s20 : a.tmps.getD 20 undef = .int .i64 v.mi
  s21 : a.tmps.getD 21 undef = .int .i64 v.s
  s22 : a.tmps.getD 22 undef = .int .i64 v.ns
  s23 : a.tmps.getD 23 undef = v.z
  s24 : a.tmps.getD 24 undef = .int .i64 v.zo
  s25 : a.tmps.getD 25 undef = S v.zn
  s26 : a.tmps.getD 26 undef = .nilIface
set_option maxRecDepth 100000 in
theorem fr69n_eq (v : V69) (u : Nat → Value) (h0 : u 0 = S v.lay) (h1 : u 1 = S v.val) (h2 : u 2 = v.loc) (h3 : u 3 = v.loc) (h8 : u 8 = .pointer (some ⟨v.p, 0, none⟩)) (h9 : u 9 = .nilIface) (h12 : u 12 = S []) (h13 : u 13 = .bool v.am) (h14 : u 14 = .bool v.pm) (h15 : u 15 = .int .i64 v.y) (h16 : u 16 = .int .i64 v.m) (h17 : u 17 = .int .i64 v.d) (h18 : u 18 = .int .i64 v.yd) (h19 : u 19 = .int .i64 v.h) (h20 : u 20 = .int .i64 v.mi) (h21 : u 21 = .int .i64 v.s) (h22 : u 22 = .int .i64 v.ns) (h23 : u 23 = v.z) (h24 : u 24 = .int .i64 v.zo) (h25 : u 25 = S v.zn) (h26 : u 26 = .nilIface) : fr69n v u = { tmps := ((List.range 911).map u).toArray, defers := [] } := by
  rw [← range69, h0, h1, h2, h3, h8, h9, h12, h13, h14, h15, h16, h17, h18, h19, h20, h21, h22, h23, h24, h25, h26]
  rfl
set_option maxRecDepth 100000 in
theorem At69n.open {v : V69} {a : Act} (h : At69n v a) : ∃ u, a = fr69n v u := by
  cases a with
  | mk tmps defers =>
    have h1 := h.size
    have h2 := h.defers
    simp only at h1 h2
    subst h2
    refine ⟨fun k => tmps.getD k undef, ?_⟩
    rw [fr69n_eq v _ h.s0 h.s1 h.s2 h.s3 h.s8 h.s9 h.s12 h.s13 h.s14 h.s15 h.s16 h.s17 h.s18 h.s19 h.s20 h.s21 h.s22 h.s23 h.s24 h.s25 h.s26]
    congr 1
    apply Array.ext
    · simp [h1]
    · intro j j1 j2
      simp [j1]
set_option maxRecDepth 100000 in
theorem At69.open {v : V69} {a : Act} (h : At69 v a) : ∃ u, a = fr69 v u := by
  cases a with
  | mk tmps defers =>
    have h1 := h.size
    have h2 := h.defers
    simp only at h1 h2
    subst h2
    refine ⟨fun k => tmps.getD k undef, ?_⟩
    rw [fr69_eq v _ h.s0 h.s1 h.s2 h.s3 h.s8 h.s9 h.s12 h.s13 h.s14 h.s15 h.s16 h.s17 h.s18 h.s19 h.s20 h.s21 h.s22 h.s23 h.s24 h.s25]
    congr 1
    apply Array.ext
    · simp [h1]
    · intro j j1 j2
      simp [j1]
set_option maxRecDepth 100000 in
theorem At69t.open {v : V69} {std code : Int} {a : Act} (h : At69t v std code a) : ∃ u, a = fr69t v std code u := by
  cases a with
  | mk tmps defers =>
    have h1 := h.size
    have h2 := h.defers
    simp only at h1 h2
    subst h2
    refine ⟨fun k => tmps.getD k undef, ?_⟩
    rw [fr69t_eq v std code _ h.s0 h.s1 h.s2 h.s3 h.s8 h.s9 h.s12 h.s13 h.s14 h.s15 h.s16 h.s17 h.s18 h.s19 h.s20 h.s21 h.s22 h.s23 h.s24 h.s25 h.s26 h.s28 h.s108]
    congr 1
    apply Array.ext
    · simp [h1]
    · intro j j1 j2
      simp [j1]
end Go.Proofs.YtndhiemagankeaaGreatDoor
/- The walk of package time: a time is read by a layout: what the loop does ahead of an element. -/
namespace Go.Proofs.YtndhiemagankeaaGreatDoor
open Go.RowKit
set_option linter.unusedSimpArgs false
set_option linter.unusedVariables false
attribute [local simp] bs_size bs_toList bs_append bs_data bs_extract
/-- What the loop holds where it turns to an element. -/
def Tl69 (v : V69) (std code : Int) (w : World) (a' : Act) (w' : World) : Prop := At69t v std code a' ∧ ∃ n, w' = w.drewN n
set_option maxRecDepth 100000 in
set_option maxHeartbeats 4000000 in
theorem pre69 (v : V69) (std code : Int) (t r val : Bytes) (w : World) (I : Act → World → Prop) (Q : Exit → Act → World → Prop) (u : Nat → Value)
    (a4 : bits .and .i64 std 65535 = code) (hs0 : (std == 0) = false)
    (HN : ∀ w, StdAt w → Calls Tryz.prog 94 #[S v.lay] w fun e w' => e = .returned (.tuple #[S t, .int .i64 std, S r]) ∧ ∃ n, w' = w.drewN n)
    (HSK : ∀ w, Calls Tryz.prog 95 #[S v.val, S t] w fun e w' => e = .returned (.tuple #[S val, .nilIface]) ∧ ∃ n, w' = w.drewN n)
    (hw : StdAt w) (hl : v.lay.length ≤ 1099511627776) (hl2 : t.length + r.length ≤ v.lay.length)
    (R : V69 → World → Prop)
    (hT : ∀ a' w', Tl69 { v with lay := r, val := val } std code w a' w' → ∀ K Qx, (∀ v2 a2 w2, At69n v2 a2 → R v2 w2 → K a2 w2) → sw69.wp Tryz.prog (Exit.then K Qx) a' w')
    (hI : ∀ v2 a2 w2, At69 v2 a2 → R v2 w2 → I a2 w2) :
    body69.wp Tryz.prog (Exit.then I Q) (fr69 v u) w := by
  obtain ⟨lay, val0, loc, p, am, pm, y, m, d, yd, h, mi, s, ns, z, zo, zn⟩ := v
  simp only at HN HSK hl hl2 hT
  have HW := Lib.hid hw
  have HHN := Lib.hid HN
  have HHS := Lib.hid HSK
  have HT := Lib.hid hT
  have HI := Lib.hid hI
  clear hw HN HSK hT hI
  unfold fr69
  conv => arg 2; whnf
  go_upto_region 28 with (first
    | (go_at_call 94; refine (HHN.out _ HW.out).mono ?_; rintro e w' ⟨rfl, k, rfl⟩)
    | (go_at_call 95; refine (HHS.out _).mono ?_; rintro e w' ⟨rfl, k2, rfl⟩))
  all_goals
    rename_i K1 hK1 K2 hK
    refine Code.wp_mono (Q := Exit.then (fun a' w' => Tl69 ⟨r, val, loc, p, am, pm, y, m, d, yd, h, mi, s, ns, z, zo, zn⟩ std code w a' w') (Exit.then K1 (Exit.inBlock 1 (Exit.then I Q)))) ?_ ?_
    · intro e a w q
      cases e with
      | normal =>
        refine hK _ _ (HT.out _ _ q _ _ ?_)
        intro v2 a2 w2 hA2 hR2
        refine hK1 _ _ ?_
        obtain ⟨u2, rfl⟩ := hA2.open
        obtain ⟨lay2, val2, loc2, p2, am2, pm2, y2, m2, d2, yd2, h2, mi2, s2, ns2, z2, zo2, zn2⟩ := v2
        have HR2 := Lib.hid hR2
        clear hA2 hR2 q hK hK1
        unfold fr69n
        go_wp2_with fail
        exact HI.out ⟨lay2, val2, loc2, p2, am2, pm2, y2, m2, d2, yd2, h2, mi2, s2, ns2, z2, zo2, zn2⟩ _ _ ⟨rfl, rfl, rfl, rfl, rfl, rfl, rfl, rfl, rfl, rfl, rfl, rfl, rfl, rfl, rfl, rfl, rfl, rfl, rfl, rfl, rfl, rfl⟩ HR2.out
      | _ => exact q
    · clear hK hK1
      go_wp2_with fail
      exact ⟨⟨rfl, rfl, rfl, rfl, rfl, rfl, rfl, rfl, rfl, rfl, rfl, rfl, rfl, rfl, rfl, rfl, rfl, rfl, rfl, rfl, rfl, rfl, rfl, rfl, rfl⟩, _, rfl⟩
end Go.Proofs.YtndhiemagankeaaGreatDoor
/- The walk of package time: a time is read by a layout: what an element's code leaves. -/
namespace Go.Proofs.YtndhiemagankeaaGreatDoor
open Go.RowKit
set_option linter.unusedSimpArgs false
set_option linter.unusedVariables false
/-- An element's code turns the slots from one record to another. -/
def Par69 (std code : Int) (v v2 : V69) : Prop :=
  ∀ (w : World) (u : Nat → Value) (K : Act → World → Prop) (Qx : Exit → Act → World → Prop),
    (∀ a2 w2, At69n v2 a2 → Below w.heap.size w w2 → K a2 w2) → sw69.wp Tryz.prog (Exit.then K Qx) (fr69t v std code u) w
theorem then_ex {K : Act → World → Prop} {Q : Exit → Act → World → Prop} {i : Nat} {a : Act} {w : World} (h : Q (.exit i) a w) : Exit.then K Q (.exit i) a w := h
theorem then_no {K : Act → World → Prop} {Q : Exit → Act → World → Prop} {a : Act} {w : World} (h : K a w) : Exit.then K Q .normal a w := h
theorem blk_same {Q : Exit → Act → World → Prop} {i : Nat} {a : Act} {w : World} (h : Q .normal a w) : Exit.inBlock i Q (.exit i) a w := by simp [Exit.inBlock, h]
theorem blk_ne {Q : Exit → Act → World → Prop} {i j : Nat} {a : Act} {w : World} (hne : i ≠ j) (h : Q (.exit i) a w) : Exit.inBlock j Q (.exit i) a w := by simp [Exit.inBlock, hne, h]
theorem blk_no {Q : Exit → Act → World → Prop} {j : Nat} {a : Act} {w : World} (h : Q .normal a w) : Exit.inBlock j Q .normal a w := h
/-- What a reader of numbers answers at a text. -/
def Getn (f : Nat) (fx : Bool) (val : Bytes) (x : Int) (rest : Bytes) : Prop :=
  ∀ w, Calls Tryz.prog f #[S val, .bool fx] w fun e w' => e = .returned (.tuple #[.int .i64 x, S rest, .nilIface]) ∧ ∃ n, w' = w.drewN n
end Go.Proofs.YtndhiemagankeaaGreatDoor
/- The walk of package time: a time is read by a layout: numbers and names. -/
namespace Go.Proofs.YtndhiemagankeaaGreatDoor
open Go.RowKit
set_option linter.unusedSimpArgs false
set_option linter.unusedVariables false
attribute [local simp] bs_size bs_toList bs_append bs_data bs_extract
set_option maxRecDepth 100000 in
set_option maxHeartbeats 2000000 in
theorem par69_3 (v : V69) (x : Nat) (rest : Bytes) (x1 : x ≤ 11) (hg : ∀ w sv, StrsAt w sv monthNames → Calls Tryz.prog 99 #[sv, S v.val] w fun e w' => e = .returned (.tuple #[.int .i64 (x : Int), S rest, .nilIface]) ∧ ∃ n, w' = w.drewN n) : Par69 257 257 v { v with val := rest, m := (x : Int) + 1 } := by
  intro w u K Qx hK
  obtain ⟨lay, val, loc, p, am, pm, y, m, d, yd, h, mi, s, ns, z, zo, zn⟩ := v
  simp only at hg
  have HLK := Lib.hid hg
  clear hg
  have HK := Lib.hid hK
  have HB : Hid (Below w.heap.size w w) := Lib.hid (Below.refl _ _)
  clear hK
  unfold fr69t
  conv => arg 2; whnf
  repeat' (first
    | (guard_target =~ K _ _; exact HK.out _ _ ⟨rfl, rfl, rfl, rfl, rfl, rfl, rfl, rfl, rfl, rfl, rfl, rfl, rfl, rfl, rfl, rfl, rfl, rfl, rfl, rfl, rfl, rfl, rfl⟩ HB.out)
    | (guard_target =~ Exit.then _ _ _ _ _; first | refine then_ex ?_ | refine then_no ?_)
    | (guard_target =~ Exit.inBlock _ _ _ _ _; first | refine blk_same ?_ | refine blk_ne (by decide) ?_ | refine blk_no ?_)
    | (go_at_call 101; refine (longMonths_c _).mono ?_; rintro e w1 ⟨⟨sv, rfl, hst⟩, hbel⟩; have HST := Lib.hid hst; have HB := Lib.hid (HB.out.trans hbel); clear hst hbel)
    | (go_at_call 99; refine (HLK.out _ _ HST.out).mono ?_; rintro e w2 ⟨rfl, k, rfl⟩; have HB := Lib.hid (below_dN HB.out k))
    | go_guarded
    | go_skip
    | go_step
    | go_upon
    | go_back
    | go_simp)
set_option maxRecDepth 100000 in
set_option maxHeartbeats 2000000 in
theorem par69_4 (v : V69) (x : Nat) (rest : Bytes) (x1 : x ≤ 11) (hg : ∀ w sv, StrsAt w sv (short monthNames) → Calls Tryz.prog 99 #[sv, S v.val] w fun e w' => e = .returned (.tuple #[.int .i64 (x : Int), S rest, .nilIface]) ∧ ∃ n, w' = w.drewN n) : Par69 258 258 v { v with val := rest, m := (x : Int) + 1 } := by
  intro w u K Qx hK
  obtain ⟨lay, val, loc, p, am, pm, y, m, d, yd, h, mi, s, ns, z, zo, zn⟩ := v
  simp only at hg
  have HLK := Lib.hid hg
  clear hg
  have HK := Lib.hid hK
  have HB : Hid (Below w.heap.size w w) := Lib.hid (Below.refl _ _)
  clear hK
  unfold fr69t
  conv => arg 2; whnf
  repeat' (first
    | (guard_target =~ K _ _; exact HK.out _ _ ⟨rfl, rfl, rfl, rfl, rfl, rfl, rfl, rfl, rfl, rfl, rfl, rfl, rfl, rfl, rfl, rfl, rfl, rfl, rfl, rfl, rfl, rfl, rfl⟩ HB.out)
    | (guard_target =~ Exit.then _ _ _ _ _; first | refine then_ex ?_ | refine then_no ?_)
    | (guard_target =~ Exit.inBlock _ _ _ _ _; first | refine blk_same ?_ | refine blk_ne (by decide) ?_ | refine blk_no ?_)
    | (go_at_call 100; refine (shortMonths_c _).mono ?_; rintro e w1 ⟨⟨sv, rfl, hst⟩, hbel⟩; have HST := Lib.hid hst; have HB := Lib.hid (HB.out.trans hbel); clear hst hbel)
    | (go_at_call 99; refine (HLK.out _ _ HST.out).mono ?_; rintro e w2 ⟨rfl, k, rfl⟩; have HB := Lib.hid (below_dN HB.out k))
    | go_guarded
    | go_skip
    | go_step
    | go_upon
    | go_back
    | go_simp)
set_option maxRecDepth 100000 in
set_option maxHeartbeats 2000000 in
theorem par69_7 (v : V69) (x : Nat) (rest : Bytes) (x1 : x ≤ 11) (hg : ∀ w sv, StrsAt w sv dayNames → Calls Tryz.prog 99 #[sv, S v.val] w fun e w' => e = .returned (.tuple #[.int .i64 (x : Int), S rest, .nilIface]) ∧ ∃ n, w' = w.drewN n) : Par69 261 261 v { v with val := rest } := by
  intro w u K Qx hK
  obtain ⟨lay, val, loc, p, am, pm, y, m, d, yd, h, mi, s, ns, z, zo, zn⟩ := v
  simp only at hg
  have HLK := Lib.hid hg
  clear hg
  have HK := Lib.hid hK
  have HB : Hid (Below w.heap.size w w) := Lib.hid (Below.refl _ _)
  clear hK
  unfold fr69t
  conv => arg 2; whnf
  repeat' (first
    | (guard_target =~ K _ _; exact HK.out _ _ ⟨rfl, rfl, rfl, rfl, rfl, rfl, rfl, rfl, rfl, rfl, rfl, rfl, rfl, rfl, rfl, rfl, rfl, rfl, rfl, rfl, rfl, rfl, rfl⟩ HB.out)
    | (guard_target =~ Exit.then _ _ _ _ _; first | refine then_ex ?_ | refine then_no ?_)
    | (guard_target =~ Exit.inBlock _ _ _ _ _; first | refine blk_same ?_ | refine blk_ne (by decide) ?_ | refine blk_no ?_)
    | (go_at_call 104; refine (longDays_c _).mono ?_; rintro e w1 ⟨⟨sv, rfl, hst⟩, hbel⟩; have HST := Lib.hid hst; have HB := Lib.hid (HB.out.trans hbel); clear hst hbel)
    | (go_at_call 99; refine (HLK.out _ _ HST.out).mono ?_; rintro e w2 ⟨rfl, k, rfl⟩; have HB := Lib.hid (below_dN HB.out k))
    | go_guarded
    | go_skip
    | go_step
    | go_upon
    | go_back
    | go_simp)
set_option maxRecDepth 100000 in
set_option maxHeartbeats 2000000 in
theorem par69_8 (v : V69) (x : Nat) (rest : Bytes) (x1 : x ≤ 11) (hg : ∀ w sv, StrsAt w sv (short dayNames) → Calls Tryz.prog 99 #[sv, S v.val] w fun e w' => e = .returned (.tuple #[.int .i64 (x : Int), S rest, .nilIface]) ∧ ∃ n, w' = w.drewN n) : Par69 262 262 v { v with val := rest } := by
  intro w u K Qx hK
  obtain ⟨lay, val, loc, p, am, pm, y, m, d, yd, h, mi, s, ns, z, zo, zn⟩ := v
  simp only at hg
  have HLK := Lib.hid hg
  clear hg
  have HK := Lib.hid hK
  have HB : Hid (Below w.heap.size w w) := Lib.hid (Below.refl _ _)
  clear hK
  unfold fr69t
  conv => arg 2; whnf
  repeat' (first
    | (guard_target =~ K _ _; exact HK.out _ _ ⟨rfl, rfl, rfl, rfl, rfl, rfl, rfl, rfl, rfl, rfl, rfl, rfl, rfl, rfl, rfl, rfl, rfl, rfl, rfl, rfl, rfl, rfl, rfl⟩ HB.out)
    | (guard_target =~ Exit.then _ _ _ _ _; first | refine then_ex ?_ | refine then_no ?_)
    | (guard_target =~ Exit.inBlock _ _ _ _ _; first | refine blk_same ?_ | refine blk_ne (by decide) ?_ | refine blk_no ?_)
    | (go_at_call 103; refine (shortDays_c _).mono ?_; rintro e w1 ⟨⟨sv, rfl, hst⟩, hbel⟩; have HST := Lib.hid hst; have HB := Lib.hid (HB.out.trans hbel); clear hst hbel)
    | (go_at_call 99; refine (HLK.out _ _ HST.out).mono ?_; rintro e w2 ⟨rfl, k, rfl⟩; have HB := Lib.hid (below_dN HB.out k))
    | go_guarded
    | go_skip
    | go_step
    | go_upon
    | go_back
    | go_simp)
set_option maxRecDepth 100000 in
set_option maxHeartbeats 2000000 in
theorem par69_5 (v : V69) (x : Int) (rest : Bytes) (hg : Getn 102 true v.val x rest) (x0 : 1 ≤ x) (x1 : x ≤ 12) : Par69 260 260 v { v with val := rest, m := x } := by
  intro w u K Qx hK
  obtain ⟨lay, val, loc, p, am, pm, y, m, d, yd, h, mi, s, ns, z, zo, zn⟩ := v
  simp only at hg
  have HG := Lib.hid hg
  unfold Getn at HG
  clear hg
  have HK := Lib.hid hK
  have HB : Hid (Below w.heap.size w w) := Lib.hid (Below.refl _ _)
  clear hK
  unfold fr69t
  conv => arg 2; whnf
  repeat' (first
    | (guard_target =~ K _ _; exact HK.out _ _ ⟨rfl, rfl, rfl, rfl, rfl, rfl, rfl, rfl, rfl, rfl, rfl, rfl, rfl, rfl, rfl, rfl, rfl, rfl, rfl, rfl, rfl, rfl, rfl⟩ HB.out)
    | (guard_target =~ Exit.then _ _ _ _ _; first | refine then_ex ?_ | refine then_no ?_)
    | (guard_target =~ Exit.inBlock _ _ _ _ _; first | refine blk_same ?_ | refine blk_ne (by decide) ?_ | refine blk_no ?_)
    | (go_at_call 102; refine (HG.out _).mono ?_; rintro e w1 ⟨rfl, k, rfl⟩; have HB := Lib.hid (below_dN HB.out k))
    | go_guarded
    | go_skip
    | go_step
    | go_upon
    | go_back
    | go_simp)
set_option maxRecDepth 100000 in
set_option maxHeartbeats 2000000 in
theorem par69_6 (v : V69) (x : Int) (rest : Bytes) (hg : Getn 102 false v.val x rest) (x0 : 1 ≤ x) (x1 : x ≤ 12) : Par69 259 259 v { v with val := rest, m := x } := by
  intro w u K Qx hK
  obtain ⟨lay, val, loc, p, am, pm, y, m, d, yd, h, mi, s, ns, z, zo, zn⟩ := v
  simp only at hg
  have HG := Lib.hid hg
  unfold Getn at HG
  clear hg
  have HK := Lib.hid hK
  have HB : Hid (Below w.heap.size w w) := Lib.hid (Below.refl _ _)
  clear hK
  unfold fr69t
  conv => arg 2; whnf
  repeat' (first
    | (guard_target =~ K _ _; exact HK.out _ _ ⟨rfl, rfl, rfl, rfl, rfl, rfl, rfl, rfl, rfl, rfl, rfl, rfl, rfl, rfl, rfl, rfl, rfl, rfl, rfl, rfl, rfl, rfl, rfl⟩ HB.out)
    | (guard_target =~ Exit.then _ _ _ _ _; first | refine then_ex ?_ | refine then_no ?_)
    | (guard_target =~ Exit.inBlock _ _ _ _ _; first | refine blk_same ?_ | refine blk_ne (by decide) ?_ | refine blk_no ?_)
    | (go_at_call 102; refine (HG.out _).mono ?_; rintro e w1 ⟨rfl, k, rfl⟩; have HB := Lib.hid (below_dN HB.out k))
    | go_guarded
    | go_skip
    | go_step
    | go_upon
    | go_back
    | go_simp)
end Go.Proofs.YtndhiemagankeaaGreatDoor
/- The walk of package time: a time is read by a layout: numbers and names. -/
namespace Go.Proofs.YtndhiemagankeaaGreatDoor
open Go.RowKit
set_option linter.unusedSimpArgs false
set_option linter.unusedVariables false
attribute [local simp] bs_size bs_toList bs_append bs_data bs_extract
set_option maxRecDepth 100000 in
set_option maxHeartbeats 2000000 in
theorem par69_9 (v : V69) (x : Int) (rest : Bytes) (hg : Getn 102 false v.val x rest) (x0 : 0 ≤ x) (x1 : x ≤ 99) : Par69 263 263 v { v with val := rest, d := x } := by
  intro w u K Qx hK
  obtain ⟨lay, val, loc, p, am, pm, y, m, d, yd, h, mi, s, ns, z, zo, zn⟩ := v
  simp only at hg
  have HG := Lib.hid hg
  unfold Getn at HG
  clear hg
  have HK := Lib.hid hK
  have HB : Hid (Below w.heap.size w w) := Lib.hid (Below.refl _ _)
  clear hK
  unfold fr69t
  conv => arg 2; whnf
  repeat' (first
    | (guard_target =~ K _ _; exact HK.out _ _ ⟨rfl, rfl, rfl, rfl, rfl, rfl, rfl, rfl, rfl, rfl, rfl, rfl, rfl, rfl, rfl, rfl, rfl, rfl, rfl, rfl, rfl, rfl, rfl⟩ HB.out)
    | (guard_target =~ Exit.then _ _ _ _ _; first | refine then_ex ?_ | refine then_no ?_)
    | (guard_target =~ Exit.inBlock _ _ _ _ _; first | refine blk_same ?_ | refine blk_ne (by decide) ?_ | refine blk_no ?_)
    | (go_at_call 102; refine (HG.out _).mono ?_; rintro e w1 ⟨rfl, k, rfl⟩; have HB := Lib.hid (below_dN HB.out k))
    | go_guarded
    | go_skip
    | go_step
    | go_upon
    | go_back
    | go_simp)
set_option maxRecDepth 100000 in
set_option maxHeartbeats 2000000 in
theorem par69_11 (v : V69) (x : Int) (rest : Bytes) (hg : Getn 102 true v.val x rest) (x0 : 0 ≤ x) (x1 : x ≤ 99) : Par69 265 265 v { v with val := rest, d := x } := by
  intro w u K Qx hK
  obtain ⟨lay, val, loc, p, am, pm, y, m, d, yd, h, mi, s, ns, z, zo, zn⟩ := v
  simp only at hg
  have HG := Lib.hid hg
  unfold Getn at HG
  clear hg
  have HK := Lib.hid hK
  have HB : Hid (Below w.heap.size w w) := Lib.hid (Below.refl _ _)
  clear hK
  unfold fr69t
  conv => arg 2; whnf
  repeat' (first
    | (guard_target =~ K _ _; exact HK.out _ _ ⟨rfl, rfl, rfl, rfl, rfl, rfl, rfl, rfl, rfl, rfl, rfl, rfl, rfl, rfl, rfl, rfl, rfl, rfl, rfl, rfl, rfl, rfl, rfl⟩ HB.out)
    | (guard_target =~ Exit.then _ _ _ _ _; first | refine then_ex ?_ | refine then_no ?_)
    | (guard_target =~ Exit.inBlock _ _ _ _ _; first | refine blk_same ?_ | refine blk_ne (by decide) ?_ | refine blk_no ?_)
    | (go_at_call 102; refine (HG.out _).mono ?_; rintro e w1 ⟨rfl, k, rfl⟩; have HB := Lib.hid (below_dN HB.out k))
    | go_guarded
    | go_skip
    | go_step
    | go_upon
    | go_back
    | go_simp)
set_option maxRecDepth 100000 in
set_option maxHeartbeats 2000000 in
theorem par69_14 (v : V69) (x : Int) (rest : Bytes) (hg : Getn 102 false v.val x rest) (x0 : 0 ≤ x) (x1 : x ≤ 23) : Par69 1036 1036 v { v with val := rest, h := x } := by
  intro w u K Qx hK
  obtain ⟨lay, val, loc, p, am, pm, y, m, d, yd, h, mi, s, ns, z, zo, zn⟩ := v
  simp only at hg
  have HG := Lib.hid hg
  unfold Getn at HG
  clear hg
  have HK := Lib.hid hK
  have HB : Hid (Below w.heap.size w w) := Lib.hid (Below.refl _ _)
  clear hK
  unfold fr69t
  conv => arg 2; whnf
  repeat' (first
    | (guard_target =~ K _ _; exact HK.out _ _ ⟨rfl, rfl, rfl, rfl, rfl, rfl, rfl, rfl, rfl, rfl, rfl, rfl, rfl, rfl, rfl, rfl, rfl, rfl, rfl, rfl, rfl, rfl, rfl⟩ HB.out)
    | (guard_target =~ Exit.then _ _ _ _ _; first | refine then_ex ?_ | refine then_no ?_)
    | (guard_target =~ Exit.inBlock _ _ _ _ _; first | refine blk_same ?_ | refine blk_ne (by decide) ?_ | refine blk_no ?_)
    | (go_at_call 102; refine (HG.out _).mono ?_; rintro e w1 ⟨rfl, k, rfl⟩; have HB := Lib.hid (below_dN HB.out k))
    | go_guarded
    | go_skip
    | go_step
    | go_upon
    | go_back
    | go_simp)
end Go.Proofs.YtndhiemagankeaaGreatDoor
/- The walk of package time: a time is read by a layout: numbers and names. -/
namespace Go.Proofs.YtndhiemagankeaaGreatDoor
open Go.RowKit
set_option linter.unusedSimpArgs false
set_option linter.unusedVariables false
attribute [local simp] bs_size bs_toList bs_append bs_data bs_extract
set_option maxRecDepth 100000 in
set_option maxHeartbeats 2000000 in
theorem par69_15 (v : V69) (x : Int) (rest : Bytes) (hg : Getn 102 false v.val x rest) (x0 : 0 ≤ x) (x1 : x ≤ 12) : Par69 1037 1037 v { v with val := rest, h := x } := by
  intro w u K Qx hK
  obtain ⟨lay, val, loc, p, am, pm, y, m, d, yd, h, mi, s, ns, z, zo, zn⟩ := v
  simp only at hg
  have HG := Lib.hid hg
  unfold Getn at HG
  clear hg
  have HK := Lib.hid hK
  have HB : Hid (Below w.heap.size w w) := Lib.hid (Below.refl _ _)
  clear hK
  unfold fr69t
  conv => arg 2; whnf
  repeat' (first
    | (guard_target =~ K _ _; exact HK.out _ _ ⟨rfl, rfl, rfl, rfl, rfl, rfl, rfl, rfl, rfl, rfl, rfl, rfl, rfl, rfl, rfl, rfl, rfl, rfl, rfl, rfl, rfl, rfl, rfl⟩ HB.out)
    | (guard_target =~ Exit.then _ _ _ _ _; first | refine then_ex ?_ | refine then_no ?_)
    | (guard_target =~ Exit.inBlock _ _ _ _ _; first | refine blk_same ?_ | refine blk_ne (by decide) ?_ | refine blk_no ?_)
    | (go_at_call 102; refine (HG.out _).mono ?_; rintro e w1 ⟨rfl, k, rfl⟩; have HB := Lib.hid (below_dN HB.out k))
    | go_guarded
    | go_skip
    | go_step
    | go_upon
    | go_back
    | go_simp)
set_option maxRecDepth 100000 in
set_option maxHeartbeats 2000000 in
theorem par69_16 (v : V69) (x : Int) (rest : Bytes) (hg : Getn 102 true v.val x rest) (x0 : 0 ≤ x) (x1 : x ≤ 12) : Par69 1038 1038 v { v with val := rest, h := x } := by
  intro w u K Qx hK
  obtain ⟨lay, val, loc, p, am, pm, y, m, d, yd, h, mi, s, ns, z, zo, zn⟩ := v
  simp only at hg
  have HG := Lib.hid hg
  unfold Getn at HG
  clear hg
  have HK := Lib.hid hK
  have HB : Hid (Below w.heap.size w w) := Lib.hid (Below.refl _ _)
  clear hK
  unfold fr69t
  conv => arg 2; whnf
  repeat' (first
    | (guard_target =~ K _ _; exact HK.out _ _ ⟨rfl, rfl, rfl, rfl, rfl, rfl, rfl, rfl, rfl, rfl, rfl, rfl, rfl, rfl, rfl, rfl, rfl, rfl, rfl, rfl, rfl, rfl, rfl⟩ HB.out)
    | (guard_target =~ Exit.then _ _ _ _ _; first | refine then_ex ?_ | refine then_no ?_)
    | (guard_target =~ Exit.inBlock _ _ _ _ _; first | refine blk_same ?_ | refine blk_ne (by decide) ?_ | refine blk_no ?_)
    | (go_at_call 102; refine (HG.out _).mono ?_; rintro e w1 ⟨rfl, k, rfl⟩; have HB := Lib.hid (below_dN HB.out k))
    | go_guarded
    | go_skip
    | go_step
    | go_upon
    | go_back
    | go_simp)
set_option maxRecDepth 100000 in
set_option maxHeartbeats 2000000 in
theorem par69_17 (v : V69) (x : Int) (rest : Bytes) (hg : Getn 102 false v.val x rest) (x0 : 0 ≤ x) (x1 : x ≤ 59) : Par69 1039 1039 v { v with val := rest, mi := x } := by
  intro w u K Qx hK
  obtain ⟨lay, val, loc, p, am, pm, y, m, d, yd, h, mi, s, ns, z, zo, zn⟩ := v
  simp only at hg
  have HG := Lib.hid hg
  unfold Getn at HG
  clear hg
  have HK := Lib.hid hK
  have HB : Hid (Below w.heap.size w w) := Lib.hid (Below.refl _ _)
  clear hK
  unfold fr69t
  conv => arg 2; whnf
  repeat' (first
    | (guard_target =~ K _ _; exact HK.out _ _ ⟨rfl, rfl, rfl, rfl, rfl, rfl, rfl, rfl, rfl, rfl, rfl, rfl, rfl, rfl, rfl, rfl, rfl, rfl, rfl, rfl, rfl, rfl, rfl⟩ HB.out)
    | (guard_target =~ Exit.then _ _ _ _ _; first | refine then_ex ?_ | refine then_no ?_)
    | (guard_target =~ Exit.inBlock _ _ _ _ _; first | refine blk_same ?_ | refine blk_ne (by decide) ?_ | refine blk_no ?_)
    | (go_at_call 102; refine (HG.out _).mono ?_; rintro e w1 ⟨rfl, k, rfl⟩; have HB := Lib.hid (below_dN HB.out k))
    | go_guarded
    | go_skip
    | go_step
    | go_upon
    | go_back
    | go_simp)
set_option maxRecDepth 100000 in
set_option maxHeartbeats 2000000 in
theorem par69_18 (v : V69) (x : Int) (rest : Bytes) (hg : Getn 102 true v.val x rest) (x0 : 0 ≤ x) (x1 : x ≤ 59) : Par69 1040 1040 v { v with val := rest, mi := x } := by
  intro w u K Qx hK
  obtain ⟨lay, val, loc, p, am, pm, y, m, d, yd, h, mi, s, ns, z, zo, zn⟩ := v
  simp only at hg
  have HG := Lib.hid hg
  unfold Getn at HG
  clear hg
  have HK := Lib.hid hK
  have HB : Hid (Below w.heap.size w w) := Lib.hid (Below.refl _ _)
  clear hK
  unfold fr69t
  conv => arg 2; whnf
  repeat' (first
    | (guard_target =~ K _ _; exact HK.out _ _ ⟨rfl, rfl, rfl, rfl, rfl, rfl, rfl, rfl, rfl, rfl, rfl, rfl, rfl, rfl, rfl, rfl, rfl, rfl, rfl, rfl, rfl, rfl, rfl⟩ HB.out)
    | (guard_target =~ Exit.then _ _ _ _ _; first | refine then_ex ?_ | refine then_no ?_)
    | (guard_target =~ Exit.inBlock _ _ _ _ _; first | refine blk_same ?_ | refine blk_ne (by decide) ?_ | refine blk_no ?_)
    | (go_at_call 102; refine (HG.out _).mono ?_; rintro e w1 ⟨rfl, k, rfl⟩; have HB := Lib.hid (below_dN HB.out k))
    | go_guarded
    | go_skip
    | go_step
    | go_upon
    | go_back
    | go_simp)
end Go.Proofs.YtndhiemagankeaaGreatDoor
