/-
  THE WALK of 'zzlaws_pkg_diameter_b1.FnIsSeesOnlyTheType' (4): a theorem a case (the V flag; the codes; the vendors).
-/
import Derived.Test.Qxb6617123aAvp
import Derived.Test.Qxb6617123aClone
namespace Go.Proofs.Qxb6617123a.fnIsSeesOnlyTheType
open Go.RowKit
set_option linter.unusedVariables false

set_option maxRecDepth 100000 in
set_option maxHeartbeats 800000 in
theorem v_ff (c f v : Int) (a3 : Option Addr) (len3 cap3 : Nat) (z3 : List Int) (tc tv : Int) (tm : Bool) (w : World) (w3 : IsRow .u8 w a3 len3 cap3 z3) (hlm : len3 ≤ maxLen)
    (hV : (bits BinOp.and IntKind.u8 f 128 == 0) = false) (hV' : (bits BinOp.and IntKind.u8 f 128 != 0) = true) (hx : (tc == c) = false) :
    Calls Try.prog 4 #[.int .u32 c, .int .u8 f, .int .u32 v, .slice a3 len3 cap3, .int .u32 tc, .int .u32 tv, .bool tm] w fun e w' => e = .returned (.bool true) ∧ Below w.heap.size w w' := by
  have e1 : isB c f v tc tv = false := by rw [isB_v hV, hx]; rfl
  have e2 : ∀ m, isB c (fl v m) v tc tv = false := fun m => by rw [isB_fl, hx]; rfl
  have e3 : isB c f v c v = true := by rw [isB_v hV]; simp
  have hby := bytes10 c f v tc tv tm a3 len3 cap3 w hlm
  unfold maxLen at hlm
  go_enter Try.func4, Try.ntmps4
  go_wp2_with fail
  refine hby.mono ?_
  rintro e w' ⟨t, rfl, rfl⟩
  clear hby
  cases t
  · go_wp2
    go_ret
    exact ⟨rfl, Below.refl _ _⟩
  by_cases hlen : (1048576 : Int) < len3
  · go_wp2
    go_ret
    exact ⟨rfl, Below.refl _ _⟩
  go_wp2_with fail
  refine (clone_any _ _ _ z3 _ w3 (by omega)).mono ?_
  rintro e w1 ⟨d, l, p, rfl, hb1⟩
  have A3 := ((avpAt_new w1 c f v d l p).alloc (.cells #[.int .u32 tc, .int .u32 tv, .bool tm] 27)).alloc (.cells #[.int .u32 c, .int .u32 v, .bool (bits BinOp.and IntKind.u8 f 64 != 0)] 27)
  have T3 := (typAt_new (w1.alloc (.cells #[.int .u32 c, .int .u8 f, .int .u32 v, .slice d l p] 29)) tc tv tm).alloc (.cells #[.int .u32 c, .int .u32 v, .bool (bits BinOp.and IntKind.u8 f 64 != 0)] 27)
  have U3 := typAt_new ((w1.alloc (.cells #[.int .u32 c, .int .u8 f, .int .u32 v, .slice d l p] 29)).alloc (.cells #[.int .u32 tc, .int .u32 tv, .bool tm] 27)) c v (bits BinOp.and IntKind.u8 f 64 != 0)
  simp only [World.size_alloc] at T3 U3
  go_wp2_with fail
  refine (zzavp_any _ _ _ _ _ _ _).mono ?_
  rintro e w2 ⟨rfl, hb2⟩
  have hz2 : w1.heap.size + 2 < w2.heap.size := by have := hb2.size; simp at this; omega
  have HB2 : Below w.heap.size w w2 := below_then (below_then hb1 (by go_grown)) hb2
  have A5 := (A3.kept hb2).alloc (.cells #[.int .u32 c, .int .u8 (fl v (bits BinOp.and IntKind.u8 f 64 != 0)), .int .u32 v, .slice d l p] 29)
  have T5 := (T3.kept hb2).alloc (.cells #[.int .u32 c, .int .u8 (fl v (bits BinOp.and IntKind.u8 f 64 != 0)), .int .u32 v, .slice d l p] 29)
  have U5 := (U3.kept hb2).alloc (.cells #[.int .u32 c, .int .u8 (fl v (bits BinOp.and IntKind.u8 f 64 != 0)), .int .u32 v, .slice d l p] 29)
  have B5 := avpAt_new w2 c (fl v (bits BinOp.and IntKind.u8 f 64 != 0)) v d l p
  clear A3 T3 U3 hb2
  have A' := A5
  have T' := T5
  obtain ⟨x0, x1, x2, x3⟩ := A'
  obtain ⟨y0, y1, y2⟩ := T'
  go_wp2_with fail
  refine (is_any _ _ _ _ _ _ _ _ _ _).mono ?_
  rintro e w4 ⟨rfl, hb4⟩
  have HB4 : Below w.heap.size w w4 := below_then (HB2.alloc HB2.size _) hb4
  have A6 := A5.kept hb4
  have T6 := T5.kept hb4
  have U6 := U5.kept hb4
  have B6 := B5.kept hb4
  clear A5 T5 U5 B5 x0 x1 x2 x3 y0 y1 y2 hb4 HB2
  have B' := B6
  have T' := T6
  obtain ⟨x0, x1, x2, x3⟩ := B'
  obtain ⟨y0, y1, y2⟩ := T'
  go_wp2_with fail
  refine (is_any _ _ _ _ _ _ _ _ _ _).mono ?_
  rintro e w5 ⟨rfl, hb5⟩
  have HB5 : Below w.heap.size w w5 := below_then HB4 hb5
  have A7 := A6.kept hb5
  have U7 := U6.kept hb5
  clear A6 T6 U6 B6 x0 x1 x2 x3 y0 y1 y2 hb5 HB4
  obtain ⟨x0, x1, x2, x3⟩ := A7
  obtain ⟨y0, y1, y2⟩ := U7
  go_wp2_with fail
  refine (is_any _ _ _ _ _ _ _ _ _ _).mono ?_
  rintro e w6 ⟨rfl, hb6⟩
  go_wp2
  go_ret
  exact ⟨rfl, below_then HB5 hb6⟩

set_option maxRecDepth 100000 in
set_option maxHeartbeats 800000 in
theorem v_tf (c f v : Int) (a3 : Option Addr) (len3 cap3 : Nat) (z3 : List Int) (tc tv : Int) (tm : Bool) (w : World) (w3 : IsRow .u8 w a3 len3 cap3 z3) (hlm : len3 ≤ maxLen)
    (hV : (bits BinOp.and IntKind.u8 f 128 == 0) = false) (hV' : (bits BinOp.and IntKind.u8 f 128 != 0) = true) (hx : (tc == c) = true) (hy : (tv == v) = false) :
    Calls Try.prog 4 #[.int .u32 c, .int .u8 f, .int .u32 v, .slice a3 len3 cap3, .int .u32 tc, .int .u32 tv, .bool tm] w fun e w' => e = .returned (.bool true) ∧ Below w.heap.size w w' := by
  have e1 : isB c f v tc tv = false := by rw [isB_v hV, hx, hy]; rfl
  have e2 : ∀ m, isB c (fl v m) v tc tv = false := fun m => by rw [isB_fl, hx, hy]; rfl
  have e3 : isB c f v c v = true := by rw [isB_v hV]; simp
  have hby := bytes10 c f v tc tv tm a3 len3 cap3 w hlm
  unfold maxLen at hlm
  go_enter Try.func4, Try.ntmps4
  go_wp2_with fail
  refine hby.mono ?_
  rintro e w' ⟨t, rfl, rfl⟩
  clear hby
  cases t
  · go_wp2
    go_ret
    exact ⟨rfl, Below.refl _ _⟩
  by_cases hlen : (1048576 : Int) < len3
  · go_wp2
    go_ret
    exact ⟨rfl, Below.refl _ _⟩
  go_wp2_with fail
  refine (clone_any _ _ _ z3 _ w3 (by omega)).mono ?_
  rintro e w1 ⟨d, l, p, rfl, hb1⟩
  have A3 := ((avpAt_new w1 c f v d l p).alloc (.cells #[.int .u32 tc, .int .u32 tv, .bool tm] 27)).alloc (.cells #[.int .u32 c, .int .u32 v, .bool (bits BinOp.and IntKind.u8 f 64 != 0)] 27)
  have T3 := (typAt_new (w1.alloc (.cells #[.int .u32 c, .int .u8 f, .int .u32 v, .slice d l p] 29)) tc tv tm).alloc (.cells #[.int .u32 c, .int .u32 v, .bool (bits BinOp.and IntKind.u8 f 64 != 0)] 27)
  have U3 := typAt_new ((w1.alloc (.cells #[.int .u32 c, .int .u8 f, .int .u32 v, .slice d l p] 29)).alloc (.cells #[.int .u32 tc, .int .u32 tv, .bool tm] 27)) c v (bits BinOp.and IntKind.u8 f 64 != 0)
  simp only [World.size_alloc] at T3 U3
  go_wp2_with fail
  refine (zzavp_any _ _ _ _ _ _ _).mono ?_
  rintro e w2 ⟨rfl, hb2⟩
  have hz2 : w1.heap.size + 2 < w2.heap.size := by have := hb2.size; simp at this; omega
  have HB2 : Below w.heap.size w w2 := below_then (below_then hb1 (by go_grown)) hb2
  have A5 := (A3.kept hb2).alloc (.cells #[.int .u32 c, .int .u8 (fl v (bits BinOp.and IntKind.u8 f 64 != 0)), .int .u32 v, .slice d l p] 29)
  have T5 := (T3.kept hb2).alloc (.cells #[.int .u32 c, .int .u8 (fl v (bits BinOp.and IntKind.u8 f 64 != 0)), .int .u32 v, .slice d l p] 29)
  have U5 := (U3.kept hb2).alloc (.cells #[.int .u32 c, .int .u8 (fl v (bits BinOp.and IntKind.u8 f 64 != 0)), .int .u32 v, .slice d l p] 29)
  have B5 := avpAt_new w2 c (fl v (bits BinOp.and IntKind.u8 f 64 != 0)) v d l p
  clear A3 T3 U3 hb2
  have A' := A5
  have T' := T5
  obtain ⟨x0, x1, x2, x3⟩ := A'
  obtain ⟨y0, y1, y2⟩ := T'
  go_wp2_with fail
  refine (is_any _ _ _ _ _ _ _ _ _ _).mono ?_
  rintro e w4 ⟨rfl, hb4⟩
  have HB4 : Below w.heap.size w w4 := below_then (HB2.alloc HB2.size _) hb4
  have A6 := A5.kept hb4
  have T6 := T5.kept hb4
  have U6 := U5.kept hb4
  have B6 := B5.kept hb4
  clear A5 T5 U5 B5 x0 x1 x2 x3 y0 y1 y2 hb4 HB2
  have B' := B6
  have T' := T6
  obtain ⟨x0, x1, x2, x3⟩ := B'
  obtain ⟨y0, y1, y2⟩ := T'
  go_wp2_with fail
  refine (is_any _ _ _ _ _ _ _ _ _ _).mono ?_
  rintro e w5 ⟨rfl, hb5⟩
  have HB5 : Below w.heap.size w w5 := below_then HB4 hb5
  have A7 := A6.kept hb5
  have U7 := U6.kept hb5
  clear A6 T6 U6 B6 x0 x1 x2 x3 y0 y1 y2 hb5 HB4
  obtain ⟨x0, x1, x2, x3⟩ := A7
  obtain ⟨y0, y1, y2⟩ := U7
  go_wp2_with fail
  refine (is_any _ _ _ _ _ _ _ _ _ _).mono ?_
  rintro e w6 ⟨rfl, hb6⟩
  go_wp2
  go_ret
  exact ⟨rfl, below_then HB5 hb6⟩

set_option maxRecDepth 100000 in
set_option maxHeartbeats 800000 in
theorem v_tt (c f v : Int) (a3 : Option Addr) (len3 cap3 : Nat) (z3 : List Int) (tc tv : Int) (tm : Bool) (w : World) (w3 : IsRow .u8 w a3 len3 cap3 z3) (hlm : len3 ≤ maxLen)
    (hV : (bits BinOp.and IntKind.u8 f 128 == 0) = false) (hV' : (bits BinOp.and IntKind.u8 f 128 != 0) = true) (hx : (tc == c) = true) (hy : (tv == v) = true) :
    Calls Try.prog 4 #[.int .u32 c, .int .u8 f, .int .u32 v, .slice a3 len3 cap3, .int .u32 tc, .int .u32 tv, .bool tm] w fun e w' => e = .returned (.bool true) ∧ Below w.heap.size w w' := by
  have e1 : isB c f v tc tv = true := by rw [isB_v hV, hx, hy]; rfl
  have e2 : ∀ m, isB c (fl v m) v tc tv = true := fun m => by rw [isB_fl, hx, hy]; rfl
  have e3 : isB c f v c v = true := by rw [isB_v hV]; simp
  have hby := bytes10 c f v tc tv tm a3 len3 cap3 w hlm
  unfold maxLen at hlm
  go_enter Try.func4, Try.ntmps4
  go_wp2_with fail
  refine hby.mono ?_
  rintro e w' ⟨t, rfl, rfl⟩
  clear hby
  cases t
  · go_wp2
    go_ret
    exact ⟨rfl, Below.refl _ _⟩
  by_cases hlen : (1048576 : Int) < len3
  · go_wp2
    go_ret
    exact ⟨rfl, Below.refl _ _⟩
  go_wp2_with fail
  refine (clone_any _ _ _ z3 _ w3 (by omega)).mono ?_
  rintro e w1 ⟨d, l, p, rfl, hb1⟩
  have A3 := ((avpAt_new w1 c f v d l p).alloc (.cells #[.int .u32 tc, .int .u32 tv, .bool tm] 27)).alloc (.cells #[.int .u32 c, .int .u32 v, .bool (bits BinOp.and IntKind.u8 f 64 != 0)] 27)
  have T3 := (typAt_new (w1.alloc (.cells #[.int .u32 c, .int .u8 f, .int .u32 v, .slice d l p] 29)) tc tv tm).alloc (.cells #[.int .u32 c, .int .u32 v, .bool (bits BinOp.and IntKind.u8 f 64 != 0)] 27)
  have U3 := typAt_new ((w1.alloc (.cells #[.int .u32 c, .int .u8 f, .int .u32 v, .slice d l p] 29)).alloc (.cells #[.int .u32 tc, .int .u32 tv, .bool tm] 27)) c v (bits BinOp.and IntKind.u8 f 64 != 0)
  simp only [World.size_alloc] at T3 U3
  go_wp2_with fail
  refine (zzavp_any _ _ _ _ _ _ _).mono ?_
  rintro e w2 ⟨rfl, hb2⟩
  have hz2 : w1.heap.size + 2 < w2.heap.size := by have := hb2.size; simp at this; omega
  have HB2 : Below w.heap.size w w2 := below_then (below_then hb1 (by go_grown)) hb2
  have A5 := (A3.kept hb2).alloc (.cells #[.int .u32 c, .int .u8 (fl v (bits BinOp.and IntKind.u8 f 64 != 0)), .int .u32 v, .slice d l p] 29)
  have T5 := (T3.kept hb2).alloc (.cells #[.int .u32 c, .int .u8 (fl v (bits BinOp.and IntKind.u8 f 64 != 0)), .int .u32 v, .slice d l p] 29)
  have U5 := (U3.kept hb2).alloc (.cells #[.int .u32 c, .int .u8 (fl v (bits BinOp.and IntKind.u8 f 64 != 0)), .int .u32 v, .slice d l p] 29)
  have B5 := avpAt_new w2 c (fl v (bits BinOp.and IntKind.u8 f 64 != 0)) v d l p
  clear A3 T3 U3 hb2
  have A' := A5
  have T' := T5
  obtain ⟨x0, x1, x2, x3⟩ := A'
  obtain ⟨y0, y1, y2⟩ := T'
  go_wp2_with fail
  refine (is_any _ _ _ _ _ _ _ _ _ _).mono ?_
  rintro e w4 ⟨rfl, hb4⟩
  have HB4 : Below w.heap.size w w4 := below_then (HB2.alloc HB2.size _) hb4
  have A6 := A5.kept hb4
  have T6 := T5.kept hb4
  have U6 := U5.kept hb4
  have B6 := B5.kept hb4
  clear A5 T5 U5 B5 x0 x1 x2 x3 y0 y1 y2 hb4 HB2
  have B' := B6
  have T' := T6
  obtain ⟨x0, x1, x2, x3⟩ := B'
  obtain ⟨y0, y1, y2⟩ := T'
  go_wp2_with fail
  refine (is_any _ _ _ _ _ _ _ _ _ _).mono ?_
  rintro e w5 ⟨rfl, hb5⟩
  have HB5 : Below w.heap.size w w5 := below_then HB4 hb5
  have A7 := A6.kept hb5
  have U7 := U6.kept hb5
  clear A6 T6 U6 B6 x0 x1 x2 x3 y0 y1 y2 hb5 HB4
  obtain ⟨x0, x1, x2, x3⟩ := A7
  obtain ⟨y0, y1, y2⟩ := U7
  go_wp2_with fail
  refine (is_any _ _ _ _ _ _ _ _ _ _).mono ?_
  rintro e w6 ⟨rfl, hb6⟩
  go_wp2
  go_ret
  exact ⟨rfl, below_then HB5 hb6⟩

set_option maxRecDepth 100000 in
set_option maxHeartbeats 800000 in
theorem n_ff (c f v : Int) (a3 : Option Addr) (len3 cap3 : Nat) (z3 : List Int) (tc tv : Int) (tm : Bool) (w : World) (w3 : IsRow .u8 w a3 len3 cap3 z3) (hlm : len3 ≤ maxLen)
    (hV : (bits BinOp.and IntKind.u8 f 128 == 0) = true) (hV' : (bits BinOp.and IntKind.u8 f 128 != 0) = false) (hx : (tc == c) = false) :
    Calls Try.prog 4 #[.int .u32 c, .int .u8 f, .int .u32 v, .slice a3 len3 cap3, .int .u32 tc, .int .u32 tv, .bool tm] w fun e w' => e = .returned (.bool true) ∧ Below w.heap.size w w' := by
  have e1 : isB c f v tc tv = false := by rw [isB_0 hV, hx]; rfl
  have e2 : ∀ m, isB c (fl 0 m) 0 tc tv = false := fun m => by rw [isB_fl, hx]; rfl
  have e3 : isB c f v c 0 = true := by rw [isB_0 hV]; simp
  have hby := bytes10 c f v tc tv tm a3 len3 cap3 w hlm
  unfold maxLen at hlm
  go_enter Try.func4, Try.ntmps4
  go_wp2_with fail
  refine hby.mono ?_
  rintro e w' ⟨t, rfl, rfl⟩
  clear hby
  cases t
  · go_wp2
    go_ret
    exact ⟨rfl, Below.refl _ _⟩
  by_cases hlen : (1048576 : Int) < len3
  · go_wp2
    go_ret
    exact ⟨rfl, Below.refl _ _⟩
  go_wp2_with fail
  refine (clone_any _ _ _ z3 _ w3 (by omega)).mono ?_
  rintro e w1 ⟨d, l, p, rfl, hb1⟩
  have A3 := ((avpAt_new w1 c f v d l p).alloc (.cells #[.int .u32 tc, .int .u32 tv, .bool tm] 27)).alloc (.cells #[.int .u32 c, .int .u32 0, .bool (bits BinOp.and IntKind.u8 f 64 != 0)] 27)
  have T3 := (typAt_new (w1.alloc (.cells #[.int .u32 c, .int .u8 f, .int .u32 v, .slice d l p] 29)) tc tv tm).alloc (.cells #[.int .u32 c, .int .u32 0, .bool (bits BinOp.and IntKind.u8 f 64 != 0)] 27)
  have U3 := typAt_new ((w1.alloc (.cells #[.int .u32 c, .int .u8 f, .int .u32 v, .slice d l p] 29)).alloc (.cells #[.int .u32 tc, .int .u32 tv, .bool tm] 27)) c 0 (bits BinOp.and IntKind.u8 f 64 != 0)
  simp only [World.size_alloc] at T3 U3
  go_wp2_with fail
  refine (zzavp_any _ _ _ _ _ _ _).mono ?_
  rintro e w2 ⟨rfl, hb2⟩
  have hz2 : w1.heap.size + 2 < w2.heap.size := by have := hb2.size; simp at this; omega
  have HB2 : Below w.heap.size w w2 := below_then (below_then hb1 (by go_grown)) hb2
  have A5 := (A3.kept hb2).alloc (.cells #[.int .u32 c, .int .u8 (fl 0 (bits BinOp.and IntKind.u8 f 64 != 0)), .int .u32 0, .slice d l p] 29)
  have T5 := (T3.kept hb2).alloc (.cells #[.int .u32 c, .int .u8 (fl 0 (bits BinOp.and IntKind.u8 f 64 != 0)), .int .u32 0, .slice d l p] 29)
  have U5 := (U3.kept hb2).alloc (.cells #[.int .u32 c, .int .u8 (fl 0 (bits BinOp.and IntKind.u8 f 64 != 0)), .int .u32 0, .slice d l p] 29)
  have B5 := avpAt_new w2 c (fl 0 (bits BinOp.and IntKind.u8 f 64 != 0)) 0 d l p
  clear A3 T3 U3 hb2
  have A' := A5
  have T' := T5
  obtain ⟨x0, x1, x2, x3⟩ := A'
  obtain ⟨y0, y1, y2⟩ := T'
  go_wp2_with fail
  refine (is_any _ _ _ _ _ _ _ _ _ _).mono ?_
  rintro e w4 ⟨rfl, hb4⟩
  have HB4 : Below w.heap.size w w4 := below_then (HB2.alloc HB2.size _) hb4
  have A6 := A5.kept hb4
  have T6 := T5.kept hb4
  have U6 := U5.kept hb4
  have B6 := B5.kept hb4
  clear A5 T5 U5 B5 x0 x1 x2 x3 y0 y1 y2 hb4 HB2
  have B' := B6
  have T' := T6
  obtain ⟨x0, x1, x2, x3⟩ := B'
  obtain ⟨y0, y1, y2⟩ := T'
  go_wp2_with fail
  refine (is_any _ _ _ _ _ _ _ _ _ _).mono ?_
  rintro e w5 ⟨rfl, hb5⟩
  have HB5 : Below w.heap.size w w5 := below_then HB4 hb5
  have A7 := A6.kept hb5
  have U7 := U6.kept hb5
  clear A6 T6 U6 B6 x0 x1 x2 x3 y0 y1 y2 hb5 HB4
  obtain ⟨x0, x1, x2, x3⟩ := A7
  obtain ⟨y0, y1, y2⟩ := U7
  go_wp2_with fail
  refine (is_any _ _ _ _ _ _ _ _ _ _).mono ?_
  rintro e w6 ⟨rfl, hb6⟩
  go_wp2
  go_ret
  exact ⟨rfl, below_then HB5 hb6⟩

set_option maxRecDepth 100000 in
set_option maxHeartbeats 800000 in
theorem n_tf (c f v : Int) (a3 : Option Addr) (len3 cap3 : Nat) (z3 : List Int) (tc tv : Int) (tm : Bool) (w : World) (w3 : IsRow .u8 w a3 len3 cap3 z3) (hlm : len3 ≤ maxLen)
    (hV : (bits BinOp.and IntKind.u8 f 128 == 0) = true) (hV' : (bits BinOp.and IntKind.u8 f 128 != 0) = false) (hx : (tc == c) = true) (hy : (tv == 0) = false) :
    Calls Try.prog 4 #[.int .u32 c, .int .u8 f, .int .u32 v, .slice a3 len3 cap3, .int .u32 tc, .int .u32 tv, .bool tm] w fun e w' => e = .returned (.bool true) ∧ Below w.heap.size w w' := by
  have e1 : isB c f v tc tv = false := by rw [isB_0 hV, hx, hy]; rfl
  have e2 : ∀ m, isB c (fl 0 m) 0 tc tv = false := fun m => by rw [isB_fl, hx, hy]; rfl
  have e3 : isB c f v c 0 = true := by rw [isB_0 hV]; simp
  have hby := bytes10 c f v tc tv tm a3 len3 cap3 w hlm
  unfold maxLen at hlm
  go_enter Try.func4, Try.ntmps4
  go_wp2_with fail
  refine hby.mono ?_
  rintro e w' ⟨t, rfl, rfl⟩
  clear hby
  cases t
  · go_wp2
    go_ret
    exact ⟨rfl, Below.refl _ _⟩
  by_cases hlen : (1048576 : Int) < len3
  · go_wp2
    go_ret
    exact ⟨rfl, Below.refl _ _⟩
  go_wp2_with fail
  refine (clone_any _ _ _ z3 _ w3 (by omega)).mono ?_
  rintro e w1 ⟨d, l, p, rfl, hb1⟩
  have A3 := ((avpAt_new w1 c f v d l p).alloc (.cells #[.int .u32 tc, .int .u32 tv, .bool tm] 27)).alloc (.cells #[.int .u32 c, .int .u32 0, .bool (bits BinOp.and IntKind.u8 f 64 != 0)] 27)
  have T3 := (typAt_new (w1.alloc (.cells #[.int .u32 c, .int .u8 f, .int .u32 v, .slice d l p] 29)) tc tv tm).alloc (.cells #[.int .u32 c, .int .u32 0, .bool (bits BinOp.and IntKind.u8 f 64 != 0)] 27)
  have U3 := typAt_new ((w1.alloc (.cells #[.int .u32 c, .int .u8 f, .int .u32 v, .slice d l p] 29)).alloc (.cells #[.int .u32 tc, .int .u32 tv, .bool tm] 27)) c 0 (bits BinOp.and IntKind.u8 f 64 != 0)
  simp only [World.size_alloc] at T3 U3
  go_wp2_with fail
  refine (zzavp_any _ _ _ _ _ _ _).mono ?_
  rintro e w2 ⟨rfl, hb2⟩
  have hz2 : w1.heap.size + 2 < w2.heap.size := by have := hb2.size; simp at this; omega
  have HB2 : Below w.heap.size w w2 := below_then (below_then hb1 (by go_grown)) hb2
  have A5 := (A3.kept hb2).alloc (.cells #[.int .u32 c, .int .u8 (fl 0 (bits BinOp.and IntKind.u8 f 64 != 0)), .int .u32 0, .slice d l p] 29)
  have T5 := (T3.kept hb2).alloc (.cells #[.int .u32 c, .int .u8 (fl 0 (bits BinOp.and IntKind.u8 f 64 != 0)), .int .u32 0, .slice d l p] 29)
  have U5 := (U3.kept hb2).alloc (.cells #[.int .u32 c, .int .u8 (fl 0 (bits BinOp.and IntKind.u8 f 64 != 0)), .int .u32 0, .slice d l p] 29)
  have B5 := avpAt_new w2 c (fl 0 (bits BinOp.and IntKind.u8 f 64 != 0)) 0 d l p
  clear A3 T3 U3 hb2
  have A' := A5
  have T' := T5
  obtain ⟨x0, x1, x2, x3⟩ := A'
  obtain ⟨y0, y1, y2⟩ := T'
  go_wp2_with fail
  refine (is_any _ _ _ _ _ _ _ _ _ _).mono ?_
  rintro e w4 ⟨rfl, hb4⟩
  have HB4 : Below w.heap.size w w4 := below_then (HB2.alloc HB2.size _) hb4
  have A6 := A5.kept hb4
  have T6 := T5.kept hb4
  have U6 := U5.kept hb4
  have B6 := B5.kept hb4
  clear A5 T5 U5 B5 x0 x1 x2 x3 y0 y1 y2 hb4 HB2
  have B' := B6
  have T' := T6
  obtain ⟨x0, x1, x2, x3⟩ := B'
  obtain ⟨y0, y1, y2⟩ := T'
  go_wp2_with fail
  refine (is_any _ _ _ _ _ _ _ _ _ _).mono ?_
  rintro e w5 ⟨rfl, hb5⟩
  have HB5 : Below w.heap.size w w5 := below_then HB4 hb5
  have A7 := A6.kept hb5
  have U7 := U6.kept hb5
  clear A6 T6 U6 B6 x0 x1 x2 x3 y0 y1 y2 hb5 HB4
  obtain ⟨x0, x1, x2, x3⟩ := A7
  obtain ⟨y0, y1, y2⟩ := U7
  go_wp2_with fail
  refine (is_any _ _ _ _ _ _ _ _ _ _).mono ?_
  rintro e w6 ⟨rfl, hb6⟩
  go_wp2
  go_ret
  exact ⟨rfl, below_then HB5 hb6⟩

set_option maxRecDepth 100000 in
set_option maxHeartbeats 800000 in
theorem n_tt (c f v : Int) (a3 : Option Addr) (len3 cap3 : Nat) (z3 : List Int) (tc tv : Int) (tm : Bool) (w : World) (w3 : IsRow .u8 w a3 len3 cap3 z3) (hlm : len3 ≤ maxLen)
    (hV : (bits BinOp.and IntKind.u8 f 128 == 0) = true) (hV' : (bits BinOp.and IntKind.u8 f 128 != 0) = false) (hx : (tc == c) = true) (hy : (tv == 0) = true) :
    Calls Try.prog 4 #[.int .u32 c, .int .u8 f, .int .u32 v, .slice a3 len3 cap3, .int .u32 tc, .int .u32 tv, .bool tm] w fun e w' => e = .returned (.bool true) ∧ Below w.heap.size w w' := by
  have e1 : isB c f v tc tv = true := by rw [isB_0 hV, hx, hy]; rfl
  have e2 : ∀ m, isB c (fl 0 m) 0 tc tv = true := fun m => by rw [isB_fl, hx, hy]; rfl
  have e3 : isB c f v c 0 = true := by rw [isB_0 hV]; simp
  have hby := bytes10 c f v tc tv tm a3 len3 cap3 w hlm
  unfold maxLen at hlm
  go_enter Try.func4, Try.ntmps4
  go_wp2_with fail
  refine hby.mono ?_
  rintro e w' ⟨t, rfl, rfl⟩
  clear hby
  cases t
  · go_wp2
    go_ret
    exact ⟨rfl, Below.refl _ _⟩
  by_cases hlen : (1048576 : Int) < len3
  · go_wp2
    go_ret
    exact ⟨rfl, Below.refl _ _⟩
  go_wp2_with fail
  refine (clone_any _ _ _ z3 _ w3 (by omega)).mono ?_
  rintro e w1 ⟨d, l, p, rfl, hb1⟩
  have A3 := ((avpAt_new w1 c f v d l p).alloc (.cells #[.int .u32 tc, .int .u32 tv, .bool tm] 27)).alloc (.cells #[.int .u32 c, .int .u32 0, .bool (bits BinOp.and IntKind.u8 f 64 != 0)] 27)
  have T3 := (typAt_new (w1.alloc (.cells #[.int .u32 c, .int .u8 f, .int .u32 v, .slice d l p] 29)) tc tv tm).alloc (.cells #[.int .u32 c, .int .u32 0, .bool (bits BinOp.and IntKind.u8 f 64 != 0)] 27)
  have U3 := typAt_new ((w1.alloc (.cells #[.int .u32 c, .int .u8 f, .int .u32 v, .slice d l p] 29)).alloc (.cells #[.int .u32 tc, .int .u32 tv, .bool tm] 27)) c 0 (bits BinOp.and IntKind.u8 f 64 != 0)
  simp only [World.size_alloc] at T3 U3
  go_wp2_with fail
  refine (zzavp_any _ _ _ _ _ _ _).mono ?_
  rintro e w2 ⟨rfl, hb2⟩
  have hz2 : w1.heap.size + 2 < w2.heap.size := by have := hb2.size; simp at this; omega
  have HB2 : Below w.heap.size w w2 := below_then (below_then hb1 (by go_grown)) hb2
  have A5 := (A3.kept hb2).alloc (.cells #[.int .u32 c, .int .u8 (fl 0 (bits BinOp.and IntKind.u8 f 64 != 0)), .int .u32 0, .slice d l p] 29)
  have T5 := (T3.kept hb2).alloc (.cells #[.int .u32 c, .int .u8 (fl 0 (bits BinOp.and IntKind.u8 f 64 != 0)), .int .u32 0, .slice d l p] 29)
  have U5 := (U3.kept hb2).alloc (.cells #[.int .u32 c, .int .u8 (fl 0 (bits BinOp.and IntKind.u8 f 64 != 0)), .int .u32 0, .slice d l p] 29)
  have B5 := avpAt_new w2 c (fl 0 (bits BinOp.and IntKind.u8 f 64 != 0)) 0 d l p
  clear A3 T3 U3 hb2
  have A' := A5
  have T' := T5
  obtain ⟨x0, x1, x2, x3⟩ := A'
  obtain ⟨y0, y1, y2⟩ := T'
  go_wp2_with fail
  refine (is_any _ _ _ _ _ _ _ _ _ _).mono ?_
  rintro e w4 ⟨rfl, hb4⟩
  have HB4 : Below w.heap.size w w4 := below_then (HB2.alloc HB2.size _) hb4
  have A6 := A5.kept hb4
  have T6 := T5.kept hb4
  have U6 := U5.kept hb4
  have B6 := B5.kept hb4
  clear A5 T5 U5 B5 x0 x1 x2 x3 y0 y1 y2 hb4 HB2
  have B' := B6
  have T' := T6
  obtain ⟨x0, x1, x2, x3⟩ := B'
  obtain ⟨y0, y1, y2⟩ := T'
  go_wp2_with fail
  refine (is_any _ _ _ _ _ _ _ _ _ _).mono ?_
  rintro e w5 ⟨rfl, hb5⟩
  have HB5 : Below w.heap.size w w5 := below_then HB4 hb5
  have A7 := A6.kept hb5
  have U7 := U6.kept hb5
  clear A6 T6 U6 B6 x0 x1 x2 x3 y0 y1 y2 hb5 HB4
  obtain ⟨x0, x1, x2, x3⟩ := A7
  obtain ⟨y0, y1, y2⟩ := U7
  go_wp2_with fail
  refine (is_any _ _ _ _ _ _ _ _ _ _).mono ?_
  rintro e w6 ⟨rfl, hb6⟩
  go_wp2
  go_ret
  exact ⟨rfl, below_then HB5 hb6⟩

theorem walk (a0 : Int) (a1 : Int) (a2 : Int) (a3 : Option Addr) (len3 cap3 : Nat) (z3 : List Int) (a4 : Int) (a5 : Int) (a6 : Bool) (w : World) (w3 : IsRow .u8 w a3 len3 cap3 z3) :
    Calls Try.prog 4 #[.int .u32 a0, .int .u8 a1, .int .u32 a2, .slice a3 len3 cap3, .int .u32 a4, .int .u32 a5, .bool a6] w fun e w' => e = .returned (.bool true) ∧ Below w.heap.size w w' := by
  have hlm : len3 ≤ maxLen := by
    rcases w3 with ⟨_, rfl, _, _⟩ | ⟨x, _, h1, h2, _, _, _⟩
    · exact Nat.zero_le _
    · exact Nat.le_trans h1 h2
  by_cases hV : (bits BinOp.and IntKind.u8 a1 128 == 0) = true
  · have hV' : (bits BinOp.and IntKind.u8 a1 128 != 0) = false := by simpa using hV
    by_cases hx : (a4 == a0) = true
    · by_cases hy : (a5 == 0) = true
      · exact n_tt _ _ _ _ _ _ z3 _ _ _ w w3 hlm hV hV' hx hy
      · exact n_tf _ _ _ _ _ _ z3 _ _ _ w w3 hlm hV hV' hx (Bool.eq_false_iff.2 hy)
    · exact n_ff _ _ _ _ _ _ z3 _ _ _ w w3 hlm hV hV' (Bool.eq_false_iff.2 hx)
  · have hV := Bool.eq_false_iff.2 hV
    have hV' : (bits BinOp.and IntKind.u8 a1 128 != 0) = true := by simpa using hV
    by_cases hx : (a4 == a0) = true
    · by_cases hy : (a5 == a2) = true
      · exact v_tt _ _ _ _ _ _ z3 _ _ _ w w3 hlm hV hV' hx hy
      · exact v_tf _ _ _ _ _ _ z3 _ _ _ w w3 hlm hV hV' hx (Bool.eq_false_iff.2 hy)
    · exact v_ff _ _ _ _ _ _ z3 _ _ _ w w3 hlm hV hV' (Bool.eq_false_iff.2 hx)

end Go.Proofs.Qxb6617123a.fnIsSeesOnlyTheType
