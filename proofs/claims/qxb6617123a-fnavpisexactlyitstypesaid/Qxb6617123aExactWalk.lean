/-
  THE WALK of 'zzlaws_pkg_diameter_b1.FnAvpIsExactlyItsType' (3): a theorem a case (nil data or not; the codes).
-/
import Derived.Test.Qxb6617123aAvp
import Derived.Test.Qxb6617123aClone
namespace Go.Proofs.Qxb6617123a.fnAvpIsExactlyItsType
open Go.RowKit
set_option linter.unusedVariables false

/-! Plain facts on the flags. -/
theorem fl_V (v : Int) (m : Bool) : (bits BinOp.and IntKind.u8 (fl v m) 128 != 0) = (v != 0) := by
  unfold fl
  cases h : (v != 0) <;> cases m <;> rfl
theorem fl_M (v : Int) (m : Bool) : (bits BinOp.and IntKind.u8 (fl v m) 64 != 0) = m := by
  unfold fl
  cases h : (v != 0) <;> cases m <;> rfl
theorem fl_no (v : Int) (m : Bool) : (bits BinOp.andNot IntKind.u8 (fl v m) 192 != 0) = false := by
  unfold fl
  cases h : (v != 0) <;> cases m <;> rfl

set_option maxRecDepth 100000 in
set_option maxHeartbeats 1600000 in
theorem nil_t (tc tv : Int) (tm : Bool) (uc uv : Int) (um : Bool) (w : World) (hx : (uc == tc) = true) :
    Calls Try.prog 3 #[.int .u32 tc, .int .u32 tv, .bool tm, .int .u32 uc, .int .u32 uv, .bool um, .slice none 0 0] w fun e w' => e = .returned (.bool true) ∧ Below w.heap.size w w' := by
  have e1 : isB tc (fl tv tm) tv uc uv = (uv == tv) := by rw [isB_fl, hx]; rfl
  have e2 : isB tc (fl tv tm) tv tc tv = true := by rw [isB_fl]; simp
  have f1 := fl_V tv tm
  have f2 := fl_M tv tm
  have f3 := fl_no tv tm
  have hby := bytes5 tc tv tm uc uv um none 0 0 w (Nat.zero_le _)
  go_enter Try.func3, Try.ntmps3
  go_wp2_with fail
  refine hby.mono ?_
  rintro e w' ⟨t, rfl, rfl⟩
  clear hby
  cases t
  · go_wp2
    go_ret
    exact ⟨rfl, Below.refl _ _⟩
  go_wp2_with fail
  refine (clone_nil _).mono ?_
  rintro e w0 ⟨rfl, hw⟩
  subst hw
  go_wp2_with fail
  refine (clone_nil _).mono ?_
  rintro e w1 ⟨rfl, hw⟩
  subst hw
  have HB1 := Below.refl w1.heap.size w1
  have T3 := (typAt_new w1 tc tv tm).alloc (.cells #[.int .u32 uc, .int .u32 uv, .bool um] 27)
  have U3 := typAt_new (w1.alloc (.cells #[.int .u32 tc, .int .u32 tv, .bool tm] 27)) uc uv um
  simp only [World.size_alloc] at U3
  go_wp2_with fail
  refine (zzavp_any _ _ _ _ _ _ _).mono ?_
  rintro e w2 ⟨rfl, hb2⟩
  have HB2 : Below w1.heap.size w1 w2 := below_then (by go_grown) hb2
  have T5 := (T3.kept hb2).alloc (.cells #[.int .u32 tc, .int .u8 (fl tv tm), .int .u32 tv, .slice none 0 0] 29)
  have U5 := (U3.kept hb2).alloc (.cells #[.int .u32 tc, .int .u8 (fl tv tm), .int .u32 tv, .slice none 0 0] 29)
  have A5 := avpAt_new w2 tc (fl tv tm) tv none 0 0
  clear T3 U3 hb2
  have A' := A5
  have U' := U5
  obtain ⟨x0, x1, x2, x3⟩ := A'
  obtain ⟨y0, y1, y2⟩ := U'
  go_wp2_with fail
  refine (is_any _ _ _ _ _ _ _ _ _ _).mono ?_
  rintro e w4 ⟨rfl, hb4⟩
  have HB4 : Below w1.heap.size w1 w4 := below_then (HB2.alloc HB2.size _) hb4
  have A6 := A5.kept hb4
  have T6 := T5.kept hb4
  clear A5 T5 U5 x0 x1 x2 x3 y0 y1 y2 hb4 HB2
  have A' := A6
  obtain ⟨x0, x1, x2, x3⟩ := A'
  obtain ⟨y0, y1, y2⟩ := T6
  go_wp2_with fail
  refine (is_any _ _ _ _ _ _ _ _ _ _).mono ?_
  rintro e w5 ⟨rfl, hb5⟩
  have HB5 : Below w1.heap.size w1 w5 := below_then HB4 hb5
  have A7 := A6.kept hb5
  clear A6 x0 x1 x2 x3 y0 y1 y2 hb5 HB4
  obtain ⟨x0, x1, x2, x3⟩ := A7
  go_wp2_with fail
  refine (same_nil _).mono ?_
  rintro e w7 ⟨rfl, hb7⟩
  go_wp2
  go_ret
  exact ⟨rfl, below_then (below_then HB1 HB5) hb7⟩

set_option maxRecDepth 100000 in
set_option maxHeartbeats 1600000 in
theorem nil_f (tc tv : Int) (tm : Bool) (uc uv : Int) (um : Bool) (w : World) (hx : (uc == tc) = false) :
    Calls Try.prog 3 #[.int .u32 tc, .int .u32 tv, .bool tm, .int .u32 uc, .int .u32 uv, .bool um, .slice none 0 0] w fun e w' => e = .returned (.bool true) ∧ Below w.heap.size w w' := by
  have e1 : isB tc (fl tv tm) tv uc uv = false := by rw [isB_fl, hx]; rfl
  have e2 : isB tc (fl tv tm) tv tc tv = true := by rw [isB_fl]; simp
  have f1 := fl_V tv tm
  have f2 := fl_M tv tm
  have f3 := fl_no tv tm
  have hby := bytes5 tc tv tm uc uv um none 0 0 w (Nat.zero_le _)
  go_enter Try.func3, Try.ntmps3
  go_wp2_with fail
  refine hby.mono ?_
  rintro e w' ⟨t, rfl, rfl⟩
  clear hby
  cases t
  · go_wp2
    go_ret
    exact ⟨rfl, Below.refl _ _⟩
  go_wp2_with fail
  refine (clone_nil _).mono ?_
  rintro e w0 ⟨rfl, hw⟩
  subst hw
  go_wp2_with fail
  refine (clone_nil _).mono ?_
  rintro e w1 ⟨rfl, hw⟩
  subst hw
  have HB1 := Below.refl w1.heap.size w1
  have T3 := (typAt_new w1 tc tv tm).alloc (.cells #[.int .u32 uc, .int .u32 uv, .bool um] 27)
  have U3 := typAt_new (w1.alloc (.cells #[.int .u32 tc, .int .u32 tv, .bool tm] 27)) uc uv um
  simp only [World.size_alloc] at U3
  go_wp2_with fail
  refine (zzavp_any _ _ _ _ _ _ _).mono ?_
  rintro e w2 ⟨rfl, hb2⟩
  have HB2 : Below w1.heap.size w1 w2 := below_then (by go_grown) hb2
  have T5 := (T3.kept hb2).alloc (.cells #[.int .u32 tc, .int .u8 (fl tv tm), .int .u32 tv, .slice none 0 0] 29)
  have U5 := (U3.kept hb2).alloc (.cells #[.int .u32 tc, .int .u8 (fl tv tm), .int .u32 tv, .slice none 0 0] 29)
  have A5 := avpAt_new w2 tc (fl tv tm) tv none 0 0
  clear T3 U3 hb2
  have A' := A5
  have U' := U5
  obtain ⟨x0, x1, x2, x3⟩ := A'
  obtain ⟨y0, y1, y2⟩ := U'
  go_wp2_with fail
  refine (is_any _ _ _ _ _ _ _ _ _ _).mono ?_
  rintro e w4 ⟨rfl, hb4⟩
  have HB4 : Below w1.heap.size w1 w4 := below_then (HB2.alloc HB2.size _) hb4
  have A6 := A5.kept hb4
  have T6 := T5.kept hb4
  clear A5 T5 U5 x0 x1 x2 x3 y0 y1 y2 hb4 HB2
  have A' := A6
  obtain ⟨x0, x1, x2, x3⟩ := A'
  obtain ⟨y0, y1, y2⟩ := T6
  go_wp2_with fail
  refine (is_any _ _ _ _ _ _ _ _ _ _).mono ?_
  rintro e w5 ⟨rfl, hb5⟩
  have HB5 : Below w1.heap.size w1 w5 := below_then HB4 hb5
  have A7 := A6.kept hb5
  clear A6 x0 x1 x2 x3 y0 y1 y2 hb5 HB4
  obtain ⟨x0, x1, x2, x3⟩ := A7
  go_wp2_with fail
  refine (same_nil _).mono ?_
  rintro e w7 ⟨rfl, hb7⟩
  go_wp2
  go_ret
  exact ⟨rfl, below_then (below_then HB1 HB5) hb7⟩

set_option maxRecDepth 100000 in
set_option maxHeartbeats 1600000 in
theorem row_t (tc tv : Int) (tm : Bool) (uc uv : Int) (um : Bool) (x : Addr) (len cap : Nat) (z : Nat → Int) (w : World) (hlm : len ≤ maxLen) (hc : ∀ i, i < len → w.cell? (x.add i) = some (.int .u8 (z i))) (hx : (uc == tc) = true) :
    Calls Try.prog 3 #[.int .u32 tc, .int .u32 tv, .bool tm, .int .u32 uc, .int .u32 uv, .bool um, .slice (some x) len cap] w fun e w' => e = .returned (.bool true) ∧ Below w.heap.size w w' := by
  have e1 : isB tc (fl tv tm) tv uc uv = (uv == tv) := by rw [isB_fl, hx]; rfl
  have e2 : isB tc (fl tv tm) tv tc tv = true := by rw [isB_fl]; simp
  have f1 := fl_V tv tm
  have f2 := fl_M tv tm
  have f3 := fl_no tv tm
  have hby := bytes5 tc tv tm uc uv um (some x) len cap w hlm
  have HC : Hid (∀ i, i < len → w.cell? (x.add i) = some (.int .u8 (z i))) := hc
  clear hc
  unfold maxLen at hlm
  go_enter Try.func3, Try.ntmps3
  go_wp2_with fail
  refine hby.mono ?_
  rintro e w' ⟨t, rfl, rfl⟩
  clear hby
  cases t
  · go_wp2
    go_ret
    exact ⟨rfl, Below.refl _ _⟩
  by_cases hlen : (1048576 : Int) < len
  · go_wp2
    go_ret
    exact ⟨rfl, Below.refl _ _⟩
  go_wp2_with fail
  refine (clone_some x len cap z w (by omega) HC.out).mono ?_
  rintro e w1 ⟨rfl, hb1, hr1⟩
  have HC1 : Hid (∀ i, i < len → w1.cell? (x.add i) = some (.int .u8 (z i))) := fun i hi => (hb1.cell (World.block_lt_of_cell? _ _ (HC.out i hi))).trans (HC.out i hi)
  go_wp2_with fail
  refine (clone_some x len cap z w1 (by omega) HC1.out).mono ?_
  rintro e w6 ⟨rfl, hb6, hr6⟩
  have HB1 := below_then hb1 hb6
  have HR1 : Hid (w6.rowIs w.heap.size 5 len (fun i => .int .u8 (z i))) := hr1.of_block (hb6.block _ hr1.lt)
  have HR6 : Hid (w6.rowIs w1.heap.size 5 len (fun i => .int .u8 (z i))) := hr6
  have hlt1 : w.heap.size < w6.heap.size := HR1.out.lt
  have hlt6 : w1.heap.size < w6.heap.size := hr6.lt
  clear hr1 hr6 HC HC1 hb1 hb6
  have T3 := (typAt_new w6 tc tv tm).alloc (.cells #[.int .u32 uc, .int .u32 uv, .bool um] 27)
  have U3 := typAt_new (w6.alloc (.cells #[.int .u32 tc, .int .u32 tv, .bool tm] 27)) uc uv um
  simp only [World.size_alloc] at U3
  go_wp2_with fail
  refine (zzavp_any _ _ _ _ _ _ _).mono ?_
  rintro e w2 ⟨rfl, hb2⟩
  have HB2 : Below w6.heap.size w6 w2 := below_then (by go_grown) hb2
  have T5 := (T3.kept hb2).alloc (.cells #[.int .u32 tc, .int .u8 (fl tv tm), .int .u32 tv, .slice (some ⟨w1.heap.size, 0, none⟩) len len] 29)
  have U5 := (U3.kept hb2).alloc (.cells #[.int .u32 tc, .int .u8 (fl tv tm), .int .u32 tv, .slice (some ⟨w1.heap.size, 0, none⟩) len len] 29)
  have A5 := avpAt_new w2 tc (fl tv tm) tv (some ⟨w1.heap.size, 0, none⟩) len len
  clear T3 U3 hb2
  have A' := A5
  have U' := U5
  obtain ⟨x0, x1, x2, x3⟩ := A'
  obtain ⟨y0, y1, y2⟩ := U'
  go_wp2_with fail
  refine (is_any _ _ _ _ _ _ _ _ _ _).mono ?_
  rintro e w4 ⟨rfl, hb4⟩
  have HB4 : Below w6.heap.size w6 w4 := below_then (HB2.alloc HB2.size _) hb4
  have A6 := A5.kept hb4
  have T6 := T5.kept hb4
  clear A5 T5 U5 x0 x1 x2 x3 y0 y1 y2 hb4 HB2
  have A' := A6
  obtain ⟨x0, x1, x2, x3⟩ := A'
  obtain ⟨y0, y1, y2⟩ := T6
  go_wp2_with fail
  refine (is_any _ _ _ _ _ _ _ _ _ _).mono ?_
  rintro e w5 ⟨rfl, hb5⟩
  have HB5 : Below w6.heap.size w6 w5 := below_then HB4 hb5
  have A7 := A6.kept hb5
  clear A6 x0 x1 x2 x3 y0 y1 y2 hb5 HB4
  obtain ⟨x0, x1, x2, x3⟩ := A7
  go_wp2_with fail
  refine (same_rows w1.heap.size w.heap.size len len len z w5 (by omega) (fun i hi => (HB5.cell (p := ⟨w1.heap.size, i, none⟩) hlt6).trans (HR6.out.cell hi)) (fun i hi => (HB5.cell (p := ⟨w.heap.size, i, none⟩) hlt1).trans (HR1.out.cell hi))).mono ?_
  rintro e w7 ⟨rfl, hb7⟩
  go_wp2
  go_ret
  exact ⟨rfl, below_then (below_then HB1 HB5) hb7⟩

set_option maxRecDepth 100000 in
set_option maxHeartbeats 1600000 in
theorem row_f (tc tv : Int) (tm : Bool) (uc uv : Int) (um : Bool) (x : Addr) (len cap : Nat) (z : Nat → Int) (w : World) (hlm : len ≤ maxLen) (hc : ∀ i, i < len → w.cell? (x.add i) = some (.int .u8 (z i))) (hx : (uc == tc) = false) :
    Calls Try.prog 3 #[.int .u32 tc, .int .u32 tv, .bool tm, .int .u32 uc, .int .u32 uv, .bool um, .slice (some x) len cap] w fun e w' => e = .returned (.bool true) ∧ Below w.heap.size w w' := by
  have e1 : isB tc (fl tv tm) tv uc uv = false := by rw [isB_fl, hx]; rfl
  have e2 : isB tc (fl tv tm) tv tc tv = true := by rw [isB_fl]; simp
  have f1 := fl_V tv tm
  have f2 := fl_M tv tm
  have f3 := fl_no tv tm
  have hby := bytes5 tc tv tm uc uv um (some x) len cap w hlm
  have HC : Hid (∀ i, i < len → w.cell? (x.add i) = some (.int .u8 (z i))) := hc
  clear hc
  unfold maxLen at hlm
  go_enter Try.func3, Try.ntmps3
  go_wp2_with fail
  refine hby.mono ?_
  rintro e w' ⟨t, rfl, rfl⟩
  clear hby
  cases t
  · go_wp2
    go_ret
    exact ⟨rfl, Below.refl _ _⟩
  by_cases hlen : (1048576 : Int) < len
  · go_wp2
    go_ret
    exact ⟨rfl, Below.refl _ _⟩
  go_wp2_with fail
  refine (clone_some x len cap z w (by omega) HC.out).mono ?_
  rintro e w1 ⟨rfl, hb1, hr1⟩
  have HC1 : Hid (∀ i, i < len → w1.cell? (x.add i) = some (.int .u8 (z i))) := fun i hi => (hb1.cell (World.block_lt_of_cell? _ _ (HC.out i hi))).trans (HC.out i hi)
  go_wp2_with fail
  refine (clone_some x len cap z w1 (by omega) HC1.out).mono ?_
  rintro e w6 ⟨rfl, hb6, hr6⟩
  have HB1 := below_then hb1 hb6
  have HR1 : Hid (w6.rowIs w.heap.size 5 len (fun i => .int .u8 (z i))) := hr1.of_block (hb6.block _ hr1.lt)
  have HR6 : Hid (w6.rowIs w1.heap.size 5 len (fun i => .int .u8 (z i))) := hr6
  have hlt1 : w.heap.size < w6.heap.size := HR1.out.lt
  have hlt6 : w1.heap.size < w6.heap.size := hr6.lt
  clear hr1 hr6 HC HC1 hb1 hb6
  have T3 := (typAt_new w6 tc tv tm).alloc (.cells #[.int .u32 uc, .int .u32 uv, .bool um] 27)
  have U3 := typAt_new (w6.alloc (.cells #[.int .u32 tc, .int .u32 tv, .bool tm] 27)) uc uv um
  simp only [World.size_alloc] at U3
  go_wp2_with fail
  refine (zzavp_any _ _ _ _ _ _ _).mono ?_
  rintro e w2 ⟨rfl, hb2⟩
  have HB2 : Below w6.heap.size w6 w2 := below_then (by go_grown) hb2
  have T5 := (T3.kept hb2).alloc (.cells #[.int .u32 tc, .int .u8 (fl tv tm), .int .u32 tv, .slice (some ⟨w1.heap.size, 0, none⟩) len len] 29)
  have U5 := (U3.kept hb2).alloc (.cells #[.int .u32 tc, .int .u8 (fl tv tm), .int .u32 tv, .slice (some ⟨w1.heap.size, 0, none⟩) len len] 29)
  have A5 := avpAt_new w2 tc (fl tv tm) tv (some ⟨w1.heap.size, 0, none⟩) len len
  clear T3 U3 hb2
  have A' := A5
  have U' := U5
  obtain ⟨x0, x1, x2, x3⟩ := A'
  obtain ⟨y0, y1, y2⟩ := U'
  go_wp2_with fail
  refine (is_any _ _ _ _ _ _ _ _ _ _).mono ?_
  rintro e w4 ⟨rfl, hb4⟩
  have HB4 : Below w6.heap.size w6 w4 := below_then (HB2.alloc HB2.size _) hb4
  have A6 := A5.kept hb4
  have T6 := T5.kept hb4
  clear A5 T5 U5 x0 x1 x2 x3 y0 y1 y2 hb4 HB2
  have A' := A6
  obtain ⟨x0, x1, x2, x3⟩ := A'
  obtain ⟨y0, y1, y2⟩ := T6
  go_wp2_with fail
  refine (is_any _ _ _ _ _ _ _ _ _ _).mono ?_
  rintro e w5 ⟨rfl, hb5⟩
  have HB5 : Below w6.heap.size w6 w5 := below_then HB4 hb5
  have A7 := A6.kept hb5
  clear A6 x0 x1 x2 x3 y0 y1 y2 hb5 HB4
  obtain ⟨x0, x1, x2, x3⟩ := A7
  go_wp2_with fail
  refine (same_rows w1.heap.size w.heap.size len len len z w5 (by omega) (fun i hi => (HB5.cell (p := ⟨w1.heap.size, i, none⟩) hlt6).trans (HR6.out.cell hi)) (fun i hi => (HB5.cell (p := ⟨w.heap.size, i, none⟩) hlt1).trans (HR1.out.cell hi))).mono ?_
  rintro e w7 ⟨rfl, hb7⟩
  go_wp2
  go_ret
  exact ⟨rfl, below_then (below_then HB1 HB5) hb7⟩

theorem walk (a0 : Int) (a1 : Int) (a2 : Bool) (a3 : Int) (a4 : Int) (a5 : Bool) (a6 : Option Addr) (len6 cap6 : Nat) (z6 : List Int) (w : World) (w6 : IsRow .u8 w a6 len6 cap6 z6) :
    Calls Try.prog 3 #[.int .u32 a0, .int .u32 a1, .bool a2, .int .u32 a3, .int .u32 a4, .bool a5, .slice a6 len6 cap6] w fun e w' => e = .returned (.bool true) ∧ Below w.heap.size w w' := by
  rcases w6 with ⟨rfl, rfl, rfl, rfl⟩ | ⟨x, rfl, h1, h2, h3, h4, h5⟩
  · by_cases hx : (a3 == a0) = true
    · exact nil_t a0 a1 a2 a3 a4 a5 w hx
    · exact nil_f a0 a1 a2 a3 a4 a5 w (Bool.eq_false_iff.2 hx)
  · have hc : ∀ i, i < len6 → w.cell? (x.add i) = some (.int .u8 (z6.getD i 0)) := fun i hi => h4 i (by omega)
    by_cases hx : (a3 == a0) = true
    · exact row_t a0 a1 a2 a3 a4 a5 x len6 cap6 (fun i => z6.getD i 0) w (Nat.le_trans h1 h2) hc hx
    · exact row_f a0 a1 a2 a3 a4 a5 x len6 cap6 (fun i => z6.getD i 0) w (Nat.le_trans h1 h2) hc (Bool.eq_false_iff.2 hx)

end Go.Proofs.Qxb6617123a.fnAvpIsExactlyItsType
