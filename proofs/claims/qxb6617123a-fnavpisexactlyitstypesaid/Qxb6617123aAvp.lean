/-
  THE CONTRACTS of '(AVPType).avp' (11), 'ZZavp' (7), '(AVP).Is' (8) and of the two byte bounds (5, 10), and the plain functions that they compute. No law is claimed here.
-/
import Derived.Test.Qxb6617123aRows
import Derived.WalkKit
import Derived.ProofKit
import Derived.OpenShut
import Derived.ShutString
import Derived.Handy
namespace Go.Proofs.Qxb6617123a
open Go.RowKit

/-- The flags of the AVP that a type of vendor v, mandatory or not, builds. -/
def fl (v : Int) (m : Bool) : Int := (bif v != 0 then 128 else 0) + (bif m then 64 else 0)

/-- Is an AVP of code c, flags f and vendor v of the type of code tc and vendor tv? -/
def isB (c f v tc tv : Int) : Bool := !(c != tc) && (bif bits BinOp.and IntKind.u8 f 128 == 0 then tv == 0 else v == tv)

set_option maxHeartbeats 400000 in
theorem avp_any (c v : Int) (m : Bool) (d : Option Addr) (l p : Nat) (w : World) :
    Calls Try.prog 11 #[.agg #[.int .u32 c, .int .u32 v, .bool m], .slice d l p] w fun e w' => e = .returned (.agg #[.int .u32 c, .int .u8 (fl v m), .int .u32 v, .slice d l p]) ∧ Below w.heap.size w w' := by
  by_cases hv : (v != 0) = true <;> cases m
  all_goals
    go_enter Try.func11, Try.ntmps11
    go_wp2
    go_returns
    refine ⟨?_, ?_⟩
    · simp only [fl, hv]; rfl
    · go_grown

set_option maxHeartbeats 400000 in
theorem zzavp_any (c v : Int) (m : Bool) (d : Option Addr) (l p : Nat) (w : World) :
    Calls Try.prog 7 #[.agg #[.int .u32 c, .int .u32 v, .bool m], .slice d l p] w fun e w' => e = .returned (.agg #[.int .u32 c, .int .u8 (fl v m), .int .u32 v, .slice d l p]) ∧ Below w.heap.size w w' := by
  go_enter Try.func7, Try.ntmps7
  go_wp2_with fail
  refine (avp_any _ _ _ _ _ _ _).mono ?_
  rintro e w1 ⟨rfl, hb⟩
  have hc : ∀ b o, b < w.heap.size + 2 → w1.cell? ⟨b, o, none⟩ = ((w.alloc (.cells #[.int .u32 c, .int .u32 v, .bool m] 27)).alloc (.cells #[.int .u32 0, .int .u8 0, .int .u32 0, .slice none 0 0] 29)).cell? ⟨b, o, none⟩ := fun b o h => hb.cell (p := ⟨b, o, none⟩) (by simpa using h)
  have hf : ∀ b o, b < w.heap.size + 2 → w1.frozen? ⟨b, o, none⟩ = ((w.alloc (.cells #[.int .u32 c, .int .u32 v, .bool m] 27)).alloc (.cells #[.int .u32 0, .int .u8 0, .int .u32 0, .slice none 0 0] 29)).frozen? ⟨b, o, none⟩ := fun b o h => hb.frozen (p := ⟨b, o, none⟩) (by simpa using h)
  have hz : w.heap.size + 1 < w1.heap.size := by have := hb.size; simp at this; omega
  go_wp2
  refine bodyPost_ret (v := .agg #[.int .u32 c, .int .u8 (fl v m), .int .u32 v, .slice d l p]) (by simp [results, Try.results7, go_sem, hc]) rfl ⟨rfl, ?_⟩
  have h0 : Below w.heap.size w w1 := Below.trans (by go_grown) (hb.mono (by simp; omega))
  go_grown

set_option maxHeartbeats 400000 in
theorem is_any (c f v tc tv : Int) (tm : Bool) (d : Option Addr) (l p : Nat) (w : World)  :
    Calls Try.prog 8 #[.agg #[.int .u32 c, .int .u8 f, .int .u32 v, .slice d l p], .agg #[.int .u32 tc, .int .u32 tv, .bool tm]] w fun e w' => e = .returned (.bool (isB c f v tc tv)) ∧ Below w.heap.size w w' := by
  by_cases h1 : (c != tc) = true <;> by_cases h2 : (bits BinOp.and IntKind.u8 f 128 == 0) = true
  all_goals
    go_enter Try.func8, Try.ntmps8
    go_wp2
    go_returns
    refine ⟨?_, ?_⟩
    · simp only [isB, h1, h2]; rfl
    · go_grown

set_option maxHeartbeats 400000 in
theorem bytes5 (a b : Int) (c : Bool) (d e : Int) (f : Bool) (x : Option Addr) (l p : Nat) (w : World) (hl : l ≤ maxLen) :
    Calls Try.prog 5 #[.int .u32 a, .int .u32 b, .bool c, .int .u32 d, .int .u32 e, .bool f, .slice x l p] w fun r w' => ∃ t, r = .returned (.bool t) ∧ w = w' := by
  unfold maxLen at *
  go_enter Try.func5, Try.ntmps5
  go_wp2
  all_goals
    go_ret
    exact ⟨_, rfl, rfl⟩

set_option maxHeartbeats 400000 in
theorem bytes10 (a f b d e : Int) (t : Bool) (x : Option Addr) (l p : Nat) (w : World) (hl : l ≤ maxLen) :
    Calls Try.prog 10 #[.int .u32 a, .int .u8 f, .int .u32 b, .slice x l p, .int .u32 d, .int .u32 e, .bool t] w fun r w' => ∃ t, r = .returned (.bool t) ∧ w = w' := by
  unfold maxLen at *
  go_enter Try.func10, Try.ntmps10
  go_wp2
  all_goals
    go_ret
    exact ⟨_, rfl, rfl⟩

/-! Plain facts on 'isB' and 'fl'. -/
theorem isB_v {c f v tc tv : Int} (h : (bits BinOp.and IntKind.u8 f 128 == 0) = false) : isB c f v tc tv = (tc == c && tv == v) := by
  unfold isB
  rw [h]
  rw [Bool.eq_iff_iff]
  simp
  constructor
  · rintro ⟨rfl, rfl⟩; exact ⟨rfl, rfl⟩
  · rintro ⟨rfl, rfl⟩; exact ⟨rfl, rfl⟩

theorem isB_0 {c f v tc tv : Int} (h : (bits BinOp.and IntKind.u8 f 128 == 0) = true) : isB c f v tc tv = (tc == c && tv == 0) := by
  unfold isB
  rw [h]
  rw [Bool.eq_iff_iff]
  simp
  exact fun _ => ⟨fun e => e.symm, fun e => e.symm⟩

theorem fl_v {v : Int} (m : Bool) (h : (v != 0) = true) : (bits BinOp.and IntKind.u8 (fl v m) 128 == 0) = false := by
  unfold fl
  rw [h]
  cases m <;> rfl

theorem fl_0 {v : Int} (m : Bool) (h : (v != 0) = false) : (bits BinOp.and IntKind.u8 (fl v m) 128 == 0) = true := by
  unfold fl
  rw [h]
  cases m <;> rfl

theorem isB_fl (c v tc tv : Int) (m : Bool) : isB c (fl v m) v tc tv = (tc == c && tv == v) := by
  by_cases h : (v != 0) = true
  · exact isB_v (fl_v m h)
  · have h := Bool.eq_false_iff.2 h
    rw [isB_0 (fl_0 m h)]
    have : v = 0 := by simpa using h
    rw [this]

/-- A cell that was there reads as it did. -/
theorem cell_kept {W w1 : World} (hb : Below W.heap.size W w1) {b o : Nat} {x : Value} (h : W.cell? ⟨b, o, none⟩ = some x) : w1.cell? ⟨b, o, none⟩ = some x :=
  (hb.cell (p := ⟨b, o, none⟩) (World.block_lt_of_cell? _ _ h)).trans h

/-- Block b holds an AVP; a type. -/
def AvpAt (w : World) (b : Nat) (c f v : Int) (d : Option Addr) (l p : Nat) : Prop :=
  w.cell? ⟨b, 0, none⟩ = some (.int .u32 c) ∧ w.cell? ⟨b, 1, none⟩ = some (.int .u8 f) ∧ w.cell? ⟨b, 2, none⟩ = some (.int .u32 v) ∧ w.cell? ⟨b, 3, none⟩ = some (.slice d l p)
def TypAt (w : World) (b : Nat) (c v : Int) (m : Bool) : Prop :=
  w.cell? ⟨b, 0, none⟩ = some (.int .u32 c) ∧ w.cell? ⟨b, 1, none⟩ = some (.int .u32 v) ∧ w.cell? ⟨b, 2, none⟩ = some (.bool m)
theorem AvpAt.kept {W w1 : World} {b : Nat} {c f v : Int} {d : Option Addr} {l p : Nat} (h : AvpAt W b c f v d l p) (hb : Below W.heap.size W w1) : AvpAt w1 b c f v d l p :=
  ⟨cell_kept hb h.1, cell_kept hb h.2.1, cell_kept hb h.2.2.1, cell_kept hb h.2.2.2⟩
theorem TypAt.kept {W w1 : World} {b : Nat} {c v : Int} {m : Bool} (h : TypAt W b c v m) (hb : Below W.heap.size W w1) : TypAt w1 b c v m :=
  ⟨cell_kept hb h.1, cell_kept hb h.2.1, cell_kept hb h.2.2⟩
theorem AvpAt.alloc {w : World} {b : Nat} {c f v : Int} {d : Option Addr} {l p : Nat} (h : AvpAt w b c f v d l p) (o : Obj) : AvpAt (w.alloc o) b c f v d l p := h.kept ((Below.refl _ _).alloc (Nat.le_refl _) o)
theorem TypAt.alloc {w : World} {b : Nat} {c v : Int} {m : Bool} (h : TypAt w b c v m) (o : Obj) : TypAt (w.alloc o) b c v m := h.kept ((Below.refl _ _).alloc (Nat.le_refl _) o)
theorem avpAt_new (w : World) (c f v : Int) (d : Option Addr) (l p : Nat) : AvpAt (w.alloc (.cells #[.int .u32 c, .int .u8 f, .int .u32 v, .slice d l p] 29)) w.heap.size c f v d l p := ⟨by simp, by simp, by simp, by simp⟩
theorem typAt_new (w : World) (c v : Int) (m : Bool) : TypAt (w.alloc (.cells #[.int .u32 c, .int .u32 v, .bool m] 27)) w.heap.size c v m := ⟨by simp, by simp, by simp⟩

theorem below_then {w w1 w2 : World} (h1 : Below w.heap.size w w1) (h2 : Below w1.heap.size w1 w2) : Below w.heap.size w w2 := h1.trans (h2.mono h1.size)

end Go.Proofs.Qxb6617123a
