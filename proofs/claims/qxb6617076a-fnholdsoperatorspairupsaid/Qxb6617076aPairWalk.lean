/-
  THE WALK of 'zzlaws_rbac_b1.FnHoldsOperatorsPairUp' (3): a theorem an operator.
-/
import Derived.Test.Qxb6617076aHolds
namespace Go.Proofs.Qxb6617076a.fnHoldsOperatorsPairUp
open Go.RowKit
set_option linter.unusedVariables false

set_option maxRecDepth 100000 in
set_option maxHeartbeats 800000 in
theorem op1 (key v : ByteArray) (a : Option Addr) (len cap : Nat) (f : Nat → ByteArray) (r : Option Nat) (ok : Bool) (n : Nat) (w : World) (w0 : key.size ≤ maxLen) (hs : Strs w a len f) (hl : Looks w r key v ok)
    (hn : ∀ ty, (Builtin.len_ #[23] ty #[.map r]).run Try.prog w = .ok (.int .i64 n) w) :
    Calls Try.prog 3 #[.string key, .int .i64 1, .slice a len cap, .map r] w fun e w' => e = .returned (.bool true) ∧ Below w.heap.size w w' := by
  have hl0 := hl w (Below.refl _ _)
  have hlm := hs.1
  have HB := Below.refl w.heap.size w
  unfold maxLen at w0 hlm
  have b1 : ∀ ok h, holdsB 1 ok h = (ok && h) := fun _ _ => rfl
  have b2 : ∀ ok h, holdsB 2 ok h = (!ok || !h) := fun _ _ => rfl
  have b3 : ∀ ok h, holdsB 3 ok h = ok := fun _ _ => rfl
  cases ok <;> cases hh : hasV f v len
  all_goals
    go_enter Try.func3, Try.ntmps3
    go_wp2_with (first | (go_at_call 9; refine (vb_any _ _ _ _ f _ hs).mono ?_; rintro e w' ⟨t, rfl, rfl⟩; cases t) | (go_at_call 10; refine (zh_any _ v _ _ _ _ f _ _ _ (by assumption) (by assumption)).mono ?_; rintro e w1 ⟨rfl, hb⟩; have hs' := Strs.below (a := a) (len := len) (f := f) (by assumption) hb; have hl' := Looks.below (r := r) (key := key) (v := v) (by assumption) hb; have HB' := below_then (w := w) (by assumption) hb))
    all_goals
      go_ret
      exact ⟨rfl, by assumption⟩

set_option maxRecDepth 100000 in
set_option maxHeartbeats 800000 in
theorem op2 (key v : ByteArray) (a : Option Addr) (len cap : Nat) (f : Nat → ByteArray) (r : Option Nat) (ok : Bool) (n : Nat) (w : World) (w0 : key.size ≤ maxLen) (hs : Strs w a len f) (hl : Looks w r key v ok)
    (hn : ∀ ty, (Builtin.len_ #[23] ty #[.map r]).run Try.prog w = .ok (.int .i64 n) w) :
    Calls Try.prog 3 #[.string key, .int .i64 2, .slice a len cap, .map r] w fun e w' => e = .returned (.bool true) ∧ Below w.heap.size w w' := by
  have hl0 := hl w (Below.refl _ _)
  have hlm := hs.1
  have HB := Below.refl w.heap.size w
  unfold maxLen at w0 hlm
  have b1 : ∀ ok h, holdsB 1 ok h = (ok && h) := fun _ _ => rfl
  have b2 : ∀ ok h, holdsB 2 ok h = (!ok || !h) := fun _ _ => rfl
  cases ok <;> cases hh : hasV f v len
  all_goals
    go_enter Try.func3, Try.ntmps3
    go_wp2_with (first | (go_at_call 9; refine (vb_any _ _ _ _ f _ hs).mono ?_; rintro e w' ⟨t, rfl, rfl⟩; cases t) | (go_at_call 10; refine (zh_any _ v _ _ _ _ f _ _ _ (by assumption) (by assumption)).mono ?_; rintro e w1 ⟨rfl, hb⟩; have hs' := Strs.below (a := a) (len := len) (f := f) (by assumption) hb; have hl' := Looks.below (r := r) (key := key) (v := v) (by assumption) hb; have HB' := below_then (w := w) (by assumption) hb))
    all_goals
      go_ret
      exact ⟨rfl, by assumption⟩

set_option maxRecDepth 100000 in
set_option maxHeartbeats 800000 in
theorem op3 (key v : ByteArray) (a : Option Addr) (len cap : Nat) (f : Nat → ByteArray) (r : Option Nat) (ok : Bool) (n : Nat) (w : World) (w0 : key.size ≤ maxLen) (hs : Strs w a len f) (hl : Looks w r key v ok)
    (hn : ∀ ty, (Builtin.len_ #[23] ty #[.map r]).run Try.prog w = .ok (.int .i64 n) w) :
    Calls Try.prog 3 #[.string key, .int .i64 3, .slice a len cap, .map r] w fun e w' => e = .returned (.bool true) ∧ Below w.heap.size w w' := by
  have hl0 := hl w (Below.refl _ _)
  have hlm := hs.1
  have HB := Below.refl w.heap.size w
  unfold maxLen at w0 hlm
  have b3 : ∀ ok h, holdsB 3 ok h = ok := fun _ _ => rfl
  have b4 : ∀ ok h, holdsB 4 ok h = !ok := fun _ _ => rfl
  cases ok <;> cases hh : hasV f v len
  all_goals
    go_enter Try.func3, Try.ntmps3
    go_wp2_with (first | (go_at_call 9; refine (vb_any _ _ _ _ f _ hs).mono ?_; rintro e w' ⟨t, rfl, rfl⟩; cases t) | (go_at_call 10; refine (zh_any _ v _ _ _ _ f _ _ _ (by assumption) (by assumption)).mono ?_; rintro e w1 ⟨rfl, hb⟩; have hs' := Strs.below (a := a) (len := len) (f := f) (by assumption) hb; have hl' := Looks.below (r := r) (key := key) (v := v) (by assumption) hb; have HB' := below_then (w := w) (by assumption) hb))
    all_goals
      go_ret
      exact ⟨rfl, by assumption⟩

set_option maxRecDepth 100000 in
set_option maxHeartbeats 800000 in
theorem op4 (key v : ByteArray) (a : Option Addr) (len cap : Nat) (f : Nat → ByteArray) (r : Option Nat) (ok : Bool) (n : Nat) (w : World) (w0 : key.size ≤ maxLen) (hs : Strs w a len f) (hl : Looks w r key v ok)
    (hn : ∀ ty, (Builtin.len_ #[23] ty #[.map r]).run Try.prog w = .ok (.int .i64 n) w) :
    Calls Try.prog 3 #[.string key, .int .i64 4, .slice a len cap, .map r] w fun e w' => e = .returned (.bool true) ∧ Below w.heap.size w w' := by
  have hl0 := hl w (Below.refl _ _)
  have hlm := hs.1
  have HB := Below.refl w.heap.size w
  unfold maxLen at w0 hlm
  have b3 : ∀ ok h, holdsB 3 ok h = ok := fun _ _ => rfl
  have b4 : ∀ ok h, holdsB 4 ok h = !ok := fun _ _ => rfl
  cases ok <;> cases hh : hasV f v len
  all_goals
    go_enter Try.func3, Try.ntmps3
    go_wp2_with (first | (go_at_call 9; refine (vb_any _ _ _ _ f _ hs).mono ?_; rintro e w' ⟨t, rfl, rfl⟩; cases t) | (go_at_call 10; refine (zh_any _ v _ _ _ _ f _ _ _ (by assumption) (by assumption)).mono ?_; rintro e w1 ⟨rfl, hb⟩; have hs' := Strs.below (a := a) (len := len) (f := f) (by assumption) hb; have hl' := Looks.below (r := r) (key := key) (v := v) (by assumption) hb; have HB' := below_then (w := w) (by assumption) hb))
    all_goals
      go_ret
      exact ⟨rfl, by assumption⟩

set_option maxRecDepth 100000 in
set_option maxHeartbeats 800000 in
theorem opx (key v : ByteArray) (op : Int) (a : Option Addr) (len cap : Nat) (f : Nat → ByteArray) (r : Option Nat) (ok : Bool) (n : Nat) (w : World) (w0 : key.size ≤ maxLen) (hs : Strs w a len f) (hl : Looks w r key v ok)
    (hn : ∀ ty, (Builtin.len_ #[23] ty #[.map r]).run Try.prog w = .ok (.int .i64 n) w)
    (h1 : (op == 1) = false) (h2 : (op == 2) = false) (h3 : (op == 3) = false) (h4 : (op == 4) = false) :
    Calls Try.prog 3 #[.string key, .int .i64 op, .slice a len cap, .map r] w fun e w' => e = .returned (.bool true) ∧ Below w.heap.size w w' := by
  have hl0 := hl w (Below.refl _ _)
  have hlm := hs.1
  have HB := Below.refl w.heap.size w
  unfold maxLen at w0 hlm
  have bo : ∀ ok h, holdsB op ok h = false := fun _ _ => by simp only [holdsB, h1, h2, h3, h4]; rfl
  cases ok <;> cases hh : hasV f v len
  all_goals
    go_enter Try.func3, Try.ntmps3
    go_wp2_with (first | (go_at_call 9; refine (vb_any _ _ _ _ f _ hs).mono ?_; rintro e w' ⟨t, rfl, rfl⟩; cases t) | (go_at_call 10; refine (zh_any _ v _ _ _ _ f _ _ _ (by assumption) (by assumption)).mono ?_; rintro e w1 ⟨rfl, hb⟩; have hs' := Strs.below (a := a) (len := len) (f := f) (by assumption) hb; have hl' := Looks.below (r := r) (key := key) (v := v) (by assumption) hb; have HB' := below_then (w := w) (by assumption) hb))
    all_goals
      go_ret
      exact ⟨rfl, by assumption⟩

theorem walk (key v : ByteArray) (op : Int) (a : Option Addr) (len cap : Nat) (f : Nat → ByteArray) (r : Option Nat) (ok : Bool) (n : Nat) (w : World) (w0 : key.size ≤ maxLen) (hs : Strs w a len f) (hl : Looks w r key v ok)
    (hn : ∀ ty, (Builtin.len_ #[23] ty #[.map r]).run Try.prog w = .ok (.int .i64 n) w) :
    Calls Try.prog 3 #[.string key, .int .i64 op, .slice a len cap, .map r] w fun e w' => e = .returned (.bool true) ∧ Below w.heap.size w w' := by
  by_cases h1 : op = 1
  · subst h1; exact op1 key v a len cap f r ok n w w0 hs hl hn
  by_cases h2 : op = 2
  · subst h2; exact op2 key v a len cap f r ok n w w0 hs hl hn
  by_cases h3 : op = 3
  · subst h3; exact op3 key v a len cap f r ok n w w0 hs hl hn
  by_cases h4 : op = 4
  · subst h4; exact op4 key v a len cap f r ok n w w0 hs hl hn
  exact opx key v op a len cap f r ok n w w0 hs hl hn (by simpa using h1) (by simpa using h2) (by simpa using h3) (by simpa using h4)

end Go.Proofs.Qxb6617076a.fnHoldsOperatorsPairUp
