/-
  THE CONTRACTS of 'zzValuesBytesOver' (9), 'rbac.hasValue' (20), '(*LabelSelectorRequirement).holds' (17) and 'rbac.ZZHolds' (10), and the plain functions that they compute. No law is claimed here.
-/
import Derived.Test.Qxb6617076aRows
import Derived.WalkKit
import Derived.ProofKit
import Derived.OpenShut
import Derived.ShutString
import Derived.Handy
namespace Go.Proofs.Qxb6617076a
open Go.RowKit

/-- Is v among the first n of the strings f 0, f 1, ..? -/
def hasV (f : Nat → ByteArray) (v : ByteArray) : Nat → Bool
  | 0 => false
  | n + 1 => hasV f v n || (f n).toList == v.toList

theorem hasV_mono (f : Nat → ByteArray) (v : ByteArray) (k d : Nat) (h : hasV f v k = true) : hasV f v (k + d) = true := by
  induction d with
  | zero => exact h
  | succ d ih => rw [← Nat.add_assoc]; simp [hasV, ih]

theorem hasV_hit (f : Nat → ByteArray) (v : ByteArray) (k n : Nat) (hk : k < n) (h : ((f k).toList == v.toList) = true) : hasV f v n = true := by
  have := hasV_mono f v (k + 1) (n - (k + 1)) (by simp [hasV, h])
  rwa [show k + 1 + (n - (k + 1)) = n by omega] at this

/-- What the requirement answers: the operator, whether the label is there, whether its value is among the values. -/
def holdsB (op : Int) (ok h : Bool) : Bool :=
  bif op == 1 then ok && h else bif op == 2 then !ok || !h else bif op == 3 then ok else bif op == 4 then !ok else false

/-- Two calls, one behind the other. -/
theorem below_then {w w1 w2 : World} (h1 : Below w.heap.size w w1) (h2 : Below w1.heap.size w1 w2) : Below w.heap.size w w2 := h1.trans (h2.mono h1.size)

/-- The slice's elements, where it has any, are the strings f 0, f 1, .. -/
def Strs (w : World) (a : Option Addr) (len : Nat) (f : Nat → ByteArray) : Prop :=
  len ≤ maxLen ∧ (len = 0 ∨ ∃ b off, a = some ⟨b, off, none⟩ ∧ ∀ i, i < len → w.cell? ⟨b, off + i, none⟩ = some (.string (f i)))

theorem Strs.below {w w' : World} {a : Option Addr} {len : Nat} {f : Nat → ByteArray} (h : Strs w a len f) (hb : Below w.heap.size w w') : Strs w' a len f := by
  obtain ⟨hl, h⟩ := h
  refine ⟨hl, ?_⟩
  rcases h with h | ⟨b, off, h1, h2⟩
  · exact Or.inl h
  · exact Or.inr ⟨b, off, h1, fun i hi => (hb.cell (p := ⟨b, off + i, none⟩) (World.block_lt_of_cell? _ _ (h2 i hi))).trans (h2 i hi)⟩

/-- The look-up of the key in the map answers v, ok, whatever the call has laid since. -/
def Looks (w : World) (r : Option Nat) (key v : ByteArray) (ok : Bool) : Prop :=
  ∀ wx, Below w.heap.size w wx → (Instr.lookup 23 (.map r) (.string key) true).run Try.prog wx = .ok (.tuple #[.string v, .bool ok]) wx

theorem Looks.below {w w' : World} {r : Option Nat} {key v : ByteArray} {ok : Bool} (h : Looks w r key v ok) (hb : Below w.heap.size w w') : Looks w' r key v ok :=
  fun wx hx => h wx (hb.trans (hx.mono hb.size))

set_option maxHeartbeats 400000 in
/-- 'hasValue' of no values. -/
theorem hv_none (a : Option Addr) (cap : Nat) (v : ByteArray) (w : World) :
    Calls Try.prog 20 #[.slice a 0 cap, .string v] w fun e w' => e = .returned (.bool false) ∧ w' = w := by
  go_enter Try.func20, Try.ntmps20
  go_wp2
  go_rounds 1
  go_ret
  exact ⟨rfl, rfl⟩

set_option maxHeartbeats 400000 in
theorem hv_row (b off len cap : Nat) (f : Nat → ByteArray) (v : ByteArray) (w : World) (hl : len ≤ maxLen) (hc : ∀ i, i < len → w.cell? ⟨b, off + i, none⟩ = some (.string (f i))) :
    Calls Try.prog 20 #[.slice (some ⟨b, off, none⟩) len cap, .string v] w fun e w' => e = .returned (.bool (hasV f v len)) ∧ w' = w := by
  unfold maxLen at hl
  go_enter Try.func20, Try.ntmps20
  go_wp2
  go_loop [9] (fun i => ∃ k : Nat, k ≤ len ∧ i = .int .i64 k ∧ Hid (hasV f v k = false)) (fun i => len - (intOf i).toNat)
  case atStart => exact ⟨0, Nat.zero_le _, rfl, rfl⟩
  case round =>
    obtain ⟨k, hk, rfl, hH⟩ := hrel
    by_cases hlt : k < len
    · have h1 := hc k hlt
      have HC : Hid (∀ i, i < len → w.cell? ⟨b, off + i, none⟩ = some (.string (f i))) := hc
      clear hc
      by_cases he : ((f k).toList == v.toList) = true
      · go_wp2
        go_ret
        exact ⟨by rw [hasV_hit f v k len hlt he]; rfl, rfl⟩
      · have he := Bool.eq_false_iff.2 he
        go_wp2
        go_round
        case rel => exact ⟨k + 1, by omega, by go_num, by show hasV f v (k + 1) = false; simp only [hasV, hH.out, he]; rfl⟩
        case measure => simp [intOf]; omega
    · have hke : k = len := by omega
      subst hke
      go_wp2
      go_ret
      exact ⟨by rw [hH.out]; rfl, rfl⟩

theorem hv_any (a : Option Addr) (len cap : Nat) (f : Nat → ByteArray) (v : ByteArray) (w : World) (h : Strs w a len f) :
    Calls Try.prog 20 #[.slice a len cap, .string v] w fun e w' => e = .returned (.bool (hasV f v len)) ∧ w' = w := by
  obtain ⟨hl, h⟩ := h
  rcases h with rfl | ⟨b, off, rfl, h2⟩
  · exact hv_none a cap v w
  · exact hv_row b off len cap f v w hl h2

/-- Some bool comes back, and nothing has turned. -/
def AnyB (w : World) (e : Ending) (w' : World) : Prop := ∃ t, e = .returned (.bool t) ∧ w = w'

set_option maxHeartbeats 400000 in
/-- The sum of the lengths: it answers some bool and turns nothing (a sum that goes round makes no odds). -/
theorem vb_none (n : Int) (a : Option Addr) (cap : Nat) (w : World) :
    Calls Try.prog 9 #[.int .i64 n, .slice a 0 cap] w (AnyB w) := by
  by_cases h : (1048576 : Int) < n
  · go_enter Try.func9, Try.ntmps9
    go_wp2
    go_ret
    exact ⟨_, rfl, rfl⟩
  · go_enter Try.func9, Try.ntmps9
    go_wp2
    go_rounds 1
    go_ret
    exact ⟨_, rfl, rfl⟩

set_option maxHeartbeats 400000 in
theorem vb_row (n : Int) (b off len cap : Nat) (f : Nat → ByteArray) (w : World) (hl : len ≤ maxLen) (hc : ∀ i, i < len → w.cell? ⟨b, off + i, none⟩ = some (.string (f i))) :
    Calls Try.prog 9 #[.int .i64 n, .slice (some ⟨b, off, none⟩) len cap] w (AnyB w) := by
  unfold maxLen at hl
  by_cases h : (1048576 : Int) < n
  · go_enter Try.func9, Try.ntmps9
    go_wp2
    go_ret
    exact ⟨_, rfl, rfl⟩
  · go_enter Try.func9, Try.ntmps9
    go_wp2
    go_loop [5, 6] (fun t i => ∃ (k : Nat) (m : Int), k ≤ len ∧ i = .int .i64 k ∧ t = .int .i64 m) (fun _ i => len - (intOf i).toNat)
    case atStart => exact ⟨0, _, Nat.zero_le _, rfl, rfl⟩
    case round =>
      obtain ⟨k, m, hk, rfl, rfl⟩ := hrel
      by_cases hlt : k < len
      · have h1 := hc k hlt
        clear hc
        go_wp2
        · go_ret
          exact ⟨_, rfl, rfl⟩
        · go_round
          case rel => exact ⟨k + 1, _, by omega, by go_num, rfl⟩
          case measure => simp [intOf]; omega
      · clear hc
        go_wp2
        go_ret
        exact ⟨_, rfl, rfl⟩

theorem vb_any (n : Int) (a : Option Addr) (len cap : Nat) (f : Nat → ByteArray) (w : World) (h : Strs w a len f) :
    Calls Try.prog 9 #[.int .i64 n, .slice a len cap] w (AnyB w) := by
  obtain ⟨hl, h⟩ := h
  rcases h with rfl | ⟨b, off, rfl, h2⟩
  · exact vb_none n a cap w
  · exact vb_row n b off len cap f w hl h2

set_option maxHeartbeats 400000 in
/-- 'holds' of the requirement that lies in a block of its own. -/
theorem holds_any (b : Nat) (key v : ByteArray) (op : Int) (a : Option Addr) (len cap : Nat) (f : Nat → ByteArray) (r : Option Nat) (ok : Bool) (w : World)
    (c0 : w.cell? ⟨b, 0, none⟩ = some (.string key)) (c1 : w.cell? ⟨b, 1, none⟩ = some (.int .i64 op)) (c2 : w.cell? ⟨b, 2, none⟩ = some (.slice a len cap))
    (hs : Strs w a len f) (hl : (Instr.lookup 23 (.map r) (.string key) true).run Try.prog w = .ok (.tuple #[.string v, .bool ok]) w) :
    Calls Try.prog 17 #[.pointer (some ⟨b, 0, none⟩), .map r] w fun e w' => e = .returned (.bool (holdsB op ok (hasV f v len))) ∧ w' = w := by
  by_cases h1 : (op == 1) = true
  · cases ok
    all_goals
      go_enter Try.func17, Try.ntmps17
      go_wp2_with (go_at_call 20; refine (hv_any a len cap f v _ hs).mono ?_; rintro e w1 ⟨rfl, rfl⟩)
      go_ret
      exact ⟨by simp only [holdsB, h1]; rfl, rfl⟩
  have h1 := Bool.eq_false_iff.2 h1
  by_cases h2 : (op == 2) = true
  · cases ok
    all_goals
      go_enter Try.func17, Try.ntmps17
      go_wp2_with (go_at_call 20; refine (hv_any a len cap f v _ hs).mono ?_; rintro e w1 ⟨rfl, rfl⟩)
      go_ret
      exact ⟨by simp only [holdsB, h1, h2]; rfl, rfl⟩
  have h2 := Bool.eq_false_iff.2 h2
  by_cases h3 : (op == 3) = true
  · go_enter Try.func17, Try.ntmps17
    go_wp2
    go_ret
    exact ⟨by simp only [holdsB, h1, h2, h3]; rfl, rfl⟩
  have h3 := Bool.eq_false_iff.2 h3
  by_cases h4 : (op == 4) = true
  · go_enter Try.func17, Try.ntmps17
    go_wp2
    go_ret
    exact ⟨by simp only [holdsB, h1, h2, h3, h4]; rfl, rfl⟩
  have h4 := Bool.eq_false_iff.2 h4
  go_enter Try.func17, Try.ntmps17
  go_wp2
  go_ret
  exact ⟨by simp only [holdsB, h1, h2, h3, h4]; rfl, rfl⟩

set_option maxHeartbeats 400000 in
/-- 'ZZHolds': the same of its plain fields; it lays one block. -/
theorem zh_any (key v : ByteArray) (op : Int) (a : Option Addr) (len cap : Nat) (f : Nat → ByteArray) (r : Option Nat) (ok : Bool) (w : World) (hs : Strs w a len f) (hl : Looks w r key v ok) :
    Calls Try.prog 10 #[.string key, .int .i64 op, .slice a len cap, .map r] w fun e w' => e = .returned (.bool (holdsB op ok (hasV f v len))) ∧ Below w.heap.size w w' := by
  have hb : Below w.heap.size w (w.alloc (.cells #[.string key, .int .i64 op, .slice a len cap] 37)) := (Below.refl _ _).alloc (Nat.le_refl _) _
  go_enter Try.func10, Try.ntmps10
  go_wp2_with fail
  refine (holds_any w.heap.size key v op a len cap f r ok _ (by simp) (by simp) (by simp) (hs.below hb) (hl _ hb)).mono ?_
  rintro e w1 ⟨rfl, rfl⟩
  go_wp2
  go_ret
  exact ⟨rfl, hb⟩

end Go.Proofs.Qxb6617076a
