/-
  THE WALK of 'zzlaws_rbac_b1.FnHoldsInSplitsAtAnyCut' (4).
-/
import Derived.Test.Qxb6617076aCut
namespace Go.Proofs.Qxb6617076a.fnHoldsInSplitsAtAnyCut
open Go.RowKit
set_option linter.unusedVariables false

/-- 'ZZHolds', its answer named. -/
theorem zh_b (key v : ByteArray) (op : Int) (a : Option Addr) (len cap : Nat) (f : Nat → ByteArray) (r : Option Nat) (ok b : Bool) (w : World) (hs : Strs w a len f) (hl : Looks w r key v ok) (he : holdsB op ok (hasV f v len) = b) :
    Calls Try.prog 10 #[.string key, .int .i64 op, .slice a len cap, .map r] w fun e w' => e = .returned (.bool b) ∧ Below w.heap.size w w' := by
  subst he
  exact zh_any key v op a len cap f r ok w hs hl

/-- '[]string{x}'. -/
theorem one_strs (w : World) (x : ByteArray) : Strs (w.alloc (.cells #[.string x] 9)) (some ⟨w.heap.size, 0, none⟩) 1 (fun _ => x) := by
  refine ⟨by unfold maxLen; omega, Or.inr ⟨w.heap.size, 0, rfl, fun i hi => ?_⟩⟩
  have h0 : i = 0 := by omega
  subst h0
  simp

set_option maxRecDepth 100000 in
set_option maxHeartbeats 4000000 in
theorem inside (key v x : ByteArray) (a aL aR : Option Addr) (len cap k : Nat) (f : Nat → ByteArray) (r : Option Nat) (ok bL bR bX : Bool) (n : Nat) (w : World) (w0 : key.size ≤ maxLen) (w4 : x.size ≤ maxLen) (hs : Strs w a len f) (hl : Looks w r key v ok)
    (hn : ∀ ty, (Builtin.len_ #[23] ty #[.map r]).run Try.prog w = .ok (.int .i64 n) w) (hk : k ≤ len)
    (hL : ∀ W, (Instr.slice 22 (.slice a len cap) none (some (.int .i64 k)) (some (.int .i64 k))).run Try.prog W = .ok (.slice aL k k) W) (sL : ∀ w, Strs w a len f → Strs w aL k f)
    (hR : ∀ W, (Instr.slice 22 (.slice a len cap) (some (.int .i64 k)) none none).run Try.prog W = .ok (.slice aR (len - k) (cap - k)) W) (sR : ∀ w, Strs w a len f → Strs w aR (len - k) (fun i => f (k + i)))
    (eI : holdsB 1 ok (hasV f v len) = (ok && (bL || bR))) (eL : holdsB 1 ok (hasV f v k) = (ok && bL)) (eR : holdsB 1 ok (hasV (fun i => f (k + i)) v (len - k)) = (ok && bR)) (e0 : holdsB 1 ok (hasV f v 0) = false)
    (eO : holdsB 1 ok (hasV (fun _ => x) v 1) = (ok && bX)) (eN : holdsB 2 ok (hasV f v len) = !(ok && (bL || bR))) (hX : (x.toList == v.toList) = bX) :
    Calls Try.prog 4 #[.string key, .slice a len cap, .map r, .int .i64 k, .string x] w fun e w' => e = .returned (.bool true) ∧ Below w.heap.size w w' := by
  have hl0 := hl w (Below.refl _ _)
  have hlm := hs.1
  unfold maxLen at w0 w4 hlm
  have SL : Hid (∀ w, Strs w a len f → Strs w aL k f) := sL
  have SR : Hid (∀ w, Strs w a len f → Strs w aR (len - k) (fun i => f (k + i))) := sR
  have EI : Hid _ := eI
  have EL : Hid _ := eL
  have ER : Hid _ := eR
  have E0 : Hid _ := e0
  have EO : Hid _ := eO
  have EN : Hid _ := eN
  clear sL sR eI eL eR e0 eO eN
  have hcase : ok = false ∨ ok = true := by cases ok <;> simp
  rcases hcase with rfl | rfl
  rotate_left
  cases bL <;> cases bR <;> cases bX
  all_goals
    go_enter Try.func4, Try.ntmps4
    go_wp2_with (go_at_call 9; refine (vb_any _ _ _ _ f _ hs).mono ?_; rintro e w' ⟨t, rfl, rfl⟩; cases t)
    all_goals try (go_ret; exact ⟨rfl, Below.refl _ _⟩)
    refine (zh_b _ v _ _ _ _ f _ _ _ _ hs hl EI.out).mono ?_
    rintro e w1 ⟨rfl, hb1⟩
    have hs1 := hs.below hb1
    have hl1 := hl.below hb1
    go_wp2_with fail
    refine (zh_b _ v _ _ _ _ f _ _ _ _ (SL.out _ hs1) hl1 EL.out).mono ?_
    rintro e w2 ⟨rfl, hb2⟩
    have HB2 := below_then hb1 hb2
    have hs2 := hs1.below hb2
    have hl2 := hl1.below hb2
    clear hs1 hl1 hb2
    go_wp2_with fail
    refine (zh_b _ v _ _ _ _ _ _ _ _ _ (SR.out _ hs2) hl2 ER.out).mono ?_
    rintro e w3 ⟨rfl, hb3⟩
    have HB3 := below_then HB2 hb3
    have hs3 := hs2.below hb3
    have hl3 := hl2.below hb3
    clear hs2 hl2 hb3 HB2
    go_wp2_with fail
    refine (zh_b _ v _ _ _ _ f _ _ _ _ ⟨Nat.zero_le _, Or.inl rfl⟩ hl3 E0.out).mono ?_
    rintro e w5 ⟨rfl, hb5⟩
    have HB5 := below_then HB3 hb5
    have hs5 := hs3.below hb5
    have hl5 := hl3.below hb5
    clear hs3 hl3 hb5 HB3
    have hx5 : Below w5.heap.size w5 (w5.alloc (.cells #[.string x] 9)) := (Below.refl _ _).alloc (Nat.le_refl _) _
    have hl6 := hl5.below hx5
    have hs6 := hs5.below hx5
    have HB6 := below_then HB5 hx5
    have ho := one_strs w5 x
    clear hs5 hl5 HB5 hx5
    go_wp2_with fail
    refine (zh_b _ v _ _ _ _ (fun _ => x) _ _ _ _ ho hl6 EO.out).mono ?_
    rintro e w7 ⟨rfl, hb7⟩
    have HB7 := below_then HB6 hb7
    have hs7 := hs6.below hb7
    have hl7 := hl6.below hb7
    clear hs6 hl6 hb7 HB6 ho
    go_wp2_with fail
    refine (zh_b _ v _ _ _ _ f _ _ _ _ hs7 hl7 EN.out).mono ?_
    rintro e w8 ⟨rfl, hb8⟩
    have HB8 := below_then HB7 hb8
    go_wp2
    go_ret
    exact ⟨rfl, HB8⟩

set_option maxRecDepth 100000 in
set_option maxHeartbeats 800000 in
theorem outside (key v x : ByteArray) (a : Option Addr) (len cap : Nat) (k : Int) (f : Nat → ByteArray) (r : Option Nat) (n : Nat) (w : World) (w0 : key.size ≤ maxLen) (w4 : x.size ≤ maxLen) (hs : Strs w a len f)
    (hn : ∀ ty, (Builtin.len_ #[23] ty #[.map r]).run Try.prog w = .ok (.int .i64 n) w) (hk : k < 0 ∨ (len : Int) < k) :
    Calls Try.prog 4 #[.string key, .slice a len cap, .map r, .int .i64 k, .string x] w fun e w' => e = .returned (.bool true) ∧ Below w.heap.size w w' := by
  have hlm := hs.1
  unfold maxLen at w0 w4 hlm
  rcases hk with hk | hk
  · go_enter Try.func4, Try.ntmps4
    go_wp2_with (go_at_call 9; refine (vb_any _ _ _ _ f _ hs).mono ?_; rintro e w' ⟨t, rfl, rfl⟩; cases t)
    all_goals
      go_ret
      exact ⟨rfl, Below.refl _ _⟩
  · have hk0 : ¬ k < 0 := by omega
    go_enter Try.func4, Try.ntmps4
    go_wp2_with (go_at_call 9; refine (vb_any _ _ _ _ f _ hs).mono ?_; rintro e w' ⟨t, rfl, rfl⟩; cases t)
    all_goals
      go_ret
      exact ⟨rfl, Below.refl _ _⟩

theorem walk (key v x : ByteArray) (a : Option Addr) (len cap : Nat) (k : Int) (f : Nat → ByteArray) (r : Option Nat) (ok : Bool) (n : Nat) (w : World) (w0 : key.size ≤ maxLen) (w4 : x.size ≤ maxLen) (hs : Strs w a len f) (hc : len ≤ cap) (hl : Looks w r key v ok)
    (hn : ∀ ty, (Builtin.len_ #[23] ty #[.map r]).run Try.prog w = .ok (.int .i64 n) w) :
    Calls Try.prog 4 #[.string key, .slice a len cap, .map r, .int .i64 k, .string x] w fun e w' => e = .returned (.bool true) ∧ Below w.heap.size w w' := by
  by_cases hk : k < 0 ∨ (len : Int) < k
  · exact outside key v x a len cap k f r n w w0 w4 hs hn hk
  · obtain ⟨j, rfl⟩ : ∃ j : Nat, k = (j : Int) := ⟨k.toNat, by omega⟩
    have hj : j ≤ len := by omega
    obtain ⟨aL, hL, sL⟩ := cut_left a len cap j f hj hc
    obtain ⟨aR, hR, sR⟩ := cut_right a len cap j f hj hc
    have hcut := hasV_cut f v j (len - j)
    rw [show j + (len - j) = len by omega] at hcut
    refine inside key v x a aL aR len cap j f r ok (hasV f v j) (hasV (fun i => f (j + i)) v (len - j)) (x.toList == v.toList) n w w0 w4 hs hl hn hj hL sL hR sR ?_ rfl rfl ?_ ?_ ?_ rfl
    · rw [← hcut]; rfl
    · cases ok <;> rfl
    · cases ok <;> simp [holdsB, hasV]
    · rw [← hcut]; cases ok <;> simp [holdsB]

end Go.Proofs.Qxb6617076a.fnHoldsInSplitsAtAnyCut
