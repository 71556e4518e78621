/-
  THE PROOF OF 'Rows.FnBoundSubjectBindingNamespaceOnlyFillsAGapSaid'. The frame is the guide's skeleton (proof-skeleton.mjs) at this function's number and types, its last step said by 'Below' in the place of 'Grown'; the walk is ours.
-/
import Derived.Test.Qxb6617076aRows
import Derived.Test.Qxb6617076aSubj
import Derived.WalkKit
import Derived.ProofKit
import Derived.OpenShut
import Derived.ShutString
namespace Go.Proofs.Qxb6617076a.fnBoundSubjectBindingNamespaceOnlyFillsAGap
open Go.ChangeShapes Go.WideShapes Go.ChangeAt Go.RowKit
open Go.ChangeMaps (open_string shut_string)
set_option linter.unusedVariables false

theorem own : ownKnob Try.prog.godebug = none := by kernel_rfl

/-! ### THE WALK: a theorem a case; each is handed what 'boundSubject' answers there ('bNs', 'bOk'). -/
set_option maxRecDepth 100000 in
set_option maxHeartbeats 800000 in
theorem noname (k g n s ns o : ByteArray) (w0 : k.size ≤ maxLen) (w1 : g.size ≤ maxLen) (w2 : n.size ≤ maxLen) (w3 : s.size ≤ maxLen) (w4 : ns.size ≤ maxLen) (w5 : o.size ≤ maxLen) (w : World)
    (hn : n.toList.isEmpty = true) (hB : bOk k n s ns = false) (hN : bNs k n s ns = s) (hB2 : bOk k n s o = false) (hN2 : bNs k n s o = s) :
    Calls Try.prog 6 #[.string k, .string g, .string n, .string s, .string ns, .string o] w fun e w' => e = .returned (.bool true) ∧ Below w.heap.size w w' := by
  have hby := bytes13 k g n s ns o w w0 w1 w2 w3 w4 w5
  unfold maxLen at *
  go_enter Try.func6, Try.ntmps6
  go_wp2_with (first | (go_at_call 13; refine hby.mono ?_; rintro e w1 ⟨t, rfl, rfl⟩; clear hby; cases t) | (go_at_call 12; refine (bc_any _ _ _ _ _ _).mono ?_; rintro e w1 ⟨rfl, hb⟩))
  all_goals
    go_ret
    refine ⟨rfl, ?_⟩
    first | exact Below.refl _ _ | exact Below.trans ‹_› (Below.mono ‹_› (Below.size ‹_›))

set_option maxRecDepth 100000 in
set_option maxHeartbeats 800000 in
theorem user (k g n s ns o : ByteArray) (w0 : k.size ≤ maxLen) (w1 : g.size ≤ maxLen) (w2 : n.size ≤ maxLen) (w3 : s.size ≤ maxLen) (w4 : ns.size ≤ maxLen) (w5 : o.size ≤ maxLen) (w : World)
    (hn : n.toList.isEmpty = false) (hu : (k.toList == [85, 115, 101, 114]) = true) (hk : (k.toList == [83, 101, 114, 118, 105, 99, 101, 65, 99, 99, 111, 117, 110, 116]) = false) (hB : bOk k n s ns = true) (hN : bNs k n s ns = ⟨#[]⟩) (hB2 : bOk k n s o = true) (hN2 : bNs k n s o = ⟨#[]⟩) :
    Calls Try.prog 6 #[.string k, .string g, .string n, .string s, .string ns, .string o] w fun e w' => e = .returned (.bool true) ∧ Below w.heap.size w w' := by
  have hby := bytes13 k g n s ns o w w0 w1 w2 w3 w4 w5
  unfold maxLen at *
  go_enter Try.func6, Try.ntmps6
  go_wp2_with (first | (go_at_call 13; refine hby.mono ?_; rintro e w1 ⟨t, rfl, rfl⟩; clear hby; cases t) | (go_at_call 12; refine (bc_any _ _ _ _ _ _).mono ?_; rintro e w1 ⟨rfl, hb⟩))
  all_goals
    go_ret
    refine ⟨rfl, ?_⟩
    first | exact Below.refl _ _ | exact Below.trans ‹_› (Below.mono ‹_› (Below.size ‹_›))

set_option maxRecDepth 100000 in
set_option maxHeartbeats 800000 in
theorem group (k g n s ns o : ByteArray) (w0 : k.size ≤ maxLen) (w1 : g.size ≤ maxLen) (w2 : n.size ≤ maxLen) (w3 : s.size ≤ maxLen) (w4 : ns.size ≤ maxLen) (w5 : o.size ≤ maxLen) (w : World)
    (hn : n.toList.isEmpty = false) (hu : (k.toList == [85, 115, 101, 114]) = false) (hg : (k.toList == [71, 114, 111, 117, 112]) = true) (hk : (k.toList == [83, 101, 114, 118, 105, 99, 101, 65, 99, 99, 111, 117, 110, 116]) = false) (hB : bOk k n s ns = true) (hN : bNs k n s ns = ⟨#[]⟩) (hB2 : bOk k n s o = true) (hN2 : bNs k n s o = ⟨#[]⟩) :
    Calls Try.prog 6 #[.string k, .string g, .string n, .string s, .string ns, .string o] w fun e w' => e = .returned (.bool true) ∧ Below w.heap.size w w' := by
  have hby := bytes13 k g n s ns o w w0 w1 w2 w3 w4 w5
  unfold maxLen at *
  go_enter Try.func6, Try.ntmps6
  go_wp2_with (first | (go_at_call 13; refine hby.mono ?_; rintro e w1 ⟨t, rfl, rfl⟩; clear hby; cases t) | (go_at_call 12; refine (bc_any _ _ _ _ _ _).mono ?_; rintro e w1 ⟨rfl, hb⟩))
  all_goals
    go_ret
    refine ⟨rfl, ?_⟩
    first | exact Below.refl _ _ | exact Below.trans ‹_› (Below.mono ‹_› (Below.size ‹_›))

set_option maxRecDepth 100000 in
set_option maxHeartbeats 800000 in
theorem own_ns (k g n s ns o : ByteArray) (w0 : k.size ≤ maxLen) (w1 : g.size ≤ maxLen) (w2 : n.size ≤ maxLen) (w3 : s.size ≤ maxLen) (w4 : ns.size ≤ maxLen) (w5 : o.size ≤ maxLen) (w : World)
    (hn : n.toList.isEmpty = false) (hu : (k.toList == [85, 115, 101, 114]) = false) (hg : (k.toList == [71, 114, 111, 117, 112]) = false) (hk : (k.toList == [83, 101, 114, 118, 105, 99, 101, 65, 99, 99, 111, 117, 110, 116]) = true) (hs : s.toList.isEmpty = false) (hB : bOk k n s ns = true) (hN : bNs k n s ns = s) (hB2 : bOk k n s o = true) (hN2 : bNs k n s o = s) :
    Calls Try.prog 6 #[.string k, .string g, .string n, .string s, .string ns, .string o] w fun e w' => e = .returned (.bool true) ∧ Below w.heap.size w w' := by
  have hby := bytes13 k g n s ns o w w0 w1 w2 w3 w4 w5
  unfold maxLen at *
  go_enter Try.func6, Try.ntmps6
  go_wp2_with (first | (go_at_call 13; refine hby.mono ?_; rintro e w1 ⟨t, rfl, rfl⟩; clear hby; cases t) | (go_at_call 12; refine (bc_any _ _ _ _ _ _).mono ?_; rintro e w1 ⟨rfl, hb⟩))
  all_goals
    go_ret
    refine ⟨rfl, ?_⟩
    first | exact Below.refl _ _ | exact Below.trans ‹_› (Below.mono ‹_› (Below.size ‹_›))

set_option maxRecDepth 100000 in
set_option maxHeartbeats 800000 in
theorem gap (k g n s ns o : ByteArray) (w0 : k.size ≤ maxLen) (w1 : g.size ≤ maxLen) (w2 : n.size ≤ maxLen) (w3 : s.size ≤ maxLen) (w4 : ns.size ≤ maxLen) (w5 : o.size ≤ maxLen) (w : World)
    (hn : n.toList.isEmpty = false) (hu : (k.toList == [85, 115, 101, 114]) = false) (hg : (k.toList == [71, 114, 111, 117, 112]) = false) (hk : (k.toList == [83, 101, 114, 118, 105, 99, 101, 65, 99, 99, 111, 117, 110, 116]) = true) (hs : s.toList.isEmpty = true) (hB : bOk k n s ns = !ns.toList.isEmpty) (hN : bNs k n s ns = ns) (hB2 : bOk k n s o = !o.toList.isEmpty) (hN2 : bNs k n s o = o) :
    Calls Try.prog 6 #[.string k, .string g, .string n, .string s, .string ns, .string o] w fun e w' => e = .returned (.bool true) ∧ Below w.heap.size w w' := by
  have hby := bytes13 k g n s ns o w w0 w1 w2 w3 w4 w5
  unfold maxLen at *
  go_enter Try.func6, Try.ntmps6
  go_wp2_with (first | (go_at_call 13; refine hby.mono ?_; rintro e w1 ⟨t, rfl, rfl⟩; clear hby; cases t) | (go_at_call 12; refine (bc_any _ _ _ _ _ _).mono ?_; rintro e w1 ⟨rfl, hb⟩))
  all_goals
    go_ret
    refine ⟨rfl, ?_⟩
    first | exact Below.refl _ _ | exact Below.trans ‹_› (Below.mono ‹_› (Below.size ‹_›))

set_option maxRecDepth 100000 in
set_option maxHeartbeats 800000 in
theorem other (k g n s ns o : ByteArray) (w0 : k.size ≤ maxLen) (w1 : g.size ≤ maxLen) (w2 : n.size ≤ maxLen) (w3 : s.size ≤ maxLen) (w4 : ns.size ≤ maxLen) (w5 : o.size ≤ maxLen) (w : World)
    (hn : n.toList.isEmpty = false) (hu : (k.toList == [85, 115, 101, 114]) = false) (hg : (k.toList == [71, 114, 111, 117, 112]) = false) (hk : (k.toList == [83, 101, 114, 118, 105, 99, 101, 65, 99, 99, 111, 117, 110, 116]) = false) (hB : bOk k n s ns = false) (hN : bNs k n s ns = s) (hB2 : bOk k n s o = false) (hN2 : bNs k n s o = s) :
    Calls Try.prog 6 #[.string k, .string g, .string n, .string s, .string ns, .string o] w fun e w' => e = .returned (.bool true) ∧ Below w.heap.size w w' := by
  have hby := bytes13 k g n s ns o w w0 w1 w2 w3 w4 w5
  unfold maxLen at *
  go_enter Try.func6, Try.ntmps6
  go_wp2_with (first | (go_at_call 13; refine hby.mono ?_; rintro e w1 ⟨t, rfl, rfl⟩; clear hby; cases t) | (go_at_call 12; refine (bc_any _ _ _ _ _ _).mono ?_; rintro e w1 ⟨rfl, hb⟩))
  all_goals
    go_ret
    refine ⟨rfl, ?_⟩
    first | exact Below.refl _ _ | exact Below.trans ‹_› (Below.mono ‹_› (Below.size ‹_›))

theorem walk (a0 : ByteArray) (a1 : ByteArray) (a2 : ByteArray) (a3 : ByteArray) (a4 : ByteArray) (a5 : ByteArray) (w0 : a0.size ≤ maxLen) (w1 : a1.size ≤ maxLen) (w2 : a2.size ≤ maxLen) (w3 : a3.size ≤ maxLen) (w4 : a4.size ≤ maxLen) (w5 : a5.size ≤ maxLen) (w : World) :
    Calls Try.prog 6 #[.string a0, .string a1, .string a2, .string a3, .string a4, .string a5] w fun e w' => e = .returned (.bool true) ∧ Below w.heap.size w w' := by
  by_cases hn : a2.toList.isEmpty = true
  · exact noname _ _ _ _ _ _ w0 w1 w2 w3 w4 w5 w hn (by simp only [bOk, isE, hn]; rfl) (by simp only [bNs, isE, hn]; rfl) (by simp only [bOk, isE, hn]; rfl) (by simp only [bNs, isE, hn]; rfl)
  have hn := Bool.eq_false_iff.2 hn
  by_cases hu : (a0.toList == [85, 115, 101, 114]) = true
  · exact user _ _ _ _ _ _ w0 w1 w2 w3 w4 w5 w hn hu (not_SU hu).1 (by simp only [bOk, isE, isU, hn, hu]; rfl) (by simp only [bNs, isE, isU, hn, hu]; rfl) (by simp only [bOk, isE, isU, hn, hu]; rfl) (by simp only [bNs, isE, isU, hn, hu]; rfl)
  have hu := Bool.eq_false_iff.2 hu
  by_cases hg : (a0.toList == [71, 114, 111, 117, 112]) = true
  · exact group _ _ _ _ _ _ w0 w1 w2 w3 w4 w5 w hn hu hg (not_SG hg).1 (by simp only [bOk, isE, isU, isG, hn, hu, hg]; rfl) (by simp only [bNs, isE, isU, isG, hn, hu, hg]; rfl) (by simp only [bOk, isE, isU, isG, hn, hu, hg]; rfl) (by simp only [bNs, isE, isU, isG, hn, hu, hg]; rfl)
  have hg := Bool.eq_false_iff.2 hg
  by_cases hk : (a0.toList == [83, 101, 114, 118, 105, 99, 101, 65, 99, 99, 111, 117, 110, 116]) = true
  · by_cases hs : a3.toList.isEmpty = true
    · exact gap _ _ _ _ _ _ w0 w1 w2 w3 w4 w5 w hn hu hg hk hs (by simp only [bOk, isE, isU, isG, isS, hn, hu, hg, hk, hs]; rfl) (by simp only [bNs, isE, isU, isG, isS, hn, hu, hg, hk, hs]; rfl) (by simp only [bOk, isE, isU, isG, isS, hn, hu, hg, hk, hs]; rfl) (by simp only [bNs, isE, isU, isG, isS, hn, hu, hg, hk, hs]; rfl)
    · have hs := Bool.eq_false_iff.2 hs
      exact own_ns _ _ _ _ _ _ w0 w1 w2 w3 w4 w5 w hn hu hg hk hs (by simp only [bOk, isE, isU, isG, isS, hn, hu, hg, hk, hs]; rfl) (by simp only [bNs, isE, isU, isG, isS, hn, hu, hg, hk, hs]; rfl) (by simp only [bOk, isE, isU, isG, isS, hn, hu, hg, hk, hs]; rfl) (by simp only [bNs, isE, isU, isG, isS, hn, hu, hg, hk, hs]; rfl)
  · have hk := Bool.eq_false_iff.2 hk
    exact other _ _ _ _ _ _ w0 w1 w2 w3 w4 w5 w hn hu hg hk (by simp only [bOk, isE, isU, isG, isS, hn, hu, hg, hk]; rfl) (by simp only [bNs, isE, isU, isG, isS, hn, hu, hg, hk]; rfl) (by simp only [bOk, isE, isU, isG, isS, hn, hu, hg, hk]; rfl) (by simp only [bNs, isE, isU, isG, isS, hn, hu, hg, hk]; rfl)

/-! ### THE ROW's STEP: WRITTEN OUT: LEAVE IT -/
set_option maxRecDepth 100000 in
theorem lifted (os : Os) (started : os.Started) (H : Type) (enc : TypeId × Value → H) :
    ReturnsInHanded {} Try.checked os 6 .any (Rows.fnBoundSubjectBindingNamespaceOnlyFillsAGapSpec.pre6 enc Try.prog Try.f6 Rows.fnBoundSubjectBindingNamespaceOnlyFillsAGapRow.domain false) (Rows.fnBoundSubjectBindingNamespaceOnlyFillsAGapSpec.post enc Try.prog Try.f6 false true false false) := by
  refine returnsInHanded_of_change (C := Try.checked) own started (by kernel_rfl) Try.func6
    (ChangeSpec.witness6 (enc := enc) (C := Try.checked) false ⟨#[], #[.string ByteArray.empty, .string ByteArray.empty, .string ByteArray.empty, .string ByteArray.empty, .string ByteArray.empty, .string ByteArray.empty], []⟩ 8 (by kernel_rfl) (by kernel_rfl) (by kernel_rfl) (by kernel_rfl)) ?_
  intro W base args ds gs before hval0 hW hcnd _
  have hval : ∀ (j : Nat) t v, Try.f6.params[j]? = some t → args[j]? = some v → Value.okWide Try.prog W .any base t v := hval0
  have hW' := hW
  obtain ⟨p, q, hA0, hV, rfl, hfz, hnd⟩ := hW
  have hA : DataW.TrodAll enc Try.prog W 0 (fun _ => true) true Try.f6.params.toList args.toList ds p := hA0
  rw [Try.params6] at hA hval
  obtain ⟨v0, vs0, d0, ds0, p0, q0, hargs, rfl, rfl, h0, r0⟩ := trodAll_cons hA
  obtain ⟨v1, vs1, d1, ds1, p1, q1, rfl, rfl, rfl, h1, r1⟩ := trodAll_cons r0
  obtain ⟨v2, vs2, d2, ds2, p2, q2, rfl, rfl, rfl, h2, r2⟩ := trodAll_cons r1
  obtain ⟨v3, vs3, d3, ds3, p3, q3, rfl, rfl, rfl, h3, r3⟩ := trodAll_cons r2
  obtain ⟨v4, vs4, d4, ds4, p4, q4, rfl, rfl, rfl, h4, r4⟩ := trodAll_cons r3
  obtain ⟨v5, vs5, d5, ds5, p5, q5, rfl, rfl, rfl, h5, r5⟩ := trodAll_cons r4
  obtain ⟨rfl, rfl, rfl⟩ := trodAll_nil r5
  obtain rfl : args = #[v0, v1, v2, v3, v4, v5] := by cases args; simp_all
  obtain ⟨rfl, rfl⟩ := trodVars_none hV
  obtain ⟨a0, rfl, rfl, rfl, w0⟩ := open_string Try.underlying9 (hval 0 9 v0 rfl rfl) h0
  obtain ⟨a1, rfl, rfl, rfl, w1⟩ := open_string Try.underlying9 (hval 1 9 v1 rfl rfl) h1
  obtain ⟨a2, rfl, rfl, rfl, w2⟩ := open_string Try.underlying9 (hval 2 9 v2 rfl rfl) h2
  obtain ⟨a3, rfl, rfl, rfl, w3⟩ := open_string Try.underlying9 (hval 3 9 v3 rfl rfl) h3
  obtain ⟨a4, rfl, rfl, rfl, w4⟩ := open_string Try.underlying9 (hval 4 9 v4 rfl rfl) h4
  obtain ⟨a5, rfl, rfl, rfl, w5⟩ := open_string Try.underlying9 (hval 5 9 v5 rfl rfl) h5
  clear hA0 hval0
  refine (walk a0 a1 a2 a3 a4 a5 w0 w1 w2 w3 w4 w5 W).mono fun e W' ⟨he, bel⟩ => ?_
  subst he
  exact ⟨_, rfl, _, _, _, [], [], [], hW', trodAll_mk1 (shut_bool Try.underlying4 _), (trodAll_cons_mk (shut_string Try.underlying9 w0) (trodAll_cons_mk (shut_string Try.underlying9 w1) (trodAll_cons_mk (shut_string Try.underlying9 w2) (trodAll_cons_mk (shut_string Try.underlying9 w3) (trodAll_cons_mk (shut_string Try.underlying9 w4) (trodAll_cons_mk (shut_string Try.underlying9 w5) trodAll_mk0)))))), rfl, bel.frame _, fun h => by cases h⟩

theorem over : Rows.fnBoundSubjectBindingNamespaceOnlyFillsAGapRow.holds Try.pinned (OpenSpec.ofChange Rows.fnBoundSubjectBindingNamespaceOnlyFillsAGapSpec) :=
  OpenClaim.holds_of_wide 6 Try.f6 rfl rfl rfl rfl rfl rfl rfl ⟨rfl, rfl, rfl, rfl, rfl⟩ rfl rfl rfl rfl rfl (by kernel_rfl) Try.func6 (by kernel_rfl)
    (of_decide_eq_true (by kernel_rfl)) (by unfold Func.isWrapper; first | (rw [if_pos (by decide +kernel)]; kernel_rfl) | (rw [if_neg (by decide +kernel)]; exact ⟨rfl, rfl⟩))
    (fun os started H enc _ => lifted os started H enc)

/-- ████ THE STATEMENT ████ -/
theorem proved : Rows.FnBoundSubjectBindingNamespaceOnlyFillsAGapSaid :=
  over
end Go.Proofs.Qxb6617076a.fnBoundSubjectBindingNamespaceOnlyFillsAGap
