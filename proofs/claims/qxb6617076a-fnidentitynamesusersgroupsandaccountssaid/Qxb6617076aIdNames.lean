/-
  THE PROOF OF 'Rows.FnIdentityNamesUsersGroupsAndAccountsSaid'. The frame is the guide's skeleton (proof-skeleton.mjs) at this function's number and types, its last step said by 'Below' in the place of 'Grown'; the walk is ours.
-/
import Derived.Test.Qxb6617076aRows
import Derived.Test.Qxb6617076aSubj
import Derived.Test.Qxb6617076aIdent
import Derived.WalkKit
import Derived.ProofKit
import Derived.OpenShut
import Derived.ShutString
namespace Go.Proofs.Qxb6617076a.fnIdentityNamesUsersGroupsAndAccounts
open Go.ChangeShapes Go.WideShapes Go.ChangeAt Go.RowKit
open Go.ChangeMaps (open_string shut_string)
set_option linter.unusedVariables false

theorem own : ownKnob Try.prog.godebug = none := by kernel_rfl

/-! ### What 'ZZIdentity' answers of a User. -/
theorem user_kind : isU ⟨#[85, 115, 101, 114]⟩ = true ∧ isS ⟨#[85, 115, 101, 114]⟩ = false := by
  unfold isU isS
  rw [ByteArray.toList_eq]
  decide
theorem user_no (g m s ns : ByteArray) (w : World) (hm : isE m = true) : Calls Try.prog 15 #[.string ⟨#[85, 115, 101, 114]⟩, .string g, .string m, .string s, .string ns] w fun e w' => e = .returned (.tuple #[.string ⟨#[]⟩, .bool false, .string ⟨#[]⟩, .bool false]) ∧ Below w.heap.size w w' := by
  have hB : bOk ⟨#[85, 115, 101, 114]⟩ m s ns = false := by simp only [bOk, hm]; rfl
  exact ic_is _ g m s ns w (fun h => absurd h (by rw [user_kind.2]; decide)) (by simp only [idNs, hB]; rfl) (by simp only [idG, hB]; rfl) (by simp only [idN, hB]; rfl) hB
theorem user_yes (g m s ns : ByteArray) (w : World) (hm : isE m = false) : Calls Try.prog 15 #[.string ⟨#[85, 115, 101, 114]⟩, .string g, .string m, .string s, .string ns] w fun e w' => e = .returned (.tuple #[.string ns, .bool false, .string m, .bool true]) ∧ Below w.heap.size w w' := by
  have hU := user_kind.1
  have hB : bOk ⟨#[85, 115, 101, 114]⟩ m s ns = true := by simp only [bOk, hm, hU]; rfl
  exact ic_is _ g m s ns w (fun h => absurd h (by rw [user_kind.2]; decide)) (by simp only [idNs, hB]; rfl) (by simp only [idG, hB, (not_SU hU).2]; rfl) (by simp only [idN, hB, hU]; rfl) hB
theorem sau_full (a b : ByteArray) : isE (⟨#[115, 121, 115, 116, 101, 109, 58, 115, 101, 114, 118, 105, 99, 101, 97, 99, 99, 111, 117, 110, 116, 58]⟩ ++ a ++ ⟨#[58]⟩ ++ b) = false := by
  unfold isE
  rw [ByteArray.toList_eq]
  simp [ByteArray.data_append]

/-! ### THE WALK: a theorem a case; each is handed what 'identity' answers there. -/
set_option maxRecDepth 100000 in
set_option maxHeartbeats 1600000 in
theorem noname (k g n s ns : ByteArray) (w0 : k.size ≤ maxLen) (w1 : g.size ≤ maxLen) (w2 : n.size ≤ maxLen) (w3 : s.size ≤ maxLen) (w4 : ns.size ≤ maxLen) (w : World)
    (hn : n.toList.isEmpty = true)
    (hI : idNs k n s ns = ⟨#[]⟩) (hG : idG k n s ns = false) (hN : idN k n s ns = ⟨#[]⟩) (hB : bOk k n s ns = false) :
    Calls Try.prog 7 #[.string k, .string g, .string n, .string s, .string ns] w fun e w' => e = .returned (.bool true) ∧ Below w.heap.size w w' := by
  have hby := bytes14 k g n s ns w w0 w1 w2 w3 w4
  have HI : Hid (idNs k n s ns = ⟨#[]⟩) := hI
  have HG : Hid (idG k n s ns = false) := hG
  have HN : Hid (idN k n s ns = ⟨#[]⟩) := hN
  have HO : Hid (bOk k n s ns = false) := hB
  clear hI hG hN hB
  unfold maxLen at *
  go_enter Try.func7, Try.ntmps7
  go_wp2_with fail
  refine hby.mono ?_
  rintro e w' ⟨t, rfl, rfl⟩
  clear hby
  cases t
  · go_wp2
    go_ret
    exact ⟨rfl, Below.refl _ _⟩
  go_wp2_with fail
  all_goals try (go_ret; exact ⟨rfl, Below.refl _ _⟩)
  refine (ic_is k g n s ns _ (fun _ => ⟨by omega, by omega, by omega⟩) HI.out HG.out HN.out HO.out).mono ?_
  rintro e w1 ⟨rfl, hb1⟩
  go_wp2_with fail
  refine (user_no _ _ _ _ _ hn).mono ?_
  rintro e w2 ⟨rfl, hb2⟩
  have HB2 := hb1.trans (hb2.mono hb1.size)
  clear hb1 hb2
  go_wp2
  all_goals
    go_ret
    exact ⟨rfl, HB2⟩

set_option maxRecDepth 100000 in
set_option maxHeartbeats 1600000 in
theorem user (k g n s ns : ByteArray) (w0 : k.size ≤ maxLen) (w1 : g.size ≤ maxLen) (w2 : n.size ≤ maxLen) (w3 : s.size ≤ maxLen) (w4 : ns.size ≤ maxLen) (w : World)
    (hn : n.toList.isEmpty = false) (hu : (k.toList == [85, 115, 101, 114]) = true)
    (hI : idNs k n s ns = ns) (hG : idG k n s ns = false) (hN : idN k n s ns = n) (hB : bOk k n s ns = true) :
    Calls Try.prog 7 #[.string k, .string g, .string n, .string s, .string ns] w fun e w' => e = .returned (.bool true) ∧ Below w.heap.size w w' := by
  have hby := bytes14 k g n s ns w w0 w1 w2 w3 w4
  have HI : Hid (idNs k n s ns = ns) := hI
  have HG : Hid (idG k n s ns = false) := hG
  have HN : Hid (idN k n s ns = n) := hN
  have HO : Hid (bOk k n s ns = true) := hB
  clear hI hG hN hB
  unfold maxLen at *
  go_enter Try.func7, Try.ntmps7
  go_wp2_with fail
  refine hby.mono ?_
  rintro e w' ⟨t, rfl, rfl⟩
  clear hby
  cases t
  · go_wp2
    go_ret
    exact ⟨rfl, Below.refl _ _⟩
  go_wp2_with fail
  all_goals try (go_ret; exact ⟨rfl, Below.refl _ _⟩)
  refine (ic_is k g n s ns _ (fun _ => ⟨by omega, by omega, by omega⟩) HI.out HG.out HN.out HO.out).mono ?_
  rintro e w1 ⟨rfl, hb1⟩
  go_wp2_with fail
  refine (user_yes _ _ _ _ _ hn).mono ?_
  rintro e w2 ⟨rfl, hb2⟩
  have HB2 := hb1.trans (hb2.mono hb1.size)
  clear hb1 hb2
  go_wp2
  all_goals
    go_ret
    exact ⟨rfl, HB2⟩

set_option maxRecDepth 100000 in
set_option maxHeartbeats 1600000 in
theorem group (k g n s ns : ByteArray) (w0 : k.size ≤ maxLen) (w1 : g.size ≤ maxLen) (w2 : n.size ≤ maxLen) (w3 : s.size ≤ maxLen) (w4 : ns.size ≤ maxLen) (w : World)
    (hn : n.toList.isEmpty = false) (hu : (k.toList == [85, 115, 101, 114]) = false) (hg : (k.toList == [71, 114, 111, 117, 112]) = true)
    (hI : idNs k n s ns = ns) (hG : idG k n s ns = true) (hN : idN k n s ns = n) (hB : bOk k n s ns = true) :
    Calls Try.prog 7 #[.string k, .string g, .string n, .string s, .string ns] w fun e w' => e = .returned (.bool true) ∧ Below w.heap.size w w' := by
  have hby := bytes14 k g n s ns w w0 w1 w2 w3 w4
  have HI : Hid (idNs k n s ns = ns) := hI
  have HG : Hid (idG k n s ns = true) := hG
  have HN : Hid (idN k n s ns = n) := hN
  have HO : Hid (bOk k n s ns = true) := hB
  clear hI hG hN hB
  unfold maxLen at *
  go_enter Try.func7, Try.ntmps7
  go_wp2_with fail
  refine hby.mono ?_
  rintro e w' ⟨t, rfl, rfl⟩
  clear hby
  cases t
  · go_wp2
    go_ret
    exact ⟨rfl, Below.refl _ _⟩
  go_wp2_with fail
  all_goals try (go_ret; exact ⟨rfl, Below.refl _ _⟩)
  refine (ic_is k g n s ns _ (fun _ => ⟨by omega, by omega, by omega⟩) HI.out HG.out HN.out HO.out).mono ?_
  rintro e w1 ⟨rfl, hb1⟩
  go_wp2_with fail
  refine (user_yes _ _ _ _ _ hn).mono ?_
  rintro e w2 ⟨rfl, hb2⟩
  have HB2 := hb1.trans (hb2.mono hb1.size)
  clear hb1 hb2
  go_wp2
  all_goals
    go_ret
    exact ⟨rfl, HB2⟩

set_option maxRecDepth 100000 in
set_option maxHeartbeats 1600000 in
theorem own_ns (k g n s ns : ByteArray) (w0 : k.size ≤ maxLen) (w1 : g.size ≤ maxLen) (w2 : n.size ≤ maxLen) (w3 : s.size ≤ maxLen) (w4 : ns.size ≤ maxLen) (w : World)
    (hn : n.toList.isEmpty = false) (hu : (k.toList == [85, 115, 101, 114]) = false) (hg : (k.toList == [71, 114, 111, 117, 112]) = false) (hk : (k.toList == [83, 101, 114, 118, 105, 99, 101, 65, 99, 99, 111, 117, 110, 116]) = true) (hs : s.toList.isEmpty = false)
    (hI : idNs k n s ns = ns) (hG : idG k n s ns = false) (hN : idN k n s ns = (⟨#[115, 121, 115, 116, 101, 109, 58, 115, 101, 114, 118, 105, 99, 101, 97, 99, 99, 111, 117, 110, 116, 58]⟩ ++ s ++ ⟨#[58]⟩ ++ n)) (hB : bOk k n s ns = true) :
    Calls Try.prog 7 #[.string k, .string g, .string n, .string s, .string ns] w fun e w' => e = .returned (.bool true) ∧ Below w.heap.size w w' := by
  have hby := bytes14 k g n s ns w w0 w1 w2 w3 w4
  have HI : Hid (idNs k n s ns = ns) := hI
  have HG : Hid (idG k n s ns = false) := hG
  have HN : Hid (idN k n s ns = (⟨#[115, 121, 115, 116, 101, 109, 58, 115, 101, 114, 118, 105, 99, 101, 97, 99, 99, 111, 117, 110, 116, 58]⟩ ++ s ++ ⟨#[58]⟩ ++ n)) := hN
  have HO : Hid (bOk k n s ns = true) := hB
  clear hI hG hN hB
  unfold maxLen at *
  go_enter Try.func7, Try.ntmps7
  go_wp2_with fail
  refine hby.mono ?_
  rintro e w' ⟨t, rfl, rfl⟩
  clear hby
  cases t
  · go_wp2
    go_ret
    exact ⟨rfl, Below.refl _ _⟩
  go_wp2_with fail
  all_goals try (go_ret; exact ⟨rfl, Below.refl _ _⟩)
  refine (ic_is k g n s ns _ (fun _ => ⟨by omega, by omega, by omega⟩) HI.out HG.out HN.out HO.out).mono ?_
  rintro e w1 ⟨rfl, hb1⟩
  go_wp2_with fail
  refine (user_yes _ _ _ _ _ hn).mono ?_
  rintro e w2 ⟨rfl, hb2⟩
  have HB2 := hb1.trans (hb2.mono hb1.size)
  clear hb1 hb2
  go_wp2_with fail
  refine (user_yes _ _ _ _ _ (sau_full s n)).mono ?_
  rintro e w3 ⟨rfl, hb3⟩
  go_wp2
  go_ret
  exact ⟨rfl, HB2.trans (hb3.mono HB2.size)⟩

set_option maxRecDepth 100000 in
set_option maxHeartbeats 1600000 in
theorem gap (k g n s ns : ByteArray) (w0 : k.size ≤ maxLen) (w1 : g.size ≤ maxLen) (w2 : n.size ≤ maxLen) (w3 : s.size ≤ maxLen) (w4 : ns.size ≤ maxLen) (w : World)
    (hn : n.toList.isEmpty = false) (hu : (k.toList == [85, 115, 101, 114]) = false) (hg : (k.toList == [71, 114, 111, 117, 112]) = false) (hk : (k.toList == [83, 101, 114, 118, 105, 99, 101, 65, 99, 99, 111, 117, 110, 116]) = true) (hs : s.toList.isEmpty = true) (he : ns.toList.isEmpty = false)
    (hI : idNs k n s ns = ns) (hG : idG k n s ns = false) (hN : idN k n s ns = (⟨#[115, 121, 115, 116, 101, 109, 58, 115, 101, 114, 118, 105, 99, 101, 97, 99, 99, 111, 117, 110, 116, 58]⟩ ++ ns ++ ⟨#[58]⟩ ++ n)) (hB : bOk k n s ns = true) :
    Calls Try.prog 7 #[.string k, .string g, .string n, .string s, .string ns] w fun e w' => e = .returned (.bool true) ∧ Below w.heap.size w w' := by
  have hby := bytes14 k g n s ns w w0 w1 w2 w3 w4
  have HI : Hid (idNs k n s ns = ns) := hI
  have HG : Hid (idG k n s ns = false) := hG
  have HN : Hid (idN k n s ns = (⟨#[115, 121, 115, 116, 101, 109, 58, 115, 101, 114, 118, 105, 99, 101, 97, 99, 99, 111, 117, 110, 116, 58]⟩ ++ ns ++ ⟨#[58]⟩ ++ n)) := hN
  have HO : Hid (bOk k n s ns = true) := hB
  clear hI hG hN hB
  unfold maxLen at *
  go_enter Try.func7, Try.ntmps7
  go_wp2_with fail
  refine hby.mono ?_
  rintro e w' ⟨t, rfl, rfl⟩
  clear hby
  cases t
  · go_wp2
    go_ret
    exact ⟨rfl, Below.refl _ _⟩
  go_wp2_with fail
  all_goals try (go_ret; exact ⟨rfl, Below.refl _ _⟩)
  refine (ic_is k g n s ns _ (fun _ => ⟨by omega, by omega, by omega⟩) HI.out HG.out HN.out HO.out).mono ?_
  rintro e w1 ⟨rfl, hb1⟩
  go_wp2_with fail
  refine (user_yes _ _ _ _ _ hn).mono ?_
  rintro e w2 ⟨rfl, hb2⟩
  have HB2 := hb1.trans (hb2.mono hb1.size)
  clear hb1 hb2
  go_wp2_with fail
  refine (user_yes _ _ _ _ _ (sau_full ns n)).mono ?_
  rintro e w3 ⟨rfl, hb3⟩
  go_wp2
  go_ret
  exact ⟨rfl, HB2.trans (hb3.mono HB2.size)⟩

set_option maxRecDepth 100000 in
set_option maxHeartbeats 1600000 in
theorem gap_none (k g n s ns : ByteArray) (w0 : k.size ≤ maxLen) (w1 : g.size ≤ maxLen) (w2 : n.size ≤ maxLen) (w3 : s.size ≤ maxLen) (w4 : ns.size ≤ maxLen) (w : World)
    (hn : n.toList.isEmpty = false) (hu : (k.toList == [85, 115, 101, 114]) = false) (hg : (k.toList == [71, 114, 111, 117, 112]) = false) (hk : (k.toList == [83, 101, 114, 118, 105, 99, 101, 65, 99, 99, 111, 117, 110, 116]) = true) (hs : s.toList.isEmpty = true) (he : ns.toList.isEmpty = true)
    (hI : idNs k n s ns = ⟨#[]⟩) (hG : idG k n s ns = false) (hN : idN k n s ns = ⟨#[]⟩) (hB : bOk k n s ns = false) :
    Calls Try.prog 7 #[.string k, .string g, .string n, .string s, .string ns] w fun e w' => e = .returned (.bool true) ∧ Below w.heap.size w w' := by
  have hby := bytes14 k g n s ns w w0 w1 w2 w3 w4
  have HI : Hid (idNs k n s ns = ⟨#[]⟩) := hI
  have HG : Hid (idG k n s ns = false) := hG
  have HN : Hid (idN k n s ns = ⟨#[]⟩) := hN
  have HO : Hid (bOk k n s ns = false) := hB
  clear hI hG hN hB
  unfold maxLen at *
  go_enter Try.func7, Try.ntmps7
  go_wp2_with fail
  refine hby.mono ?_
  rintro e w' ⟨t, rfl, rfl⟩
  clear hby
  cases t
  · go_wp2
    go_ret
    exact ⟨rfl, Below.refl _ _⟩
  go_wp2_with fail
  all_goals try (go_ret; exact ⟨rfl, Below.refl _ _⟩)
  refine (ic_is k g n s ns _ (fun _ => ⟨by omega, by omega, by omega⟩) HI.out HG.out HN.out HO.out).mono ?_
  rintro e w1 ⟨rfl, hb1⟩
  go_wp2_with fail
  refine (user_yes _ _ _ _ _ hn).mono ?_
  rintro e w2 ⟨rfl, hb2⟩
  have HB2 := hb1.trans (hb2.mono hb1.size)
  clear hb1 hb2
  go_wp2
  all_goals
    go_ret
    exact ⟨rfl, HB2⟩

set_option maxRecDepth 100000 in
set_option maxHeartbeats 1600000 in
theorem other (k g n s ns : ByteArray) (w0 : k.size ≤ maxLen) (w1 : g.size ≤ maxLen) (w2 : n.size ≤ maxLen) (w3 : s.size ≤ maxLen) (w4 : ns.size ≤ maxLen) (w : World)
    (hn : n.toList.isEmpty = false) (hu : (k.toList == [85, 115, 101, 114]) = false) (hg : (k.toList == [71, 114, 111, 117, 112]) = false) (hk : (k.toList == [83, 101, 114, 118, 105, 99, 101, 65, 99, 99, 111, 117, 110, 116]) = false)
    (hI : idNs k n s ns = ⟨#[]⟩) (hG : idG k n s ns = false) (hN : idN k n s ns = ⟨#[]⟩) (hB : bOk k n s ns = false) :
    Calls Try.prog 7 #[.string k, .string g, .string n, .string s, .string ns] w fun e w' => e = .returned (.bool true) ∧ Below w.heap.size w w' := by
  have hby := bytes14 k g n s ns w w0 w1 w2 w3 w4
  have HI : Hid (idNs k n s ns = ⟨#[]⟩) := hI
  have HG : Hid (idG k n s ns = false) := hG
  have HN : Hid (idN k n s ns = ⟨#[]⟩) := hN
  have HO : Hid (bOk k n s ns = false) := hB
  clear hI hG hN hB
  unfold maxLen at *
  go_enter Try.func7, Try.ntmps7
  go_wp2_with fail
  refine hby.mono ?_
  rintro e w' ⟨t, rfl, rfl⟩
  clear hby
  cases t
  · go_wp2
    go_ret
    exact ⟨rfl, Below.refl _ _⟩
  go_wp2_with fail
  all_goals try (go_ret; exact ⟨rfl, Below.refl _ _⟩)
  refine (ic_is k g n s ns _ (fun _ => ⟨by omega, by omega, by omega⟩) HI.out HG.out HN.out HO.out).mono ?_
  rintro e w1 ⟨rfl, hb1⟩
  go_wp2_with fail
  refine (user_yes _ _ _ _ _ hn).mono ?_
  rintro e w2 ⟨rfl, hb2⟩
  have HB2 := hb1.trans (hb2.mono hb1.size)
  clear hb1 hb2
  go_wp2
  all_goals
    go_ret
    exact ⟨rfl, HB2⟩

theorem walk (a0 : ByteArray) (a1 : ByteArray) (a2 : ByteArray) (a3 : ByteArray) (a4 : ByteArray) (w0 : a0.size ≤ maxLen) (w1 : a1.size ≤ maxLen) (w2 : a2.size ≤ maxLen) (w3 : a3.size ≤ maxLen) (w4 : a4.size ≤ maxLen) (w : World) :
    Calls Try.prog 7 #[.string a0, .string a1, .string a2, .string a3, .string a4] w fun e w' => e = .returned (.bool true) ∧ Below w.heap.size w w' := by
  by_cases hn : a2.toList.isEmpty = true
  · have hB : bOk a0 a2 a3 a4 = false := by simp only [bOk, isE, hn]; rfl
    exact noname _ _ _ _ _ w0 w1 w2 w3 w4 w hn (by simp only [idNs, hB]; rfl) (by simp only [idG, hB]; rfl) (by simp only [idN, hB]; rfl) hB
  have hn := Bool.eq_false_iff.2 hn
  by_cases hu : (a0.toList == [85, 115, 101, 114]) = true
  · have hB : bOk a0 a2 a3 a4 = true := by simp only [bOk, isE, isU, hn, hu]; rfl
    have hu' : isU a0 = true := hu
    exact user _ _ _ _ _ w0 w1 w2 w3 w4 w hn hu (by simp only [idNs, hB]; rfl) (by simp only [idG, hB, (not_SU hu').2]; rfl) (by simp only [idN, hB, hu']; rfl) hB
  have hu := Bool.eq_false_iff.2 hu
  have hu' : isU a0 = false := hu
  by_cases hg : (a0.toList == [71, 114, 111, 117, 112]) = true
  · have hg' : isG a0 = true := hg
    have hB : bOk a0 a2 a3 a4 = true := by simp only [bOk, isE, hn, hu', hg']; rfl
    exact group _ _ _ _ _ w0 w1 w2 w3 w4 w hn hu hg (by simp only [idNs, hB]; rfl) (by simp only [idG, hB, hg']; rfl) (by simp only [idN, hB, hu', hg']; rfl) hB
  have hg := Bool.eq_false_iff.2 hg
  have hg' : isG a0 = false := hg
  by_cases hk : (a0.toList == [83, 101, 114, 118, 105, 99, 101, 65, 99, 99, 111, 117, 110, 116]) = true
  · have hk' : isS a0 = true := hk
    by_cases hs : a3.toList.isEmpty = true
    · have hN : bNs a0 a2 a3 a4 = a4 := by simp only [bNs, isE, hu', hg', hk', hn, hs]; rfl
      by_cases he : a4.toList.isEmpty = true
      · have hB : bOk a0 a2 a3 a4 = false := by simp only [bOk, isE, hn, hu', hg', hk', hs, he]; rfl
        exact gap_none _ _ _ _ _ w0 w1 w2 w3 w4 w hn hu hg hk hs he (by simp only [idNs, hB]; rfl) (by simp only [idG, hB]; rfl) (by simp only [idN, hB]; rfl) hB
      · have he := Bool.eq_false_iff.2 he
        have hB : bOk a0 a2 a3 a4 = true := by simp only [bOk, isE, hn, hu', hg', hk', hs, he]; rfl
        exact gap _ _ _ _ _ w0 w1 w2 w3 w4 w hn hu hg hk hs he (by simp only [idNs, hB]; rfl) (by simp only [idG, hB, hg']; rfl) (by simp only [idN, hB, hu', hg', hN]; rfl) hB
    · have hs := Bool.eq_false_iff.2 hs
      have hN : bNs a0 a2 a3 a4 = a3 := by simp only [bNs, isE, hu', hg', hk', hn, hs]; rfl
      have hB : bOk a0 a2 a3 a4 = true := by simp only [bOk, isE, hn, hu', hg', hk', hs]; rfl
      exact own_ns _ _ _ _ _ w0 w1 w2 w3 w4 w hn hu hg hk hs (by simp only [idNs, hB]; rfl) (by simp only [idG, hB, hg']; rfl) (by simp only [idN, hB, hu', hg', hN]; rfl) hB
  · have hk := Bool.eq_false_iff.2 hk
    have hk' : isS a0 = false := hk
    have hB : bOk a0 a2 a3 a4 = false := by simp only [bOk, isE, hn, hu', hg', hk']; rfl
    exact other _ _ _ _ _ w0 w1 w2 w3 w4 w hn hu hg hk (by simp only [idNs, hB]; rfl) (by simp only [idG, hB]; rfl) (by simp only [idN, hB]; rfl) hB

/-! ### THE ROW's STEP: WRITTEN OUT: LEAVE IT -/
set_option maxRecDepth 100000 in
theorem lifted (os : Os) (started : os.Started) (H : Type) (enc : TypeId × Value → H) :
    ReturnsInHanded {} Try.checked os 7 .any (Rows.fnIdentityNamesUsersGroupsAndAccountsSpec.pre6 enc Try.prog Try.f7 Rows.fnIdentityNamesUsersGroupsAndAccountsRow.domain false) (Rows.fnIdentityNamesUsersGroupsAndAccountsSpec.post enc Try.prog Try.f7 false true false false) := by
  refine returnsInHanded_of_change (C := Try.checked) own started (by kernel_rfl) Try.func7
    (ChangeSpec.witness6 (enc := enc) (C := Try.checked) false ⟨#[], #[.string ByteArray.empty, .string ByteArray.empty, .string ByteArray.empty, .string ByteArray.empty, .string ByteArray.empty], []⟩ 8 (by kernel_rfl) (by kernel_rfl) (by kernel_rfl) (by kernel_rfl)) ?_
  intro W base args ds gs before hval0 hW hcnd _
  have hval : ∀ (j : Nat) t v, Try.f7.params[j]? = some t → args[j]? = some v → Value.okWide Try.prog W .any base t v := hval0
  have hW' := hW
  obtain ⟨p, q, hA0, hV, rfl, hfz, hnd⟩ := hW
  have hA : DataW.TrodAll enc Try.prog W 0 (fun _ => true) true Try.f7.params.toList args.toList ds p := hA0
  rw [Try.params7] at hA hval
  obtain ⟨v0, vs0, d0, ds0, p0, q0, hargs, rfl, rfl, h0, r0⟩ := trodAll_cons hA
  obtain ⟨v1, vs1, d1, ds1, p1, q1, rfl, rfl, rfl, h1, r1⟩ := trodAll_cons r0
  obtain ⟨v2, vs2, d2, ds2, p2, q2, rfl, rfl, rfl, h2, r2⟩ := trodAll_cons r1
  obtain ⟨v3, vs3, d3, ds3, p3, q3, rfl, rfl, rfl, h3, r3⟩ := trodAll_cons r2
  obtain ⟨v4, vs4, d4, ds4, p4, q4, rfl, rfl, rfl, h4, r4⟩ := trodAll_cons r3
  obtain ⟨rfl, rfl, rfl⟩ := trodAll_nil r4
  obtain rfl : args = #[v0, v1, v2, v3, v4] := by cases args; simp_all
  obtain ⟨rfl, rfl⟩ := trodVars_none hV
  obtain ⟨a0, rfl, rfl, rfl, w0⟩ := open_string Try.underlying9 (hval 0 9 v0 rfl rfl) h0
  obtain ⟨a1, rfl, rfl, rfl, w1⟩ := open_string Try.underlying9 (hval 1 9 v1 rfl rfl) h1
  obtain ⟨a2, rfl, rfl, rfl, w2⟩ := open_string Try.underlying9 (hval 2 9 v2 rfl rfl) h2
  obtain ⟨a3, rfl, rfl, rfl, w3⟩ := open_string Try.underlying9 (hval 3 9 v3 rfl rfl) h3
  obtain ⟨a4, rfl, rfl, rfl, w4⟩ := open_string Try.underlying9 (hval 4 9 v4 rfl rfl) h4
  clear hA0 hval0
  refine (walk a0 a1 a2 a3 a4 w0 w1 w2 w3 w4 W).mono fun e W' ⟨he, bel⟩ => ?_
  subst he
  exact ⟨_, rfl, _, _, _, [], [], [], hW', trodAll_mk1 (shut_bool Try.underlying4 _), (trodAll_cons_mk (shut_string Try.underlying9 w0) (trodAll_cons_mk (shut_string Try.underlying9 w1) (trodAll_cons_mk (shut_string Try.underlying9 w2) (trodAll_cons_mk (shut_string Try.underlying9 w3) (trodAll_cons_mk (shut_string Try.underlying9 w4) trodAll_mk0))))), rfl, bel.frame _, fun h => by cases h⟩

theorem over : Rows.fnIdentityNamesUsersGroupsAndAccountsRow.holds Try.pinned (OpenSpec.ofChange Rows.fnIdentityNamesUsersGroupsAndAccountsSpec) :=
  OpenClaim.holds_of_wide 7 Try.f7 rfl rfl rfl rfl rfl rfl rfl ⟨rfl, rfl, rfl, rfl, rfl⟩ rfl rfl rfl rfl rfl (by kernel_rfl) Try.func7 (by kernel_rfl)
    (of_decide_eq_true (by kernel_rfl)) (by unfold Func.isWrapper; first | (rw [if_pos (by decide +kernel)]; kernel_rfl) | (rw [if_neg (by decide +kernel)]; exact ⟨rfl, rfl⟩))
    (fun os started H enc _ => lifted os started H enc)

/-- ████ THE STATEMENT ████ -/
theorem proved : Rows.FnIdentityNamesUsersGroupsAndAccountsSaid :=
  over
end Go.Proofs.Qxb6617076a.fnIdentityNamesUsersGroupsAndAccounts
