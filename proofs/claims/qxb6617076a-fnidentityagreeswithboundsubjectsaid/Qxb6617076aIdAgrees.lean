/-
  THE PROOF OF 'Rows.FnIdentityAgreesWithBoundSubjectSaid'. The frame is the guide's skeleton (proof-skeleton.mjs) at this function's number and types, its last step said by 'Below' in the place of 'Grown'; the walk is ours.
-/
import Derived.Test.Qxb6617076aRows
import Derived.Test.Qxb6617076aSubj
import Derived.Test.Qxb6617076aIdent
import Derived.WalkKit
import Derived.ProofKit
import Derived.OpenShut
import Derived.ShutString
namespace Go.Proofs.Qxb6617076a.fnIdentityAgreesWithBoundSubject
open Go.ChangeShapes Go.WideShapes Go.ChangeAt Go.RowKit
open Go.ChangeMaps (open_string shut_string)
set_option linter.unusedVariables false

theorem own : ownKnob Try.prog.godebug = none := by kernel_rfl

/-! ### THE WALK: a theorem a case; each is handed what 'boundSubject' and 'identity' answer there. -/
set_option maxRecDepth 100000 in
set_option maxHeartbeats 1600000 in
theorem noname (k g n s ns o : ByteArray) (w0 : k.size ≤ maxLen) (w1 : g.size ≤ maxLen) (w2 : n.size ≤ maxLen) (w3 : s.size ≤ maxLen) (w4 : ns.size ≤ maxLen) (w5 : o.size ≤ maxLen) (w : World)
    (hn : n.toList.isEmpty = true) (hB : bOk k n s ns = false) :
    Calls Try.prog 8 #[.string k, .string g, .string n, .string s, .string ns, .string o] w fun e w' => e = .returned (.bool true) ∧ Below w.heap.size w w' := by
  have hby := bytes16 k g n s ns o w w0 w1 w2 w3 w4 w5
  have HO : Hid (bOk k n s ns = false) := hB
  have HI : Hid (idNs k n s ns = ⟨#[]⟩) := by show idNs k n s ns = ⟨#[]⟩; simp only [idNs, hB]; rfl
  have HG : Hid (idG k n s ns = false) := by show idG k n s ns = false; simp only [idG, hB]; rfl
  have HN : Hid (idN k n s ns = ⟨#[]⟩) := by show idN k n s ns = ⟨#[]⟩; simp only [idN, hB]; rfl
  unfold maxLen at *
  go_enter Try.func8, Try.ntmps8
  go_wp2_with fail
  refine hby.mono ?_
  rintro e w' ⟨t, rfl, rfl⟩
  clear hby
  cases t
  · go_wp2
    go_ret
    exact ⟨rfl, Below.refl _ _⟩
  go_wp2_with fail
  all_goals try (go_ret; exact ⟨rfl, Below.refl _ _⟩)
  refine (bc_any _ _ _ _ _ _).mono ?_
  rintro e w1 ⟨rfl, hb1⟩
  go_wp2_with fail
  refine (ic_is k g n s ns _ (fun _ => ⟨by omega, by omega, by omega⟩) HI.out HG.out HN.out HO.out).mono ?_
  rintro e w2 ⟨rfl, hb2⟩
  go_wp2
  go_ret
  exact ⟨rfl, hb1.trans (hb2.mono hb1.size)⟩

set_option maxRecDepth 100000 in
set_option maxHeartbeats 1600000 in
theorem other (k g n s ns o : ByteArray) (w0 : k.size ≤ maxLen) (w1 : g.size ≤ maxLen) (w2 : n.size ≤ maxLen) (w3 : s.size ≤ maxLen) (w4 : ns.size ≤ maxLen) (w5 : o.size ≤ maxLen) (w : World)
    (hn : n.toList.isEmpty = false) (hu : (k.toList == [85, 115, 101, 114]) = false) (hg : (k.toList == [71, 114, 111, 117, 112]) = false) (hB : bOk k n s ns = false) :
    Calls Try.prog 8 #[.string k, .string g, .string n, .string s, .string ns, .string o] w fun e w' => e = .returned (.bool true) ∧ Below w.heap.size w w' := by
  have hby := bytes16 k g n s ns o w w0 w1 w2 w3 w4 w5
  have HO : Hid (bOk k n s ns = false) := hB
  have HI : Hid (idNs k n s ns = ⟨#[]⟩) := by show idNs k n s ns = ⟨#[]⟩; simp only [idNs, hB]; rfl
  have HG : Hid (idG k n s ns = false) := by show idG k n s ns = false; simp only [idG, hB]; rfl
  have HN : Hid (idN k n s ns = ⟨#[]⟩) := by show idN k n s ns = ⟨#[]⟩; simp only [idN, hB]; rfl
  unfold maxLen at *
  go_enter Try.func8, Try.ntmps8
  go_wp2_with fail
  refine hby.mono ?_
  rintro e w' ⟨t, rfl, rfl⟩
  clear hby
  cases t
  · go_wp2
    go_ret
    exact ⟨rfl, Below.refl _ _⟩
  go_wp2_with fail
  all_goals try (go_ret; exact ⟨rfl, Below.refl _ _⟩)
  refine (bc_any _ _ _ _ _ _).mono ?_
  rintro e w1 ⟨rfl, hb1⟩
  go_wp2_with fail
  refine (ic_is k g n s ns _ (fun _ => ⟨by omega, by omega, by omega⟩) HI.out HG.out HN.out HO.out).mono ?_
  rintro e w2 ⟨rfl, hb2⟩
  go_wp2
  go_ret
  exact ⟨rfl, hb1.trans (hb2.mono hb1.size)⟩

set_option maxRecDepth 100000 in
set_option maxHeartbeats 1600000 in
theorem acc_user (k g n s ns o : ByteArray) (x N : ByteArray) (gb : Bool) (w0 : k.size ≤ maxLen) (w1 : g.size ≤ maxLen) (w2 : n.size ≤ maxLen) (w3 : s.size ≤ maxLen) (w4 : ns.size ≤ maxLen) (w5 : o.size ≤ maxLen) (w : World)
    (hn : n.toList.isEmpty = false) (hu : (k.toList == [85, 115, 101, 114]) = true)
    (hS : bNs k n s ns = x) (hB : bOk k n s ns = true) (iG : idG k n s ns = gb) (iN : idN k n s ns = N)
    (jB : bOk k n x ns = true) (jG : idG k n x ns = gb) (jN : idN k n x ns = N) (lB : bOk k n x o = true) (lG : idG k n x o = gb) (lN : idN k n x o = N) :
    Calls Try.prog 8 #[.string k, .string g, .string n, .string s, .string ns, .string o] w fun e w' => e = .returned (.bool true) ∧ Below w.heap.size w w' := by
  have hby := bytes16 k g n s ns o w w0 w1 w2 w3 w4 w5
  have HS : Hid (bNs k n s ns = x) := hS
  have IB : Hid (bOk k n s ns = true) := hB
  have II : Hid (idNs k n s ns = ns) := by show idNs k n s ns = ns; simp only [idNs, hB]; rfl
  have IG : Hid (idG k n s ns = gb) := iG
  have IN : Hid (idN k n s ns = N) := iN
  have JB : Hid (bOk k n x ns = true) := jB
  have JI : Hid (idNs k n x ns = ns) := by show idNs k n x ns = ns; simp only [idNs, jB]; rfl
  have JG : Hid (idG k n x ns = gb) := jG
  have JN : Hid (idN k n x ns = N) := jN
  have LB : Hid (bOk k n x o = true) := lB
  have LI : Hid (idNs k n x o = o) := by show idNs k n x o = o; simp only [idNs, lB]; rfl
  have LG : Hid (idG k n x o = gb) := lG
  have LN : Hid (idN k n x o = N) := lN
  clear iG iN jB jG jN lB lG lN
  unfold maxLen at *
  go_enter Try.func8, Try.ntmps8
  go_wp2_with fail
  refine hby.mono ?_
  rintro e w' ⟨t, rfl, rfl⟩
  clear hby
  cases t
  · go_wp2
    go_ret
    exact ⟨rfl, Below.refl _ _⟩
  go_wp2_with fail
  all_goals try (go_ret; exact ⟨rfl, Below.refl _ _⟩)
  refine (bc_any _ _ _ _ _ _).mono ?_
  rintro e w1 ⟨rfl, hb1⟩
  clear hB
  go_wp2_with fail
  refine (ic_is k g n s ns _ (fun _ => ⟨by omega, by omega, by omega⟩) II.out IG.out IN.out IB.out).mono ?_
  rintro e w2 ⟨rfl, hb2⟩
  have HB2 := hb1.trans (hb2.mono hb1.size)
  clear hb1 hb2
  have hxs : x.size ≤ 1048576 := by rw [← HS.out]; exact bNs_size (by omega) (by omega)
  have hB := IB.out
  go_wp2_with fail
  refine (ic_is k g n x ns _ (fun _ => ⟨by omega, by omega, by omega⟩) JI.out JG.out JN.out JB.out).mono ?_
  rintro e w6 ⟨rfl, hb6⟩
  have HB6 := HB2.trans (hb6.mono HB2.size)
  clear hb6 HB2
  go_wp2_with fail
  refine (ic_is k g n x o _ (fun _ => ⟨by omega, by omega, by omega⟩) LI.out LG.out LN.out LB.out).mono ?_
  rintro e w7 ⟨rfl, hb7⟩
  go_wp2
  go_ret
  exact ⟨rfl, HB6.trans (hb7.mono HB6.size)⟩

set_option maxRecDepth 100000 in
set_option maxHeartbeats 1600000 in
theorem acc_group (k g n s ns o : ByteArray) (x N : ByteArray) (gb : Bool) (w0 : k.size ≤ maxLen) (w1 : g.size ≤ maxLen) (w2 : n.size ≤ maxLen) (w3 : s.size ≤ maxLen) (w4 : ns.size ≤ maxLen) (w5 : o.size ≤ maxLen) (w : World)
    (hn : n.toList.isEmpty = false) (hu : (k.toList == [85, 115, 101, 114]) = false) (hg : (k.toList == [71, 114, 111, 117, 112]) = true)
    (hS : bNs k n s ns = x) (hB : bOk k n s ns = true) (iG : idG k n s ns = gb) (iN : idN k n s ns = N)
    (jB : bOk k n x ns = true) (jG : idG k n x ns = gb) (jN : idN k n x ns = N) (lB : bOk k n x o = true) (lG : idG k n x o = gb) (lN : idN k n x o = N) :
    Calls Try.prog 8 #[.string k, .string g, .string n, .string s, .string ns, .string o] w fun e w' => e = .returned (.bool true) ∧ Below w.heap.size w w' := by
  have hby := bytes16 k g n s ns o w w0 w1 w2 w3 w4 w5
  have HS : Hid (bNs k n s ns = x) := hS
  have IB : Hid (bOk k n s ns = true) := hB
  have II : Hid (idNs k n s ns = ns) := by show idNs k n s ns = ns; simp only [idNs, hB]; rfl
  have IG : Hid (idG k n s ns = gb) := iG
  have IN : Hid (idN k n s ns = N) := iN
  have JB : Hid (bOk k n x ns = true) := jB
  have JI : Hid (idNs k n x ns = ns) := by show idNs k n x ns = ns; simp only [idNs, jB]; rfl
  have JG : Hid (idG k n x ns = gb) := jG
  have JN : Hid (idN k n x ns = N) := jN
  have LB : Hid (bOk k n x o = true) := lB
  have LI : Hid (idNs k n x o = o) := by show idNs k n x o = o; simp only [idNs, lB]; rfl
  have LG : Hid (idG k n x o = gb) := lG
  have LN : Hid (idN k n x o = N) := lN
  clear iG iN jB jG jN lB lG lN
  unfold maxLen at *
  go_enter Try.func8, Try.ntmps8
  go_wp2_with fail
  refine hby.mono ?_
  rintro e w' ⟨t, rfl, rfl⟩
  clear hby
  cases t
  · go_wp2
    go_ret
    exact ⟨rfl, Below.refl _ _⟩
  go_wp2_with fail
  all_goals try (go_ret; exact ⟨rfl, Below.refl _ _⟩)
  refine (bc_any _ _ _ _ _ _).mono ?_
  rintro e w1 ⟨rfl, hb1⟩
  clear hB
  go_wp2_with fail
  refine (ic_is k g n s ns _ (fun _ => ⟨by omega, by omega, by omega⟩) II.out IG.out IN.out IB.out).mono ?_
  rintro e w2 ⟨rfl, hb2⟩
  have HB2 := hb1.trans (hb2.mono hb1.size)
  clear hb1 hb2
  have hxs : x.size ≤ 1048576 := by rw [← HS.out]; exact bNs_size (by omega) (by omega)
  have hB := IB.out
  go_wp2_with fail
  refine (ic_is k g n x ns _ (fun _ => ⟨by omega, by omega, by omega⟩) JI.out JG.out JN.out JB.out).mono ?_
  rintro e w6 ⟨rfl, hb6⟩
  have HB6 := HB2.trans (hb6.mono HB2.size)
  clear hb6 HB2
  go_wp2_with fail
  refine (ic_is k g n x o _ (fun _ => ⟨by omega, by omega, by omega⟩) LI.out LG.out LN.out LB.out).mono ?_
  rintro e w7 ⟨rfl, hb7⟩
  go_wp2
  go_ret
  exact ⟨rfl, HB6.trans (hb7.mono HB6.size)⟩

set_option maxRecDepth 100000 in
set_option maxHeartbeats 1600000 in
theorem acc_sa (k g n s ns o : ByteArray) (x N : ByteArray) (gb : Bool) (w0 : k.size ≤ maxLen) (w1 : g.size ≤ maxLen) (w2 : n.size ≤ maxLen) (w3 : s.size ≤ maxLen) (w4 : ns.size ≤ maxLen) (w5 : o.size ≤ maxLen) (w : World)
    (hn : n.toList.isEmpty = false) (hu : (k.toList == [85, 115, 101, 114]) = false) (hg : (k.toList == [71, 114, 111, 117, 112]) = false)
    (hS : bNs k n s ns = x) (hB : bOk k n s ns = true) (iG : idG k n s ns = gb) (iN : idN k n s ns = N)
    (jB : bOk k n x ns = true) (jG : idG k n x ns = gb) (jN : idN k n x ns = N) (lB : bOk k n x o = true) (lG : idG k n x o = gb) (lN : idN k n x o = N) :
    Calls Try.prog 8 #[.string k, .string g, .string n, .string s, .string ns, .string o] w fun e w' => e = .returned (.bool true) ∧ Below w.heap.size w w' := by
  have hby := bytes16 k g n s ns o w w0 w1 w2 w3 w4 w5
  have HS : Hid (bNs k n s ns = x) := hS
  have IB : Hid (bOk k n s ns = true) := hB
  have II : Hid (idNs k n s ns = ns) := by show idNs k n s ns = ns; simp only [idNs, hB]; rfl
  have IG : Hid (idG k n s ns = gb) := iG
  have IN : Hid (idN k n s ns = N) := iN
  have JB : Hid (bOk k n x ns = true) := jB
  have JI : Hid (idNs k n x ns = ns) := by show idNs k n x ns = ns; simp only [idNs, jB]; rfl
  have JG : Hid (idG k n x ns = gb) := jG
  have JN : Hid (idN k n x ns = N) := jN
  have LB : Hid (bOk k n x o = true) := lB
  have LI : Hid (idNs k n x o = o) := by show idNs k n x o = o; simp only [idNs, lB]; rfl
  have LG : Hid (idG k n x o = gb) := lG
  have LN : Hid (idN k n x o = N) := lN
  clear iG iN jB jG jN lB lG lN
  unfold maxLen at *
  go_enter Try.func8, Try.ntmps8
  go_wp2_with fail
  refine hby.mono ?_
  rintro e w' ⟨t, rfl, rfl⟩
  clear hby
  cases t
  · go_wp2
    go_ret
    exact ⟨rfl, Below.refl _ _⟩
  go_wp2_with fail
  all_goals try (go_ret; exact ⟨rfl, Below.refl _ _⟩)
  refine (bc_any _ _ _ _ _ _).mono ?_
  rintro e w1 ⟨rfl, hb1⟩
  clear hB
  go_wp2_with fail
  refine (ic_is k g n s ns _ (fun _ => ⟨by omega, by omega, by omega⟩) II.out IG.out IN.out IB.out).mono ?_
  rintro e w2 ⟨rfl, hb2⟩
  have HB2 := hb1.trans (hb2.mono hb1.size)
  clear hb1 hb2
  have hxs : x.size ≤ 1048576 := by rw [← HS.out]; exact bNs_size (by omega) (by omega)
  have hB := IB.out
  go_wp2_with fail
  refine (ic_is k g n x ns _ (fun _ => ⟨by omega, by omega, by omega⟩) JI.out JG.out JN.out JB.out).mono ?_
  rintro e w6 ⟨rfl, hb6⟩
  have HB6 := HB2.trans (hb6.mono HB2.size)
  clear hb6 HB2
  go_wp2_with fail
  refine (ic_is k g n x o _ (fun _ => ⟨by omega, by omega, by omega⟩) LI.out LG.out LN.out LB.out).mono ?_
  rintro e w7 ⟨rfl, hb7⟩
  go_wp2
  go_ret
  exact ⟨rfl, HB6.trans (hb7.mono HB6.size)⟩

/-! ### What the plain functions answer. -/
theorem plain_user {k n : ByteArray} (hn : isE n = false) (hu : isU k = true) (s ns : ByteArray) : bNs k n s ns = ⟨#[]⟩ ∧ bOk k n s ns = true ∧ idG k n s ns = false ∧ idN k n s ns = n := by
  have hB : bOk k n s ns = true := by simp only [bOk, hn, hu]; rfl
  exact ⟨by simp only [bNs, hn, hu]; rfl, hB, by simp only [idG, hB, (not_SU hu).2]; rfl, by simp only [idN, hB, hu]; rfl⟩
theorem plain_group {k n : ByteArray} (hn : isE n = false) (hg : isG k = true) (s ns : ByteArray) : bNs k n s ns = ⟨#[]⟩ ∧ bOk k n s ns = true ∧ idG k n s ns = true ∧ idN k n s ns = n := by
  have hu := (not_SG hg).2
  have hB : bOk k n s ns = true := by simp only [bOk, hn, hu, hg]; rfl
  exact ⟨by simp only [bNs, hn, hu, hg]; rfl, hB, by simp only [idG, hB, hg]; rfl, by simp only [idN, hB, hu, hg]; rfl⟩
theorem plain_own {k n s : ByteArray} (hn : isE n = false) (hu : isU k = false) (hg : isG k = false) (hk : isS k = true) (hs : isE s = false) (ns : ByteArray) : bNs k n s ns = s ∧ bOk k n s ns = true ∧ idG k n s ns = false ∧ idN k n s ns = sau s n := by
  have hB : bOk k n s ns = true := by simp only [bOk, hn, hu, hg, hk, hs]; rfl
  have hN : bNs k n s ns = s := by simp only [bNs, hn, hu, hg, hk, hs]; rfl
  exact ⟨hN, hB, by simp only [idG, hB, hg]; rfl, by simp only [idN, hB, hu, hg, hN]; rfl⟩
theorem plain_gap {k n s ns : ByteArray} (hn : isE n = false) (hu : isU k = false) (hg : isG k = false) (hk : isS k = true) (hs : isE s = true) (he : isE ns = false) : bNs k n s ns = ns ∧ bOk k n s ns = true ∧ idG k n s ns = false ∧ idN k n s ns = sau ns n := by
  have hB : bOk k n s ns = true := by simp only [bOk, hn, hu, hg, hk, hs, he]; rfl
  have hN : bNs k n s ns = ns := by simp only [bNs, hn, hu, hg, hk, hs]; rfl
  exact ⟨hN, hB, by simp only [idG, hB, hg]; rfl, by simp only [idN, hB, hu, hg, hN]; rfl⟩

theorem walk (a0 : ByteArray) (a1 : ByteArray) (a2 : ByteArray) (a3 : ByteArray) (a4 : ByteArray) (a5 : ByteArray) (w0 : a0.size ≤ maxLen) (w1 : a1.size ≤ maxLen) (w2 : a2.size ≤ maxLen) (w3 : a3.size ≤ maxLen) (w4 : a4.size ≤ maxLen) (w5 : a5.size ≤ maxLen) (w : World) :
    Calls Try.prog 8 #[.string a0, .string a1, .string a2, .string a3, .string a4, .string a5] w fun e w' => e = .returned (.bool true) ∧ Below w.heap.size w w' := by
  cases hn : isE a2
  rotate_left
  · exact noname _ _ _ _ _ _ w0 w1 w2 w3 w4 w5 w hn (by simp only [bOk, hn]; rfl)
  cases hu : isU a0
  rotate_left
  · have p := plain_user hn hu a3 a4
    have q := plain_user hn hu ⟨#[]⟩ a4
    have r := plain_user hn hu ⟨#[]⟩ a5
    exact acc_user _ _ _ _ _ _ _ _ _ w0 w1 w2 w3 w4 w5 w hn hu p.1 p.2.1 p.2.2.1 p.2.2.2 q.2.1 q.2.2.1 q.2.2.2 r.2.1 r.2.2.1 r.2.2.2
  cases hg : isG a0
  rotate_left
  · have p := plain_group hn hg a3 a4
    have q := plain_group hn hg ⟨#[]⟩ a4
    have r := plain_group hn hg ⟨#[]⟩ a5
    exact acc_group _ _ _ _ _ _ _ _ _ w0 w1 w2 w3 w4 w5 w hn hu hg p.1 p.2.1 p.2.2.1 p.2.2.2 q.2.1 q.2.2.1 q.2.2.2 r.2.1 r.2.2.1 r.2.2.2
  cases hk : isS a0
  · exact other _ _ _ _ _ _ w0 w1 w2 w3 w4 w5 w hn hu hg (by simp only [bOk, hn, hu, hg, hk]; rfl)
  cases hs : isE a3
  · have p := plain_own hn hu hg hk hs a4
    have r := plain_own hn hu hg hk hs a5
    exact acc_sa _ _ _ _ _ _ _ _ _ w0 w1 w2 w3 w4 w5 w hn hu hg p.1 p.2.1 p.2.2.1 p.2.2.2 p.2.1 p.2.2.1 p.2.2.2 r.2.1 r.2.2.1 r.2.2.2
  cases he : isE a4
  · have p := plain_gap hn hu hg hk hs he
    have q := plain_own hn hu hg hk he a4
    have r := plain_own hn hu hg hk he a5
    exact acc_sa _ _ _ _ _ _ _ _ _ w0 w1 w2 w3 w4 w5 w hn hu hg p.1 p.2.1 p.2.2.1 p.2.2.2 q.2.1 q.2.2.1 q.2.2.2 r.2.1 r.2.2.1 r.2.2.2
  · exact other _ _ _ _ _ _ w0 w1 w2 w3 w4 w5 w hn hu hg (by simp only [bOk, hn, hu, hg, hk, hs, he]; rfl)

/-! ### THE ROW's STEP: WRITTEN OUT: LEAVE IT -/
set_option maxRecDepth 100000 in
theorem lifted (os : Os) (started : os.Started) (H : Type) (enc : TypeId × Value → H) :
    ReturnsInHanded {} Try.checked os 8 .any (Rows.fnIdentityAgreesWithBoundSubjectSpec.pre6 enc Try.prog Try.f8 Rows.fnIdentityAgreesWithBoundSubjectRow.domain false) (Rows.fnIdentityAgreesWithBoundSubjectSpec.post enc Try.prog Try.f8 false true false false) := by
  refine returnsInHanded_of_change (C := Try.checked) own started (by kernel_rfl) Try.func8
    (ChangeSpec.witness6 (enc := enc) (C := Try.checked) false ⟨#[], #[.string ByteArray.empty, .string ByteArray.empty, .string ByteArray.empty, .string ByteArray.empty, .string ByteArray.empty, .string ByteArray.empty], []⟩ 8 (by kernel_rfl) (by kernel_rfl) (by kernel_rfl) (by kernel_rfl)) ?_
  intro W base args ds gs before hval0 hW hcnd _
  have hval : ∀ (j : Nat) t v, Try.f8.params[j]? = some t → args[j]? = some v → Value.okWide Try.prog W .any base t v := hval0
  have hW' := hW
  obtain ⟨p, q, hA0, hV, rfl, hfz, hnd⟩ := hW
  have hA : DataW.TrodAll enc Try.prog W 0 (fun _ => true) true Try.f8.params.toList args.toList ds p := hA0
  rw [Try.params8] at hA hval
  obtain ⟨v0, vs0, d0, ds0, p0, q0, hargs, rfl, rfl, h0, r0⟩ := trodAll_cons hA
  obtain ⟨v1, vs1, d1, ds1, p1, q1, rfl, rfl, rfl, h1, r1⟩ := trodAll_cons r0
  obtain ⟨v2, vs2, d2, ds2, p2, q2, rfl, rfl, rfl, h2, r2⟩ := trodAll_cons r1
  obtain ⟨v3, vs3, d3, ds3, p3, q3, rfl, rfl, rfl, h3, r3⟩ := trodAll_cons r2
  obtain ⟨v4, vs4, d4, ds4, p4, q4, rfl, rfl, rfl, h4, r4⟩ := trodAll_cons r3
  obtain ⟨v5, vs5, d5, ds5, p5, q5, rfl, rfl, rfl, h5, r5⟩ := trodAll_cons r4
  obtain ⟨rfl, rfl, rfl⟩ := trodAll_nil r5
  obtain rfl : args = #[v0, v1, v2, v3, v4, v5] := by cases args; simp_all
  obtain ⟨rfl, rfl⟩ := trodVars_none hV
  obtain ⟨a0, rfl, rfl, rfl, w0⟩ := open_string Try.underlying9 (hval 0 9 v0 rfl rfl) h0
  obtain ⟨a1, rfl, rfl, rfl, w1⟩ := open_string Try.underlying9 (hval 1 9 v1 rfl rfl) h1
  obtain ⟨a2, rfl, rfl, rfl, w2⟩ := open_string Try.underlying9 (hval 2 9 v2 rfl rfl) h2
  obtain ⟨a3, rfl, rfl, rfl, w3⟩ := open_string Try.underlying9 (hval 3 9 v3 rfl rfl) h3
  obtain ⟨a4, rfl, rfl, rfl, w4⟩ := open_string Try.underlying9 (hval 4 9 v4 rfl rfl) h4
  obtain ⟨a5, rfl, rfl, rfl, w5⟩ := open_string Try.underlying9 (hval 5 9 v5 rfl rfl) h5
  clear hA0 hval0
  refine (walk a0 a1 a2 a3 a4 a5 w0 w1 w2 w3 w4 w5 W).mono fun e W' ⟨he, bel⟩ => ?_
  subst he
  exact ⟨_, rfl, _, _, _, [], [], [], hW', trodAll_mk1 (shut_bool Try.underlying4 _), (trodAll_cons_mk (shut_string Try.underlying9 w0) (trodAll_cons_mk (shut_string Try.underlying9 w1) (trodAll_cons_mk (shut_string Try.underlying9 w2) (trodAll_cons_mk (shut_string Try.underlying9 w3) (trodAll_cons_mk (shut_string Try.underlying9 w4) (trodAll_cons_mk (shut_string Try.underlying9 w5) trodAll_mk0)))))), rfl, bel.frame _, fun h => by cases h⟩

theorem over : Rows.fnIdentityAgreesWithBoundSubjectRow.holds Try.pinned (OpenSpec.ofChange Rows.fnIdentityAgreesWithBoundSubjectSpec) :=
  OpenClaim.holds_of_wide 8 Try.f8 rfl rfl rfl rfl rfl rfl rfl ⟨rfl, rfl, rfl, rfl, rfl⟩ rfl rfl rfl rfl rfl (by kernel_rfl) Try.func8 (by kernel_rfl)
    (of_decide_eq_true (by kernel_rfl)) (by unfold Func.isWrapper; first | (rw [if_pos (by decide +kernel)]; kernel_rfl) | (rw [if_neg (by decide +kernel)]; exact ⟨rfl, rfl⟩))
    (fun os started H enc _ => lifted os started H enc)

/-- ████ THE STATEMENT ████ -/
theorem proved : Rows.FnIdentityAgreesWithBoundSubjectSaid :=
  over
end Go.Proofs.Qxb6617076a.fnIdentityAgreesWithBoundSubject
