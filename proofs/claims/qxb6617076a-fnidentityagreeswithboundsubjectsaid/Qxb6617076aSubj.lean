/-
  THE CONTRACTS of 'rbac.boundSubject' (18) and 'rbac.ZZBoundSubject' (12), and the plain functions that they compute. No law is claimed here.
-/
import Derived.Test.Qxb6617076aRows
import Derived.WalkKit
import Derived.ProofKit
import Derived.OpenShut
import Derived.ShutString
import Derived.Handy
import Derived.RegionTactic
import Derived.ChangeAlike
import Derived.Deep.QuietTactic
import Derived.BigQuiet
import Derived.WalkSmall
namespace Go.Proofs.Qxb6617076a
open Go.RowKit

/-- Is it "User"? "Group"? "ServiceAccount"? Is it empty? -/
def isU (k : ByteArray) : Bool := k.toList == [85, 115, 101, 114]
def isG (k : ByteArray) : Bool := k.toList == [71, 114, 111, 117, 112]
def isS (k : ByteArray) : Bool := k.toList == [83, 101, 114, 118, 105, 99, 101, 65, 99, 99, 111, 117, 110, 116]
def isE (k : ByteArray) : Bool := k.toList.isEmpty

/-- The namespace that 'boundSubject' answers, and whether it accepts. -/
def bNs (k n s ns : ByteArray) : ByteArray :=
  bif isE n then s else bif isU k || isG k then ⟨#[]⟩ else bif isS k && isE s then ns else s
def bOk (k n s ns : ByteArray) : Bool :=
  !isE n && (isU k || isG k || (isS k && !(isE s && isE ns)))

theorem not_SU {k : ByteArray} (h : isU k = true) : isS k = false ∧ isG k = false := by
  unfold isU at h; unfold isS isG
  have e : k.toList = [85, 115, 101, 114] := by simpa using h
  rw [e]; decide
theorem not_SG {k : ByteArray} (h : isG k = true) : isS k = false ∧ isU k = false := by
  unfold isG at h; unfold isS isU
  have e : k.toList = [71, 114, 111, 117, 112] := by simpa using h
  rw [e]; decide

def BsPost (k g n s ns : ByteArray) (w : World) (e : Ending) (w' : World) : Prop :=
  e = .returned (.tuple #[.agg #[.string k, .string g, .string n, .string (bNs k n s ns)], .bool (bOk k n s ns)]) ∧ Below w.heap.size w w'

theorem bsPost_mk {k g n s ns : ByteArray} {w w' : World} {x : ByteArray} {b : Bool} (hx : bNs k n s ns = x) (hb : bOk k n s ns = b) (h : Below w.heap.size w w') :
    BsPost k g n s ns w (.returned (.tuple #[.agg #[.string k, .string g, .string n, .string x], .bool b])) w' := by
  subst hx hb; exact ⟨rfl, h⟩

set_option maxHeartbeats 400000 in
theorem bs_noname (k g n s ns : ByteArray) (w : World) (hn : n.toList.isEmpty = true) :
    Calls Try.prog 18 #[.agg #[.string k, .string g, .string n, .string s], .string ns] w (BsPost k g n s ns w) := by
  go_enter Try.func18, Try.ntmps18
  go_wp2
  go_returns
  refine bsPost_mk (by simp [bNs, isE, hn]) (by simp [bOk, isE, hn]) ?_
  go_grown

set_option maxHeartbeats 400000 in
theorem bs_user (k g n s ns : ByteArray) (w : World) (hn : n.toList.isEmpty = false) (hk : (k.toList == [85, 115, 101, 114]) = true) :
    Calls Try.prog 18 #[.agg #[.string k, .string g, .string n, .string s], .string ns] w (BsPost k g n s ns w) := by
  go_enter Try.func18, Try.ntmps18
  go_wp2
  go_returns
  refine bsPost_mk (by simp only [bNs, isE, isU, hn, hk]; rfl) (by simp only [bOk, isE, isU, hn, hk]; rfl) ?_
  go_grown

set_option maxHeartbeats 400000 in
theorem bs_group (k g n s ns : ByteArray) (w : World) (hn : n.toList.isEmpty = false) (hu : (k.toList == [85, 115, 101, 114]) = false) (hk : (k.toList == [71, 114, 111, 117, 112]) = true) :
    Calls Try.prog 18 #[.agg #[.string k, .string g, .string n, .string s], .string ns] w (BsPost k g n s ns w) := by
  go_enter Try.func18, Try.ntmps18
  go_wp2
  go_returns
  refine bsPost_mk (by simp only [bNs, isE, isU, isG, hn, hk, hu]; rfl) (by simp only [bOk, isE, isU, isG, hn, hk, hu]; rfl) ?_
  go_grown

set_option maxHeartbeats 400000 in
theorem bs_sa_own (k g n s ns : ByteArray) (w : World) (hn : n.toList.isEmpty = false) (hu : (k.toList == [85, 115, 101, 114]) = false) (hg : (k.toList == [71, 114, 111, 117, 112]) = false)
    (hk : (k.toList == [83, 101, 114, 118, 105, 99, 101, 65, 99, 99, 111, 117, 110, 116]) = true) (hs : s.toList.isEmpty = false) :
    Calls Try.prog 18 #[.agg #[.string k, .string g, .string n, .string s], .string ns] w (BsPost k g n s ns w) := by
  go_enter Try.func18, Try.ntmps18
  go_wp2
  go_region
  all_goals
    go_wp2
    go_returns
    refine bsPost_mk (by simp only [bNs, isE, isU, isG, isS, hn, hk, hu, hg, hs]; rfl) (by simp only [bOk, isE, isU, isG, isS, hn, hk, hu, hg, hs]; rfl) ?_
    go_grown

set_option maxHeartbeats 400000 in
theorem bs_sa_gap (k g n s ns : ByteArray) (w : World) (hn : n.toList.isEmpty = false) (hu : (k.toList == [85, 115, 101, 114]) = false) (hg : (k.toList == [71, 114, 111, 117, 112]) = false)
    (hk : (k.toList == [83, 101, 114, 118, 105, 99, 101, 65, 99, 99, 111, 117, 110, 116]) = true) (hs : s.toList.isEmpty = true) :
    Calls Try.prog 18 #[.agg #[.string k, .string g, .string n, .string s], .string ns] w (BsPost k g n s ns w) := by
  go_enter Try.func18, Try.ntmps18
  go_wp2
  go_region
  all_goals
    go_wp2
    go_returns
    refine bsPost_mk (by simp only [bNs, isE, isU, isG, isS, hn, hk, hu, hg, hs]; rfl) (by simp only [bOk, isE, isU, isG, isS, hn, hk, hu, hg, hs]; rfl) ?_
    go_grown

set_option maxHeartbeats 400000 in
theorem bs_else (k g n s ns : ByteArray) (w : World) (hn : n.toList.isEmpty = false) (hu : (k.toList == [85, 115, 101, 114]) = false) (hg : (k.toList == [71, 114, 111, 117, 112]) = false)
    (hk : (k.toList == [83, 101, 114, 118, 105, 99, 101, 65, 99, 99, 111, 117, 110, 116]) = false) :
    Calls Try.prog 18 #[.agg #[.string k, .string g, .string n, .string s], .string ns] w (BsPost k g n s ns w) := by
  go_enter Try.func18, Try.ntmps18
  go_wp2
  go_returns
  refine bsPost_mk (by simp only [bNs, isE, isU, isG, isS, hn, hk, hu, hg]; rfl) (by simp only [bOk, isE, isU, isG, isS, hn, hk, hu, hg]; rfl) ?_
  go_grown

theorem bs_any (k g n s ns : ByteArray) (w : World) :
    Calls Try.prog 18 #[.agg #[.string k, .string g, .string n, .string s], .string ns] w (BsPost k g n s ns w) := by
  by_cases hn : n.toList.isEmpty = true
  · exact bs_noname k g n s ns w hn
  have hn := Bool.eq_false_iff.2 hn
  by_cases hu : (k.toList == [85, 115, 101, 114]) = true
  · exact bs_user k g n s ns w hn hu
  have hu := Bool.eq_false_iff.2 hu
  by_cases hg : (k.toList == [71, 114, 111, 117, 112]) = true
  · exact bs_group k g n s ns w hn hu hg
  have hg := Bool.eq_false_iff.2 hg
  by_cases hk : (k.toList == [83, 101, 114, 118, 105, 99, 101, 65, 99, 99, 111, 117, 110, 116]) = true
  · by_cases hs : s.toList.isEmpty = true
    · exact bs_sa_gap k g n s ns w hn hu hg hk hs
    · exact bs_sa_own k g n s ns w hn hu hg hk (Bool.eq_false_iff.2 hs)
  · exact bs_else k g n s ns w hn hu hg (Bool.eq_false_iff.2 hk)

/-- 'ZZBoundSubject': the same, field by field. -/
def BcPost (k g n s ns : ByteArray) (w : World) (e : Ending) (w' : World) : Prop :=
  e = .returned (.tuple #[.string k, .string g, .string n, .string (bNs k n s ns), .bool (bOk k n s ns)]) ∧ Below w.heap.size w w'

set_option maxHeartbeats 400000 in
theorem bc_any (k g n s ns : ByteArray) (w : World) :
    Calls Try.prog 12 #[.string k, .string g, .string n, .string s, .string ns] w (BcPost k g n s ns w) := by
  go_enter Try.func12, Try.ntmps12
  go_wp2_with (go_at_call 18; refine (bs_any _ _ _ _ _ _).mono ?_; rintro e w1 ⟨rfl, hb⟩)
  go_quiet (fail)
  go_wp2
  go_returns
  exact ⟨rfl, below_drewN (hb.alloc hb.size _) _⟩

/-! The bounds on the total length: each answers some bool and turns nothing. -/
theorem bytes11 (a b c d e f : ByteArray) (w : World) (ha : a.size ≤ maxLen) (hb : b.size ≤ maxLen) (hc : c.size ≤ maxLen) (hd : d.size ≤ maxLen) (he : e.size ≤ maxLen) (hf : f.size ≤ maxLen) :
    Calls Try.prog 11 #[.string a, .string b, .string c, .string d, .string e, .string f] w fun r w' => ∃ t, r = .returned (.bool t) ∧ w' = w := by
  unfold maxLen at *
  go_enter Try.func11, Try.ntmps11
  go_wp2
  all_goals
    go_ret
    exact ⟨_, rfl, rfl⟩

theorem bytes13 (a b c d e f : ByteArray) (w : World) (ha : a.size ≤ maxLen) (hb : b.size ≤ maxLen) (hc : c.size ≤ maxLen) (hd : d.size ≤ maxLen) (he : e.size ≤ maxLen) (hf : f.size ≤ maxLen) :
    Calls Try.prog 13 #[.string a, .string b, .string c, .string d, .string e, .string f] w fun r w' => ∃ t, r = .returned (.bool t) ∧ w' = w := by
  unfold maxLen at *
  go_enter Try.func13, Try.ntmps13
  go_wp2
  all_goals
    go_ret
    exact ⟨_, rfl, rfl⟩

theorem bytes14 (a b c d e : ByteArray) (w : World) (ha : a.size ≤ maxLen) (hb : b.size ≤ maxLen) (hc : c.size ≤ maxLen) (hd : d.size ≤ maxLen) (he : e.size ≤ maxLen) :
    Calls Try.prog 14 #[.string a, .string b, .string c, .string d, .string e] w fun r w' => ∃ t, r = .returned (.bool t) ∧ w' = w := by
  unfold maxLen at *
  go_enter Try.func14, Try.ntmps14
  go_wp2
  all_goals
    go_ret
    exact ⟨_, rfl, rfl⟩

theorem bytes16 (a b c d e f : ByteArray) (w : World) (ha : a.size ≤ maxLen) (hb : b.size ≤ maxLen) (hc : c.size ≤ maxLen) (hd : d.size ≤ maxLen) (he : e.size ≤ maxLen) (hf : f.size ≤ maxLen) :
    Calls Try.prog 16 #[.string a, .string b, .string c, .string d, .string e, .string f] w fun r w' => ∃ t, r = .returned (.bool t) ∧ w' = w := by
  unfold maxLen at *
  go_enter Try.func16, Try.ntmps16
  go_wp2
  all_goals
    go_ret
    exact ⟨_, rfl, rfl⟩

end Go.Proofs.Qxb6617076a
