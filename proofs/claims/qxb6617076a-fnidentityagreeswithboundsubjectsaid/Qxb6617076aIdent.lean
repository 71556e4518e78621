/-
  THE CONTRACTS of 'attributes.ServiceAccountUser' (21), 'rbac.identity' (19) and 'rbac.ZZIdentity' (15), and the plain functions that they compute. No law is claimed here.
-/
import Derived.Test.Qxb6617076aSubj
namespace Go.Proofs.Qxb6617076a
open Go.RowKit

/-- "system:serviceaccount:" + a + ":" + b -/
def sau (a b : ByteArray) : ByteArray := ⟨#[115, 121, 115, 116, 101, 109, 58, 115, 101, 114, 118, 105, 99, 101, 97, 99, 99, 111, 117, 110, 116, 58]⟩ ++ a ++ ⟨#[58]⟩ ++ b

/-- The key that 'identity' answers: its namespace, whether it is a group's, its name. -/
def idNs (k n s ns : ByteArray) : ByteArray := bif bOk k n s ns then ns else ⟨#[]⟩
def idG (k n s ns : ByteArray) : Bool := bOk k n s ns && isG k
def idN (k n s ns : ByteArray) : ByteArray := bif bOk k n s ns then (bif isU k || isG k then n else sau (bNs k n s ns) n) else ⟨#[]⟩

set_option maxHeartbeats 400000 in
theorem sau_any (a b : ByteArray) (w : World) (ha : a.size ≤ 1048576) (hb : b.size ≤ 1048576) :
    Calls Try.prog 21 #[.string a, .string b] w fun e w' => e = .returned (.string (sau a b)) ∧ w = w' := by
  go_enter Try.func21, Try.ntmps21
  go_wp2
  go_ret
  exact ⟨rfl, rfl⟩

def IdPost (k n s ns : ByteArray) (w : World) (e : Ending) (w' : World) : Prop :=
  e = .returned (.tuple #[.agg #[.string (idNs k n s ns), .bool (idG k n s ns), .string (idN k n s ns)], .bool (bOk k n s ns)]) ∧ Below w.heap.size w w'

theorem idPost_mk {k n s ns : ByteArray} {w w' : World} {x y : ByteArray} {g b : Bool} (hx : idNs k n s ns = x) (hg : idG k n s ns = g) (hy : idN k n s ns = y) (hb : bOk k n s ns = b) (h : Below w.heap.size w w') :
    IdPost k n s ns w (.returned (.tuple #[.agg #[.string x, .bool g, .string y], .bool b])) w' := by
  subst hx hg hy hb; exact ⟨rfl, h⟩

set_option maxRecDepth 100000 in
set_option maxHeartbeats 800000 in
theorem id_no (k g n s ns : ByteArray) (w : World)
    (hB : bOk k n s ns = false) :
    Calls Try.prog 19 #[.agg #[.string k, .string g, .string n, .string s], .string ns] w (IdPost k n s ns w) := by
  go_enter Try.func19, Try.ntmps19
  go_wp2_with fail
  refine (bs_any k g n s ns _).mono ?_
  rintro e w1 ⟨rfl, hb⟩
  have hc : ∀ b o, b < w.heap.size + 2 → w1.cell? ⟨b, o, none⟩ = ((w.alloc (.cells #[.string k, .string g, .string n, .string s] 40)).alloc (.cells #[.string ⟨#[]⟩, .bool false, .string ⟨#[]⟩] 44)).cell? ⟨b, o, none⟩ := fun b o h => hb.cell (p := ⟨b, o, none⟩) (by simpa using h)
  have hf : ∀ b o, b < w.heap.size + 2 → w1.frozen? ⟨b, o, none⟩ = ((w.alloc (.cells #[.string k, .string g, .string n, .string s] 40)).alloc (.cells #[.string ⟨#[]⟩, .bool false, .string ⟨#[]⟩] 44)).frozen? ⟨b, o, none⟩ := fun b o h => hb.frozen (p := ⟨b, o, none⟩) (by simpa using h)
  have hz : w.heap.size + 1 < w1.heap.size := by have := hb.size; simp at this; omega
  have HB : Below w.heap.size w w1 := Below.trans (by go_grown) (hb.mono (by simp; omega))
  clear hb
  go_wp2
  refine bodyPost_ret (v := .tuple #[.agg #[.string ⟨#[]⟩, .bool false, .string ⟨#[]⟩], .bool false]) (by simp [results, Try.results19, go_sem, hc]) rfl ?_
  refine idPost_mk ?_ ?_ ?_ hB ?_
  · simp only [idNs, hB]; rfl
  · simp only [idG, hB]; rfl
  · simp only [idN, hB]; rfl
  · go_grown

set_option maxRecDepth 100000 in
set_option maxHeartbeats 800000 in
theorem id_user (k g n s ns : ByteArray) (w : World)
    (hB : bOk k n s ns = true) (hu : (k.toList == [85, 115, 101, 114]) = true) (hg : (k.toList == [71, 114, 111, 117, 112]) = false) :
    Calls Try.prog 19 #[.agg #[.string k, .string g, .string n, .string s], .string ns] w (IdPost k n s ns w) := by
  go_enter Try.func19, Try.ntmps19
  go_wp2_with fail
  refine (bs_any k g n s ns _).mono ?_
  rintro e w1 ⟨rfl, hb⟩
  have hc : ∀ b o, b < w.heap.size + 2 → w1.cell? ⟨b, o, none⟩ = ((w.alloc (.cells #[.string k, .string g, .string n, .string s] 40)).alloc (.cells #[.string ⟨#[]⟩, .bool false, .string ⟨#[]⟩] 44)).cell? ⟨b, o, none⟩ := fun b o h => hb.cell (p := ⟨b, o, none⟩) (by simpa using h)
  have hf : ∀ b o, b < w.heap.size + 2 → w1.frozen? ⟨b, o, none⟩ = ((w.alloc (.cells #[.string k, .string g, .string n, .string s] 40)).alloc (.cells #[.string ⟨#[]⟩, .bool false, .string ⟨#[]⟩] 44)).frozen? ⟨b, o, none⟩ := fun b o h => hb.frozen (p := ⟨b, o, none⟩) (by simpa using h)
  have hz : w.heap.size + 1 < w1.heap.size := by have := hb.size; simp at this; omega
  have HB : Below w.heap.size w w1 := Below.trans (by go_grown) (hb.mono (by simp; omega))
  clear hb
  go_wp2
  refine bodyPost_ret (v := .tuple #[.agg #[.string ns, .bool false, .string n], .bool true]) (by simp [results, Try.results19, go_sem, hc]) rfl ?_
  refine idPost_mk ?_ ?_ ?_ hB ?_
  · simp only [idNs, hB]; rfl
  · simp only [idG, isG, hB, hg]; rfl
  · simp only [idN, isU, hB, hu]; rfl
  · go_grown

set_option maxRecDepth 100000 in
set_option maxHeartbeats 800000 in
theorem id_group (k g n s ns : ByteArray) (w : World)
    (hB : bOk k n s ns = true) (hu : (k.toList == [85, 115, 101, 114]) = false) (hg : (k.toList == [71, 114, 111, 117, 112]) = true) :
    Calls Try.prog 19 #[.agg #[.string k, .string g, .string n, .string s], .string ns] w (IdPost k n s ns w) := by
  go_enter Try.func19, Try.ntmps19
  go_wp2_with fail
  refine (bs_any k g n s ns _).mono ?_
  rintro e w1 ⟨rfl, hb⟩
  have hc : ∀ b o, b < w.heap.size + 2 → w1.cell? ⟨b, o, none⟩ = ((w.alloc (.cells #[.string k, .string g, .string n, .string s] 40)).alloc (.cells #[.string ⟨#[]⟩, .bool false, .string ⟨#[]⟩] 44)).cell? ⟨b, o, none⟩ := fun b o h => hb.cell (p := ⟨b, o, none⟩) (by simpa using h)
  have hf : ∀ b o, b < w.heap.size + 2 → w1.frozen? ⟨b, o, none⟩ = ((w.alloc (.cells #[.string k, .string g, .string n, .string s] 40)).alloc (.cells #[.string ⟨#[]⟩, .bool false, .string ⟨#[]⟩] 44)).frozen? ⟨b, o, none⟩ := fun b o h => hb.frozen (p := ⟨b, o, none⟩) (by simpa using h)
  have hz : w.heap.size + 1 < w1.heap.size := by have := hb.size; simp at this; omega
  have HB : Below w.heap.size w w1 := Below.trans (by go_grown) (hb.mono (by simp; omega))
  clear hb
  go_wp2
  refine bodyPost_ret (v := .tuple #[.agg #[.string ns, .bool true, .string n], .bool true]) (by simp [results, Try.results19, go_sem, hc]) rfl ?_
  refine idPost_mk ?_ ?_ ?_ hB ?_
  · simp only [idNs, hB]; rfl
  · simp only [idG, isG, hB, hg]; rfl
  · simp only [idN, isU, isG, hB, hu, hg]; rfl
  · go_grown

set_option maxRecDepth 100000 in
set_option maxHeartbeats 800000 in
theorem id_sa (k g n s ns : ByteArray) (w : World) (hsn : n.size ≤ 1048576) (hsb : (bNs k n s ns).size ≤ 1048576)
    (hB : bOk k n s ns = true) (hu : (k.toList == [85, 115, 101, 114]) = false) (hg : (k.toList == [71, 114, 111, 117, 112]) = false) (hk : (k.toList == [83, 101, 114, 118, 105, 99, 101, 65, 99, 99, 111, 117, 110, 116]) = true) :
    Calls Try.prog 19 #[.agg #[.string k, .string g, .string n, .string s], .string ns] w (IdPost k n s ns w) := by
  go_enter Try.func19, Try.ntmps19
  go_wp2_with fail
  refine (bs_any k g n s ns _).mono ?_
  rintro e w1 ⟨rfl, hb⟩
  have hc : ∀ b o, b < w.heap.size + 2 → w1.cell? ⟨b, o, none⟩ = ((w.alloc (.cells #[.string k, .string g, .string n, .string s] 40)).alloc (.cells #[.string ⟨#[]⟩, .bool false, .string ⟨#[]⟩] 44)).cell? ⟨b, o, none⟩ := fun b o h => hb.cell (p := ⟨b, o, none⟩) (by simpa using h)
  have hf : ∀ b o, b < w.heap.size + 2 → w1.frozen? ⟨b, o, none⟩ = ((w.alloc (.cells #[.string k, .string g, .string n, .string s] 40)).alloc (.cells #[.string ⟨#[]⟩, .bool false, .string ⟨#[]⟩] 44)).frozen? ⟨b, o, none⟩ := fun b o h => hb.frozen (p := ⟨b, o, none⟩) (by simpa using h)
  have hz : w.heap.size + 1 < w1.heap.size := by have := hb.size; simp at this; omega
  have HB : Below w.heap.size w w1 := Below.trans (by go_grown) (hb.mono (by simp; omega))
  clear hb
  go_wp2_with (go_at_call 21; refine (sau_any _ _ _ hsb hsn).mono ?_; rintro e w' ⟨rfl, rfl⟩)
  refine bodyPost_ret (v := .tuple #[.agg #[.string ns, .bool false, .string (sau (bNs k n s ns) n)], .bool true]) (by simp [results, Try.results19, go_sem, hc]) rfl ?_
  refine idPost_mk ?_ ?_ ?_ hB ?_
  · simp only [idNs, hB]; rfl
  · simp only [idG, isG, hB, hg]; rfl
  · simp only [idN, isU, isG, hB, hu, hg]; rfl
  · go_grown

theorem bNs_size {k n s ns : ByteArray} (h1 : s.size ≤ 1048576) (h2 : ns.size ≤ 1048576) : (bNs k n s ns).size ≤ 1048576 := by
  unfold bNs
  cases isE n <;> cases (isU k || isG k) <;> cases (isS k && isE s) <;> simp [h1, h2] <;> exact Nat.zero_le _

theorem ok_kind {k n s ns : ByteArray} (h : bOk k n s ns = true) (hu : isU k = false) (hg : isG k = false) : isS k = true := by
  unfold bOk at h
  rw [hu, hg] at h
  cases hk : isS k
  · rw [hk] at h; simp at h
  · rfl

theorem id_any (k g n s ns : ByteArray) (w : World) (hz : isS k = true → n.size ≤ 1048576 ∧ s.size ≤ 1048576 ∧ ns.size ≤ 1048576) :
    Calls Try.prog 19 #[.agg #[.string k, .string g, .string n, .string s], .string ns] w (IdPost k n s ns w) := by
  cases hB : bOk k n s ns
  · exact id_no k g n s ns w hB
  cases hu : isU k
  · cases hg : isG k
    · have hk := ok_kind hB hu hg
      obtain ⟨z1, z2, z3⟩ := hz hk
      exact id_sa k g n s ns w z1 (bNs_size z2 z3) hB hu hg hk
    · exact id_group k g n s ns w hB hu hg
  · exact id_user k g n s ns w hB hu (not_SU hu).2

/-- 'ZZIdentity': the same, field by field. -/
def IcPost (k n s ns : ByteArray) (w : World) (e : Ending) (w' : World) : Prop :=
  e = .returned (.tuple #[.string (idNs k n s ns), .bool (idG k n s ns), .string (idN k n s ns), .bool (bOk k n s ns)]) ∧ Below w.heap.size w w'

set_option maxHeartbeats 400000 in
theorem ic_any (k g n s ns : ByteArray) (w : World) (hz : isS k = true → n.size ≤ 1048576 ∧ s.size ≤ 1048576 ∧ ns.size ≤ 1048576) :
    Calls Try.prog 15 #[.string k, .string g, .string n, .string s, .string ns] w (IcPost k n s ns w) := by
  go_enter Try.func15, Try.ntmps15
  go_wp2_with (go_at_call 19; refine (id_any _ _ _ _ _ _ hz).mono ?_; rintro e w1 ⟨rfl, hb⟩)
  go_quiet (fail)
  go_wp2
  go_returns
  exact ⟨rfl, below_drewN (hb.alloc hb.size _) _⟩

/-- The same, its answers named. -/
theorem ic_is (k g n s ns : ByteArray) (w : World) {x y : ByteArray} {gb b : Bool} (hz : isS k = true → n.size ≤ 1048576 ∧ s.size ≤ 1048576 ∧ ns.size ≤ 1048576)
    (hx : idNs k n s ns = x) (hg : idG k n s ns = gb) (hy : idN k n s ns = y) (hb : bOk k n s ns = b) :
    Calls Try.prog 15 #[.string k, .string g, .string n, .string s, .string ns] w fun e w' => e = .returned (.tuple #[.string x, .bool gb, .string y, .bool b]) ∧ Below w.heap.size w w' := by
  subst hx hg hy hb
  exact ic_any k g n s ns w hz

end Go.Proofs.Qxb6617076a
