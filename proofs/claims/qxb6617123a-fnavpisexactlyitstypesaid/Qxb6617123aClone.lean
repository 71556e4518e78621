/-
  THE CONTRACTS of 'zzCloneBytes' (6) and 'zzSameBytes' (9). No law is claimed here.
-/
import Derived.Test.Qxb6617123aRows
import Derived.WalkKit
import Derived.ProofKit
import Derived.OpenShut
import Derived.ShutString
import Derived.Handy
import Derived.Deep.OwnRows
import Derived.Deep.QuietTactic
import Derived.BigQuiet
import Derived.WalkSmall
import Derived.Lib.SliceRun
namespace Go.Proofs.Qxb6617123a
open Go.RowKit

theorem Try.info5 : (Try.prog.info? 5).map (fun i => (i.zero, i.size, i.bytes)) = some (some (.int .u8 0), 1, 1) := by kernel_rfl

set_option maxHeartbeats 400000 in
/-- The nil slice: nil again. -/
theorem clone_nil (w : World) : Calls Try.prog 6 #[.slice none 0 0] w fun e w' => e = .returned (.slice none 0 0) ∧ w' = w := by
  have heq := fun W => Lib.run_eql_slice_nil (P := Try.prog) W 23 5 none 0 0 0 0 Try.underlying23
  go_enter Try.func6, Try.ntmps6
  go_wp2
  go_ret
  exact ⟨rfl, rfl⟩

set_option maxHeartbeats 400000 in
/-- A slice that is not nil and has elements: a new row of the call's own, the same bytes. -/
theorem clone_row (b off len cap : Nat) (z : Nat → Int) (w : World) (hl : len ≤ 1048576) (hc : ∀ i, i < len → w.cell? ⟨b, off + i, none⟩ = some (.int .u8 (z i))) :
    Calls Try.prog 6 #[.slice (some ⟨b, off, none⟩) len cap] w fun e w' => e = .returned (.slice (some ⟨w.heap.size, 0, none⟩) len len) ∧ Below w.heap.size w w' ∧ w'.rowIs w.heap.size 5 len (fun i => .int .u8 (z i)) := by
  have heq := fun W => Lib.run_eql_slice_nil (P := Try.prog) W 23 5 (some ⟨b, off, none⟩) len cap 0 0 Try.underlying23
  have hmk := run_make_row' (P := Try.prog) 23 5 (.int .u8 0) 1 Try.underlying23 Try.info5 rfl .i64 .i64 len (by omega) (by omega)
  go_enter Try.func6, Try.ntmps6
  go_wp2
  clear hmk heq
  go_loopw [4] (fun i wr => ∃ k : Nat, k ≤ len ∧ i = .int .i64 k ∧ Below w.heap.size w wr ∧ wr.rowIs w.heap.size 5 len (fun j => if j < k then .int .u8 (z j) else .int .u8 0)) (fun i _ => len - (intOf i).toNat)
  case atStart => exact ⟨0, Nat.zero_le _, rfl, (Below.refl _ _).alloc (Nat.le_refl _) _, (World.rowIs_made w (.int .u8 0) len 5).congr (fun i _ => by simp)⟩
  case round =>
    obtain ⟨k, hk, rfl, hb, hr⟩ := hrel
    by_cases hlt : k < len
    · have h1 : wr.cell? ⟨b, off + k, none⟩ = some (.int .u8 (z k)) := (hb.cell (p := ⟨b, off + k, none⟩) (World.block_lt_of_cell? _ _ (hc k hlt))).trans (hc k hlt)
      have h2 := hr.cell hlt
      have h3 := hr.frozen k
      simp only [Nat.lt_irrefl, if_false] at h2
      have HR : Hid (wr.rowIs w.heap.size 5 len (fun j => if j < k then .int .u8 (z j) else .int .u8 0)) := hr
      have HC : Hid (∀ i, i < len → w.cell? ⟨b, off + i, none⟩ = some (.int .u8 (z i))) := hc
      clear hr hc
      go_wp2
      go_roundw
      case rel => exact ⟨k + 1, by omega, by go_num, hb.setCell (Nat.le_refl _) _, (HR.out.set k (.int .u8 (z k))).congr (fun i _ => by
        by_cases e : i = k
        · subst e; simp
        · by_cases e2 : i < k
          · simp [e, e2, Nat.lt_succ_of_lt e2]
          · have : ¬ i < k + 1 := by omega
            simp [e, e2, this])⟩
      case measure => simp [intOf]; omega
    · have hke : k = len := by omega
      subst hke
      have HR : Hid (wr.rowIs w.heap.size 5 k (fun j => if j < k then .int .u8 (z j) else .int .u8 0)) := hr
      clear hr
      go_wp2
      go_ret
      exact ⟨rfl, hb, HR.out.congr (fun i hi => by simp [hi])⟩

set_option maxHeartbeats 400000 in
/-- A slice that is not nil and has no elements: a new row of none. -/
theorem clone_empty (x : Addr) (cap : Nat) (w : World) :
    Calls Try.prog 6 #[.slice (some x) 0 cap] w fun e w' => e = .returned (.slice (some ⟨w.heap.size, 0, none⟩) 0 0) ∧ Below w.heap.size w w' ∧ w'.rowIs w.heap.size 5 0 (fun _ => .int .u8 0) := by
  have heq := fun W => Lib.run_eql_slice_nil (P := Try.prog) W 23 5 (some x) 0 cap 0 0 Try.underlying23
  have hmk : ∀ W : World, (Instr.makeSlice 23 (.int .i64 0) (.int .i64 0)).run Try.prog W = .ok (.slice (some ⟨W.heap.size, 0, none⟩) 0 0) (W.alloc (.cells (madeCells #[.int .u8 0] 0) 5)) := fun W => run_make_row' (P := Try.prog) 23 5 (.int .u8 0) 1 Try.underlying23 Try.info5 rfl .i64 .i64 0 (by omega) (by omega) W
  go_enter Try.func6, Try.ntmps6
  go_wp2
  go_rounds 1
  go_ret
  exact ⟨rfl, (Below.refl _ _).alloc (Nat.le_refl _) _, World.rowIs_made w (.int .u8 0) 0 5⟩

set_option maxHeartbeats 400000 in
/-- Two nil slices are the same. -/
theorem same_nil (w : World) : Calls Try.prog 9 #[.slice none 0 0, .slice none 0 0] w fun e w' => e = .returned (.bool true) ∧ Below w.heap.size w w' := by
  have heq := fun W => Lib.run_eql_slice_nil (P := Try.prog) W 23 5 none 0 0 0 0 Try.underlying23
  go_enter Try.func9, Try.ntmps9
  go_wp2
  go_rounds 1
  go_ret
  exact ⟨rfl, Below.refl _ _⟩

set_option maxHeartbeats 400000 in
/-- Two slices of one length whose cells hold the same bytes are the same. -/
theorem same_rows (b c len p q : Nat) (z : Nat → Int) (w : World) (hl : len ≤ 1048576) (hb : ∀ i, i < len → w.cell? ⟨b, i, none⟩ = some (.int .u8 (z i))) (hc : ∀ i, i < len → w.cell? ⟨c, i, none⟩ = some (.int .u8 (z i))) :
    Calls Try.prog 9 #[.slice (some ⟨b, 0, none⟩) len p, .slice (some ⟨c, 0, none⟩) len q] w fun e w' => e = .returned (.bool true) ∧ Below w.heap.size w w' := by
  have heq := fun W => Lib.run_eql_slice_nil (P := Try.prog) W 23 5 (some ⟨b, 0, none⟩) len p 0 0 Try.underlying23
  have heq2 := fun W => Lib.run_eql_slice_nil (P := Try.prog) W 23 5 (some ⟨c, 0, none⟩) len q 0 0 Try.underlying23
  go_enter Try.func9, Try.ntmps9
  go_wp2
  clear heq heq2
  go_loopw [5] (fun i wr => ∃ k n : Nat, k ≤ len ∧ i = .int .i64 k ∧ wr = w.drewN n) (fun i _ => len - (intOf i).toNat)
  case atStart => exact ⟨0, 0, Nat.zero_le _, rfl, rfl⟩
  case round =>
    obtain ⟨k, n, hk, rfl, rfl⟩ := hrel
    by_cases hlt : k < len
    · have h1 := hb k hlt
      have h2 := hc k hlt
      have hi : (k : Int) < (len : Int) := by omega
      clear hb hc
      go_wp2
      go_quiet (fail)
      go_wp2
      go_roundw
      case rel => exact ⟨k + 1, _, by omega, by go_num, rfl⟩
      case measure => simp [intOf]; omega
    · go_wp2
      go_ret
      exact ⟨rfl, below_drewN (Below.refl _ _) _⟩

/-- WHAT A WALK IS TOLD OF A SLICE OF INTEGERS THAT CAME IN (the guide's skeleton types it so): it is nil; or it leads to a row of 'cap' cells, the numbers 'zs' (the first 'len' are its elements, the rest its spare room), each fitting its kind. -/
def IsRow (k : IntKind) (w : World) (a : Option Addr) (len cap : Nat) (zs : List Int) : Prop :=
  (a = none ∧ len = 0 ∧ cap = 0 ∧ zs = []) ∨
  ∃ x, a = some x ∧ len ≤ cap ∧ cap ≤ maxLen ∧ zs.length = cap ∧ (∀ i, i < zs.length → w.cell? (x.add i) = some (.int k (zs.getD i 0))) ∧ ∀ n ∈ zs, (Lit.int k n).wf = true

/-- A slice that is not nil, empty or not: a new row, the same bytes. -/
theorem clone_some (x : Addr) (len cap : Nat) (z : Nat → Int) (w : World) (hl : len ≤ 1048576) (hc : ∀ i, i < len → w.cell? (x.add i) = some (.int .u8 (z i))) :
    Calls Try.prog 6 #[.slice (some x) len cap] w fun e w' => e = .returned (.slice (some ⟨w.heap.size, 0, none⟩) len len) ∧ Below w.heap.size w w' ∧ w'.rowIs w.heap.size 5 len (fun i => .int .u8 (z i)) := by
  by_cases h0 : len = 0
  · subst h0
    exact (clone_empty x cap w).mono fun e w' h => ⟨h.1, h.2.1, h.2.2.congr (fun i hi => absurd hi (Nat.not_lt_zero i))⟩
  · obtain ⟨b, off, spot⟩ := x
    have hs : spot = none := by simpa [Addr.add] using World.cell?_spot (hc 0 (by omega))
    subst hs
    exact clone_row b off len cap z w hl (fun i hi => by rw [← WideShapes.add_plain]; exact hc i hi)

/-- Whatever slice came in: some slice comes back, and nothing that was there has turned. -/
theorem clone_any (a : Option Addr) (len cap : Nat) (zs : List Int) (w : World) (h : IsRow .u8 w a len cap zs) (hl : len ≤ 1048576) :
    Calls Try.prog 6 #[.slice a len cap] w fun e w' => ∃ a' l' c', e = .returned (.slice a' l' c') ∧ Below w.heap.size w w' := by
  rcases h with ⟨rfl, rfl, rfl, rfl⟩ | ⟨x, rfl, h1, h2, h3, h4, h5⟩
  · exact (clone_nil w).mono fun e w' h => ⟨_, _, _, h.1, h.2 ▸ Below.refl _ _⟩
  · exact (clone_some x len cap (fun i => zs.getD i 0) w hl (fun i hi => h4 i (by omega))).mono fun e w' h => ⟨_, _, _, h.1, h.2.1⟩

end Go.Proofs.Qxb6617123a
