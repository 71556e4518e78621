/-
  A []string CUT IN TWO ('values[:k:k]', 'values[k:]'): what the two slices are, which strings they hold; and 'hasV' over a cut. No law is claimed here.
-/
import Derived.Test.Qxb6617076aHolds
import Derived.Test.Qxb6617076aMapIn
namespace Go.Proofs.Qxb6617076a
open Go.ChangeShapes Go.WideShapes Go.ChangeAt Go.RowKit

theorem slice22 : Try.prog.underlying 22 = some (.slice (Try.prog.elem 22)) := by kernel_rfl
theorem size22 (w : World) : (sizeOf (Try.prog.elem 22)).run Try.prog w = .ok 1 w := by kernel_rfl

/-- A slice of strings that came in: its length is at most its capacity. -/
theorem cap_in {H : Type} {enc : TypeId × Value → H} {W : World} {a : Option Addr} {len cap : Nat} {d : DataW H} {p : List MemPlace}
    (h : DataW.Trod enc Try.prog W 0 (fun _ => true) true 22 (.slice a len cap) d p) : len ≤ cap := by
  obtain ⟨fuel, hf⟩ := h
  rcases open_strings Try.underlying22 Try.underlying9 Try.cells9 hf with ⟨hcs, _⟩ | ⟨x, l, c, ss, hcs, _, hl, _⟩
  · simp [Value.cells] at hcs
    obtain ⟨rfl, rfl, rfl⟩ := hcs
    exact Nat.le_refl _
  · simp [Value.cells] at hcs
    obtain ⟨rfl, rfl, rfl⟩ := hcs
    exact hl

theorem cut_left (a : Option Addr) (len cap k : Nat) (f : Nat → ByteArray) (hk : k ≤ len) (hc : len ≤ cap) :
    ∃ aL, (∀ W, (Instr.slice 22 (.slice a len cap) none (some (.int .i64 k)) (some (.int .i64 k))).run Try.prog W = .ok (.slice aL k k) W) ∧ ∀ w, Strs w a len f → Strs w aL k f := by
  refine ⟨if k = 0 then a else a.map (·.add 0), fun W => ?_, fun w h => ?_⟩
  · rw [run_slice_hm W 22 a len cap slice22 .i64 .i64 (k : Int) (k : Int) (by omega) (Int.le_refl _) (by omega), size22]
    simp [Result.andThen, sliced]
  · obtain ⟨hl, h⟩ := h
    refine ⟨Nat.le_trans hk hl, ?_⟩
    by_cases h0 : k = 0
    · exact Or.inl h0
    · rcases h with h | ⟨b, off, rfl, h2⟩
      · exact absurd h (by omega)
      · exact Or.inr ⟨b, off, by simp [h0, Addr.add], fun i hi => h2 i (by omega)⟩

theorem cut_right (a : Option Addr) (len cap k : Nat) (f : Nat → ByteArray) (hk : k ≤ len) (hc : len ≤ cap) :
    ∃ aR, (∀ W, (Instr.slice 22 (.slice a len cap) (some (.int .i64 k)) none none).run Try.prog W = .ok (.slice aR (len - k) (cap - k)) W) ∧ ∀ w, Strs w a len f → Strs w aR (len - k) (fun i => f (k + i)) := by
  refine ⟨if cap = k then a else a.map (·.add k), fun W => ?_, fun w h => ?_⟩
  · rw [run_slice_l W 22 a len cap slice22 .i64 (k : Int) (by omega) (by omega), size22]
    simp [Result.andThen, sliced]
  · obtain ⟨hl, h⟩ := h
    refine ⟨by omega, ?_⟩
    by_cases h0 : len - k = 0
    · exact Or.inl h0
    · rcases h with h | ⟨b, off, rfl, h2⟩
      · exact absurd h (by omega)
      · refine Or.inr ⟨b, off + k, ?_, fun i hi => ?_⟩
        · have : ¬ cap = k := by omega
          simp [this, WideShapes.add_plain]
        · have := h2 (k + i) (by omega)
          rwa [← Nat.add_assoc] at this

theorem hasV_cut (f : Nat → ByteArray) (v : ByteArray) (k d : Nat) : hasV f v (k + d) = (hasV f v k || hasV (fun i => f (k + i)) v d) := by
  induction d with
  | zero => simp [hasV]
  | succ d ih =>
    rw [← Nat.add_assoc]
    simp only [hasV, ih, Bool.or_assoc]

end Go.Proofs.Qxb6617076a
