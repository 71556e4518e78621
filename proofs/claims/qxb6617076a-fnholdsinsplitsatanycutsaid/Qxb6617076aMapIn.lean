/-
  FROM THE READING OF AN ARGUMENT TO WHAT THE WALKS ASK: a map[string]string that came in ('Looks', its length), a []string that came in ('Strs').
-/
import Derived.Test.Qxb6617076aHolds
import Derived.SliceStrings
import Derived.Maps.StringElems
import Derived.Maps.OwnSet
namespace Go.Proofs.Qxb6617076a
open Go.ChangeShapes Go.WideShapes Go.ChangeAt Go.RowKit Go.WideElems Go.Maps

theorem law9 : Keyed Try.prog 9 := string_keyed Try.underlying9
theorem zero9 (w : World) : (zeroValue 9).run Try.prog w = .ok (.string ⟨#[]⟩) w := by kernel_rfl
theorem Try.cells9 : Try.prog.cellsOf 9 = 1 := by kernel_rfl

/-- A slice of strings that came in. -/
theorem strs_in {H : Type} {enc : TypeId × Value → H} {W : World} {a : Option Addr} {len cap : Nat} {d : DataW H} {p : List MemPlace}
    (h : DataW.Trod enc Try.prog W 0 (fun _ => true) true 22 (.slice a len cap) d p) : ∃ f, Strs W a len f := by
  obtain ⟨fuel, hf⟩ := h
  rcases open_strings Try.underlying22 Try.underlying9 Try.cells9 hf with ⟨hcs, _⟩ | ⟨x, l, c, ss, hcs, _, hl, hm, hz, _, hcell, _⟩
  · simp [Value.cells] at hcs
    obtain ⟨rfl, rfl, rfl⟩ := hcs
    exact ⟨fun _ => ⟨#[]⟩, Nat.zero_le _, Or.inl rfl⟩
  · simp [Value.cells] at hcs
    obtain ⟨rfl, rfl, rfl⟩ := hcs
    simp only [if_true] at hz
    refine ⟨fun i => ss.getD i ByteArray.empty, Nat.le_trans hl hm, ?_⟩
    by_cases h0 : len = 0
    · exact Or.inl h0
    · obtain ⟨b, off, spot⟩ := x
      have hs : spot = none := by simpa [Addr.add] using World.cell?_spot (hcell 0 (by omega))
      subst hs
      exact Or.inr ⟨b, off, rfl, fun i hi => by rw [← WideShapes.add_plain]; exact hcell i (by omega)⟩

theorem owns_below {H : Type} {R : Value → Option (DataW H × List MemPlace)} {w w' : World} {b n : Nat} {D : DataW H} (h : w.ownsMap Try.prog 9 R b n D) (hb : Below w.heap.size w w') : w'.ownsMap Try.prog 9 R b n D := by
  obtain ⟨es, clock, hh, r⟩ := h
  have hlt : b < w.heap.size := (Array.getElem?_eq_some_iff.1 hh).1
  exact ⟨es, clock, (hb.block b hlt).trans hh, r⟩

/-- A map from strings to strings that came in: what a look-up answers, and its length. -/
theorem map_in {H : Type} {enc : TypeId × Value → H} {W : World} {r : Option Nat} {d : DataW H} {p : List MemPlace}
    (h : DataW.Trod enc Try.prog W 0 (fun _ => true) true 23 (.map r) d p) :
    (∀ key : ByteArray, key.size ≤ maxLen → ∃ v ok, Looks W r key v ok) ∧ ∃ n : Nat, ∀ ty, (Builtin.len_ #[23] ty #[.map r]).run Try.prog W = .ok (.int .i64 n) W := by
  obtain ⟨fuel, hf⟩ := h
  rcases open_map Try.underlying23 hf with ⟨hcs, _⟩ | ⟨bm, es, clock, m, rfl, hcs, hb, _, F, _⟩
  · simp [Value.cells] at hcs
    subst hcs
    refine ⟨fun key hk => ⟨⟨#[]⟩, false, fun wx _ => ?_⟩, 0, fun ty => Maps.len_nil Try.underlying23 ty⟩
    exact Maps.look_nil true law9 Try.underlying23 (zero9 _) (WideMaps.keyOf_string_mk Try.underlying9 hk)
  · simp [Value.cells] at hcs
    subst hcs
    have hown := World.ownsMap_of_fit (R := plainElem Try.prog 9) hb F (fun x _ z hz => elemAt_plainElem_string Try.underlying9 hz)
    generalize (DataW.map (List.foldr DataW.insert [] (List.map (rg Try.prog 9 (elemAt enc Try.prog W 0 (fun _ => true) true m 9)) es.toList))) = D at hown
    refine ⟨fun key hk => ?_, _, fun ty => hown.len Try.underlying23 ty⟩
    have hkey := WideMaps.keyOf_string_mk (P := Try.prog) Try.underlying9 hk
    have hz0 : plainElem (H := H) Try.prog 9 (.string ⟨#[]⟩) = some (.lit (.string []), []) := plainElem_string Try.underlying9 (Nat.zero_le _)
    obtain ⟨v, ps, hrun, hR⟩ := hown.look_ok law9 Try.underlying23 (zero9 _) hz0 hkey
    obtain ⟨s, rfl, he, _⟩ := plainElem_string_inv Try.underlying9 hR
    refine ⟨s, Maps.has D (.string key.data.toList), fun wx hx => ?_⟩
    obtain ⟨v', ps', hrun', hR'⟩ := (owns_below hown hx).look_ok law9 Try.underlying23 (zero9 _) hz0 hkey
    obtain ⟨s', rfl, he', _⟩ := plainElem_string_inv Try.underlying9 hR'
    have e1 := (Prod.mk.inj he).1
    have e2 := (Prod.mk.inj he').1
    rw [e1] at e2
    have e3 : s.data.toList = s'.data.toList := by simpa using e2
    have e4 : s = s' := ByteArray.ext (Array.toList_inj.1 e3)
    subst e4
    exact hrun'

end Go.Proofs.Qxb6617076a
