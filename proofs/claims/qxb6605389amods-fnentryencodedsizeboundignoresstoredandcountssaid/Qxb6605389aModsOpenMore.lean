/-
  THE ARGUMENTS OPENED, MORE: a []string and a map[string]int.
-/
import Derived.Test.Qxb6605389aModsOpen
import Derived.Test.Qxb6605389aModsKept
import Derived.SliceStrings
namespace Go.Proofs.Qxb6605389aMods
open Go.ChangeShapes Go.WideShapes Go.ChangeAt Go.RowKit Go.Deep Go.WideElems

theorem cells9 : Trym.prog.cellsOf 9 = 1 := by kernel_rfl

theorem open_names {H : Type} {enc : TypeId × Value → H} {W : World} {a : Option Addr} {len cap : Nat} {d : DataW H} {p : List MemPlace}
    (h : DataW.Trod enc Trym.prog W 0 (fun _ => true) true 42 (.slice a len cap) d p) : ∃ ss : Nat → ByteArray, NamesAt W a len ss ∧ len ≤ 9223372036854775807 ∧ ∀ r, r < len → (ss r).size ≤ 9223372036854775807 := by
  obtain ⟨fuel, hf⟩ := h
  rcases open_strings Trym.underlying42 Trym.underlying9 cells9 hf with ⟨hcs, _⟩ | ⟨x, l, c, ss, hcs, _, hl, hm, hz, _, hcell, hws⟩
  · simp [Value.cells] at hcs
    obtain ⟨rfl, rfl, rfl⟩ := hcs
    exact ⟨fun _ => ByteArray.empty, fun j hj => by omega, by omega, fun j hj => by omega⟩
  · simp [Value.cells] at hcs
    obtain ⟨rfl, rfl, rfl⟩ := hcs
    simp only [if_true] at hz
    unfold maxLen at hm hws
    refine ⟨fun r => ss.getD r ByteArray.empty, fun j hj => ?_, by omega, fun j hj => ?_⟩
    · obtain ⟨b, off, rfl, hc⟩ := at_none (hcell 0 (by omega)) (hcell j (by omega))
      exact ⟨b, off, rfl, hc⟩
    · have hj' : j < ss.length := by omega
      have : ss.getD j ByteArray.empty = ss[j] := by simp [hj']
      have h2 := hws ss[j] (by simp)
      simp only [this]
      omega

theorem open_kept {H : Type} {enc : TypeId × Value → H} {W : World} {r : Option Nat} {d : DataW H} {p : List MemPlace}
    (h : DataW.Trod enc Trym.prog W 0 (fun _ => true) true 41 (.map r) d p) : KeptArg W r := by
  obtain ⟨fuel, hf⟩ := h
  rcases open_map Trym.underlying41 hf with ⟨hcs, _⟩ | ⟨bm, es, clock, m, rfl, hcs, hb, _, F, _⟩
  · simp [Value.cells] at hcs
    exact .inl hcs
  · simp [Value.cells] at hcs
    subst hcs
    exact .inr ⟨H, bm, _, _, rfl, World.ownsMap_of_fit (R := plainElem Trym.prog 3) hb F (fun x _ z hz => elemAt_plainElem_int Trym.underlying3 hz)⟩

end Go.Proofs.Qxb6605389aMods
