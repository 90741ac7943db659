/-
  THE ARGUMENTS OPENED: what a reading of a [][]byte and of a []byte tells of memory.
-/
import Derived.Test.Qxb6605389aModsEvs
import Derived.OpenShut
import Derived.Deep.Matrix
import Derived.ChangeOld
import Derived.Below
namespace Go.Proofs.Qxb6605389aMods
open Go.ChangeShapes Go.WideShapes Go.ChangeAt Go.RowKit Go.Deep

theorem own : ownKnob Trym.prog.godebug = none := by kernel_rfl
theorem laidOut : laidOutB Trym.prog = true := by kernel_rfl
theorem cells32 : Trym.prog.cellsOf 32 = 1 := by kernel_rfl
theorem cells5 : Trym.prog.cellsOf 5 = 1 := by kernel_rfl

theorem at_none {w : World} {a : Addr} {i : Nat} {v0 v : Value} (h0 : w.cell? (a.add 0) = some v0) (h : w.cell? (a.add i) = some v) : ∃ b off, a = ⟨b, off, none⟩ ∧ w.cell? ⟨b, off + i, none⟩ = some v := by
  obtain ⟨b, off, spot⟩ := a
  have hspot : spot = none := by simpa [Addr.add] using World.cell?_spot h0
  subst hspot
  refine ⟨b, off, rfl, ?_⟩
  rw [← h]
  congr 1
  unfold Addr.add
  split <;> simp_all

theorem open_bytes {H : Type} {enc : TypeId × Value → H} {W : World} {a : Option Addr} {len cap : Nat} {d : DataW H} {p : List MemPlace}
    (h : DataW.Trod enc Trym.prog W 0 (fun _ => true) true 32 (.slice a len cap) d p) : BytesAt W a len ∧ len ≤ 9223372036854775807 := by
  obtain ⟨fuel, hf⟩ := h
  rcases open_ints Trym.underlying32 Trym.underlying5 cells5 hf with ⟨hcs, _⟩ | ⟨x, l, c, zs, hcs, _, hl, hm, hz, _, hcell, hwz⟩
  · simp [Value.cells] at hcs
    obtain ⟨rfl, rfl, rfl⟩ := hcs
    exact ⟨fun j hj => by omega, by omega⟩
  · simp [Value.cells] at hcs
    obtain ⟨rfl, rfl, rfl⟩ := hcs
    simp only [if_true] at hz
    unfold maxLen at hm
    refine ⟨fun j hj => ?_, by omega⟩
    obtain ⟨b, off, rfl, hc⟩ := at_none (hcell 0 (by omega)) (hcell j (by omega))
    exact ⟨b, off, _, rfl, hc⟩

theorem open_deep {H : Type} {enc : TypeId × Value → H} {W : World} {a : Option Addr} {len cap : Nat} {d : DataW H} {p : List MemPlace}
    (h : DataW.Trod enc Trym.prog W 0 (fun _ => true) true 31 (.slice a len cap) d p) : ∃ L, DeepAt W a len L ∧ len ≤ 9223372036854775807 ∧ ∀ r, r < len → L r ≤ 9223372036854775807 := by
  obtain ⟨fuel, hf⟩ := h
  rcases open_int_rows Trym.underlying31 Trym.underlying32 Trym.underlying5 cells32 cells5 hf with ⟨hcs, _⟩ | ⟨x, l, c, A, L, C, Z, hcs, _, hl, hm, _, hrow⟩
  · simp [Value.cells] at hcs
    obtain ⟨rfl, rfl, rfl⟩ := hcs
    exact ⟨fun _ => 0, fun r hr => by omega, by omega, fun r hr => by omega⟩
  · simp [Value.cells] at hcs
    obtain ⟨rfl, rfl, rfl⟩ := hcs
    unfold maxLen at hm hrow
    refine ⟨L, fun r hr => ?_, by omega, fun r hr => ?_⟩
    · obtain ⟨hc, hlc, hcm, hzl, _, hnil, hin⟩ := hrow r (by omega)
      obtain ⟨b, off, rfl, hc'⟩ := at_none (hrow 0 (by omega)).1 hc
      refine ⟨b, off, A r, C r, rfl, hc', fun j hj => ?_⟩
      cases e : A r with
      | none => have := hnil e; omega
      | some a' =>
        obtain ⟨_, hcc⟩ := hin a' e
        obtain ⟨b', off', rfl, hc''⟩ := at_none (hcc 0 (by omega)) (hcc j (by omega))
        exact ⟨b', off', _, rfl, hc''⟩
    · obtain ⟨_, hlc, hcm, _⟩ := hrow r (by omega)
      omega

end Go.Proofs.Qxb6605389aMods
