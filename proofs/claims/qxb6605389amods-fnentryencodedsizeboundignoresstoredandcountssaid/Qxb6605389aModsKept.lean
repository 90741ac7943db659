/-
  THE MAP kept: as it came in, and as it was copied, nil or not.
-/
import Derived.Test.Qxb6605389aModsEntry
namespace Go.Proofs.Qxb6605389aMods
open Go.RowKit Go.Maps

/-- A map[string]int that came in. -/
def KeptArg (w : World) (r : Option Nat) : Prop := r = none ∨ ∃ (H : Type) (b nn : Nat) (D : DataW H), r = some b ∧ w.ownsMap Trym.prog 9 (plainElem Trym.prog 3) b nn D
theorem came_later {H : Type} {w wx : World} {b n : Nat} {D : DataW H} (h : w.ownsMap Trym.prog 9 (plainElem Trym.prog 3) b n D) (hb : Below w.heap.size w wx) : wx.ownsMap Trym.prog 9 (plainElem Trym.prog 3) b n D := by
  obtain ⟨es, clock, h1, rest⟩ := h
  exact ⟨es, clock, (hb.block b (Array.getElem?_eq_some_iff.1 h1).1).trans h1, rest⟩
theorem looks_came {H : Type} {w : World} {b n : Nat} {D : DataW H} (h : w.ownsMap Trym.prog 9 (plainElem Trym.prog 3) b n D) : Looks w (some b) (Maps.has D) (Maps.size D) where
  ok wx hb s hs := by
    obtain ⟨v, ps, hrun, hv⟩ := World.ownsMap.look_ok (came_later h hb) law9 Trym.underlying41 (zero3 wx) (plainElem_int Trym.underlying3 (a := 0) (by decide)) (key_of s hs)
    obtain ⟨c, rfl, _⟩ := plainElem_int_inv Trym.underlying3 hv
    exact ⟨c, hrun⟩
  val wx hb s hs := by
    obtain ⟨c, hrun, _, hw⟩ := World.ownsMap.lookup_int (came_later h hb) law9 Trym.underlying41 Trym.underlying3 (zero3 wx) (key_of s hs)
    exact ⟨c, hrun, hw⟩
  len wx hb ty := World.ownsMap.len (came_later h hb) Trym.underlying41 ty
theorem KeptArg.looks {w : World} {r : Option Nat} (h : KeptArg w r) : ∃ ks N, Looks w r ks N ∧ (r = none → N = 0) := by
  rcases h with rfl | ⟨H, b, nn, D, rfl, ho⟩
  · exact ⟨_, _, looks_nil w, fun _ => rfl⟩
  · exact ⟨_, _, looks_came ho, fun e => by cases e⟩

/-- The copy: nil of a nil map; else a map whose keys are the names. -/
def KeptIs (w : World) (r : Option Nat) (ss : Nat → ByteArray) (n : Nat) : Prop := (r = none ∧ n = 0) ∨ ∃ b, r = some b ∧ KeysAre w b n ss n
theorem KeptIs.later {w wx : World} {r : Option Nat} {ss : Nat → ByteArray} {n : Nat} (h : KeptIs w r ss n) (hb : Below w.heap.size w wx) : KeptIs wx r ss n := by
  rcases h with h | ⟨b, e, hk⟩
  · exact .inl h
  · exact .inr ⟨b, e, hk.later hb⟩
theorem KeptIs.map {w : World} {r : Option Nat} {ss : Nat → ByteArray} {n : Nat} (h : KeptIs w r ss n) : MapIs w r (massN ss n) := by
  rcases h with ⟨rfl, rfl⟩ | ⟨b, rfl, hk⟩
  · exact .inl ⟨rfl, rfl⟩
  · exact .of_keys hk
theorem KeptIs.looks {w : World} {r : Option Nat} {ss : Nat → ByteArray} {n : Nat} (h : KeptIs w r ss n) : ∃ N, Looks w r (isIn ss n) N := by
  rcases h with ⟨rfl, rfl⟩ | ⟨b, rfl, D, ho, _, hh⟩
  · exact ⟨0, looks_nil w⟩
  · have e : Maps.has D = isIn ss n := funext hh
    exact ⟨_, e ▸ looks_own ho⟩

theorem keptCopy_both (r : Option Nat) (ks : Lit → Bool) (N : Nat) (a : Option Addr) (n cap : Nat) (ss : Nat → ByteArray) (z : Bool) (w : World) (hr : Looks w r ks N) (h0 : r = none → n = 0) (h : NamesAt w a n ss) (hn : n ≤ 4096) (hss : ∀ j, j < n → (ss j).size ≤ 1048576) :
    Calls Trym.prog 26 #[.map r, .slice a n cap, .bool z] w fun e w' => (∃ r', e = .returned (.map r') ∧ KeptIs w' r' ss n) ∧ Below w.heap.size w w' := by
  rcases r with _ | b
  · refine (keptCopy_nil a n cap z w).mono ?_
    rintro e w' ⟨rfl, rfl⟩
    exact ⟨⟨_, rfl, .inl ⟨rfl, h0 rfl⟩⟩, Below.refl _ _⟩
  · refine (keptCopy_any b ks N a n cap ss z w hr h hn hss).mono ?_
    rintro e w' ⟨⟨b', rfl, hk⟩, hb⟩
    exact ⟨⟨_, rfl, .inr ⟨b', rfl, hk⟩⟩, hb⟩

theorem size_le_sum (ss : Nat → ByteArray) {j n : Nat} (h : j < n) : (ss j).size ≤ sumN (sizes ss) n := by
  have := sumN_step (sizes ss) h
  unfold sizes at this ⊢
  omega

end Go.Proofs.Qxb6605389aMods
