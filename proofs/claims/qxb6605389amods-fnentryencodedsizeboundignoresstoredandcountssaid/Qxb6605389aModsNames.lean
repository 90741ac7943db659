/-
  NAMES IN MEMORY: the contracts of zzCloneStrings and zzEntryTooBig.
-/
import Derived.Test.Qxb6605389aModsMass
namespace Go.Proofs.Qxb6605389aMods
open Go.RowKit Go.Maps

/-- A []string of n names. -/
def NamesAt (w : World) (a : Option Addr) (n : Nat) (ss : Nat → ByteArray) : Prop :=
  ∀ r, r < n → ∃ b off, a = some ⟨b, off, none⟩ ∧ w.cell? ⟨b, off + r, none⟩ = some (.string (ss r))
theorem NamesAt.later {w wx : World} {a : Option Addr} {n : Nat} {ss : Nat → ByteArray} (h : NamesAt w a n ss) (hb : Below w.heap.size w wx) : NamesAt wx a n ss := fun r hr => by
  obtain ⟨b, off, e, hc⟩ := h r hr
  exact ⟨b, off, e, cell_later hb hc⟩
/-- The bytes of the first k names. -/
def sizes (ss : Nat → ByteArray) : Nat → Nat := fun j => (ss j).size

theorem info9 : (Trym.prog.info? 9).map (fun i => (i.zero, i.size, i.bytes)) = some (some (.string ByteArray.empty), 1, 16) := by kernel_rfl

theorem names_of_row {w : World} {b n : Nat} {f : Nat → Value} {ss : Nat → ByteArray} (hrow : w.rowIs b 9 n f) (hf : ∀ j, j < n → f j = .string (ss j)) : NamesAt w (some ⟨b, 0, none⟩) n ss := fun r hr =>
  ⟨b, 0, rfl, by rw [Nat.zero_add, hrow.cell hr, hf r hr]⟩
theorem name_more {f : Nat → Value} {ss : Nat → ByteArray} {k : Nat} (hf : ∀ j, j < k → f j = .string (ss j)) :
    ∀ j, j < k + 1 → (fun j => if j = k then Value.string (ss k) else f j) j = .string (ss j) := fun j hj => by
  by_cases e : j = k
  · subst e; simp
  · simp [e, hf j (by omega)]

set_option maxHeartbeats 1000000 in
/-- 'zzCloneStrings': the same names; nothing that was there has turned. -/
theorem cloneStrings_any (a : Option Addr) (n cap : Nat) (ss : Nat → ByteArray) (w : World) (h : NamesAt w a n ss) (hn : n ≤ 4096) :
    Calls Trym.prog 25 #[.slice a n cap] w fun e w' => (∃ a' c', e = .returned (.slice a' n c') ∧ NamesAt w' a' n ss) ∧ Below w.heap.size w w' := by
  have q42 : ∀ (w : World) (a : Option Addr) (n c n' c' : Nat), (binOp .eql 42 (.slice a n c) (.slice none n' c')).run Trym.prog w = .ok (.bool a.isNone) w := fun w a n c n' c' => Lib.run_eql_slice_nil w _ _ a n c n' c' Trym.underlying42
  have hmk := fun (w : World) => run_make_row' (P := Trym.prog) 42 9 (.string ByteArray.empty) 16 Trym.underlying42 info9 rfl .i64 .i64 n (by omega) (by omega) w
  rcases a with _ | x
  · obtain rfl : n = 0 := by
      rcases Nat.eq_zero_or_pos n with e | e
      · exact e
      · obtain ⟨_, _, e, _⟩ := h 0 e; cases e
    go_enter Trym.func25, Trym.ntmps25
    go_wp2
    go_ret
    exact ⟨⟨_, _, rfl, fun r hr => by omega⟩, Below.refl _ _⟩
  · go_enter Trym.func25, Trym.ntmps25
    go_wp2
    go_loopw [4] (fun i wr => ∃ k : Nat, k ≤ n ∧ i = .int .i64 k ∧ Below w.heap.size w wr ∧ ∃ f, wr.rowIs w.heap.size 9 n f ∧ ∀ j, j < k → f j = .string (ss j)) (fun i _ => n - (intOf i).toNat)
    case atStart => exact ⟨0, by omega, rfl, (Below.refl _ _).alloc (Nat.le_refl _) _, _, World.rowIs_made _ _ _ _, fun j hj => by omega⟩
    case round =>
      obtain ⟨k, hk, rfl, hb, f, hrow, hf⟩ := hrel
      have HF : Hid (∀ j, j < k → f j = .string (ss j)) := hf
      clear hf
      by_cases hlt : k < n
      · obtain ⟨b, off, e, hc⟩ := h k hlt
        cases e
        have hc' := cell_later hb hc
        have hnew := hrow.cell hlt
        have hfro := hrow.frozen k
        go_wp2
        go_roundw
        case rel => exact ⟨k + 1, by omega, by go_num, hb.setCell (Nat.le_refl _) _, _, hrow.set k _, name_more HF.out⟩
        case measure => simp [intOf]; omega
      · obtain rfl : k = n := by omega
        go_wp2
        go_ret
        exact ⟨⟨_, _, rfl, names_of_row hrow HF.out⟩, hb⟩

theorem weight_lit (a : Option Addr) (n cap : Nat) (L : Nat → Nat) (w : World) (h : OuterAt w a n L) (hn : n ≤ 9223372036854775807) (hL : ∀ r, r < n → L r ≤ 9223372036854775807) :
    Calls Trym.prog 15 #[.slice a n cap, .int .i64 1048576] w fun e w' => e = .returned (.int .i64 (weight n (sumN L n) 1048576 : Nat)) ∧ w' = w := by
  have c := weight_any a n cap L 1048576 w h hn hL (Nat.le_refl _)
  have e : ((1048576 : Nat) : Int) = 1048576 := by omega
  rwa [e] at c

/-- Too big; or within the bound. -/
def Fits (p : Prop) (e : Ending) : Prop := e = .returned (.bool true) ∨ (e = .returned (.bool false) ∧ p)

set_option maxHeartbeats 2000000 in
/-- 'zzEntryTooBig', nothing added: where it answers no, all lengths are within the limit. -/
theorem tooBig_any (a : Option Addr) (n cap : Nat) (L : Nat → Nat) (A : Option Addr) (m C : Nat) (src : ByteArray) (a5 : Option Addr) (n5 c5 : Nat) (ss : Nat → ByteArray) (name : ByteArray) (w : World)
    (h : OuterAt w a n L) (hn : n ≤ 9223372036854775807) (hL : ∀ r, r < n → L r ≤ 9223372036854775807) (hm : m ≤ 9223372036854775807) (hsrc : src.size ≤ 9223372036854775807)
    (h5 : NamesAt w a5 n5 ss) (hn5 : n5 ≤ 9223372036854775807) (hss : ∀ r, r < n5 → (ss r).size ≤ 9223372036854775807) (hname : name.size ≤ 9223372036854775807) :
    Calls Trym.prog 23 #[.slice a n cap, .slice A m C, .string src, .slice a5 n5 c5, .slice none 0 0, .string ⟨#[]⟩, .bool false, .slice none 0 0, .string name] w fun e w' =>
      Fits (n5 ≤ 4096 ∧ 24 * n + sumN L n + m + src.size + name.size + 16 * n5 + sumN (sizes ss) n5 ≤ 1048576) e ∧ w' = w := by
  have H : Hid (OuterAt w a n L) := h
  have HN : Hid (∀ r, r < n → L r ≤ 9223372036854775807) := hL
  have H5 : Hid (NamesAt w a5 n5 ss) := h5
  have HS : Hid (∀ r, r < n5 → (ss r).size ≤ 9223372036854775807) := hss
  clear h hL h5 hss
  by_cases h1 : 4096 < n5
  · go_enter Trym.func23, Trym.ntmps23
    go_wp2_with fail
    go_ret
    exact ⟨.inl rfl, rfl⟩
  · go_enter Trym.func23, Trym.ntmps23
    go_wp2_with fail
    refine (weight_lit _ _ _ L _ H.out hn HN.out).mono ?_
    rintro e w' ⟨rfl, hw'⟩
    obtain rfl : w = w' := hw'.symm
    by_cases hw : 24 * n + sumN L n ≤ 1048576
    · rw [show weight n (sumN L n) 1048576 = 24 * n + sumN L n from if_pos hw]
      by_cases hA : 24 * n + sumN L n + m + src.size + name.size + 16 * n5 ≤ 1048576
      · go_wp2_with fail
        go_loop [20, 21] (fun t i => ∃ (k : Nat) (x : Int), k ≤ n5 ∧ i = .int .i64 k ∧ t = .int .i64 x ∧ 0 ≤ x ∧ x ≤ 1048576 ∧ x + (24 * n + sumN L n + m + src.size + name.size + 16 * n5 + sumN (sizes ss) k : Nat) = 1048576) (fun _ i => n5 - (intOf i).toNat)
        case atStart => exact ⟨0, _, by omega, rfl, rfl, by omega, by omega, by simp only [sumN]; omega⟩
        case round =>
          obtain ⟨k, x, hk, rfl, rfl, hx0, hx1, hx⟩ := hrel
          have HX : Hid (x + (24 * n + sumN L n + m + src.size + name.size + 16 * n5 + sumN (sizes ss) k : Nat) = 1048576) := hx
          clear hx
          by_cases hlt : k < n5
          · obtain ⟨b, off, rfl, hc⟩ := H5.out k hlt
            have hsk := HS.out k hlt
            have HU : Hid (sumN (sizes ss) (k + 1) = sumN (sizes ss) k + (ss k).size) := rfl
            by_cases hgo : ((ss k).size : Int) ≤ x
            · go_wp2_with fail
              go_round
              case rel => exact ⟨k + 1, _, by omega, by go_num, rfl, by omega, by omega, by rw [HU.out]; have := HX.out; omega⟩
              case measure => simp [intOf]; omega
            · go_wp2_with fail
              go_ret
              exact ⟨.inl rfl, rfl⟩
          · obtain rfl : k = n5 := by omega
            go_wp2_with fail
            go_ret
            exact ⟨.inr ⟨rfl, by omega, by have := HX.out; omega⟩, rfl⟩
      · go_wp2_with fail
        all_goals
          go_ret
          exact ⟨.inl rfl, rfl⟩
    · rw [show weight n (sumN L n) 1048576 = 1048576 + 1 from if_neg hw]
      go_wp2_with fail
      go_ret
      exact ⟨.inl rfl, rfl⟩

end Go.Proofs.Qxb6605389aMods
