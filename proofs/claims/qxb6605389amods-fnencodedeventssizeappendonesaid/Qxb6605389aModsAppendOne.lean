/-
  THE WALK of FnEncodedEventsSizeAppendOne, out of the contracts of its callees.
-/
import Derived.Test.Qxb6605389aModsBytes
namespace Go.Proofs.Qxb6605389aMods.fnEncodedEventsSizeAppendOne
open Go.RowKit

theorem ret_bool {a b : Bool} (h : a = b) : Ending.returned (.bool a) = .returned (.bool b) := by rw [h]
/-- The lengths with one more behind them. -/
def more (L : Nat → Nat) (n m : Nat) : Nat → Nat := fun j => if j = n then m else L j
theorem sum_more (L : Nat → Nat) (n m : Nat) : sumN (more L n m) (n + 1) = sumN L n + m := by
  simp only [sumN]
  rw [sumN_congr (M := L) (fun r hr => by unfold more; rw [if_neg (by omega)])]
  simp [more]
theorem more_at {f : Nat → Value} {L : Nat → Nat} {n m C : Nat} {A : Option Addr} (hf : ∀ j, j < n → ∃ A C, f j = .slice A (L j) C) :
    ∀ j, j < n + 1 → ∃ A' C', (fun j => if j = n then Value.slice A m C else f j) j = .slice A' (more L n m j) C' := fun j hj => by
  by_cases e : j = n
  · subst e; exact ⟨A, C, by simp [more]⟩
  · obtain ⟨A', C', e'⟩ := hf j (by omega)
    exact ⟨A', C', by simp [e, e', more]⟩

theorem weight_lit (a : Option Addr) (n cap : Nat) (L : Nat → Nat) (w : World) (h : OuterAt w a n L) (hn : n ≤ 9223372036854775807) (hL : ∀ r, r < n → L r ≤ 9223372036854775807) :
    Calls Trym.prog 15 #[.slice a n cap, .int .i64 1048576] w fun e w' => e = .returned (.int .i64 (weight n (sumN L n) 1048576 : Nat)) ∧ w' = w := by
  have c := weight_any a n cap L 1048576 w h hn hL (Nat.le_refl _)
  have e : ((1048576 : Nat) : Int) = 1048576 := by omega
  rwa [e] at c

set_option maxHeartbeats 2000000 in
theorem walk (a : Option Addr) (n cap : Nat) (L : Nat → Nat) (A : Option Addr) (m C : Nat) (w : World) (h : DeepAt w a n L) (hn : n ≤ 9223372036854775807) (hL : ∀ r, r < n → L r ≤ 9223372036854775807)
    (hev : BytesAt w A m) (hm : m ≤ 9223372036854775807) :
    Calls Trym.prog 5 #[.slice a n cap, .slice A m C] w fun e w' => e = .returned (.bool true) ∧ Below w.heap.size w w' := by
  have H : Hid (DeepAt w a n L) := h
  have HN : Hid (∀ r, r < n → L r ≤ 9223372036854775807) := hL
  have HE : Hid (BytesAt w A m) := hev
  clear h hL hev
  go_enter Trym.func5, Trym.ntmps5
  go_wp2_with fail
  refine (bytes14_any _ _ _ L _ _ _ _ H.out.outer hn HN.out hm).mono ?_
  rintro e w' ⟨⟨b, rfl⟩, hw'⟩
  obtain rfl : w = w' := hw'.symm
  cases b
  · go_wp2_with fail
    go_ret
    exact ⟨rfl, Below.refl _ _⟩
  · go_wp2_with fail
    refine (weight_lit _ _ _ L _ H.out.outer hn HN.out).mono ?_
    rintro e w' ⟨rfl, hw'⟩
    obtain rfl : w = w' := hw'.symm
    by_cases hw : 24 * n + sumN L n ≤ 1048576
    · rw [show weight n (sumN L n) 1048576 = 24 * n + sumN L n from if_pos hw]
      by_cases hr : 24 * n + sumN L n + 24 ≤ 1048576
      · by_cases hr2 : 24 * n + sumN L n + 24 + m ≤ 1048576
        · go_wp2_with fail
          refine (cloneEvents_any _ _ _ _ _ H.out (by omega)).mono ?_
          rintro e w1 ⟨⟨a1, c1, rfl, ho1⟩, hb1⟩
          have HE1 : Hid (BytesAt w1 A m) := HE.out.later hb1
          have HO1 : Hid (OuterAt w1 a1 n L) := ho1
          have HB1 : Hid (Below w.heap.size w w1) := hb1
          clear ho1 hb1
          go_wp2_with fail
          refine (cloneBytes_any _ _ _ _ HE1.out (by omega)).mono ?_
          rintro e w2 ⟨⟨A2, C2, rfl⟩, hb2⟩
          have HO2 : Hid (OuterAt w2 a1 n L) := HO1.out.later hb2
          have HB2 : Hid (Below w.heap.size w w2) := HB1.out.trans (hb2.mono HB1.out.size)
          have ec : ((n + 1 : Nat) : Int) = (n : Int) + 1 := by omega
          have hmk := fun (w : World) => run_make_row' (P := Trym.prog) 31 32 (.slice none 0 0) 24 Trym.underlying31 info32 rfl .i64 .i64 (n + 1) (by omega) (by omega) w
          rw [ec] at hmk
          clear ec hb2 HE1 HB1 HO1
          go_wp2_with fail
          go_loopw [7] (fun i wr => ∃ k : Nat, k ≤ n ∧ i = .int .i64 k ∧ Below w2.heap.size w2 wr ∧ ∃ f, wr.rowIs w2.heap.size 32 (n + 1) f ∧ ∀ j, j < k → ∃ A C, f j = .slice A (L j) C) (fun i _ => n - (intOf i).toNat)
          case atStart => exact ⟨0, by omega, rfl, (Below.refl _ _).alloc (Nat.le_refl _) _, _, World.rowIs_made _ _ _ _, fun j hj => by omega⟩
          case round =>
            obtain ⟨k, hk, rfl, hb, f, hrow, hf⟩ := hrel
            have HF : Hid (∀ j, j < k → ∃ A C, f j = .slice A (L j) C) := hf
            clear hf
            by_cases hlt : k < n
            · obtain ⟨b, off, A3, C3, rfl, hc⟩ := HO2.out k hlt
              have hc' := cell_later hb hc
              have hnew := hrow.cell (i := k) (by omega)
              have hfro := hrow.frozen k
              clear hc
              go_wp2_with fail
              go_roundw
              case rel => exact ⟨k + 1, by omega, by go_num, hb.setCell (Nat.le_refl _) _, _, hrow.set k _, laid_more HF.out⟩
              case measure => simp [intOf]; omega
            · obtain rfl : k = n := by omega
              have hnew := hrow.cell (i := k) (by omega)
              have hfro := hrow.frozen k
              have HB3 : Hid (Below w2.heap.size w2 (wr.setCell ⟨w2.heap.size, k, none⟩ (.slice A2 m C2))) := hb.setCell (Nat.le_refl _) _
              have HO3 : Hid (OuterAt (wr.setCell ⟨w2.heap.size, k, none⟩ (.slice A2 m C2)) a1 k L) := HO2.out.later HB3.out
              have HG : Hid (OuterAt (wr.setCell ⟨w2.heap.size, k, none⟩ (.slice A2 m C2)) (some ⟨w2.heap.size, 0, none⟩) (k + 1) (more L k m)) := outer_of_row (hrow.set k _) (more_at HF.out)
              have HS : Hid (sumN (more L k m) (k + 1) = sumN L k + m) := sum_more L k m
              go_wp2_with fail
              refine (zzEncSize_any _ _ _ L _ HO3.out (by omega)).mono ?_
              rintro e w5 ⟨rfl, hw5⟩
              subst hw5
              go_wp2_with fail
              refine (zzEncSize_any _ _ _ (more L k m) _ HG.out (by rw [HS.out]; omega)).mono ?_
              rintro e w5 ⟨rfl, hw5⟩
              subst hw5
              rw [HS.out]
              go_wp2_with fail
              go_ret
              exact ⟨ret_bool (by simp; omega), HB2.out.trans (HB3.out.mono HB2.out.size)⟩
        · go_wp2_with fail
          go_ret
          exact ⟨rfl, Below.refl _ _⟩
      · go_wp2_with fail
        go_ret
        exact ⟨rfl, Below.refl _ _⟩
    · rw [show weight n (sumN L n) 1048576 = 1048576 + 1 from if_neg hw]
      go_wp2_with fail
      go_ret
      exact ⟨rfl, Below.refl _ _⟩

end Go.Proofs.Qxb6605389aMods.fnEncodedEventsSizeAppendOne
