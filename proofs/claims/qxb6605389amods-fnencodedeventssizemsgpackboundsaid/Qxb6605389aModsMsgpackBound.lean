/-
  THE WALK of FnEncodedEventsSizeMsgpackBound, out of the contracts of its callees.
-/
import Derived.Test.Qxb6605389aModsBytes
import Derived.Test.Qxb6605389aModsMsgpack
namespace Go.Proofs.Qxb6605389aMods.fnEncodedEventsSizeMsgpackBound
open Go.RowKit

theorem ret_bool {a b : Bool} (h : a = b) : Ending.returned (.bool a) = .returned (.bool b) := by rw [h]

theorem weight_int (a : Option Addr) (n cap : Nat) (L : Nat → Nat) (li : Int) (lim : Nat) (hli : li = (lim : Int)) (w : World) (h : OuterAt w a n L) (hn : n ≤ 9223372036854775807) (hL : ∀ r, r < n → L r ≤ 9223372036854775807) (hlim : lim ≤ 1048576) :
    Calls Trym.prog 15 #[.slice a n cap, .int .i64 li] w fun e w' => e = .returned (.int .i64 (weight n (sumN L n) lim : Nat)) ∧ w' = w := by
  subst hli; exact weight_any a n cap L lim w h hn hL hlim

set_option maxHeartbeats 2000000 in
theorem walk (a : Option Addr) (n cap : Nat) (L : Nat → Nat) (w : World) (h : DeepAt w a n L) (hn : n ≤ 9223372036854775807) (hL : ∀ r, r < n → L r ≤ 9223372036854775807) :
    Calls Trym.prog 7 #[.slice a n cap] w fun e w' => e = .returned (.bool true) ∧ Below w.heap.size w w' := by
  have H : Hid (DeepAt w a n L) := h
  have HN : Hid (∀ r, r < n → L r ≤ 9223372036854775807) := hL
  clear h hL
  go_enter Trym.func7, Trym.ntmps7
  go_wp2_with fail
  refine (bytes20_any _ _ _ L _ H.out.outer hn HN.out).mono ?_
  rintro e w' ⟨⟨b, rfl⟩, hw'⟩
  obtain rfl : w = w' := hw'.symm
  cases b
  · go_wp2_with fail
    go_ret
    exact ⟨rfl, Below.refl _ _⟩
  · go_wp2_with fail
    refine (weight_int _ _ _ L _ 1048576 (by omega) _ H.out.outer hn HN.out (Nat.le_refl _)).mono ?_
    rintro e w' ⟨rfl, hw'⟩
    obtain rfl : w = w' := hw'.symm
    by_cases hw : 24 * n + sumN L n ≤ 1048576
    · rw [show weight n (sumN L n) 1048576 = 24 * n + sumN L n from if_pos hw]
      go_wp2_with fail
      refine (cloneEvents_any _ _ _ _ _ H.out (by omega)).mono ?_
      rintro e w1 ⟨⟨a1, c1, rfl, ho1⟩, hb1⟩
      have HO1 : Hid (OuterAt w1 a1 n L) := ho1
      have HB1 : Hid (Below w.heap.size w w1) := hb1
      clear ho1 hb1
      go_wp2_with fail
      refine (zzEncSize_any _ _ _ L _ HO1.out (by omega)).mono ?_
      rintro e w5 ⟨rfl, hw5⟩
      obtain rfl : w1 = w5 := hw5.symm
      go_wp2_with fail
      refine (header_any _ _ hn).mono ?_
      rintro e w5 ⟨⟨c, rfl, hc1, hc2⟩, hw5⟩
      obtain rfl : w1 = w5 := hw5.symm
      go_wp2_with fail
      go_loop [4, 5] (fun t i => ∃ k x : Nat, k ≤ n ∧ i = .int .i64 k ∧ t = .int .i64 x ∧ 1 + 2 * k + sumN L k ≤ x ∧ x ≤ 5 + 5 * k + sumN L k) (fun _ i => n - (intOf i).toNat)
      case atStart => exact ⟨0, c, by omega, rfl, rfl, by simp only [sumN]; omega, by simp only [sumN]; omega⟩
      case round =>
        obtain ⟨k, x, hk, rfl, rfl, hx1, hx2⟩ := hrel
        by_cases hlt : k < n
        · obtain ⟨b, off, A, C, rfl, hc⟩ := HO1.out k hlt
          have hst := sumN_step L hlt
          have HS : Hid (sumN L (k + 1) = sumN L k + L k) := rfl
          go_wp2_with fail
          refine (bin_any _ _ (by omega)).mono ?_
          rintro e w5 ⟨⟨d, rfl, hd1, hd2⟩, hw5⟩
          obtain rfl : w1 = w5 := hw5.symm
          go_wp2_with fail
          go_round
          case rel => exact ⟨k + 1, x + d, by omega, by go_num, by go_num, by rw [HS.out]; omega, by rw [HS.out]; omega⟩
          case measure => simp [intOf]; omega
        · obtain rfl : k = n := by omega
          go_wp2_with fail
          go_ret
          exact ⟨ret_bool (by simp; omega), HB1.out⟩
    · rw [show weight n (sumN L n) 1048576 = 1048576 + 1 from if_neg hw]
      go_wp2_with fail
      go_ret
      exact ⟨rfl, Below.refl _ _⟩

end Go.Proofs.Qxb6605389aMods.fnEncodedEventsSizeMsgpackBound
