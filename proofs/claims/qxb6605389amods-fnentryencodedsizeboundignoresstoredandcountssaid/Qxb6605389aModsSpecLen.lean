/-
  THE CONTRACT of zzEntrySpecLen: a number no greater than a bound.
-/
import Derived.Test.Qxb6605389aModsMsgpack
import Derived.Test.Qxb6605389aModsNames
namespace Go.Proofs.Qxb6605389aMods
open Go.RowKit Go.Maps

/-- It returns a number no greater than b. -/
def AtMost (b : Nat) (e : Ending) : Prop := ∃ x : Int, e = .returned (.int .i64 x) ∧ 0 ≤ x ∧ x ≤ b

set_option maxHeartbeats 4000000 in
theorem specLen_any (a : Option Addr) (n cap : Nat) (L : Nat → Nat) (A : Option Addr) (m C : Nat) (st : Int) (src : ByteArray) (a5 : Option Addr) (n5 c5 : Nat) (ss : Nat → ByteArray) (w : World)
    (h : OuterAt w a n L) (h5 : NamesAt w a5 n5 ss) (hn5 : n5 ≤ 4096) (hall : 24 * n + sumN L n + m + src.size + 16 * n5 + sumN (sizes ss) n5 ≤ 1048576) :
    Calls Trym.prog 28 #[.slice a n cap, .slice A m C, .int .i64 st, .string src, .slice a5 n5 c5] w fun e w' => AtMost (40 + 5 * n + sumN L n + m + src.size + 6 * n5 + sumN (sizes ss) n5) e ∧ w' = w := by
  have H : Hid (OuterAt w a n L) := h
  have H5 : Hid (NamesAt w a5 n5 ss) := h5
  clear h h5
  go_enter Trym.func28, Trym.ntmps28
  go_wp2_with fail
  refine (header_any _ _ (by omega)).mono ?_
  rintro e w' ⟨⟨c, rfl, hc1, hc2⟩, hw'⟩
  obtain rfl : w = w' := hw'.symm
  go_wp2_with fail
  go_loop [11, 12] (fun t i => ∃ (k : Nat) (x : Int), k ≤ n ∧ i = .int .i64 k ∧ t = .int .i64 x ∧ 0 ≤ x ∧ x ≤ (8 + 5 * k + sumN L k : Nat)) (fun _ i => n - (intOf i).toNat)
  case atStart => exact ⟨0, _, by omega, rfl, rfl, by omega, by simp only [sumN]; omega⟩
  case round =>
    obtain ⟨k, x, hk, rfl, rfl, hx1, hx2⟩ := hrel
    by_cases hlt : k < n
    · obtain ⟨b, off, A1, C1, rfl, hc⟩ := H.out k hlt
      have hst := sumN_step L hlt
      have HS : Hid (sumN L (k + 1) = sumN L k + L k) := rfl
      go_wp2_with fail
      refine (bin_any _ _ (by omega)).mono ?_
      rintro e w5 ⟨⟨d, rfl, hd1, hd2⟩, hw5⟩
      obtain rfl : w = w5 := hw5.symm
      go_wp2_with fail
      go_round
      case rel => exact ⟨k + 1, _, by omega, by go_num, rfl, by omega, by rw [HS.out]; omega⟩
      case measure => simp [intOf]; omega
    · obtain rfl : k = n := by omega
      by_cases h0 : n5 = 0
      · subst h0
        go_wp2_with (first
          | (go_at_call 22; refine (bin_any _ _ (by omega)).mono ?_; rintro e w5 ⟨⟨d, rfl, hd1, hd2⟩, hw5⟩; have hw6 := hw5.symm; subst hw6)
          | (go_at_call 31; refine (str_any _ _ (by omega)).mono ?_; rintro e w5 ⟨⟨d, rfl, hd1, hd2⟩, hw5⟩; have hw6 := hw5.symm; subst hw6))
        all_goals
          go_ret
          exact ⟨⟨_, rfl, by omega, by simp only [sumN]; omega⟩, rfl⟩
      · have hpos : 0 < n5 := by omega
        go_wp2_with (first
          | (go_at_call 22; refine (bin_any _ _ (by omega)).mono ?_; rintro e w5 ⟨⟨d, rfl, hd1, hd2⟩, hw5⟩; have hw6 := hw5.symm; subst hw6)
          | (go_at_call 31; refine (str_any _ _ (by omega)).mono ?_; rintro e w5 ⟨⟨d, rfl, hd1, hd2⟩, hw5⟩; have hw6 := hw5.symm; subst hw6)
          | (go_at_call 21; refine (header_any _ _ (by omega)).mono ?_; rintro e w5 ⟨⟨d, rfl, hd1, hd2⟩, hw5⟩; have hw6 := hw5.symm; subst hw6))
        all_goals
          go_loop [11, 13] (fun t i => ∃ (q : Nat) (y : Int), q ≤ n5 ∧ i = .int .i64 q ∧ t = .int .i64 y ∧ 0 ≤ y ∧ y ≤ (40 + 5 * k + sumN L k + m + src.size + 6 * q + sumN (sizes ss) q : Nat)) (fun _ i => n5 - (intOf i).toNat)
          case atStart => exact ⟨0, _, by omega, rfl, rfl, by omega, by simp only [sumN]; omega⟩
          case round =>
            obtain ⟨q, y, hq, rfl, rfl, hy1, hy2⟩ := hrel
            by_cases hql : q < n5
            · obtain ⟨b, off, rfl, hc⟩ := H5.out q hql
              have hst := sumN_step (sizes ss) hql
              have hsq : sizes ss q = (ss q).size := rfl
              rw [hsq] at hst
              have HS : Hid (sumN (sizes ss) (q + 1) = sumN (sizes ss) q + (ss q).size) := rfl
              clear hsq
              go_wp2_with fail
              refine (str_any _ _ (by omega)).mono ?_
              rintro e w5 ⟨⟨d, rfl, hd1, hd2⟩, hw5⟩
              have hw6 := hw5.symm
              subst hw6
              go_wp2_with fail
              go_round
              case rel => exact ⟨q + 1, _, by omega, by go_num, rfl, by omega, by rw [HS.out]; omega⟩
              case measure => simp [intOf]; omega
            · obtain rfl : q = n5 := by omega
              go_wp2_with fail
              go_ret
              exact ⟨⟨_, rfl, hy1, hy2⟩, rfl⟩

end Go.Proofs.Qxb6605389aMods
