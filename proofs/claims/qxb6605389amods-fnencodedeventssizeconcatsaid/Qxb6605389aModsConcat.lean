/-
  THE WALK of FnEncodedEventsSizeConcat, out of the contracts of its callees.
-/
import Derived.Test.Qxb6605389aModsBytes
namespace Go.Proofs.Qxb6605389aMods.fnEncodedEventsSizeConcat
open Go.RowKit

theorem ret_bool {a b : Bool} (h : a = b) : Ending.returned (.bool a) = .returned (.bool b) := by rw [h]
/-- The lengths of one list, then those of another. -/
def cat (L : Nat → Nat) (n : Nat) (M : Nat → Nat) : Nat → Nat := fun j => if j < n then L j else M (j - n)
theorem cat_lo {L M : Nat → Nat} {n k : Nat} (h : k < n) : L k = cat L n M k := by unfold cat; rw [if_pos h]
theorem cat_hi (L M : Nat → Nat) (n j : Nat) : M j = cat L n M (n + j) := by
  unfold cat; rw [if_neg (by omega)]; congr 1; omega
theorem sum_cat (L : Nat → Nat) (n : Nat) (M : Nat → Nat) (m : Nat) : sumN (cat L n M) (n + m) = sumN L n + sumN M m := by
  induction m with
  | zero => exact sumN_congr fun r hr => (cat_lo hr).symm
  | succ m ih =>
    show sumN (cat L n M) (n + m) + cat L n M (n + m) = sumN L n + (sumN M m + M m)
    rw [ih, ← cat_hi]; omega
theorem laid_next {f : Nat → Value} {L : Nat → Nat} {k l : Nat} {A : Option Addr} {C : Nat} (hl : l = L k) (hf : ∀ j, j < k → ∃ A C, f j = .slice A (L j) C) :
    ∀ j, j < k + 1 → ∃ A' C', (fun j => if j = k then Value.slice A l C else f j) j = .slice A' (L j) C' := by
  subst hl; exact laid_more hf

theorem weight_int (a : Option Addr) (n cap : Nat) (L : Nat → Nat) (li : Int) (lim : Nat) (hli : li = (lim : Int)) (w : World) (h : OuterAt w a n L) (hn : n ≤ 9223372036854775807) (hL : ∀ r, r < n → L r ≤ 9223372036854775807) (hlim : lim ≤ 1048576) :
    Calls Trym.prog 15 #[.slice a n cap, .int .i64 li] w fun e w' => e = .returned (.int .i64 (weight n (sumN L n) lim : Nat)) ∧ w' = w := by
  subst hli; exact weight_any a n cap L lim w h hn hL hlim

set_option maxHeartbeats 2000000 in
theorem walk (a : Option Addr) (n cap : Nat) (L : Nat → Nat) (b : Option Addr) (m capb : Nat) (M : Nat → Nat) (w : World) (h : DeepAt w a n L) (hn : n ≤ 9223372036854775807) (hL : ∀ r, r < n → L r ≤ 9223372036854775807)
    (g : DeepAt w b m M) (hm : m ≤ 9223372036854775807) (hM : ∀ r, r < m → M r ≤ 9223372036854775807) :
    Calls Trym.prog 6 #[.slice a n cap, .slice b m capb] w fun e w' => e = .returned (.bool true) ∧ Below w.heap.size w w' := by
  have H : Hid (DeepAt w a n L) := h
  have HN : Hid (∀ r, r < n → L r ≤ 9223372036854775807) := hL
  have G : Hid (DeepAt w b m M) := g
  have GN : Hid (∀ r, r < m → M r ≤ 9223372036854775807) := hM
  clear h hL g hM
  go_enter Trym.func6, Trym.ntmps6
  go_wp2_with fail
  refine (bytes19_any _ _ _ L _ _ _ M _ H.out.outer hn HN.out G.out.outer hm GN.out).mono ?_
  rintro e w' ⟨⟨b, rfl⟩, hw'⟩
  obtain rfl : w = w' := hw'.symm
  cases b
  · go_wp2_with fail
    go_ret
    exact ⟨rfl, Below.refl _ _⟩
  · go_wp2_with fail
    refine (weight_int _ _ _ L _ 1048576 (by omega) _ H.out.outer hn HN.out (Nat.le_refl _)).mono ?_
    rintro e w' ⟨rfl, hw'⟩
    obtain rfl : w = w' := hw'.symm
    by_cases hw : 24 * n + sumN L n ≤ 1048576
    · rw [show weight n (sumN L n) 1048576 = 24 * n + sumN L n from if_pos hw]
      go_wp2_with fail
      refine (weight_int _ _ _ M _ (1048576 - (24 * n + sumN L n)) (by omega) _ G.out.outer hm GN.out (by omega)).mono ?_
      rintro e w' ⟨rfl, hw'⟩
      obtain rfl : w = w' := hw'.symm
      by_cases hr : 24 * m + sumN M m ≤ 1048576 - (24 * n + sumN L n)
      · rw [show weight m (sumN M m) (1048576 - (24 * n + sumN L n)) = 24 * m + sumN M m from if_pos hr]
        go_wp2_with fail
        refine (cloneEvents_any _ _ _ _ _ H.out (by omega)).mono ?_
        rintro e w1 ⟨⟨a1, c1, rfl, ho1⟩, hb1⟩
        have G1 : Hid (DeepAt w1 b m M) := G.out.later hb1
        have HO1 : Hid (OuterAt w1 a1 n L) := ho1
        have HB1 : Hid (Below w.heap.size w w1) := hb1
        clear ho1 hb1
        go_wp2_with fail
        refine (cloneEvents_any _ _ _ _ _ G1.out (by omega)).mono ?_
        rintro e w2 ⟨⟨b2, c2, rfl, ho2⟩, hb2⟩
        have GO2 : Hid (OuterAt w2 b2 m M) := ho2
        have HO2 : Hid (OuterAt w2 a1 n L) := HO1.out.later hb2
        have HB2 : Hid (Below w.heap.size w w2) := HB1.out.trans (hb2.mono HB1.out.size)
        have ec : ((n + m : Nat) : Int) = (n : Int) + (m : Int) := by omega
        have hmk := fun (w : World) => run_make_row' (P := Trym.prog) 31 32 (.slice none 0 0) 24 Trym.underlying31 info32 rfl .i64 .i64 (n + m) (by omega) (by omega) w
        rw [ec] at hmk
        clear ec hb2 G1 HB1 HO1 ho2
        go_wp2_with fail
        go_loopw [7] (fun i wr => ∃ k : Nat, k ≤ n ∧ i = .int .i64 k ∧ Below w2.heap.size w2 wr ∧ ∃ f, wr.rowIs w2.heap.size 32 (n + m) f ∧ ∀ j, j < k → ∃ A C, f j = .slice A (cat L n M j) C) (fun i _ => n - (intOf i).toNat)
        case atStart => exact ⟨0, by omega, rfl, (Below.refl _ _).alloc (Nat.le_refl _) _, _, World.rowIs_made _ _ _ _, fun j hj => by omega⟩
        case round =>
          obtain ⟨k, hk, rfl, hb, f, hrow, hf⟩ := hrel
          have HF : Hid (∀ j, j < k → ∃ A C, f j = .slice A (cat L n M j) C) := hf
          clear hf
          by_cases hlt : k < n
          · obtain ⟨bb, off, A3, C3, rfl, hc⟩ := HO2.out k hlt
            have hc' := cell_later hb hc
            have hnew := hrow.cell (i := k) (by omega)
            have hfro := hrow.frozen k
            clear hc
            go_wp2_with fail
            go_roundw
            case rel => exact ⟨k + 1, by omega, by go_num, hb.setCell (Nat.le_refl _) _, _, hrow.set k _, laid_next (cat_lo hlt) HF.out⟩
            case measure => simp [intOf]; omega
          · obtain rfl : k = n := by omega
            go_wp2_with fail
            go_loopw [8] (fun i wr => ∃ j : Nat, j ≤ m ∧ i = .int .i64 j ∧ Below w2.heap.size w2 wr ∧ ∃ f, wr.rowIs w2.heap.size 32 (k + m) f ∧ ∀ r, r < k + j → ∃ A C, f r = .slice A (cat L k M r) C) (fun i _ => m - (intOf i).toNat)
            case atStart => exact ⟨0, by omega, rfl, hb, f, hrow, HF.out⟩
            case round =>
              clear HF hrow hb
              obtain ⟨j, hj, rfl, hb, f, hrow, hf⟩ := hrel
              have HF : Hid (∀ r, r < k + j → ∃ A C, f r = .slice A (cat L k M r) C) := hf
              clear hf
              by_cases hlt : j < m
              · obtain ⟨bb, off, A3, C3, rfl, hc⟩ := GO2.out j hlt
                have hc' := cell_later hb hc
                have hnew := hrow.cell (i := k + j) (by omega)
                have hfro := hrow.frozen (k + j)
                clear hc
                go_wp2_with fail
                go_roundw
                case rel => exact ⟨j + 1, by omega, by go_num, hb.setCell (Nat.le_refl _) _, _, hrow.set (k + j) _, laid_next (cat_hi L M k j) HF.out⟩
                case measure => simp [intOf]; omega
              · obtain rfl : j = m := by omega
                have HO3 : Hid (OuterAt _ a1 k L) := HO2.out.later hb
                have GO3 : Hid (OuterAt _ b2 j M) := GO2.out.later hb
                have HG : Hid (OuterAt _ (some ⟨w2.heap.size, 0, none⟩) (k + j) (cat L k M)) := outer_of_row hrow HF.out
                have HS : Hid (sumN (cat L k M) (k + j) = sumN L k + sumN M j) := sum_cat L k M j
                have HB3 : Hid (Below w2.heap.size w2 _) := hb
                clear hb hrow
                go_wp2_with fail
                refine (zzEncSize_any _ _ _ L _ HO3.out (by omega)).mono ?_
                rintro e w5 ⟨rfl, hw5⟩
                subst hw5
                go_wp2_with fail
                refine (zzEncSize_any _ _ _ M _ GO3.out (by omega)).mono ?_
                rintro e w5 ⟨rfl, hw5⟩
                subst hw5
                go_wp2_with fail
                refine (zzEncSize_any _ _ _ (cat L k M) _ HG.out (by rw [HS.out]; omega)).mono ?_
                rintro e w5 ⟨rfl, hw5⟩
                subst hw5
                rw [HS.out]
                clear HO3 GO3 HG
                go_wp2_with fail
                go_ret
                exact ⟨ret_bool (by simp; omega), HB2.out.trans (HB3.out.mono HB2.out.size)⟩
      · rw [show weight m (sumN M m) (1048576 - (24 * n + sumN L n)) = 1048576 - (24 * n + sumN L n) + 1 from if_neg hr]
        go_wp2_with fail
        go_ret
        exact ⟨rfl, Below.refl _ _⟩
    · rw [show weight n (sumN L n) 1048576 = 1048576 + 1 from if_neg hw]
      go_wp2_with fail
      go_ret
      exact ⟨rfl, Below.refl _ _⟩

end Go.Proofs.Qxb6605389aMods.fnEncodedEventsSizeConcat
