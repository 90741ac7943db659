/-
  THE WALK of FnEntryEncodedSizeBoundIgnoresStoredAndCounts, out of the contracts of its callees.
-/
import Derived.Test.Qxb6605389aModsKept
import Derived.Test.Qxb6605389aModsSpecLen
namespace Go.Proofs.Qxb6605389aMods.fnEntryEncodedSizeBoundIgnoresStoredAndCounts
open Go.RowKit Go.Maps

theorem ret_bool {a b : Bool} (h : a = b) : Ending.returned (.bool a) = .returned (.bool b) := by rw [h]

set_option maxHeartbeats 4000000 in
theorem walk (a : Option Addr) (n cap : Nat) (L : Nat → Nat) (A : Option Addr) (m C : Nat) (st : Int) (src : ByteArray) (r : Option Nat) (a5 : Option Addr) (n5 c5 : Nat) (ss : Nat → ByteArray) (w : World)
    (h : DeepAt w a n L) (hn : n ≤ 9223372036854775807) (hL : ∀ r, r < n → L r ≤ 9223372036854775807) (hmeta : BytesAt w A m) (hm : m ≤ 9223372036854775807) (_hst : (Lit.int .i64 st).wf = true) (hsrc : src.size ≤ maxLen)
    (hkept : KeptArg w r) (h5 : NamesAt w a5 n5 ss) (hn5 : n5 ≤ 9223372036854775807) (hss : ∀ r, r < n5 → (ss r).size ≤ 9223372036854775807) :
    Calls Trym.prog 10 #[.slice a n cap, .slice A m C, .int .i64 st, .string src, .map r, .slice a5 n5 c5] w fun e w' => e = .returned (.bool true) ∧ Below w.heap.size w w' := by
  unfold maxLen at hsrc
  obtain ⟨ks, N, hlk, hN0⟩ := hkept.looks
  have hlen := hlk.len w (Below.refl _ _)
  have H : Hid (DeepAt w a n L) := h
  have HN : Hid (∀ r, r < n → L r ≤ 9223372036854775807) := hL
  have HM : Hid (BytesAt w A m) := hmeta
  have H5 : Hid (NamesAt w a5 n5 ss) := h5
  have HS : Hid (∀ r, r < n5 → (ss r).size ≤ 9223372036854775807) := hss
  have HK : Hid (Looks w r ks N) := hlk
  have HN0 : Hid (r = none → N = 0) := hN0
  clear h hL hmeta h5 hss hlk hN0 hkept
  go_enter Trym.func10, Trym.ntmps10
  go_wp2_with fail
  refine (tooBig_any _ _ _ L _ _ _ _ _ _ _ ss _ _ H.out.outer hn HN.out hm (by omega) H5.out hn5 HS.out (Nat.zero_le _)).mono ?_
  rintro e w' ⟨hfit, hw'⟩
  obtain rfl : w = w' := hw'.symm
  rcases hfit with rfl | ⟨rfl, hn5', hall0⟩
  · go_wp2_with fail
    go_ret
    exact ⟨rfl, Below.refl _ _⟩
  · have hall : 24 * n + sumN L n + m + src.size + 16 * n5 + sumN (sizes ss) n5 ≤ 1048576 := by
      have e0 : (⟨#[]⟩ : ByteArray).size = 0 := rfl
      omega
    clear hall0
    by_cases hNN : 4096 < N
    · go_wp2_with fail
      go_ret
      exact ⟨rfl, Below.refl _ _⟩
    · have HS2 : Hid (∀ j, j < n5 → (ss j).size ≤ 1048576) := fun j hj => by have := size_le_sum ss hj; omega
      go_wp2_with fail
      refine (namesAreKeys_any _ _ _ _ _ _ _ _ HK.out (by omega) H5.out hn5' HS2.out).mono ?_
      rintro e w1 ⟨hsay, hb1⟩
      rcases hsay with rfl | ⟨rfl, hNn, hap⟩
      · go_wp2_with fail
        go_ret
        exact ⟨rfl, hb1⟩
      · have HR0 : Hid (r = none → n5 = 0) := fun e => by rw [← hNn]; exact HN0.out e
        have HB1 : Hid (Below w.heap.size w w1) := hb1
        have HMS : Hid (massN ss n5 = 11 * n5 + sumN (sizes ss) n5) := massN_apart hap
        have hml : massN ss n5 ≤ 1093632 := by rw [HMS.out]; omega
        clear hb1 hNn hlen hap
        go_wp2_with fail
        refine (cloneEvents_any _ _ _ L _ (H.out.later HB1.out) (by omega)).mono ?_
        rintro e w2 ⟨⟨a2, c2, rfl, ho2⟩, hb2⟩
        have HB2 : Hid (Below w.heap.size w w2) := HB1.out.trans (hb2.mono HB1.out.size)
        have HO2 : Hid (OuterAt w2 a2 n L) := ho2
        clear hb2 ho2 HB1
        go_wp2_with fail
        refine (cloneBytes_any _ _ _ _ (HM.out.later HB2.out) (by omega)).mono ?_
        rintro e w3 ⟨⟨A3, C3, rfl⟩, hb3⟩
        have HB3 : Hid (Below w.heap.size w w3) := HB2.out.trans (hb3.mono HB2.out.size)
        have HO3 : Hid (OuterAt w3 a2 n L) := HO2.out.later hb3
        clear hb3 HB2 HO2
        go_wp2_with fail
        refine (cloneStrings_any _ _ _ ss _ (H5.out.later HB3.out) hn5').mono ?_
        rintro e w4 ⟨⟨a4, c4, rfl, hn4⟩, hb4⟩
        have HB4 : Hid (Below w.heap.size w w4) := HB3.out.trans (hb4.mono HB3.out.size)
        have HO4 : Hid (OuterAt w4 a2 n L) := HO3.out.later hb4
        have H4 : Hid (NamesAt w4 a4 n5 ss) := hn4
        clear hb4 HB3 HO3 hn4
        go_wp2_with fail
        refine (keptCopy_both _ _ _ _ _ _ ss _ _ (HK.out.later HB4.out) HR0.out H4.out hn5' HS2.out).mono ?_
        rintro e w5 ⟨⟨r5, rfl, hk5⟩, hb5⟩
        have HB5 : Hid (Below w.heap.size w w5) := HB4.out.trans (hb5.mono HB4.out.size)
        have HO5 : Hid (OuterAt w5 a2 n L) := HO4.out.later hb5
        have H5' : Hid (NamesAt w5 a4 n5 ss) := H4.out.later hb5
        have HK5 : Hid (KeptIs w5 r5 ss n5) := hk5
        clear hb5 HB4 HO4 H4 hk5
        go_wp2_with fail
        refine (keptCopy_both _ _ _ _ _ _ ss _ _ (HK.out.later HB5.out) HR0.out H5'.out hn5' HS2.out).mono ?_
        rintro e w6 ⟨⟨r6, rfl, hk6⟩, hb6⟩
        have HB6 : Hid (Below w.heap.size w w6) := HB5.out.trans (hb6.mono HB5.out.size)
        have HO6 : Hid (OuterAt w6 a2 n L) := HO5.out.later hb6
        have H6 : Hid (NamesAt w6 a4 n5 ss) := H5'.out.later hb6
        have HK5' : Hid (KeptIs w6 r5 ss n5) := HK5.out.later hb6
        have HK6 : Hid (KeptIs w6 r6 ss n5) := hk6
        clear hb6 HB5 HO5 H5' HK5 hk6
        go_wp2_with fail
        refine (entry_any _ _ _ L _ _ _ _ _ _ (massN ss n5) _ HO6.out (by omega) (by omega) (by omega) HK6.out.map (by omega)).mono ?_
        rintro e w7 ⟨rfl, hb7⟩
        have HB7 : Hid (Below w.heap.size w w7) := HB6.out.trans (hb7.mono HB6.out.size)
        have HO7 : Hid (OuterAt w7 a2 n L) := HO6.out.later hb7
        have H7 : Hid (NamesAt w7 a4 n5 ss) := H6.out.later hb7
        have HK7 : Hid (KeptIs w7 r5 ss n5) := HK5'.out.later hb7
        clear hb7 HB6 HO6 H6 HK6 HK5'
        go_wp2_with fail
        refine (entry_any _ _ _ L _ _ _ _ _ _ (massN ss n5) _ HO7.out (by omega) (by omega) (by omega) HK7.out.map (by omega)).mono ?_
        rintro e w8 ⟨rfl, hb8⟩
        have HB8 : Hid (Below w.heap.size w w8) := HB7.out.trans (hb8.mono HB7.out.size)
        have HO8 : Hid (OuterAt w8 a2 n L) := HO7.out.later hb8
        have H8 : Hid (NamesAt w8 a4 n5 ss) := H7.out.later hb8
        clear hb8 HB7 HO7 H7 HK7
        go_wp2_with fail
        refine (specLen_any _ _ _ L _ _ _ _ _ _ _ _ ss _ HO8.out H8.out hn5' hall).mono ?_
        rintro e w9 ⟨⟨x, rfl, hx1, hx2⟩, hw9⟩
        obtain rfl : w8 = w9 := hw9.symm
        have hge : x ≤ (69 + 5 * n + sumN L n + m + src.size + massN ss n5 : Nat) := by rw [HMS.out]; omega
        go_wp2_with fail
        go_ret
        exact ⟨ret_bool (by simp; omega), HB8.out⟩

end Go.Proofs.Qxb6605389aMods.fnEntryEncodedSizeBoundIgnoresStoredAndCounts
