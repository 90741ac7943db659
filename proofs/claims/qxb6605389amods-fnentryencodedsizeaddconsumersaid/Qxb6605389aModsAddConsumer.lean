/-
  THE WALK of FnEntryEncodedSizeAddConsumer, out of the contracts of its callees.
-/
import Derived.Test.Qxb6605389aModsKept
namespace Go.Proofs.Qxb6605389aMods.fnEntryEncodedSizeAddConsumer
open Go.RowKit Go.Maps

theorem ret_bool {a b : Bool} (h : a = b) : Ending.returned (.bool a) = .returned (.bool b) := by rw [h]
/-- The names with one more behind them. -/
def withName (ss : Nat → ByteArray) (n : Nat) (name : ByteArray) : Nat → ByteArray := fun j => if j = n then name else ss j
theorem withName_lo {ss : Nat → ByteArray} {n : Nat} {name : ByteArray} {j : Nat} (h : j < n) : ss j = withName ss n name j := by
  unfold withName; rw [if_neg (by omega)]
theorem withName_hi (ss : Nat → ByteArray) (n : Nat) (name : ByteArray) : withName ss n name n = name := by
  unfold withName; rw [if_pos rfl]
theorem mass_with (ss : Nat → ByteArray) (n : Nat) (name : ByteArray) : massN (withName ss n name) (n + 1) = if isIn ss n (.string name.data.toList) = true then massN ss n else massN ss n + (11 + name.size) := by
  simp only [massN]
  rw [← massN_congr (ss := ss) (fun j hj => withName_lo hj), ← isIn_congr (ss := ss) (fun j hj => withName_lo hj), keyAt, withName_hi]
theorem keys_congr {w : World} {b n k : Nat} {ss tt : Nat → ByteArray} (h : KeysAre w b n ss k) (e : ∀ j, j < k → ss j = tt j) : KeysAre w b n tt k := by
  obtain ⟨D, ho, hm, hh⟩ := h
  exact ⟨D, ho, by rw [hm, massN_congr e], fun kl => by rw [hh, isIn_congr e]⟩

set_option maxHeartbeats 4000000 in
theorem walk (a : Option Addr) (n cap : Nat) (L : Nat → Nat) (A : Option Addr) (m C : Nat) (st : Int) (src : ByteArray) (r : Option Nat) (a5 : Option Addr) (n5 c5 : Nat) (ss : Nat → ByteArray) (name : ByteArray) (count : Int) (w : World)
    (h : DeepAt w a n L) (hn : n ≤ 9223372036854775807) (hL : ∀ r, r < n → L r ≤ 9223372036854775807) (hmeta : BytesAt w A m) (hm : m ≤ 9223372036854775807) (_hst : (Lit.int .i64 st).wf = true) (hsrc : src.size ≤ maxLen)
    (hkept : KeptArg w r) (h5 : NamesAt w a5 n5 ss) (hn5 : n5 ≤ 9223372036854775807) (hss : ∀ r, r < n5 → (ss r).size ≤ 9223372036854775807) (hname : name.size ≤ maxLen) (hcount : (Lit.int .i64 count).wf = true) :
    Calls Trym.prog 9 #[.slice a n cap, .slice A m C, .int .i64 st, .string src, .map r, .slice a5 n5 c5, .string name, .int .i64 count] w fun e w' => e = .returned (.bool true) ∧ Below w.heap.size w w' := by
  unfold maxLen at hsrc hname
  obtain ⟨ks, N, hlk, hN0⟩ := hkept.looks
  have hlen := hlk.len w (Below.refl _ _)
  have hmm := run_makeMap_some
  have H : Hid (DeepAt w a n L) := h
  have HN : Hid (∀ r, r < n → L r ≤ 9223372036854775807) := hL
  have HM : Hid (BytesAt w A m) := hmeta
  have H5 : Hid (NamesAt w a5 n5 ss) := h5
  have HS : Hid (∀ r, r < n5 → (ss r).size ≤ 9223372036854775807) := hss
  have HK : Hid (Looks w r ks N) := hlk
  have HN0 : Hid (r = none → N = 0) := hN0
  have HC : Hid ((Lit.int .i64 count).wf = true) := hcount
  clear h hL hmeta h5 hss hlk hN0 hkept hcount
  go_enter Trym.func9, Trym.ntmps9
  go_wp2_with fail
  refine (tooBig_any _ _ _ L _ _ _ _ _ _ _ ss _ _ H.out.outer hn HN.out hm (by omega) H5.out hn5 HS.out (by omega)).mono ?_
  rintro e w' ⟨hfit, hw'⟩
  obtain rfl : w = w' := hw'.symm
  rcases hfit with rfl | ⟨rfl, hn5', hall⟩
  · go_wp2_with fail
    go_ret
    exact ⟨rfl, Below.refl _ _⟩
  · by_cases hNN : 4096 < N
    · go_wp2_with fail
      go_ret
      exact ⟨rfl, Below.refl _ _⟩
    · have HS2 : Hid (∀ j, j < n5 → (ss j).size ≤ 1048576) := fun j hj => by have := size_le_sum ss hj; omega
      go_wp2_with fail
      refine (namesAreKeys_any _ _ _ _ _ _ _ _ HK.out (by omega) H5.out hn5' HS2.out).mono ?_
      rintro e w1 ⟨hsay, hb1⟩
      rcases hsay with rfl | ⟨rfl, hNn, -⟩
      · go_wp2_with fail
        go_ret
        exact ⟨rfl, hb1⟩
      · have HR0 : Hid (r = none → n5 = 0) := fun e => by rw [← hNn]; exact HN0.out e
        have HB1 : Hid (Below w.heap.size w w1) := hb1
        clear hb1 hNn hlen
        go_wp2_with fail
        refine (cloneEvents_any _ _ _ L _ (H.out.later HB1.out) (by omega)).mono ?_
        rintro e w2 ⟨⟨a2, c2, rfl, ho2⟩, hb2⟩
        have HB2 : Hid (Below w.heap.size w w2) := HB1.out.trans (hb2.mono HB1.out.size)
        have HO2 : Hid (OuterAt w2 a2 n L) := ho2
        clear hb2 ho2 HB1
        go_wp2_with fail
        refine (cloneBytes_any _ _ _ _ (HM.out.later HB2.out) (by omega)).mono ?_
        rintro e w3 ⟨⟨A3, C3, rfl⟩, hb3⟩
        have HB3 : Hid (Below w.heap.size w w3) := HB2.out.trans (hb3.mono HB2.out.size)
        have HO3 : Hid (OuterAt w3 a2 n L) := HO2.out.later hb3
        clear hb3 HB2 HO2
        go_wp2_with fail
        refine (cloneStrings_any _ _ _ ss _ (H5.out.later HB3.out) hn5').mono ?_
        rintro e w4 ⟨⟨a4, c4, rfl, hn4⟩, hb4⟩
        have HB4 : Hid (Below w.heap.size w w4) := HB3.out.trans (hb4.mono HB3.out.size)
        have HO4 : Hid (OuterAt w4 a2 n L) := HO3.out.later hb4
        have H4 : Hid (NamesAt w4 a4 n5 ss) := hn4
        clear hb4 HB3 HO3 hn4
        go_wp2_with fail
        refine (keptCopy_both _ _ _ _ _ _ ss _ _ (HK.out.later HB4.out) HR0.out H4.out hn5' HS2.out).mono ?_
        rintro e w5 ⟨⟨r5, rfl, hk5⟩, hb5⟩
        have HB5 : Hid (Below w.heap.size w w5) := HB4.out.trans (hb5.mono HB4.out.size)
        have HO5 : Hid (OuterAt w5 a2 n L) := HO4.out.later hb5
        have H5' : Hid (NamesAt w5 a4 n5 ss) := H4.out.later hb5
        have HK5 : Hid (KeptIs w5 r5 ss n5) := hk5
        have hml := massN_le ss n5
        have hsz : sumN (fun j => (ss j).size) n5 = sumN (sizes ss) n5 := rfl
        rw [hsz] at hml
        clear hb5 HB4 HO4 H4 hk5 hsz
        go_wp2_with fail
        refine (entry_any _ _ _ L _ _ _ _ _ _ (massN ss n5) _ HO5.out (by omega) (by omega) (by omega) HK5.out.map (by omega)).mono ?_
        rintro e w6 ⟨rfl, hb6⟩
        have HB6 : Hid (Below w.heap.size w w6) := HB5.out.trans (hb6.mono HB5.out.size)
        have HO6 : Hid (OuterAt w6 a2 n L) := HO5.out.later hb6
        have H6 : Hid (NamesAt w6 a4 n5 ss) := H5'.out.later hb6
        have HK6 : Hid (KeptIs w6 r5 ss n5) := HK5.out.later hb6
        clear hb6 HB5 HO5 H5' HK5
        obtain ⟨N6, hl6⟩ := HK6.out.looks
        have HL6 : Hid (Looks w6 r5 (isIn ss n5) N6) := hl6
        clear hl6
        go_wp2_with fail
        go_loopw [19] (fun i wr => ∃ k : Nat, k ≤ n5 ∧ i = .int .i64 k ∧ Below w6.heap.size w6 wr ∧ KeysAre wr w6.heap.size k ss k) (fun i _ => n5 - (intOf i).toNat)
        case atStart => exact ⟨0, by omega, rfl, (Below.refl _ _).alloc (Nat.le_refl _) _, .map [], World.ownsMap_made _ _ _ _, rfl, fun _ => rfl⟩
        case round =>
          obtain ⟨k, hk, rfl, hb, hka⟩ := hrel
          by_cases hlt : k < n5
          · obtain ⟨bb, off, rfl, hc⟩ := H6.out k hlt
            have hc' := cell_later hb hc
            obtain ⟨D, hown, hmass, hhas⟩ := hka
            obtain ⟨s, hs⟩ : ∃ s, s = ss k := ⟨_, rfl⟩
            rw [← hs] at hc'
            have hsz : s.size ≤ 9223372036854775807 := by rw [hs]; have := HS2.out k hlt; omega
            obtain ⟨c, hlook, hwc⟩ := HL6.out.val wr.drew (hb.drew) s hsz
            obtain ⟨w7, hupd, hown7, hg7⟩ := World.ownsMap.update (w := wr.drew) hown law9 Trym.underlying41 (by unfold maxLen; omega) (key_of s hsz) (plainElem_int Trym.underlying3 hwc)
            have HK7 : Hid (KeysAre w7 w6.heap.size (k + 1) ss (k + 1)) := keys_put hown hmass hhas (by subst hs; exact hown7)
            have HB7 : Hid (Below w6.heap.size w6 w7) := (hb.drew).grown hg7 hb.size (fun j hj => by cases hj; exact Nat.le_refl _)
            clear hown hmass hhas hown7 hg7 hc hs
            go_wp2
            go_region
            go_wp2
            go_roundw
            case rel => exact ⟨k + 1, by omega, by go_num, HB7.out, HK7.out⟩
            case measure => simp [intOf]; omega
          · obtain rfl : k = n5 := by omega
            obtain ⟨D, hown, hmass, hhas⟩ := keys_congr hka (fun j hj => withName_lo (name := name) hj)
            obtain ⟨w7, hupd, hown7, hg7⟩ := World.ownsMap.update hown law9 Trym.underlying41 (by unfold maxLen; omega) (key_of name (by omega)) (plainElem_int Trym.underlying3 HC.out)
            have HK7 : Hid (KeysAre w7 w6.heap.size (k + 1) (withName ss k name) (k + 1)) := keys_put hown hmass hhas (by unfold keyAt; rw [withName_hi]; exact hown7)
            have HB7' : Hid (Below w6.heap.size w6 w7) := hb.grown hg7 hb.size (fun j hj => by cases hj; exact Nat.le_refl _)
            have HB7 : Hid (Below w.heap.size w w7) := HB6.out.trans (HB7'.out.mono HB6.out.size)
            have HO7 : Hid (OuterAt w7 a2 n L) := HO6.out.later HB7'.out
            have HL7 : Hid (Looks w7 r5 (isIn ss k) N6) := HL6.out.later HB7'.out
            have hmw := mass_with ss k name
            have hm7 : massN (withName ss k name) (k + 1) ≤ massN ss k + (11 + name.size) := by rw [hmw]; split <;> omega
            have HW : Hid (massN (withName ss k name) (k + 1) = if isIn ss k (.string name.data.toList) = true then massN ss k else massN ss k + (11 + name.size)) := hmw
            clear hown hmass hhas hown7 hg7 hka hb hmw HO6 HL6 HB6
            go_wp2_with fail
            refine (entry_any _ _ _ L _ _ _ _ _ _ (massN (withName ss k name) (k + 1)) _ HO7.out (by omega) (by omega) (by omega) (.of_keys HK7.out) (by omega)).mono ?_
            rintro e w8 ⟨rfl, hb8⟩
            obtain ⟨c, hlook⟩ := HL7.out.ok w8 hb8 name (by omega)
            have HB8 : Hid (Below w.heap.size w w8) := HB7.out.trans (hb8.mono HB7.out.size)
            clear hb8 hupd
            cases hin : isIn ss k (.string name.data.toList)
            · rw [hin] at hlook
              have e7 : massN (withName ss k name) (k + 1) = massN ss k + (11 + name.size) := by rw [HW.out, hin]; rfl
              rw [e7]
              clear hin HW e7 hm7
              go_wp2
              go_ret
              exact ⟨ret_bool (by simp; omega), HB8.out⟩
            · rw [hin] at hlook
              have e7 : massN (withName ss k name) (k + 1) = massN ss k := by rw [HW.out, hin]; rfl
              rw [e7]
              clear hin HW e7 hm7
              go_wp2
              go_ret
              exact ⟨ret_bool (by simp), HB8.out⟩

end Go.Proofs.Qxb6605389aMods.fnEntryEncodedSizeAddConsumer
