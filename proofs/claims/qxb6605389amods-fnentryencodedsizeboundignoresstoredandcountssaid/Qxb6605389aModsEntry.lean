/-
  THE CONTRACTS of (*entry).encodedSize and ZZEntryEncodedSize: 69, 5 and its length an event, the meta's and the source's lengths, 11 and its length a key.
-/
import Derived.Test.Qxb6605389aModsKeys
namespace Go.Proofs.Qxb6605389aMods
open Go.RowKit Go.Maps

theorem encSize_int (a : Option Addr) (n cap : Nat) (L : Nat → Nat) (w : World) (h : OuterAt w a n L) (hs : 24 * n + sumN L n ≤ 2097152) :
    Calls Trym.prog 29 #[.slice a n cap] w fun e w' => e = .returned (.int .i64 (64 + 5 * (n : Int) + (sumN L n : Int))) ∧ w' = w := by
  have c := encSize_any a n cap L w h hs
  have e : ((64 + 5 * n + sumN L n : Nat) : Int) = 64 + 5 * (n : Int) + (sumN L n : Int) := by omega
  rwa [e] at c

theorem key_inv {key : Value} {kl : Lit} (h : keyOf Trym.prog 9 key = some kl) : ∃ x, key = .string x ∧ kl = .string x.data.toList := by
  cases key <;> simp [keyOf, Trym.underlying9, mapKey] at h
  obtain ⟨_, rfl⟩ := h
  exact ⟨_, rfl, rfl⟩

set_option maxHeartbeats 1000000 in
theorem entrySize_own (B : Nat) (a : Option Addr) (n cap : Nat) (L : Nat → Nat) (A : Option Addr) (m C : Nat) (src : ByteArray) (b nn : Nat) (D : DataW Unit) (w : World)
    (c0 : w.cell? ⟨B, 0, none⟩ = some (.slice a n cap)) (c1 : w.cell? ⟨B, 1, none⟩ = some (.slice A m C)) (c3 : w.cell? ⟨B, 3, none⟩ = some (.string src)) (c4 : w.cell? ⟨B, 4, none⟩ = some (.map (some b)))
    (h : OuterAt w a n L) (hs : 24 * n + sumN L n ≤ 2097152) (hm : m ≤ 2097152) (hsrc : src.size ≤ 2097152) (hown : OwnsKept w b nn D) (hmass : mass D ≤ 2097152) :
    Calls Trym.prog 30 #[.pointer (some ⟨B, 0, none⟩)] w fun e w' => e = .returned (.int .i64 ((69 + 5 * n + sumN L n + m + src.size + mass D : Nat) : Int)) ∧ Below w.heap.size w w' := by
  have H : Hid (OuterAt w a n L) := h
  have HO : Hid (OwnsKept w b nn D) := hown
  clear h hown
  go_enter Trym.func30, Trym.ntmps30
  go_wp2
  go_quiet ((go_at_call 29; exact Calls.quiet_of_same (encSize_int _ _ _ L _ H.out hs)))
  have hown' : OwnsKept (w.drewN nq) b nn D := HO.out
  go_wp2_with (first | (at_range; refine wpList_range_own _ rfl _ 41 rfl 9 3 law9 Trym.underlying41 _ b nn D rfl hown' ?_; intro w0 hrg0 hg0 hs0) | fail)
  go_frame
  go_loopw [3, 4] (fun t _ wr => ∃ (left : Lit → Bool) (cnt : Nat) (x : Nat), t = .int .i64 x ∧ wr.ranges Trym.prog 9 (plainElem Trym.prog 3) b w.heap.size nn D left cnt ∧ x + massLeft left D = 69 + 5 * n + sumN L n + m + src.size + mass D ∧ Below w.heap.size w wr)
    (fun _ _ wr => wr.rangeLeft b w.heap.size)
  case atStart => exact ⟨Maps.has D, _, 69 + 5 * n + sumN L n + m + src.size, by congr 1; omega, hrg0, by rw [mass_start HO.out], (below_drewN (Below.refl _ _) nq).grown hg0 (Nat.le_refl _) (fun j hj => by cases hj)⟩
  case round =>
    obtain ⟨left, cnt, x, rfl, hrg, hx, hnx⟩ := hrel
    have HX : Hid (x + massLeft left D = 69 + 5 * n + sumN L n + m + src.size + mass D) := hx
    have hxb : x ≤ 9000000 := by omega
    clear hx hown' hrg0 hg0 hs0
    go_wp2_with (first | (at_next; refine wpList_next_ranges _ rfl _ rfl 9 law9 (plainElem Trym.prog 3) Value.string (Value.int .i64) (fun key kl hk => by obtain ⟨y, rfl, _⟩ := key_inv hk; exact ⟨y, rfl⟩) (fun v y hv => by obtain ⟨c, rfl, _⟩ := plainElem_int_inv Trym.underlying3 hv; exact ⟨c, rfl⟩) b w.heap.size nn D left cnt rfl hrg ?_ ?_) | fail)
    · intro hc0 hl0
      have HE : Hid (x = 69 + 5 * n + sumN L n + m + src.size + mass D) := by have := mass_end HO.out hl0; have := HX.out; show _ = _; omega
      go_wp2
      go_ret
      exact ⟨ret_int (by rw [HE.out]), hnx⟩
    · intro s c kl yd yp w1 cnt1 hkey hlk hv hat hrg1 hlt hg1 hs1 hen
      obtain ⟨s', e1, rfl⟩ := key_inv hkey
      cases e1
      have hst := mass_step HO.out (left := left) (kl := .string s.data.toList) hlk (has_true_of_atKey hat)
      have hkl : keyLen (.string s.data.toList) = s.size := rfl
      rw [hkl] at hst
      have hsb : 11 + s.size ≤ 9000000 := by have := HX.out; omega
      have HST : Hid (massLeft (fun z => left z && !z.sameKey (.string s.data.toList)) D + (11 + s.size) = massLeft left D) := hst
      have HEN : Hid (x + (11 + s.size) + massLeft (fun z => left z && !z.sameKey (.string s.data.toList)) D = 69 + 5 * n + sumN L n + m + src.size + mass D) := by have := HX.out; have := HST.out; show _ = _; omega
      clear hst hkl hat hkey hv hlk
      go_wp2
      go_roundw
      case rel => exact ⟨_, _, _, _, _, _, _, _, _, _, _, ⟨_, cnt1, x + (11 + s.size), by go_num, hrg1, HEN.out, hnx.grown hg1 hnx.size (fun j hj => by cases hj; exact Nat.le_refl _)⟩, rfl⟩
      case measure => rw [hrg1.left_eq, hrg.left_eq]; exact hlt

set_option maxHeartbeats 1000000 in
theorem entrySize_nil (B : Nat) (a : Option Addr) (n cap : Nat) (L : Nat → Nat) (A : Option Addr) (m C : Nat) (src : ByteArray) (w : World)
    (c0 : w.cell? ⟨B, 0, none⟩ = some (.slice a n cap)) (c1 : w.cell? ⟨B, 1, none⟩ = some (.slice A m C)) (c3 : w.cell? ⟨B, 3, none⟩ = some (.string src)) (c4 : w.cell? ⟨B, 4, none⟩ = some (.map none))
    (h : OuterAt w a n L) (hs : 24 * n + sumN L n ≤ 2097152) (hm : m ≤ 2097152) (hsrc : src.size ≤ 2097152) :
    Calls Trym.prog 30 #[.pointer (some ⟨B, 0, none⟩)] w fun e w' => e = .returned (.int .i64 ((69 + 5 * n + sumN L n + m + src.size : Nat) : Int)) ∧ Below w.heap.size w w' := by
  have H : Hid (OuterAt w a n L) := h
  clear h
  go_enter Trym.func30, Trym.ntmps30
  go_wp2
  go_quiet ((go_at_call 29; exact Calls.quiet_of_same (encSize_int _ _ _ L _ H.out hs)))
  have hrg := run_range_nilMap (P := Trym.prog) (w.drewN nq) 41 9 3 Trym.underlying41
  have hnx : ∀ ty, (Instr.next (.pointer (some ⟨(w.drewN nq).heap.size, 0, none⟩)) false ty).run Trym.prog ((w.drewN nq).alloc (.mapIter none 0 #[] 0)) = _ := fun ty => run_next_nilMap _ ty 0 0 #[]
  go_wp2
  refine wp_loop_rounds 1 ?_
  rw [rounds_succ]
  have es : (w.drewN nq).heap.size = w.heap.size := rfl
  rw [es] at hnx
  clear es
  go_wp2
  go_ret
  exact ⟨ret_int (by omega), (below_drewN (Below.refl _ _) nq).alloc (Nat.le_refl _) _⟩


/-- A map[string]int, nil or not, whose keys weigh M. -/
def MapIs (w : World) (r : Option Nat) (M : Nat) : Prop := (r = none ∧ M = 0) ∨ ∃ b nn D, r = some b ∧ OwnsKept w b nn D ∧ mass D = M
theorem MapIs.later {w wx : World} {r : Option Nat} {M : Nat} (h : MapIs w r M) (hb : Below w.heap.size w wx) : MapIs wx r M := by
  rcases h with h | ⟨b, nn, D, e, ho, hm⟩
  · exact .inl h
  · exact .inr ⟨b, nn, D, e, own_later ho hb, hm⟩
theorem MapIs.of_keys {w : World} {b n : Nat} {ss : Nat → ByteArray} {k : Nat} (h : KeysAre w b n ss k) : MapIs w (some b) (massN ss k) := by
  obtain ⟨D, ho, hm, _⟩ := h
  exact .inr ⟨b, n, D, rfl, ho, hm⟩

set_option maxHeartbeats 1000000 in
theorem entry_any (a : Option Addr) (n cap : Nat) (L : Nat → Nat) (A : Option Addr) (m C : Nat) (st : Int) (src : ByteArray) (r : Option Nat) (M : Nat) (w : World)
    (h : OuterAt w a n L) (hs : 24 * n + sumN L n ≤ 2097152) (hm : m ≤ 2097152) (hsrc : src.size ≤ 2097152) (hr : MapIs w r M) (hM : M ≤ 2097152) :
    Calls Trym.prog 27 #[.slice a n cap, .slice A m C, .int .i64 st, .string src, .map r] w fun e w' => e = .returned (.int .i64 ((69 + 5 * n + sumN L n + m + src.size + M : Nat) : Int)) ∧ Below w.heap.size w w' := by
  have H : Hid (OuterAt (w.alloc (.cells #[.slice a n cap, .slice A m C, .int .i64 st, .string src, .map r] 57)) a n L) := h.later ((Below.refl _ _).alloc (Nat.le_refl _) _)
  have R : Hid (MapIs (w.alloc (.cells #[.slice a n cap, .slice A m C, .int .i64 st, .string src, .map r] 57)) r M) := hr.later ((Below.refl _ _).alloc (Nat.le_refl _) _)
  clear h hr
  rcases R.out with ⟨rfl, rfl⟩ | ⟨b, nn, D, rfl, ho, rfl⟩
  · go_enter Trym.func27, Trym.ntmps27
    go_wp2_with fail
    refine (entrySize_nil w.heap.size a n cap L A m C src _ (by simp) (by simp) (by simp) (by simp) H.out hs hm hsrc).mono ?_
    rintro e w1 ⟨rfl, hb1⟩
    go_wp2_with fail
    go_ret
    exact ⟨ret_int (by omega), ((Below.refl _ _).alloc (Nat.le_refl _) _).trans (hb1.mono (by simp))⟩
  · have HO : Hid (OwnsKept (w.alloc (.cells #[.slice a n cap, .slice A m C, .int .i64 st, .string src, .map (some b)] 57)) b nn D) := ho
    clear ho
    go_enter Trym.func27, Trym.ntmps27
    go_wp2_with fail
    refine (entrySize_own w.heap.size a n cap L A m C src b nn D _ (by simp) (by simp) (by simp) (by simp) H.out hs hm hsrc HO.out hM).mono ?_
    rintro e w1 ⟨rfl, hb1⟩
    go_wp2_with fail
    go_ret
    exact ⟨ret_int (by omega), ((Below.refl _ _).alloc (Nat.le_refl _) _).trans (hb1.mono (by simp))⟩

end Go.Proofs.Qxb6605389aMods
