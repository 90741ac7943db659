/-
  THE CONTRACTS of zzNamesAreKeys and zzKeptCopy.
-/
import Derived.Test.Qxb6605389aModsNames
import Derived.Deep.QuietTactic
import Derived.BigQuiet
import Derived.RegionTactic
import Derived.BigRegion
namespace Go.Proofs.Qxb6605389aMods
open Go.RowKit Go.Maps

/-- What a map[string]int, nil or not, answers in every later world. -/
structure Looks (w : World) (r : Option Nat) (ks : Lit → Bool) (N : Nat) : Prop where
  ok : ∀ (wx : World), Below w.heap.size w wx → ∀ s : ByteArray, s.size ≤ 9223372036854775807 →
    ∃ c, (Instr.lookup 41 (.map r) (.string s) true).run Trym.prog wx = .ok (.tuple #[.int .i64 c, .bool (ks (.string s.data.toList))]) wx
  val : ∀ (wx : World), Below w.heap.size w wx → ∀ s : ByteArray, s.size ≤ 9223372036854775807 →
    ∃ c, (Instr.lookup 41 (.map r) (.string s) false).run Trym.prog wx = .ok (.int .i64 c) wx ∧ (Lit.int .i64 c).wf = true
  len : ∀ (wx : World), Below w.heap.size w wx → ∀ ty, (Builtin.len_ #[41] ty #[.map r]).run Trym.prog wx = .ok (.int .i64 (N : Nat)) wx

theorem key_of (s : ByteArray) (hs : s.size ≤ 9223372036854775807) : keyOf Trym.prog 9 (.string s) = some (.string s.data.toList) := WideMaps.keyOf_string_mk Trym.underlying9 (by unfold maxLen; omega)

theorem looks_nil (w : World) : Looks w none (fun _ => false) 0 where
  ok wx _ s hs := ⟨0, Maps.look_nil true law9 Trym.underlying41 (zero3 wx) (key_of s hs)⟩
  val wx _ s hs := ⟨0, Maps.look_nil false law9 Trym.underlying41 (zero3 wx) (key_of s hs), by decide⟩
  len _ _ ty := Maps.len_nil Trym.underlying41 ty
theorem looks_own {w : World} {b n : Nat} {D : DataW Unit} (h : OwnsKept w b n D) : Looks w (some b) (Maps.has D) (Maps.size D) where
  ok wx hb s hs := by
    obtain ⟨v, ps, hrun, hv⟩ := World.ownsMap.look_ok (own_later h hb) law9 Trym.underlying41 (zero3 wx) (plainElem_int Trym.underlying3 (a := 0) (by decide)) (key_of s hs)
    obtain ⟨c, rfl, _⟩ := plainElem_int_inv Trym.underlying3 hv
    exact ⟨c, hrun⟩
  val wx hb s hs := by
    obtain ⟨c, hrun, _, hw⟩ := World.ownsMap.lookup_int (own_later h hb) law9 Trym.underlying41 Trym.underlying3 (zero3 wx) (key_of s hs)
    exact ⟨c, hrun, hw⟩
  len wx hb ty := World.ownsMap.len (own_later h hb) Trym.underlying41 ty
theorem Looks.later {w wx : World} {r : Option Nat} {ks : Lit → Bool} {N : Nat} (h : Looks w r ks N) (hb : Below w.heap.size w wx) : Looks wx r ks N where
  ok wy hy s hs := h.ok wy (hb.trans (hy.mono hb.size)) s hs
  val wy hy s hs := h.val wy (hb.trans (hy.mono hb.size)) s hs
  len wy hy ty := h.len wy (hb.trans (hy.mono hb.size)) ty

/-- No; or yes, and p. -/
def Says (p : Prop) (e : Ending) : Prop := e = .returned (.bool false) ∨ (e = .returned (.bool true) ∧ p)

theorem apart_more {ss : Nat → ByteArray} {k : Nat} (h : ∀ i j, j < i → i < k → ss j ≠ ss i) (h' : ∀ x, x < k → ss x ≠ ss k) : ∀ i j, j < i → i < k + 1 → ss j ≠ ss i := fun i j hj hi => by
  by_cases e : i = k
  · subst e; exact h' j hj
  · exact h i j hj (by omega)

theorem other_more {ss : Nat → ByteArray} {k q : Nat} (h : ∀ x, x < q → ss x ≠ ss k) (h' : ss q ≠ ss k) : ∀ x, x < q + 1 → ss x ≠ ss k := fun x hx => by
  by_cases e : x = q
  · subst e; exact h'
  · exact h x (by omega)

set_option maxHeartbeats 2000000 in
theorem namesAreKeys_any (r : Option Nat) (ks : Lit → Bool) (N : Nat) (a : Option Addr) (n cap : Nat) (ss : Nat → ByteArray) (w : World) (hr : Looks w r ks N) (hN : N ≤ 4096) (h : NamesAt w a n ss) (hn : n ≤ 4096) (hss : ∀ j, j < n → (ss j).size ≤ 1048576) :
    Calls Trym.prog 24 #[.map r, .slice a n cap] w fun e w' => Says (N = n ∧ ∀ i j, j < i → i < n → ss j ≠ ss i) e ∧ Below w.heap.size w w' := by
  have hlen := hr.len w (Below.refl _ _)
  have HR : Hid (Looks w r ks N) := hr
  have H : Hid (NamesAt w a n ss) := h
  have HS : Hid (∀ j, j < n → (ss j).size ≤ 1048576) := hss
  clear hr h hss
  by_cases hNn : N = n
  · obtain rfl := hNn
    go_enter Trym.func24, Trym.ntmps24
    go_wp2
    go_loopw [5, 6, 7, 8] (fun i _ _ _ wr => ∃ k : Nat, k ≤ N ∧ i = .int .i64 k ∧ (∀ i j, j < i → i < k → ss j ≠ ss i) ∧ ∃ m, wr = w.drewN m) (fun i _ _ _ _ => N - (intOf i).toNat)
    case atStart => exact ⟨0, by omega, rfl, fun i j _ hi => by omega, 0, rfl⟩
    case round =>
      obtain ⟨k, hk, rfl, hd, m, rfl⟩ := hrel
      have HD : Hid (∀ i j, j < i → i < k → ss j ≠ ss i) := hd
      clear hd
      by_cases hlt : k < N
      · obtain ⟨b, off, rfl, hc⟩ := H.out k hlt
        obtain ⟨s, hs⟩ : ∃ s, s = ss k := ⟨_, rfl⟩
        rw [← hs] at hc
        obtain ⟨c, hlook⟩ := HR.out.ok (w.drewN m) (below_drewN (Below.refl _ _) m) s (by rw [hs]; have := HS.out k hlt; omega)
        have HSK : Hid (s = ss k) := hs
        clear hs
        cases hb : ks (.string s.data.toList)
        · rw [hb] at hlook
          clear hb
          go_wp2
          go_ret
          exact ⟨.inl rfl, below_drewN (Below.refl _ _) m⟩
        · rw [hb] at hlook
          clear hb
          go_wp2
          clear hlook
          go_loopw [8] (fun j wr => ∃ q : Nat, q ≤ k ∧ j = .int .i64 q ∧ (∀ x, x < q → ss x ≠ ss k) ∧ ∃ m, wr = w.drewN m) (fun j _ => k - (intOf j).toNat)
          case atStart => exact ⟨0, by omega, rfl, fun x hx => by omega, m, rfl⟩
          case round =>
            obtain ⟨q, hq, rfl, hx, m2, rfl⟩ := hrel
            have HQ : Hid (∀ x, x < q → ss x ≠ ss k) := hx
            clear hx
            by_cases hqk : q < k
            · obtain ⟨b2, off2, e2, hc2⟩ := H.out q (by omega)
              cases e2
              obtain ⟨t, ht⟩ : ∃ t, t = ss q := ⟨_, rfl⟩
              rw [← ht] at hc2
              have HT : Hid (t = ss q) := ht
              clear ht
              have hqN : q < N := by omega
              cases hst : (t.toList == s.toList)
              · have HST : Hid (t ≠ s) := by
                  rintro rfl
                  simp at hst
                go_wp2
                go_quiet (fail)
                go_wp2
                go_roundw
                case rel => exact ⟨q + 1, by omega, by go_num, other_more HQ.out (HT.out ▸ HSK.out ▸ HST.out), _, rfl⟩
                case measure => simp [intOf]; omega
              · go_wp2
                go_quiet (fail)
                go_wp2
                go_ret
                exact ⟨.inl rfl, below_drewN (below_drewN (Below.refl _ _) _) _⟩
            · obtain rfl : q = k := by omega
              go_wp2
              go_roundw
              case rel => exact ⟨q + 1, by omega, by go_num, apart_more HD.out HQ.out, m2, rfl⟩
              case measure => simp [intOf]; omega
      · obtain rfl : k = N := by omega
        go_wp2
        go_ret
        exact ⟨.inr ⟨rfl, trivial, HD.out⟩, below_drewN (Below.refl _ _) m⟩
  · have hne : ((N : Int) == (n : Int)) = false := by simp; omega
    go_enter Trym.func24, Trym.ntmps24
    go_wp2
    go_ret
    exact ⟨.inl rfl, Below.refl _ _⟩

theorem run_makeMap_some (w : World) (i : Int) : (Instr.makeMap 41 (some (.int .i64 i))).run Trym.prog w = .ok (.map (some w.heap.size)) (w.alloc (.map #[] 0)) := by
  simp [Instr.makeMap, run_underlying Trym.underlying41, asInt, asIntOf]

set_option maxHeartbeats 1000000 in
theorem keptCopy_any (r : Nat) (ks : Lit → Bool) (N : Nat) (a : Option Addr) (n cap : Nat) (ss : Nat → ByteArray) (z : Bool) (w : World) (hr : Looks w (some r) ks N) (h : NamesAt w a n ss) (hn : n ≤ 4096) (hss : ∀ j, j < n → (ss j).size ≤ 1048576) :
    Calls Trym.prog 26 #[.map (some r), .slice a n cap, .bool z] w fun e w' => (∃ b, e = .returned (.map (some b)) ∧ KeysAre w' b n ss n) ∧ Below w.heap.size w w' := by
  have q41 : ∀ (w : World) (r : Option Nat), (binOp .eql 41 (.map r) (.map none)).run Trym.prog w = .ok (.bool r.isNone) w := fun w r => run_eql_map_nil w _ _ _ r Trym.underlying41
  have hmm := run_makeMap_some
  have HR : Hid (Looks w (some r) ks N) := hr
  have H : Hid (NamesAt w a n ss) := h
  have HS : Hid (∀ j, j < n → (ss j).size ≤ 1048576) := hss
  clear hr h hss
  cases z
  · go_enter Trym.func26, Trym.ntmps26
    go_wp2
    go_loopw [8] (fun i wr => ∃ k : Nat, k ≤ n ∧ i = .int .i64 k ∧ Below w.heap.size w wr ∧ KeysAre wr w.heap.size k ss k) (fun i _ => n - (intOf i).toNat)
    case atStart => exact ⟨0, by omega, rfl, (Below.refl _ _).alloc (Nat.le_refl _) _, .map [], World.ownsMap_made _ _ _ _, rfl, fun _ => rfl⟩
    case round =>
      obtain ⟨k, hk, rfl, hb, hka⟩ := hrel
      by_cases hlt : k < n
      · obtain ⟨bb, off, rfl, hc⟩ := H.out k hlt
        have hc' := cell_later hb hc
        obtain ⟨D, hown, hmass, hhas⟩ := hka
        obtain ⟨s, hs⟩ : ∃ s, s = ss k := ⟨_, rfl⟩
        rw [← hs] at hc'
        have hsz : s.size ≤ 9223372036854775807 := by rw [hs]; have := HS.out k hlt; omega
        obtain ⟨c, hlook, hwc⟩ := HR.out.val wr.drew (hb.drew) s hsz
        obtain ⟨w2, hupd, hown2, hg2⟩ := World.ownsMap.update (w := wr.drew) hown law9 Trym.underlying41 (by unfold maxLen; omega) (key_of s hsz) (plainElem_int Trym.underlying3 hwc)
        have HK : Hid (KeysAre w2 w.heap.size (k + 1) ss (k + 1)) := keys_put hown hmass hhas (by subst hs; exact hown2)
        have HB2 : Hid (Below w.heap.size w w2) := (hb.drew).grown hg2 hb.size (fun j hj => by cases hj; exact Nat.le_refl _)
        clear hown hmass hhas hown2 hg2 hc hs
        go_wp2
        go_region
        go_wp2
        go_roundw
        case rel => exact ⟨k + 1, by omega, by go_num, HB2.out, HK.out⟩
        case measure => simp [intOf]; omega
      · obtain rfl : k = n := by omega
        go_wp2
        go_ret
        exact ⟨⟨_, rfl, hka⟩, hb⟩
  · go_enter Trym.func26, Trym.ntmps26
    go_wp2
    go_loopw [8] (fun i wr => ∃ k : Nat, k ≤ n ∧ i = .int .i64 k ∧ Below w.heap.size w wr ∧ KeysAre wr w.heap.size k ss k) (fun i _ => n - (intOf i).toNat)
    case atStart => exact ⟨0, by omega, rfl, (Below.refl _ _).alloc (Nat.le_refl _) _, .map [], World.ownsMap_made _ _ _ _, rfl, fun _ => rfl⟩
    case round =>
      obtain ⟨k, hk, rfl, hb, hka⟩ := hrel
      by_cases hlt : k < n
      · obtain ⟨bb, off, rfl, hc⟩ := H.out k hlt
        have hc' := cell_later hb hc
        obtain ⟨D, hown, hmass, hhas⟩ := hka
        obtain ⟨s, hs⟩ : ∃ s, s = ss k := ⟨_, rfl⟩
        rw [← hs] at hc'
        have hsz : s.size ≤ 9223372036854775807 := by rw [hs]; have := HS.out k hlt; omega
        obtain ⟨w2, hupd, hown2, hg2⟩ := World.ownsMap.update hown law9 Trym.underlying41 (by unfold maxLen; omega) (key_of s hsz) (plainElem_int Trym.underlying3 (a := 0) (by decide))
        have HK : Hid (KeysAre w2 w.heap.size (k + 1) ss (k + 1)) := keys_put hown hmass hhas (by subst hs; exact hown2)
        have HB2 : Hid (Below w.heap.size w w2) := hb.grown hg2 hb.size (fun j hj => by cases hj; exact Nat.le_refl _)
        clear hown hmass hhas hown2 hg2 hc hs
        go_wp2
        go_roundw
        case rel => exact ⟨k + 1, by omega, by go_num, HB2.out, HK.out⟩
        case measure => simp [intOf]; omega
      · obtain rfl : k = n := by omega
        go_wp2
        go_ret
        exact ⟨⟨_, rfl, hka⟩, hb⟩

/-- A nil map stays nil. -/
theorem keptCopy_nil (a : Option Addr) (n cap : Nat) (z : Bool) (w : World) :
    Calls Trym.prog 26 #[.map none, .slice a n cap, .bool z] w fun e w' => e = .returned (.map none) ∧ w' = w := by
  have q41 : ∀ (w : World) (r : Option Nat), (binOp .eql 41 (.map r) (.map none)).run Trym.prog w = .ok (.bool r.isNone) w := fun w r => run_eql_map_nil w _ _ _ r Trym.underlying41
  go_enter Trym.func26, Trym.ntmps26
  go_wp2
  go_ret
  exact ⟨rfl, rfl⟩

end Go.Proofs.Qxb6605389aMods
