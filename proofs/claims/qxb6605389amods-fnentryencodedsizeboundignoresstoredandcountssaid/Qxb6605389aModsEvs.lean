/-
  EVENTS IN MEMORY: what is told of a [][]byte and of a []byte; the contracts of zzEventsWeight, encodedEventsSize, ZZencodedEventsSize, zzCloneBytes, zzCloneEvents.
-/
import Derived.Test.Qxb6605389aModsRows
import Derived.WalkKit
import Derived.ProofKit
import Derived.WalkSpells
import Derived.WalkSmall
import Derived.Handy
import Derived.Deep.OwnRows
import Derived.Deep.Light
namespace Go.Proofs.Qxb6605389aMods
open Go.RowKit

/-- The sum of the first k lengths. -/
def sumN (L : Nat → Nat) : Nat → Nat
  | 0 => 0
  | k + 1 => sumN L k + L k
theorem sumN_le (L : Nat → Nat) {j k : Nat} (h : j ≤ k) : sumN L j ≤ sumN L k := by
  induction k with
  | zero => have : j = 0 := by omega
            subst this; exact Nat.le_refl _
  | succ k ih =>
    by_cases e : j = k + 1
    · subst e; exact Nat.le_refl _
    · have := ih (by omega)
      simp only [sumN]; omega
theorem sumN_step (L : Nat → Nat) {k n : Nat} (h : k < n) : sumN L k + L k ≤ sumN L n := sumN_le L (j := k + 1) h
theorem sumN_congr {L M : Nat → Nat} {n : Nat} (h : ∀ r, r < n → L r = M r) : sumN L n = sumN M n := by
  induction n with
  | zero => rfl
  | succ n ih => simp only [sumN]; rw [ih (fun r hr => h r (by omega)), h n (by omega)]

/-- A []byte of m bytes that can be read. -/
def BytesAt (w : World) (A : Option Addr) (m : Nat) : Prop :=
  ∀ j, j < m → ∃ b off z, A = some ⟨b, off, none⟩ ∧ w.cell? ⟨b, off + j, none⟩ = some (.int .u8 z)
/-- A [][]byte of n elements, of the lengths L. -/
def OuterAt (w : World) (a : Option Addr) (n : Nat) (L : Nat → Nat) : Prop :=
  ∀ r, r < n → ∃ b off A C, a = some ⟨b, off, none⟩ ∧ w.cell? ⟨b, off + r, none⟩ = some (.slice A (L r) C)
/-- .. whose elements can be read too. -/
def DeepAt (w : World) (a : Option Addr) (n : Nat) (L : Nat → Nat) : Prop :=
  ∀ r, r < n → ∃ b off A C, a = some ⟨b, off, none⟩ ∧ w.cell? ⟨b, off + r, none⟩ = some (.slice A (L r) C) ∧ BytesAt w A (L r)
theorem DeepAt.outer {w : World} {a : Option Addr} {n : Nat} {L : Nat → Nat} (h : DeepAt w a n L) : OuterAt w a n L := fun r hr => by
  obtain ⟨b, off, A, C, e, hc, _⟩ := h r hr
  exact ⟨b, off, A, C, e, hc⟩
theorem BytesAt.later {w wx : World} {A : Option Addr} {m : Nat} (h : BytesAt w A m) (hb : Below w.heap.size w wx) : BytesAt wx A m := fun j hj => by
  obtain ⟨b, off, z, e, hc⟩ := h j hj
  exact ⟨b, off, z, e, cell_later hb hc⟩
theorem OuterAt.later {w wx : World} {a : Option Addr} {n : Nat} {L : Nat → Nat} (h : OuterAt w a n L) (hb : Below w.heap.size w wx) : OuterAt wx a n L := fun r hr => by
  obtain ⟨b, off, A, C, e, hc⟩ := h r hr
  exact ⟨b, off, A, C, e, cell_later hb hc⟩
theorem DeepAt.later {w wx : World} {a : Option Addr} {n : Nat} {L : Nat → Nat} (h : DeepAt w a n L) (hb : Below w.heap.size w wx) : DeepAt wx a n L := fun r hr => by
  obtain ⟨b, off, A, C, e, hc, hi⟩ := h r hr
  exact ⟨b, off, A, C, e, cell_later hb hc, hi.later hb⟩

theorem ret_int {k : IntKind} {a b : Int} (h : a = b) : Ending.returned (.int k a) = .returned (.int k b) := by rw [h]

/-- What zzEventsWeight answers. -/
def weight (n s lim : Nat) : Nat := if 24 * n + s ≤ lim then 24 * n + s else lim + 1

set_option maxHeartbeats 1000000 in
theorem weight_any (a : Option Addr) (n cap : Nat) (L : Nat → Nat) (lim : Nat) (w : World) (h : OuterAt w a n L) (hn : n ≤ 9223372036854775807) (hL : ∀ r, r < n → L r ≤ 9223372036854775807) (hlim : lim ≤ 1048576) :
    Calls Trym.prog 15 #[.slice a n cap, .int .i64 lim] w fun e w' => e = .returned (.int .i64 (weight n (sumN L n) lim : Nat)) ∧ w' = w := by
  by_cases h1 : lim < n
  · have h1' : (lim : Int) < (n : Int) := by omega
    go_enter Trym.func15, Trym.ntmps15
    go_wp2
    go_ret
    exact ⟨ret_int (by unfold weight; rw [if_neg (by omega)]; omega), rfl⟩
  · by_cases h2 : lim < 24 * n
    · have h2' : (lim : Int) < 24 * (n : Int) := by omega
      go_enter Trym.func15, Trym.ntmps15
      go_wp2
      go_ret
      exact ⟨ret_int (by unfold weight; rw [if_neg (by omega)]; omega), rfl⟩
    · go_enter Trym.func15, Trym.ntmps15
      go_wp2
      go_loop [5, 6] (fun s i => ∃ k : Nat, k ≤ n ∧ i = .int .i64 k ∧ s = .int .i64 ((24 * n + sumN L k : Nat) : Int) ∧ 24 * n + sumN L k ≤ lim) (fun _ i => n - (intOf i).toNat)
      case atStart => exact ⟨0, by omega, rfl, by simp [sumN], by simp [sumN]; omega⟩
      case round =>
        obtain ⟨k, hk, rfl, rfl, hs⟩ := hrel
        by_cases hlt : k < n
        · obtain ⟨b, off, A, C, rfl, hc⟩ := h k hlt
          have hLk := hL k hlt
          have hst := sumN_step L hlt
          have hsu : sumN L (k + 1) = sumN L k + L k := rfl
          have HS := (show Hid _ from hsu)
          clear hsu
          by_cases hgo : 24 * n + sumN L k + L k ≤ lim
          · go_wp2
            go_round
            case rel => exact ⟨k + 1, by omega, by go_num, by rw [HS.out]; go_num, by rw [HS.out]; omega⟩
            case measure => simp [intOf]; omega
          · go_wp2
            go_ret
            exact ⟨ret_int (by unfold weight; rw [if_neg (by omega)]; omega), rfl⟩
        · obtain rfl : k = n := by omega
          go_wp2
          go_ret
          exact ⟨ret_int (by unfold weight; rw [if_pos hs]; omega), rfl⟩

set_option maxHeartbeats 1000000 in
/-- 'encodedEventsSize': 64, and 5 and its length an event. -/
theorem encSize_any (a : Option Addr) (n cap : Nat) (L : Nat → Nat) (w : World) (h : OuterAt w a n L) (hs : 24 * n + sumN L n ≤ 2097152) :
    Calls Trym.prog 29 #[.slice a n cap] w fun e w' => e = .returned (.int .i64 ((64 + 5 * n + sumN L n : Nat) : Int)) ∧ w' = w := by
  go_enter Trym.func29, Trym.ntmps29
  go_wp2
  go_loop [3, 8, 5] (fun t i _ => ∃ k : Nat, k ≤ n ∧ i = .int .i64 k ∧ t = .int .i64 ((64 + 5 * k + sumN L k : Nat) : Int)) (fun _ i _ => n - (intOf i).toNat)
  case atStart => exact ⟨0, by omega, rfl, by simp [sumN]⟩
  case round =>
    obtain ⟨k, hk, rfl, rfl⟩ := hrel
    by_cases hlt : k < n
    · obtain ⟨b, off, A, C, rfl, hc⟩ := h k hlt
      have hst := sumN_step L hlt
      have hsu : sumN L (k + 1) = sumN L k + L k := rfl
      have HS := (show Hid _ from hsu)
      clear hsu
      go_wp2
      go_round
      case rel => exact ⟨k + 1, by omega, by go_num, by rw [HS.out]; go_num⟩
      case measure => simp [intOf]; omega
    · obtain rfl : k = n := by omega
      go_wp2
      go_ret
      exact ⟨ret_int (by omega), rfl⟩

theorem zzEncSize_any (a : Option Addr) (n cap : Nat) (L : Nat → Nat) (w : World) (h : OuterAt w a n L) (hs : 24 * n + sumN L n ≤ 2097152) :
    Calls Trym.prog 18 #[.slice a n cap] w fun e w' => e = .returned (.int .i64 ((64 + 5 * n + sumN L n : Nat) : Int)) ∧ w' = w := by
  go_enter Trym.func18, Trym.ntmps18
  go_wp2_with (go_at_call 29; refine (encSize_any _ _ _ _ _ h hs).mono ?_; rintro e w' ⟨rfl, rfl⟩)
  go_ret
  exact ⟨rfl, rfl⟩

theorem info5 : (Trym.prog.info? 5).map (fun i => (i.zero, i.size, i.bytes)) = some (some (.int .u8 0), 1, 1) := by kernel_rfl
theorem info32 : (Trym.prog.info? 32).map (fun i => (i.zero, i.size, i.bytes)) = some (some (.slice none 0 0), 1, 24) := by kernel_rfl

set_option maxHeartbeats 1000000 in
/-- 'zzCloneBytes': a slice of the same length; nothing that was there has turned. -/
theorem cloneBytes_any (A : Option Addr) (m C : Nat) (w : World) (h : BytesAt w A m) (hm : m ≤ 2097152) :
    Calls Trym.prog 17 #[.slice A m C] w fun e w' => (∃ A' C', e = .returned (.slice A' m C')) ∧ Below w.heap.size w w' := by
  have q32 : ∀ (w : World) (a : Option Addr) (n c n' c' : Nat), (binOp .eql 32 (.slice a n c) (.slice none n' c')).run Trym.prog w = .ok (.bool a.isNone) w := fun w a n c n' c' => Lib.run_eql_slice_nil w _ _ a n c n' c' Trym.underlying32
  have hmk := fun (w : World) => run_make_row' (P := Trym.prog) 32 5 (.int .u8 0) 1 Trym.underlying32 info5 rfl .i64 .i64 m (by omega) (by omega) w
  rcases A with _ | x
  · obtain rfl : m = 0 := by
      rcases Nat.eq_zero_or_pos m with e | e
      · exact e
      · obtain ⟨_, _, _, e, _⟩ := h 0 e; cases e
    go_enter Trym.func17, Trym.ntmps17
    go_wp2
    go_ret
    exact ⟨⟨_, _, rfl⟩, Below.refl _ _⟩
  · go_enter Trym.func17, Trym.ntmps17
    go_wp2
    go_loopw [4] (fun i wr => ∃ k : Nat, k ≤ m ∧ i = .int .i64 k ∧ Below w.heap.size w wr ∧ ∃ f, wr.rowIs w.heap.size 5 m f) (fun i _ => m - (intOf i).toNat)
    case atStart => exact ⟨0, by omega, rfl, (Below.refl _ _).alloc (Nat.le_refl _) _, _, World.rowIs_made _ _ _ _⟩
    case round =>
      obtain ⟨k, hk, rfl, hb, f, hrow⟩ := hrel
      by_cases hlt : k < m
      · obtain ⟨b, off, z, e, hc⟩ := h k hlt
        cases e
        have hc' := cell_later hb hc
        have hnew := hrow.cell hlt
        have hfro := hrow.frozen k
        go_wp2
        go_roundw
        case rel => exact ⟨k + 1, by omega, by go_num, hb.setCell (Nat.le_refl _) _, _, hrow.set k _⟩
        case measure => simp [intOf]; omega
      · obtain rfl : k = m := by omega
        go_wp2
        go_ret
        exact ⟨⟨_, _, rfl⟩, hb⟩

theorem outer_of_row {w : World} {b n : Nat} {f : Nat → Value} {L : Nat → Nat} (hrow : w.rowIs b 32 n f) (hf : ∀ j, j < n → ∃ A C, f j = .slice A (L j) C) : OuterAt w (some ⟨b, 0, none⟩) n L := fun r hr => by
  obtain ⟨A, C, e⟩ := hf r hr
  exact ⟨b, 0, A, C, rfl, by rw [Nat.zero_add, hrow.cell hr, e]⟩
/-- One more element of a row, laid at its place. -/
theorem laid_more {f : Nat → Value} {L : Nat → Nat} {k : Nat} {A : Option Addr} {C : Nat} (hf : ∀ j, j < k → ∃ A C, f j = .slice A (L j) C) :
    ∀ j, j < k + 1 → ∃ A' C', (fun j => if j = k then Value.slice A (L k) C else f j) j = .slice A' (L j) C' := fun j hj => by
  by_cases e : j = k
  · subst e; exact ⟨A, C, by simp⟩
  · obtain ⟨A', C', e'⟩ := hf j (by omega)
    exact ⟨A', C', by simp [e, e']⟩

set_option maxHeartbeats 1000000 in
/-- 'zzCloneEvents': a slice of slices of the same lengths; nothing that was there has turned. -/
theorem cloneEvents_any (a : Option Addr) (n cap : Nat) (L : Nat → Nat) (w : World) (h : DeepAt w a n L) (hs : 24 * n + sumN L n ≤ 2097152) :
    Calls Trym.prog 16 #[.slice a n cap] w fun e w' => (∃ a' c', e = .returned (.slice a' n c') ∧ OuterAt w' a' n L) ∧ Below w.heap.size w w' := by
  have q31 : ∀ (w : World) (a : Option Addr) (n c n' c' : Nat), (binOp .eql 31 (.slice a n c) (.slice none n' c')).run Trym.prog w = .ok (.bool a.isNone) w := fun w a n c n' c' => Lib.run_eql_slice_nil w _ _ a n c n' c' Trym.underlying31
  have hmk := fun (w : World) => run_make_row' (P := Trym.prog) 31 32 (.slice none 0 0) 24 Trym.underlying31 info32 rfl .i64 .i64 n (by omega) (by omega) w
  rcases a with _ | x
  · obtain rfl : n = 0 := by
      rcases Nat.eq_zero_or_pos n with e | e
      · exact e
      · obtain ⟨_, _, _, _, e, _⟩ := h 0 e; cases e
    go_enter Trym.func16, Trym.ntmps16
    go_wp2
    go_ret
    exact ⟨⟨_, _, rfl, fun r hr => by omega⟩, Below.refl _ _⟩
  · go_enter Trym.func16, Trym.ntmps16
    go_wp2
    go_loopw [4] (fun i wr => ∃ k : Nat, k ≤ n ∧ i = .int .i64 k ∧ Below w.heap.size w wr ∧ ∃ f, wr.rowIs w.heap.size 32 n f ∧ ∀ j, j < k → ∃ A C, f j = .slice A (L j) C) (fun i _ => n - (intOf i).toNat)
    case atStart => exact ⟨0, by omega, rfl, (Below.refl _ _).alloc (Nat.le_refl _) _, _, World.rowIs_made _ _ _ _, fun j hj => by omega⟩
    case round =>
      obtain ⟨k, hk, rfl, hb, f, hrow, hf⟩ := hrel
      by_cases hlt : k < n
      · obtain ⟨b, off, A, C, e, hc, hin⟩ := h k hlt
        cases e
        have hc' := cell_later hb hc
        have hin' := hin.later hb
        have hst := sumN_step L hlt
        have HF := (show Hid _ from hf)
        have HI := (show Hid _ from hin')
        clear hf hin hin' h
        go_wp2_with fail
        refine (cloneBytes_any _ _ _ _ HI.out (by omega)).mono ?_
        rintro e w1 ⟨⟨A', C', rfl⟩, hb1⟩
        have hrow1 : w1.rowIs w.heap.size 32 n f := hrow.of_block (hb1.block _ hrow.lt)
        have hbb := hb.trans (hb1.mono hb.size)
        have hnew := hrow1.cell hlt
        have hfro := hrow1.frozen k
        clear hc hc' hrow hb hb1
        go_wp2
        go_roundw
        case rel => exact ⟨k + 1, by omega, by go_num, hbb.setCell (Nat.le_refl _) _, _, hrow1.set k _, laid_more HF.out⟩
        case measure => simp [intOf]; omega
      · obtain rfl : k = n := by omega
        go_wp2
        go_ret
        exact ⟨⟨_, _, rfl, outer_of_row hrow hf⟩, hb⟩

end Go.Proofs.Qxb6605389aMods
