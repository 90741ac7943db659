/-
  THE WALKS of zzPosKey and zzKeyLess.
-/
import Derived.Test.Qxb6605389aModsKeyLaw
import Derived.Handy
import Derived.WalkSmall
import Derived.Deep.QuietTactic
import Derived.BigQuiet
import Derived.Laws.Rows
import Derived.Laws.CopyOwn
namespace Go.Proofs.Qxb6605389aMods
open Go.RowKit

/-- The array k behind n steps of the inner loop at the word u, the m-th. -/
def fillK (ks : Array Value) (m : Nat) (u : Int) : Nat → Array Value
  | 0 => ks
  | n + 1 => (fillK ks m u n).setIfInBounds (8 * m + 7 - n) (.int .u8 (u / p256 n % 256))
theorem fillK_size (ks : Array Value) (m : Nat) (u : Int) (n : Nat) : (fillK ks m u n).size = ks.size := by
  induction n with
  | zero => rfl
  | succ n ih => simp [fillK, ih]
theorem fillK_succ0 (ks : Array Value) (u : Int) (n : Nat) (_h : n < 8) : fillK ks 0 u (n + 1) = (fillK ks 0 u n).setIfInBounds (7 - n) (.int .u8 (u / p256 n % 256)) := by
  rw [fillK]
theorem fillK_succ1 (ks : Array Value) (u : Int) (n : Nat) (h : n < 8) : fillK ks 1 u (n + 1) = (fillK ks 1 u n).setIfInBounds (8 + (7 - n)) (.int .u8 (u / p256 n % 256)) := by
  rw [fillK]; congr 1; omega
theorem fillK_succ2 (ks : Array Value) (u : Int) (n : Nat) (h : n < 8) : fillK ks 2 u (n + 1) = (fillK ks 2 u n).setIfInBounds (16 + (7 - n)) (.int .u8 (u / p256 n % 256)) := by
  rw [fillK]; congr 1; omega

theorem fillK0 (u : Int) (h0 h1 h2 h3 h4 h5 h6 h7 : Value) (r : List Value) : fillK (h0 :: h1 :: h2 :: h3 :: h4 :: h5 :: h6 :: h7 :: r).toArray 0 u 8 = ((be 8 u).map (Value.int .u8) ++ r).toArray := by
  rw [be8]; simp [fillK]
theorem fillK1 (u : Int) (p : List Value) (hp : p.length = 8) (h0 h1 h2 h3 h4 h5 h6 h7 : Value) (r : List Value) : fillK (p ++ h0 :: h1 :: h2 :: h3 :: h4 :: h5 :: h6 :: h7 :: r).toArray 1 u 8 = (p ++ ((be 8 u).map (Value.int .u8) ++ r)).toArray := by
  rw [be8]; simp [fillK, hp]
theorem fillK2 (u : Int) (p : List Value) (hp : p.length = 16) (h0 h1 h2 h3 h4 h5 h6 h7 : Value) (r : List Value) : fillK (p ++ h0 :: h1 :: h2 :: h3 :: h4 :: h5 :: h6 :: h7 :: r).toArray 2 u 8 = (p ++ ((be 8 u).map (Value.int .u8) ++ r)).toArray := by
  rw [be8]; simp [fillK, hp]
theorem key_lit (a x y : Int) : fillK (fillK (fillK #[.int .u8 0, .int .u8 0, .int .u8 0, .int .u8 0, .int .u8 0, .int .u8 0, .int .u8 0, .int .u8 0, .int .u8 0, .int .u8 0, .int .u8 0, .int .u8 0, .int .u8 0, .int .u8 0, .int .u8 0, .int .u8 0, .int .u8 0, .int .u8 0, .int .u8 0, .int .u8 0, .int .u8 0, .int .u8 0, .int .u8 0, .int .u8 0] 0 a 8) 1 x 8) 2 y 8 = ((keyBytes a x y).map (Value.int .u8)).toArray := by
  rw [fillK0, fillK1 _ _ (by simp [be_length]), ← List.append_assoc, fillK2 _ _ (by simp [be_length])]
  simp [keyBytes]

theorem heap3_0 (w : World) (A B C : Obj) : (((w.alloc A).alloc B).alloc C).heap[w.heap.size]? = some A := by
  show (((w.heap.push A).push B).push C)[w.heap.size]? = some A
  rw [Array.getElem?_push, if_neg (by simp; omega), Array.getElem?_push, if_neg (by simp), Array.getElem?_push, if_pos rfl]
theorem heap3_1 (w : World) (A B C : Obj) : (((w.alloc A).alloc B).alloc C).heap[w.heap.size + 1]? = some B := by
  show (((w.heap.push A).push B).push C)[w.heap.size + 1]? = some B
  rw [Array.getElem?_push, if_neg (by simp), Array.getElem?_push, if_pos (by simp)]

set_option maxHeartbeats 2000000 in
theorem posKey_any (a0 a1 a2 : Int) (w : World) (_h0 : 0 ≤ a0) (_h0' : a0 ≤ 18446744073709551615) (h1 : -9223372036854775808 ≤ a1) (h1' : a1 ≤ 9223372036854775807) (h2 : -9223372036854775808 ≤ a2) (h2' : a2 ≤ 9223372036854775807) :
    Calls Trym.prog 12 #[.int .u64 a0, .int .i64 a1, .int .i64 a2] w fun e w' => e = .returned (.agg ((keyBytes a0 (a1 + 9223372036854775808) (a2 + 9223372036854775808)).map (.int .u8)).toArray) ∧ Below w.heap.size w w' := by
  have e1 := xorTop a1 h1 h1'
  have e2 := xorTop a2 h2 h2'
  obtain ⟨x1, hx1, l1, u1⟩ : ∃ x, bits BinOp.xor IntKind.u64 (IntKind.u64.wrap a1) 9223372036854775808 = x ∧ 0 ≤ x ∧ x ≤ 18446744073709551615 := ⟨_, rfl, by omega, by omega⟩
  obtain ⟨x2, hx2, l2, u2⟩ : ∃ x, bits BinOp.xor IntKind.u64 (IntKind.u64.wrap a2) 9223372036854775808 = x ∧ 0 ≤ x ∧ x ≤ 18446744073709551615 := ⟨_, rfl, by omega, by omega⟩
  have E1 : Hid (x1 = a1 + 9223372036854775808) := by rw [← hx1]; exact e1
  have E2 : Hid (x2 = a2 + 9223372036854775808) := by rw [← hx2]; exact e2
  clear e1 e2
  go_enter Trym.func12, Trym.ntmps12
  go_wp2
  refine wp_loop_rounds 4 ?_
  rw [rounds_succ]
  go_wp2
  obtain ⟨z, hz⟩ : ∃ z : Array Value, z = #[.int .u8 0, .int .u8 0, .int .u8 0, .int .u8 0, .int .u8 0, .int .u8 0, .int .u8 0, .int .u8 0, .int .u8 0, .int .u8 0, .int .u8 0, .int .u8 0, .int .u8 0, .int .u8 0, .int .u8 0, .int .u8 0, .int .u8 0, .int .u8 0, .int .u8 0, .int .u8 0, .int .u8 0, .int .u8 0, .int .u8 0, .int .u8 0] := ⟨_, rfl⟩
  rw [← hz]
  have hsz : z.size = 24 := by rw [hz]; rfl
  have HZ := (show Hid _ from hz)
  clear hz

  go_loopw [10, 11] (fun v i wr => ∃ n : Nat, n ≤ 8 ∧ i = .int .i64 (7 - (n : Int)) ∧ v = .int .u64 (a0 / p256 n) ∧ wr = ((w.alloc (.cells z 26)).alloc (.cells (fillK z 0 a0 n) 26)).alloc (.cells #[.int .u64 a0, .int .u64 x1, .int .u64 x2] 53)) (fun _ i _ => (intOf i + 1).toNat)
  case atStart => exact ⟨0, by omega, rfl, by simp [p256], rfl⟩
  case round =>
    obtain ⟨n, hn, rfl, rfl, rfl⟩ := hrel
    by_cases hlt : n < 8
    · obtain ⟨old, hold⟩ : ∃ v, (fillK z 0 a0 n)[7 - n]? = some v := ⟨(fillK z 0 a0 n)[7 - n]'(by rw [fillK_size]; omega), by simp⟩
      go_wp2
      go_roundw
      case rel => exact ⟨n + 1, by omega, by congr 1; omega, by rw [div_p256], by rw [fillK_succ0 _ _ _ (by omega)]⟩
      case measure => simp [intOf]; omega
    · obtain rfl : n = 8 := by omega
      go_wp2
      rw [rounds_succ]
      go_wp2
      obtain ⟨z1, hz1⟩ : ∃ z' : Array Value, z' = fillK z 0 a0 8 := ⟨_, rfl⟩
      rw [← hz1]
      have hsz1 : z1.size = 24 := by rw [hz1, fillK_size]; exact hsz
      have HZ1 := (show Hid _ from hz1)
      clear hz1
      go_loopw [10, 11] (fun v i wr => ∃ n : Nat, n ≤ 8 ∧ i = .int .i64 (7 - (n : Int)) ∧ v = .int .u64 (x1 / p256 n) ∧ wr = ((w.alloc (.cells z 26)).alloc (.cells (fillK z1 1 x1 n) 26)).alloc (.cells #[.int .u64 a0, .int .u64 x1, .int .u64 x2] 53)) (fun _ i _ => (intOf i + 1).toNat)
      case atStart => exact ⟨0, by omega, rfl, by simp [p256], rfl⟩
      case round =>
        obtain ⟨n, hn, rfl, rfl, rfl⟩ := hrel
        by_cases hlt : n < 8
        · obtain ⟨old, hold⟩ : ∃ v, (fillK z1 1 x1 n)[8 + (7 - n)]? = some v := ⟨(fillK z1 1 x1 n)[8 + (7 - n)]'(by rw [fillK_size]; omega), by simp⟩
          go_wp2
          go_roundw
          case rel => exact ⟨n + 1, by omega, by congr 1; omega, by rw [div_p256], by rw [fillK_succ1 _ _ _ (by omega)]⟩
          case measure => simp [intOf]; omega
        · obtain rfl : n = 8 := by omega
          go_wp2
          rw [rounds_succ]
          go_wp2
          obtain ⟨z2, hz2⟩ : ∃ z' : Array Value, z' = fillK z1 1 x1 8 := ⟨_, rfl⟩
          rw [← hz2]
          have hsz2 : z2.size = 24 := by rw [hz2, fillK_size]; exact hsz1
          have HZ2 := (show Hid _ from hz2)
          clear hz2
          go_loopw [10, 11] (fun v i wr => ∃ n : Nat, n ≤ 8 ∧ i = .int .i64 (7 - (n : Int)) ∧ v = .int .u64 (x2 / p256 n) ∧ wr = ((w.alloc (.cells z 26)).alloc (.cells (fillK z2 2 x2 n) 26)).alloc (.cells #[.int .u64 a0, .int .u64 x1, .int .u64 x2] 53)) (fun _ i _ => (intOf i + 1).toNat)
          case atStart => exact ⟨0, by omega, rfl, by simp [p256], rfl⟩
          case round =>
            obtain ⟨n, hn, rfl, rfl, rfl⟩ := hrel
            by_cases hlt : n < 8
            · obtain ⟨old, hold⟩ : ∃ v, (fillK z2 2 x2 n)[16 + (7 - n)]? = some v := ⟨(fillK z2 2 x2 n)[16 + (7 - n)]'(by rw [fillK_size]; omega), by simp⟩
              go_wp2
              go_roundw
              case rel => exact ⟨n + 1, by omega, by congr 1; omega, by rw [div_p256], by rw [fillK_succ2 _ _ _ (by omega)]⟩
              case measure => simp [intOf]; omega
            · obtain rfl : n = 8 := by omega
              go_wp2
              obtain ⟨zz, hzz⟩ : ∃ z' : Array Value, z' = fillK z2 2 x2 8 := ⟨_, rfl⟩
              rw [← hzz, rounds_succ]
              have hszz : zz.size = 24 := by rw [hzz, fillK_size]; exact hsz2
              have hkey : zz = ((keyBytes a0 (a1 + 9223372036854775808) (a2 + 9223372036854775808)).map (.int .u8)).toArray := by
                rw [hzz, HZ2.out, HZ1.out, HZ.out, key_lit, E1.out, E2.out]
              have hone : zz.all (·.oneCell') = true := by rw [hkey]; simp [Value.oneCell']
              have HK := (show Hid _ from hkey)
              clear hkey hzz
              have hgz : (((w.alloc (.cells z 26)).alloc (.cells zz 26)).alloc (.cells #[.int .u64 a0, .int .u64 x1, .int .u64 x2] 53)).heap[w.heap.size + 1]? = some (.cells zz 26 (0, 0)) := heap3_1 _ _ _ _
              have hgr : (((w.alloc (.cells z 26)).alloc (.cells zz 26)).alloc (.cells #[.int .u64 a0, .int .u64 x1, .int .u64 x2] 53)).heap[w.heap.size]? = some (.cells z 26 (0, 0)) := heap3_0 _ _ _ _
              go_wp2_with (first | (refine wpList_load_row rfl 26 _ rfl (w.heap.size + 1) rfl 26 zz (0, 0) _ hgz Trym.underlying26 rfl (by rw [hszz]; kernel_rfl) ?_) | (refine wpList_store_row rfl 26 _ _ rfl w.heap.size zz rfl rfl 26 z hgr (by rw [hszz]; kernel_rfl) (by rw [hsz, hszz]) hone ?_))
              refine bodyPost_ret (v := .agg zz) (results_cell_row Trym.results12 _ _ w.heap.size 26 zz (0, 0) _ rfl (setRow_heap _ _ _ _ _ _ hgr) Trym.underlying26 rfl (by rw [hszz]; kernel_rfl)) rfl ⟨by rw [HK.out], ?_⟩
              exact below_setRow (((((Below.refl _ _).alloc (Nat.le_refl _) _).alloc (by simp) _).alloc (by simp; omega) _)) (Nat.le_refl _) _

theorem ret_bool {a b : Bool} (h : a = b) : Ending.returned (.bool a) = .returned (.bool b) := by rw [h]
theorem drop_cons {xs : List Int} {k : Nat} {x : Int} (h : xs[k]? = some x) : xs.drop k = x :: xs.drop (k + 1) := by
  obtain ⟨hk, rfl⟩ := List.getElem?_eq_some_iff.1 h
  exact List.drop_eq_getElem_cons hk

set_option maxHeartbeats 1000000 in
theorem keyLess_any (xs ys : List Int) (hx : xs.length = 24) (hy : ys.length = 24) (w : World) :
    Calls Trym.prog 11 #[.agg (xs.map (Value.int .u8)).toArray, .agg (ys.map (Value.int .u8)).toArray] w fun e w' => e = .returned (.bool (lexLess xs ys)) ∧ Below w.heap.size w w' := by
  obtain ⟨xa, hxa⟩ : ∃ z : Array Value, z = (xs.map (Value.int .u8)).toArray := ⟨_, rfl⟩
  obtain ⟨ya, hya⟩ : ∃ z : Array Value, z = (ys.map (Value.int .u8)).toArray := ⟨_, rfl⟩
  rw [← hxa, ← hya]
  have HX := (show Hid _ from hxa)
  have HY := (show Hid _ from hya)
  clear hxa hya
  go_enter Trym.func11, Trym.ntmps11
  go_wp2
  go_loopw [5] (fun i wr => ∃ k : Nat, k ≤ 24 ∧ i = .int .i64 k ∧ lexLess (xs.drop k) (ys.drop k) = lexLess xs ys ∧ ∃ m, wr = ((w.alloc (.cells xa 26)).alloc (.cells ya 26)).drewN m) (fun i _ => 24 - (intOf i).toNat)
  case atStart => exact ⟨0, by omega, rfl, rfl, 0, rfl⟩
  case round =>
    obtain ⟨k, hk, rfl, hlex, m, rfl⟩ := hrel
    have HLX := (show Hid _ from hlex)
    clear hlex
    by_cases hlt : k < 24
    · obtain ⟨x, hxk⟩ : ∃ x, xs[k]? = some x := ⟨xs[k]'(by omega), by simp⟩
      obtain ⟨y, hyk⟩ : ∃ y, ys[k]? = some y := ⟨ys[k]'(by omega), by simp⟩
      have hcx : xa[k]? = some (.int .u8 x) := by rw [HX.out]; simp [hxk]
      have hcy : ya[k]? = some (.int .u8 y) := by rw [HY.out]; simp [hyk]
      have hdx : Hid (xs.drop k = x :: xs.drop (k + 1)) := drop_cons hxk
      have hdy : Hid (ys.drop k = y :: ys.drop (k + 1)) := drop_cons hyk
      clear hxk hyk
      by_cases hxy : x = y
      · subst hxy
        go_wp2
        go_quiet (fail)
        go_wp2
        go_roundw
        case rel => 
          exact ⟨k + 1, by omega, by go_num, by rw [← HLX.out, hdx.out, hdy.out]; simp [lexLess], _, rfl⟩
        case measure => simp [intOf]; omega
      · have hxy' : (x == y) = false := by simpa using hxy
        go_wp2
        go_quiet (fail)
        go_wp2
        go_quiet (fail)
        go_wp2
        go_ret
        exact ⟨ret_bool (by rw [← HLX.out, hdx.out, hdy.out]; simp [lexLess, hxy]), below_drewN (below_drewN (below_drewN (((Below.refl _ _).alloc (Nat.le_refl _) _).alloc (by simp) _) _) _) _⟩
    · obtain rfl : k = 24 := by omega
      go_wp2
      go_ret
      exact ⟨ret_bool (by rw [← HLX.out, List.drop_of_length_le (by omega)]; rfl), below_drewN (((Below.refl _ _).alloc (Nat.le_refl _) _).alloc (by simp) _) _⟩
end Go.Proofs.Qxb6605389aMods
