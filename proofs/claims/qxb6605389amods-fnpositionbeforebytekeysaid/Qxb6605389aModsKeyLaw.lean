/-
  THE PLAIN LAW of the byte keys: no Go text in sight.
-/
import Derived.Test.Qxb6605389aModsPos
import Derived.Laws.BitsAllLaws
namespace Go.Proofs.Qxb6605389aMods
open Go.RowKit

theorem nat_xor_top (x : Nat) (h : x < 18446744073709551616) : x ^^^ 9223372036854775808 = if x < 9223372036854775808 then x + 9223372036854775808 else x - 9223372036854775808 := by
  have e1 : (x ^^^ 2 ^ 63) % 2 ^ 63 = (x % 2 ^ 63) ^^^ (2 ^ 63 % 2 ^ 63) := Nat.xor_mod_two_pow
  have e2 : (x ^^^ 2 ^ 63) / 2 ^ 63 = (x / 2 ^ 63) ^^^ (2 ^ 63 / 2 ^ 63) := Nat.xor_div_two_pow
  have c : (2 : Nat) ^ 63 = 9223372036854775808 := by decide
  rw [c] at e1 e2
  have z : (9223372036854775808 : Nat) % 9223372036854775808 = 0 := by decide
  have o : (9223372036854775808 : Nat) / 9223372036854775808 = 1 := by decide
  rw [z, Nat.xor_zero] at e1
  rw [o] at e2
  have hq : x / 9223372036854775808 = 0 ∨ x / 9223372036854775808 = 1 := by omega
  rcases hq with hq | hq
  · rw [hq] at e2
    have : (0 : Nat) ^^^ 1 = 1 := by decide
    rw [this] at e2
    rw [if_pos (by omega)]; omega
  · rw [hq] at e2
    have : (1 : Nat) ^^^ 1 = 0 := by decide
    rw [this] at e2
    rw [if_neg (by omega)]; omega

/-- 'uint64(a) ^ (1 << 63)' of an int64. -/
theorem xorTop (a : Int) (h1 : -9223372036854775808 ≤ a) (h2 : a ≤ 9223372036854775807) : bits BinOp.xor IntKind.u64 (IntKind.u64.wrap a) 9223372036854775808 = a + 9223372036854775808 := by
  rw [IntKind.wrap_u64, u64_xor _ _ (by omega) (by omega) (by omega) (by omega)]
  have e : (9223372036854775808 : Int).toNat = 9223372036854775808 := by decide
  rw [e, nat_xor_top _ (by omega)]
  split <;> omega

def p256 : Nat → Int | 0 => 1 | n + 1 => p256 n * 256
theorem p256_pos (n : Nat) : 0 < p256 n := by
  induction n with
  | zero => decide
  | succ n ih => simp only [p256]; omega
theorem div_p256 (u : Int) (n : Nat) : u / p256 n / 256 = u / p256 (n + 1) := by
  simp only [p256]; exact Int.ediv_ediv_of_nonneg (Int.le_of_lt (p256_pos n))

/-- The n low bytes of u, the highest first. -/
def be : Nat → Int → List Int | 0, _ => [] | n + 1, u => be n (u / 256) ++ [u % 256]
theorem be_length (n : Nat) (u : Int) : (be n u).length = n := by
  induction n generalizing u with
  | zero => rfl
  | succ n ih => simp [be, ih]

def lexLess : List Int → List Int → Bool
  | x :: xs, y :: ys => if x = y then lexLess xs ys else decide (x < y)
  | _, _ => false

theorem lex_be (n : Nat) : ∀ (u v : Int) (r s : List Int), 0 ≤ u → u < p256 n → 0 ≤ v → v < p256 n →
    lexLess (be n u ++ r) (be n v ++ s) = if u = v then lexLess r s else decide (u < v) := by
  induction n with
  | zero =>
    intro u v r s h1 h2 h3 h4
    simp only [p256] at h2 h4
    have : u = v := by omega
    simp [be, this]
  | succ n ih =>
    intro u v r s h1 h2 h3 h4
    simp only [p256] at h2 h4
    simp only [be, List.append_assoc, List.singleton_append]
    rw [ih _ _ _ _ (by omega) (by omega) (by omega) (by omega)]
    by_cases e : u = v
    · subst e; simp [lexLess]
    · rw [if_neg e]
      by_cases e1 : u / 256 = v / 256
      · have e2 : u % 256 ≠ v % 256 := by omega
        simp only [lexLess, if_pos e1, if_neg e2, decide_eq_decide]; omega
      · simp only [if_neg e1, decide_eq_decide]; omega

/-- The 24 bytes of a key. -/
def keyBytes (a x y : Int) : List Int := be 8 a ++ (be 8 x ++ be 8 y)
theorem keyBytes_length (a x y : Int) : (keyBytes a x y).length = 24 := by simp [keyBytes, be_length]

theorem key_law (a0 a1 a2 b0 b1 b2 : Int) (h0 : 0 ≤ a0) (k0 : a0 ≤ 18446744073709551615) (h1 : -9223372036854775808 ≤ a1) (k1 : a1 ≤ 9223372036854775807) (h2 : -9223372036854775808 ≤ a2) (k2 : a2 ≤ 9223372036854775807)
    (g0 : 0 ≤ b0) (l0 : b0 ≤ 18446744073709551615) (g1 : -9223372036854775808 ≤ b1) (l1 : b1 ≤ 9223372036854775807) (g2 : -9223372036854775808 ≤ b2) (l2 : b2 ≤ 9223372036854775807) :
    lexLess (keyBytes a0 (a1 + 9223372036854775808) (a2 + 9223372036854775808)) (keyBytes b0 (b1 + 9223372036854775808) (b2 + 9223372036854775808)) = beforeB a0 a1 a2 b0 b1 b2 := by
  have p8 : p256 8 = 18446744073709551616 := by decide
  unfold keyBytes
  rw [lex_be 8 _ _ _ _ (by omega) (by omega) (by omega) (by omega), lex_be 8 _ _ _ _ (by omega) (by omega) (by omega) (by omega)]
  have := lex_be 8 (a2 + 9223372036854775808) (b2 + 9223372036854775808) [] [] (by omega) (by omega) (by omega) (by omega)
  simp only [List.append_nil] at this
  rw [this]
  unfold beforeB
  by_cases e0 : a0 = b0
  · rw [if_pos e0, if_pos e0]
    by_cases e1 : a1 = b1
    · rw [if_pos (by omega), if_pos e1]
      by_cases e2 : a2 = b2
      · rw [if_pos (by omega)]; simp [lexLess, e2]
      · rw [if_neg (by omega), decide_eq_decide]; omega
    · rw [if_neg (by omega), if_neg e1, decide_eq_decide]; omega
  · rw [if_neg e0, if_neg e0]

/-- The bytes from the highest power down: how a loop over the bytes lays them. -/
theorem be8 (u : Int) : be 8 u = [u / p256 7 % 256, u / p256 6 % 256, u / p256 5 % 256, u / p256 4 % 256, u / p256 3 % 256, u / p256 2 % 256, u / p256 1 % 256, u / p256 0 % 256] := by
  have e0 : u / p256 0 = u := by simp [p256]
  simp only [be, ← div_p256, e0, List.nil_append, List.cons_append]

end Go.Proofs.Qxb6605389aMods
