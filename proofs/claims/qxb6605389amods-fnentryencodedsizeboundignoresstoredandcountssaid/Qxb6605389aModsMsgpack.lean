/-
  THE CONTRACTS of zzMsgpackArrayHeader, zzMsgpackBin, zzMsgpackStr: between what bounds each answer lies.
-/
import Derived.Test.Qxb6605389aModsEvs
namespace Go.Proofs.Qxb6605389aMods
open Go.RowKit

theorem header_any (n : Nat) (w : World) (hn : n ≤ 9223372036854775807) :
    Calls Trym.prog 21 #[.int .i64 n] w fun e w' => (∃ c : Nat, e = .returned (.int .i64 c) ∧ 1 ≤ c ∧ c ≤ 5) ∧ w' = w := by
  by_cases h1 : n ≤ 15
  · go_enter Trym.func21, Trym.ntmps21
    go_wp2
    go_ret
    exact ⟨⟨1, rfl, by omega, by omega⟩, rfl⟩
  · by_cases h2 : n ≤ 65535
    · go_enter Trym.func21, Trym.ntmps21
      go_wp2
      go_ret
      exact ⟨⟨3, rfl, by omega, by omega⟩, rfl⟩
    · go_enter Trym.func21, Trym.ntmps21
      go_wp2
      go_ret
      exact ⟨⟨5, rfl, by omega, by omega⟩, rfl⟩

theorem bin_any (n : Nat) (w : World) (hn : n ≤ 2097152) :
    Calls Trym.prog 22 #[.int .i64 n] w fun e w' => (∃ c : Nat, e = .returned (.int .i64 c) ∧ 2 + n ≤ c ∧ c ≤ 5 + n) ∧ w' = w := by
  by_cases h1 : n ≤ 255
  · go_enter Trym.func22, Trym.ntmps22
    go_wp2
    go_ret
    exact ⟨⟨2 + n, ret_int (by omega), by omega, by omega⟩, rfl⟩
  · by_cases h2 : n ≤ 65535
    · go_enter Trym.func22, Trym.ntmps22
      go_wp2
      go_ret
      exact ⟨⟨3 + n, ret_int (by omega), by omega, by omega⟩, rfl⟩
    · go_enter Trym.func22, Trym.ntmps22
      go_wp2
      go_ret
      exact ⟨⟨5 + n, ret_int (by omega), by omega, by omega⟩, rfl⟩

theorem str_any (n : Nat) (w : World) (hn : n ≤ 2097152) :
    Calls Trym.prog 31 #[.int .i64 n] w fun e w' => (∃ c : Nat, e = .returned (.int .i64 c) ∧ 1 + n ≤ c ∧ c ≤ 5 + n) ∧ w' = w := by
  by_cases h0 : n ≤ 31
  · go_enter Trym.func31, Trym.ntmps31
    go_wp2
    go_ret
    exact ⟨⟨1 + n, ret_int (by omega), by omega, by omega⟩, rfl⟩
  · by_cases h1 : n ≤ 255
    · go_enter Trym.func31, Trym.ntmps31
      go_wp2
      go_ret
      exact ⟨⟨2 + n, ret_int (by omega), by omega, by omega⟩, rfl⟩
    · by_cases h2 : n ≤ 65535
      · go_enter Trym.func31, Trym.ntmps31
        go_wp2
        go_ret
        exact ⟨⟨3 + n, ret_int (by omega), by omega, by omega⟩, rfl⟩
      · go_enter Trym.func31, Trym.ntmps31
        go_wp2
        go_ret
        exact ⟨⟨5 + n, ret_int (by omega), by omega, by omega⟩, rfl⟩

end Go.Proofs.Qxb6605389aMods
