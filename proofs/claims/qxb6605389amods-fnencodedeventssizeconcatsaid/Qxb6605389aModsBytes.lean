/-
  THE CONTRACTS of the three byte guards 'zzBytes_..': each answers some bool and writes nothing.
-/
import Derived.Test.Qxb6605389aModsEvs
namespace Go.Proofs.Qxb6605389aMods
open Go.RowKit

/-- It returns a bool. -/
def RetBool (e : Ending) : Prop := ∃ b, e = .returned (.bool b)

set_option maxHeartbeats 1000000 in
theorem bytes20_any (a : Option Addr) (n cap : Nat) (L : Nat → Nat) (w : World) (h : OuterAt w a n L) (hn : n ≤ 9223372036854775807) (hL : ∀ r, r < n → L r ≤ 9223372036854775807) :
    Calls Trym.prog 20 #[.slice a n cap] w fun e w' => RetBool e ∧ w' = w := by
  by_cases h1 : 1048576 < n
  · go_enter Trym.func20, Trym.ntmps20
    go_wp2
    go_ret
    exact ⟨⟨_, rfl⟩, rfl⟩
  · go_enter Trym.func20, Trym.ntmps20
    go_wp2
    go_loop [3, 4] (fun s i => ∃ (k : Nat) (x : Int), k ≤ n ∧ i = .int .i64 k ∧ s = .int .i64 x) (fun _ i => n - (intOf i).toNat)
    case atStart => exact ⟨0, _, by omega, rfl, rfl⟩
    case round =>
      obtain ⟨k, x, hk, rfl, rfl⟩ := hrel
      by_cases hlt : k < n
      · obtain ⟨b, off, A, C, rfl, hc⟩ := h k hlt
        have hLk := hL k hlt
        go_wp2
        · go_ret
          exact ⟨⟨_, rfl⟩, rfl⟩
        · go_ret
          exact ⟨⟨_, rfl⟩, rfl⟩
        · go_round
          case rel => exact ⟨k + 1, _, by omega, by go_num, rfl⟩
          case measure => simp [intOf]; omega
      · obtain rfl : k = n := by omega
        go_wp2
        go_ret
        exact ⟨⟨_, rfl⟩, rfl⟩

set_option maxHeartbeats 1000000 in
theorem bytes14_any (a : Option Addr) (n cap : Nat) (L : Nat → Nat) (A1 : Option Addr) (m c1 : Nat) (w : World) (h : OuterAt w a n L) (hn : n ≤ 9223372036854775807) (hL : ∀ r, r < n → L r ≤ 9223372036854775807) (_hm : m ≤ 9223372036854775807) :
    Calls Trym.prog 14 #[.slice a n cap, .slice A1 m c1] w fun e w' => RetBool e ∧ w' = w := by
  by_cases h1 : 1048576 < n
  · go_enter Trym.func14, Trym.ntmps14
    go_wp2
    go_ret
    exact ⟨⟨_, rfl⟩, rfl⟩
  · go_enter Trym.func14, Trym.ntmps14
    go_wp2
    go_loop [5, 6] (fun s i => ∃ (k : Nat) (x : Int), k ≤ n ∧ i = .int .i64 k ∧ s = .int .i64 x) (fun _ i => n - (intOf i).toNat)
    case atStart => exact ⟨0, _, by omega, rfl, rfl⟩
    case round =>
      obtain ⟨k, x, hk, rfl, rfl⟩ := hrel
      by_cases hlt : k < n
      · obtain ⟨b, off, A, C, rfl, hc⟩ := h k hlt
        have hLk := hL k hlt
        go_wp2
        · go_ret
          exact ⟨⟨_, rfl⟩, rfl⟩
        · go_ret
          exact ⟨⟨_, rfl⟩, rfl⟩
        · go_round
          case rel => exact ⟨k + 1, _, by omega, by go_num, rfl⟩
          case measure => simp [intOf]; omega
      · obtain rfl : k = n := by omega
        go_wp2
        all_goals
          go_ret
          exact ⟨⟨_, rfl⟩, rfl⟩

set_option maxHeartbeats 1000000 in
theorem bytes19_any (a : Option Addr) (n cap : Nat) (L : Nat → Nat) (b : Option Addr) (m capb : Nat) (M : Nat → Nat) (w : World) (h : OuterAt w a n L) (hn : n ≤ 9223372036854775807) (hL : ∀ r, r < n → L r ≤ 9223372036854775807)
    (g : OuterAt w b m M) (hm : m ≤ 9223372036854775807) (hM : ∀ r, r < m → M r ≤ 9223372036854775807) :
    Calls Trym.prog 19 #[.slice a n cap, .slice b m capb] w fun e w' => RetBool e ∧ w' = w := by
  by_cases h1 : 1048576 < n
  · go_enter Trym.func19, Trym.ntmps19
    go_wp2
    go_ret
    exact ⟨⟨_, rfl⟩, rfl⟩
  · go_enter Trym.func19, Trym.ntmps19
    go_wp2
    go_loop [5, 6] (fun s i => ∃ (k : Nat) (x : Int), k ≤ n ∧ i = .int .i64 k ∧ s = .int .i64 x) (fun _ i => n - (intOf i).toNat)
    case atStart => exact ⟨0, _, by omega, rfl, rfl⟩
    case round =>
      obtain ⟨k, x, hk, rfl, rfl⟩ := hrel
      by_cases hlt : k < n
      · obtain ⟨b, off, A, C, rfl, hc⟩ := h k hlt
        have hLk := hL k hlt
        go_wp2
        · go_ret
          exact ⟨⟨_, rfl⟩, rfl⟩
        · go_ret
          exact ⟨⟨_, rfl⟩, rfl⟩
        · go_round
          case rel => exact ⟨k + 1, _, by omega, by go_num, rfl⟩
          case measure => simp [intOf]; omega
      · obtain rfl : k = n := by omega
        go_wp2
        · go_ret
          exact ⟨⟨_, rfl⟩, rfl⟩
        · go_ret
          exact ⟨⟨_, rfl⟩, rfl⟩
        · go_loop [5, 7] (fun s i => ∃ (j : Nat) (x : Int), j ≤ m ∧ i = .int .i64 j ∧ s = .int .i64 x) (fun _ i => m - (intOf i).toNat)
          case atStart => exact ⟨0, _, by omega, rfl, rfl⟩
          case round =>
            obtain ⟨j, x, hj, rfl, rfl⟩ := hrel
            by_cases hlt : j < m
            · obtain ⟨b, off, A, C, rfl, hc⟩ := g j hlt
              have hMj := hM j hlt
              go_wp2
              · go_ret
                exact ⟨⟨_, rfl⟩, rfl⟩
              · go_ret
                exact ⟨⟨_, rfl⟩, rfl⟩
              · go_round
                case rel => exact ⟨j + 1, _, by omega, by go_num, rfl⟩
                case measure => simp [intOf]; omega
            · obtain rfl : j = m := by omega
              go_wp2
              go_ret
              exact ⟨⟨_, rfl⟩, rfl⟩

end Go.Proofs.Qxb6605389aMods
