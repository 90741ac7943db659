import Derived.Test.Qxb6605389aModsRows
import Derived.WalkKit
import Derived.ProofKit
namespace Go.Proofs.Qxb6605389aMods
open Go.RowKit

/-- What '(Position).Before' answers. -/
def beforeB (a0 a1 a2 b0 b1 b2 : Int) : Bool := if a0 = b0 then (if a1 = b1 then decide (a2 < b2) else decide (a1 < b1)) else decide (a0 < b0)

def posCells (a0 a1 a2 : Int) : Array Value := #[.int .u64 a0, .int .i64 a1, .int .i64 a2]

theorem before_any (a0 a1 a2 b0 b1 b2 : Int) (w : World) :
    Calls Trym.prog 13 #[.agg #[.int .u64 a0, .int .i64 a1, .int .i64 a2], .agg #[.int .u64 b0, .int .i64 b1, .int .i64 b2]] w fun e w' =>
      e = .returned (.bool (beforeB a0 a1 a2 b0 b1 b2)) ∧ w' = (w.alloc (.cells #[.int .u64 a0, .int .i64 a1, .int .i64 a2] 24)).alloc (.cells #[.int .u64 b0, .int .i64 b1, .int .i64 b2] 24) := by
  by_cases h0 : a0 = b0
  · subst h0
    by_cases h1 : a1 = b1
    · subst h1
      go_enter Trym.func13, Trym.ntmps13
      go_wp2
      go_ret
      exact ⟨by simp [beforeB], rfl⟩
    · have h1' : (a1 == b1) = false := by simpa using h1
      go_enter Trym.func13, Trym.ntmps13
      go_wp2
      go_ret
      exact ⟨by simp [beforeB, h1], rfl⟩
  · have h0' : (a0 == b0) = false := by simpa using h0
    go_enter Trym.func13, Trym.ntmps13
    go_wp2
    go_ret
    exact ⟨by simp [beforeB, h0], rfl⟩
end Go.Proofs.Qxb6605389aMods
