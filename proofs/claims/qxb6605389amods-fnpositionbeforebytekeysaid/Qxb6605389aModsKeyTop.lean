/-
  THE WALK of FnPositionBeforeByteKey, out of the contracts of its callees.
-/
import Derived.Test.Qxb6605389aModsKeyWalks
namespace Go.Proofs.Qxb6605389aMods.fnPositionBeforeByteKey
open Go.RowKit

theorem two_kept (w : World) (a0 a1 a2 a3 a4 a5 : Int) {w1 w2 w3 : World}
    (hb1 : Below ((w.alloc (.cells #[.int .u64 a0, .int .i64 a1, .int .i64 a2] 24)).alloc (.cells #[.int .u64 a3, .int .i64 a4, .int .i64 a5] 24)).heap.size
      ((w.alloc (.cells #[.int .u64 a0, .int .i64 a1, .int .i64 a2] 24)).alloc (.cells #[.int .u64 a3, .int .i64 a4, .int .i64 a5] 24)) w1)
    (hb2 : Below w1.heap.size w1 w2) (hb3 : Below w2.heap.size w2 w3) :
    Below w.heap.size w w3 ∧ w3.cell? ⟨w.heap.size, 0, none⟩ = some (.int .u64 a0) ∧ w3.cell? ⟨w.heap.size, 1, none⟩ = some (.int .i64 a1) ∧ w3.cell? ⟨w.heap.size, 2, none⟩ = some (.int .i64 a2) ∧
    w3.cell? ⟨w.heap.size + 1, 0, none⟩ = some (.int .u64 a3) ∧ w3.cell? ⟨w.heap.size + 1, 1, none⟩ = some (.int .i64 a4) ∧ w3.cell? ⟨w.heap.size + 1, 2, none⟩ = some (.int .i64 a5) := by
  have s1 := hb1.size
  have s2 := hb2.size
  have h : Below (w.heap.size + 2) ((w.alloc (.cells #[.int .u64 a0, .int .i64 a1, .int .i64 a2] 24)).alloc (.cells #[.int .u64 a3, .int .i64 a4, .int .i64 a5] 24)) w3 :=
    ((hb1.mono (by simp)).trans (hb2.mono (by simp at s1; omega))).trans (hb3.mono (by simp at s1; omega))
  refine ⟨?_, ?_, ?_, ?_, ?_, ?_, ?_⟩
  · exact (((Below.refl _ _).alloc (Nat.le_refl _) _).alloc (by simp) _).trans (h.mono (by omega))
  all_goals
    rw [h.cell (by simp)]
    simp

set_option maxHeartbeats 1000000 in
theorem walk (a0 : Int) (a1 : Int) (a2 : Int) (a3 : Int) (a4 : Int) (a5 : Int) (w0 : (Lit.int .u64 a0).wf = true) (w1 : (Lit.int .i64 a1).wf = true) (w2 : (Lit.int .i64 a2).wf = true) (w3 : (Lit.int .u64 a3).wf = true) (w4 : (Lit.int .i64 a4).wf = true) (w5 : (Lit.int .i64 a5).wf = true) (w : World) :
    Calls Trym.prog 3 #[.int .u64 a0, .int .i64 a1, .int .i64 a2, .int .u64 a3, .int .i64 a4, .int .i64 a5] w fun e w' => e = .returned (.bool true) ∧ Below w.heap.size w w' := by
  have b0 := bounds_u64 w0
  have b1 := bounds_i64 w1
  have b2 := bounds_i64 w2
  have b3 := bounds_u64 w3
  have b4 := bounds_i64 w4
  have b5 := bounds_i64 w5
  have law := key_law a0 a1 a2 a3 a4 a5 (by omega) (by omega) (by omega) (by omega) (by omega) (by omega) (by omega) (by omega) (by omega) (by omega) (by omega) (by omega)
  have HL := (show Hid _ from law)
  clear law
  go_enter Trym.func3, Trym.ntmps3
  go_wp2_with fail
  refine (posKey_any a0 a1 a2 _ b0.1 b0.2 b1.1 b1.2 b2.1 b2.2).mono ?_
  rintro e w1 ⟨rfl, hb1⟩
  go_wp2_with fail
  refine (posKey_any a3 a4 a5 _ b3.1 b3.2 b4.1 b4.2 b5.1 b5.2).mono ?_
  rintro e w2 ⟨rfl, hb2⟩
  go_wp2_with fail
  refine (keyLess_any _ _ (keyBytes_length _ _ _) (keyBytes_length _ _ _) _).mono ?_
  rintro e w3 ⟨rfl, hb3⟩
  obtain ⟨B, c0, c1, c2, c3, c4, c5⟩ := two_kept w a0 a1 a2 a3 a4 a5 hb1 hb2 hb3
  clear hb1 hb2 hb3
  go_wp2_with fail
  refine (before_any a0 a1 a2 a3 a4 a5 _).mono ?_
  rintro e w4 ⟨rfl, rfl⟩
  clear c0 c1 c2 c3 c4 c5
  go_wp2_with fail
  go_ret
  exact ⟨ret_bool (by rw [HL.out]; simp), (B.alloc (B.size) _).alloc (by have := B.size; simp; omega) _⟩

end Go.Proofs.Qxb6605389aMods.fnPositionBeforeByteKey
