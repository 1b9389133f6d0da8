/-
  WALKS of seat b6628175a: the leaves: zzValidPair, zzSamePair.
-/
import Derived.Test.Qxb6628175aRows
import Derived.Test.Qxb6628175aPlain
import Derived.WalkKit
import Derived.WalkSpells
import Derived.WalkLawsBesides
import Derived.RowKit3
namespace Go.Proofs.Qxb6628175a
open Go.RowKit

theorem ret_bool {a b : Bool} (h : a = b) : Ending.returned (.bool a) = .returned (.bool b) := by rw [h]

set_option maxHeartbeats 1000000 in
theorem vp_any (n x y : Int) (w : World) :
    Calls Try.prog 5 #[.int .i64 n, .int .i64 x, .int .i64 y] w fun e w' => e = .returned (.bool (vpB n x y)) ∧ w' = w := by
  go_enter Try.func5, Try.ntmps5
  go_wp2
  all_goals
    go_ret
    refine ⟨ret_bool ?_, rfl⟩
    unfold vpB
    first | (rw [eq_comm, decide_eq_false_iff_not]; omega) | (rw [Bool.eq_iff_iff]; simp; omega)

set_option maxHeartbeats 1000000 in
theorem sp_any (a b x y : Int) (w : World) :
    Calls Try.prog 13 #[.agg #[.int .i64 a, .int .i64 b], .int .i64 x, .int .i64 y] w fun e w' => e = .returned (.bool (spB a b x y)) ∧ ∃ c : Array Value, w' = w.alloc (.cells c 25) := by
  go_enter Try.func13, Try.ntmps13
  go_wp2
  all_goals
    go_ret
    refine ⟨ret_bool ?_, _, rfl⟩
    unfold spB
    first | (rw [eq_comm, decide_eq_true_eq]; omega) | (rw [eq_comm, decide_eq_false_iff_not]; omega) | (rw [Bool.eq_iff_iff]; simp; omega)
end Go.Proofs.Qxb6628175a
