import Derived.Test.Qxb6605922aRows
import Derived.Test.Qxb6605922aPlain
import Derived.WalkKit
import Derived.ProofKit
import Derived.OpenShut
import Derived.ShutString
import Derived.WalkSpells
namespace Go.Proofs.Qxb6605922a
open Go.ChangeShapes Go.WideShapes Go.ChangeAt Go.RowKit
theorem ret_int {k : IntKind} {a b : Int} (h : a = b) : Ending.returned (.int k a) = .returned (.int k b) := by rw [h]
theorem ret_bool {a b : Bool} (h : a = b) : Ending.returned (.bool a) = .returned (.bool b) := by rw [h]

set_option maxHeartbeats 400000 in
theorem lower_any (a0 : Int) (w : World) (h1 : -2147483648 ≤ a0) (h2 : a0 ≤ 2147483647) :
    Calls Try.prog 17 #[.int .i32 a0] w fun e w' => e = .returned (.int .i32 (low a0)) ∧ w' = w := by
  go_enter Try.func17, Try.ntmps17
  go_wp2
  go_ret
  exact ⟨ret_int (bits_or32 a0 h1 h2), rfl⟩
set_option maxHeartbeats 400000 in
theorem zzlower_any (a0 : Int) (w : World) (h1 : -2147483648 ≤ a0) (h2 : a0 ≤ 2147483647) :
    Calls Try.prog 12 #[.int .i32 a0] w fun e w' => e = .returned (.int .i32 (low a0)) ∧ w' = w := by
  go_enter Try.func12, Try.ntmps12
  go_wp2_with (go_at_call 17; refine (lower_any _ _ h1 h2).mono ?_; rintro e w' ⟨rfl, rfl⟩)
  go_ret
  exact ⟨rfl, rfl⟩
set_option maxHeartbeats 400000 in
theorem isLet_any (a0 : Int) (w : World) :
    Calls Try.prog 13 #[.int .i32 a0] w fun e w' => e = .returned (.bool (isLet a0)) ∧ w' = w := by
  go_enter Try.func13, Try.ntmps13
  go_wp2
  all_goals
    go_ret
    exact ⟨ret_bool (by unfold isLet; first | exact (decide_eq_true (by omega)).symm | exact (decide_eq_false (by omega)).symm | (rw [Bool.eq_iff_iff]; simp only [decide_eq_true_eq, Bool.or_eq_true]; omega)), rfl⟩
set_option maxHeartbeats 400000 in
theorem fold_any (a0 : Int) (w : World) (h1 : -2147483648 ≤ a0) (h2 : a0 ≤ 2147483647) :
    Calls Try.prog 14 #[.int .i32 a0] w fun e w' => e = .returned (.int .i32 (fold a0)) ∧ w' = w := by
  go_enter Try.func14, Try.ntmps14
  go_wp2
  all_goals
    go_ret
    exact ⟨ret_int (by unfold fold; split <;> omega), rfl⟩
end Go.Proofs.Qxb6605922a
