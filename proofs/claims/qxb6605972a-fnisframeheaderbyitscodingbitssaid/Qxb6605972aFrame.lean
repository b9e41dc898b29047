import Derived.Test.Qxb6605972aRows
import Derived.WalkKit
import Derived.ProofKit
import Derived.OpenShut
import Derived.WalkSpells
import Derived.Laws.BitsAllLaws
namespace Go.Proofs.Qxb6605972a
open Go.ChangeShapes Go.WideShapes Go.ChangeAt Go.RowKit
theorem ret_bool {a b : Bool} (h : a = b) : Ending.returned (.bool a) = .returned (.bool b) := by rw [h]

/-- the thirteen start-of-frame codes -/
def isFr (a : Int) : Bool := decide (192 ≤ a ∧ a ≤ 207 ∧ a ≠ 196 ∧ a ≠ 200 ∧ a ≠ 204)

theorem isFr_iff (a : Int) : isFr a = true ↔ 192 ≤ a ∧ a ≤ 207 ∧ a ≠ 196 ∧ a ≠ 200 ∧ a ≠ 204 := by simp only [isFr, decide_eq_true_eq]

set_option maxHeartbeats 800000 in
theorem frame_any (a : Int) (w : World) (_h0 : 0 ≤ a) (_h1 : a ≤ 255) :
    Calls Try.prog 24 #[.int .u8 a] w fun e w' => e = .returned (.bool (isFr a)) ∧ w' = w := by
  have HS : Hid (isFr a = true ↔ 192 ≤ a ∧ a ≤ 207 ∧ a ≠ 196 ∧ a ≠ 200 ∧ a ≠ 204) := isFr_iff a
  generalize isFr a = B at HS
  go_enter Try.func24, Try.ntmps24
  go_wp2
  all_goals
    go_ret
    refine ⟨ret_bool ?_, rfl⟩
    rw [Bool.eq_iff_iff, HS.out]
    try simp only [beq_iff_eq, beq_eq_false_iff_ne, ne_eq] at *
    try simp only [decide_eq_true_eq, Bool.false_eq_true, false_iff]
    omega
set_option maxHeartbeats 800000 in
theorem start_any (a : Int) (w : World) (_h0 : 0 ≤ a) (_h1 : a ≤ 255) :
    Calls Try.prog 8 #[.int .u8 a] w fun e w' => e = .returned (.bool (isFr a)) ∧ w' = w := by
  have HS : Hid (isFr a = true ↔ 192 ≤ a ∧ a ≤ 207 ∧ a ≠ 196 ∧ a ≠ 200 ∧ a ≠ 204) := isFr_iff a
  generalize isFr a = B at HS
  go_enter Try.func8, Try.ntmps8
  go_wp2
  all_goals
    go_ret
    refine ⟨ret_bool ?_, rfl⟩
    rw [Bool.eq_iff_iff, HS.out]
    try simp only [beq_iff_eq, beq_eq_false_iff_ne, ne_eq] at *
    try simp only [Bool.false_eq_true, true_iff, false_iff]
    omega
set_option maxHeartbeats 400000 in
theorem zzframe_any (a : Int) (w : World) (h0 : 0 ≤ a) (h1 : a ≤ 255) :
    Calls Try.prog 7 #[.int .u8 a] w fun e w' => e = .returned (.bool (isFr a)) ∧ w' = w := by
  go_enter Try.func7, Try.ntmps7
  go_wp2_with (go_at_call 24; refine (frame_any _ _ h0 h1).mono ?_; rintro e w' ⟨rfl, rfl⟩)
  go_ret
  exact ⟨rfl, rfl⟩
end Go.Proofs.Qxb6605972a
