import Derived.Test.Qxb6605922aAll
namespace Go.Proofs.Qxb6605922a
open Go.ChangeShapes Go.WideShapes Go.ChangeAt Go.RowKit

theorem sdl_iff (p : Int) (j : Nat) (c : Int) : sdl p j c = true ↔ (48 ≤ c ∧ c ≤ 57) ∨ (p = 120 ∧ ((97 ≤ c ∧ c ≤ 102) ∨ (65 ≤ c ∧ c ≤ 70))) ∨ ((j : Int) = 1 ∧ ((97 ≤ p ∧ p ≤ 122 ∧ (c = p ∨ c = p - 32)) ∨ (p = 48 ∧ c = 16))) := by
  simp only [sdl, isDig, Bool.or_eq_true, Bool.and_eq_true, decide_eq_true_eq]
  omega

set_option maxHeartbeats 3200000 in
theorem sdl_any (b off len cap : Nat) (c : Int) (j : Nat) (p : Int) (w : World) (_hm : len ≤ 1048577) (hj : j < len) (hp1 : -2147483648 ≤ p) (hp2 : p ≤ 2147483647)
    (hc : w.cell? ⟨b, off + j, none⟩ = some (.int .u8 c)) (hb0 : 0 ≤ c) (hb1 : c ≤ 255) :
    Calls Try.prog 16 #[.slice (some ⟨b, off, none⟩) len cap, .int .i64 j, .int .i32 p] w fun e w' => e = .returned (.bool (sdl p j c)) ∧ w' = w := by
  have HS : Hid (sdl p j c = true ↔ (48 ≤ c ∧ c ≤ 57) ∨ (p = 120 ∧ ((97 ≤ c ∧ c ≤ 102) ∨ (65 ≤ c ∧ c ≤ 70))) ∨ ((j : Int) = 1 ∧ ((97 ≤ p ∧ p ≤ 122 ∧ (c = p ∨ c = p - 32)) ∨ (p = 48 ∧ c = 16)))) := sdl_iff p j c
  generalize sdl p j c = B at HS
  go_enter Try.func16, Try.ntmps16
  go_wp2
  all_goals
    go_ret
    refine ⟨ret_bool ?_, rfl⟩
    clear hc
    rw [Bool.eq_iff_iff, HS.out]
    try simp only [beq_iff_eq, beq_eq_false_iff_ne, ne_eq] at *
    try simp only [Bool.or_eq_true, beq_iff_eq, Bool.false_eq_true, true_iff, false_iff]
    omega

theorem sdl_at (b off len cap : Nat) (c : Int) (j : Nat) (ji : Int) (p : Int) (w : World) (e : ji = (j : Int)) (hm : len ≤ 1048577) (hj : j < len) (hp1 : -2147483648 ≤ p) (hp2 : p ≤ 2147483647)
    (hc : w.cell? ⟨b, off + j, none⟩ = some (.int .u8 c)) (hb0 : 0 ≤ c) (hb1 : c ≤ 255) :
    Calls Try.prog 16 #[.slice (some ⟨b, off, none⟩) len cap, .int .i64 ji, .int .i32 p] w fun e w' => e = .returned (.bool (sdl p j c)) ∧ w' = w := by
  subst e
  exact sdl_any b off len cap c j p w hm hj hp1 hp2 hc hb0 hb1

end Go.Proofs.Qxb6605922a
