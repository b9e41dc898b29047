import Derived.Laws.BitsAllLaws
import Derived.Laws.Bits
namespace Go.Proofs.Qxb6605922a

/-- Go's 'c | 32' on a rune, in plain arithmetic. -/
def low (a : Int) : Int := if a / 32 % 2 = 0 then a + 32 else a

theorem or32_small : ∀ r : Nat, r < 64 → r ||| 32 = if r / 32 % 2 = 0 then r + 32 else r := by decide

theorem or32_nat (n : Nat) : n ||| 32 = if n / 32 % 2 = 0 then n + 32 else n := by
  have h1 : (n / 64 * 64) ||| (n % 64) = n := by
    rw [nat_join 6 _ _ (by omega) (by omega)]; omega
  have h2 : n ||| 32 = (n / 64 * 64) ||| ((n % 64) ||| 32) := by
    rw [← Nat.or_assoc, h1]
  have h3 := or32_small (n % 64) (by omega)
  have h4 : ((n % 64) ||| 32) < 2 ^ 6 := Nat.or_lt_two_pow (by omega) (by omega)
  rw [h2, nat_join 6 _ _ (by omega) h4, h3]
  split <;> split <;> omega

theorem bits_or32 (a : Int) (h1 : -2147483648 ≤ a) (h2 : a ≤ 2147483647) : bits .or .i32 a 32 = low a := by
  have e1 : (BitVec.ofInt 32 a).toNat = (a % 4294967296).toNat := by
    rw [BitVec.toNat_ofInt]; rfl
  show IntKind.i32.wrap ((BitVec.ofInt 32 a ||| BitVec.ofInt 32 32).toNat : Int) = _
  rw [BitVec.toNat_or, e1]
  have e2 : (BitVec.ofInt 32 32).toNat = 32 := rfl
  rw [e2, or32_nat, IntKind.wrap_i32]
  unfold low
  split <;> split <;> omega

theorem low_range (a : Int) (h1 : -2147483648 ≤ a) (h2 : a ≤ 2147483647) : -2147483648 ≤ low a ∧ low a ≤ 2147483647 := by
  unfold low; split <;> omega
theorem low_low (a : Int) : low (low a) = low a := by
  unfold low; split <;> (try split) <;> omega

def isLet (a : Int) : Bool := decide ((65 ≤ a ∧ a ≤ 90) ∨ (97 ≤ a ∧ a ≤ 122))
def fold (a : Int) : Int := if 65 ≤ a ∧ a ≤ 90 then a + 32 else a

theorem low_up (a : Int) (h1 : 65 ≤ a) (h2 : a ≤ 90) : low a = a + 32 := by
  unfold low; split <;> omega
theorem low_lw (a : Int) (h1 : 97 ≤ a) (h2 : a ≤ 122) : low a = a := by
  unfold low; split <;> omega
theorem low_other (a : Int) (h1 : ¬ (65 ≤ a ∧ a ≤ 90)) (h2 : ¬ (97 ≤ a ∧ a ≤ 122)) : isLet (low a) = false ∧ (low a = a ∨ low a = a + 32) := by
  unfold isLet low
  constructor
  · apply decide_eq_false; split <;> omega
  · split <;> omega
theorem low_match (a b : Int) : (low a == low b && isLet (low a)) = (isLet a && isLet b && fold a == fold b) := by
  rw [Bool.eq_iff_iff]
  simp only [Bool.and_eq_true, beq_iff_eq, isLet, decide_eq_true_eq]
  unfold low fold
  split <;> split <;> split <;> split <;> omega

end Go.Proofs.Qxb6605922a
