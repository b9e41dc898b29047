import Derived.Test.Qxb6605972aFmtDam
namespace Go.Proofs.Qxb6605972aFmt
open Go.ChangeShapes Go.WideShapes Go.ChangeAt Go.RowKit
open Go.Extern.Stop Go.Stop Go.Extern

set_option maxHeartbeats 1600000 in
theorem band_A (F : Interp) (d : Option Addr) (ca : Option Addr) (n cc : Nat) (s e h l : Int) (w : World) (hF : F.answers w.tape) (hsz : (FmtStop.textOf (F "fmt.Sprintf" (readingA s e h l) 0)).size ≤ 1000) (h0 : 0 ≤ l)
    (hr : e < s ∨ (¬ e < s ∧ 64 ≤ e) ∨ (¬ e < s ∧ ¬ 64 ≤ e ∧ 13 < l) ∨ (¬ e < s ∧ ¬ 64 ≤ e ∧ ¬ 13 < l ∧ (h != 0) = true ∧ (h != l + 1) = true)) :
    Calls Tryf.prog 13 #[.pointer d, .slice ca n cc, .int .i64 s, .int .i64 e, .int .u64 h, .int .u64 l] w fun e w' => ∃ a, e = .returned (.tuple #[.nilFunc, .iface 69 (.pointer (some a))]) ∧ Below w.heap.size w w' := by
  have HS : Hid ((FmtStop.textOf (F "fmt.Sprintf" (readingA s e h l) 0)).size ≤ 1000) := hsz
  have HF : Hid (F.answers w.tape) := hF
  clear hsz hF
  rcases hr with h1 | ⟨h1, h2⟩ | ⟨h1, h2, h3⟩ | ⟨h1, h2, h3, h4, h5⟩
  all_goals
    go_enter Tryf.func13, Tryf.ntmps13
    go_wp2_with fail
    refine (damA F (w.heap.size + 1 + 1 + 1 + 1) s e h l _ ?hF ?h0 ?h1 ?h2 ?h3 HS.out).mono ?_
    case hF => exact HF.out
    case h0 => go_simp
    case h1 => go_simp
    case h2 => go_simp
    case h3 => go_simp
    rintro e1 w2 ⟨a, rfl, hb⟩
    have HB : Hid (Below w.heap.size w w2) := below_at hb (by repeat (first | exact Below.refl _ _ | (refine Below.alloc ?_ (by simp <;> omega) _)))
    clear hb
    go_wp2
    go_ret2
    exact ⟨a, rfl, HB.out⟩

set_option maxHeartbeats 1600000 in
theorem band_B (F : Interp) (d : Option Addr) (ca : Option Addr) (n cc : Nat) (s e h l : Int) (w : World) (hF : F.answers w.tape) (hsz : (FmtStop.textOf (F "fmt.Sprintf" readingB 0)).size ≤ 1000) (h0 : 0 ≤ l)
    (h1 : ¬ e < s) (h2 : ¬ 64 ≤ e) (h3 : ¬ 13 < l) (h4 : (h != 0) = false ∨ ((h != 0) = true ∧ (h != l + 1) = false)) (h5 : (s == 0) = true) (h6 : (e != 0) = true) :
    Calls Tryf.prog 13 #[.pointer d, .slice ca n cc, .int .i64 s, .int .i64 e, .int .u64 h, .int .u64 l] w fun e w' => ∃ a, e = .returned (.tuple #[.nilFunc, .iface 69 (.pointer (some a))]) ∧ Below w.heap.size w w' := by
  have HS : Hid ((FmtStop.textOf (F "fmt.Sprintf" readingB 0)).size ≤ 1000) := hsz
  have HF : Hid (F.answers w.tape) := hF
  clear hsz hF
  rcases h4 with h4 | ⟨h4, h4'⟩
  all_goals
    go_enter Tryf.func13, Tryf.ntmps13
    go_wp2_with fail
    refine (damB F _ ?hF HS.out).mono ?_
    case hF => exact HF.out
    rintro e1 w2 ⟨a, rfl, hb⟩
    have HB : Hid (Below w.heap.size w w2) := below_at hb (by repeat (first | exact Below.refl _ _ | (refine Below.alloc ?_ (by simp <;> omega) _)))
    clear hb
    go_wp2
    go_ret2
    exact ⟨a, rfl, HB.out⟩

set_option maxHeartbeats 1600000 in
theorem band_C (F : Interp) (d : Option Addr) (ca : Option Addr) (n cc : Nat) (s e h l : Int) (w : World) (hF : F.answers w.tape) (hsz : (FmtStop.textOf (F "fmt.Sprintf" (readingC n) 0)).size ≤ 1000) (h0 : 0 ≤ l) (hn : n ≤ 65536)
    (h1 : ¬ e < s) (h2 : ¬ 64 ≤ e) (h3 : ¬ 13 < l) (h4 : (h != 0) = false ∨ ((h != 0) = true ∧ (h != l + 1) = false)) (h5 : (s == 0) = false) (h6 : 0 < s) (h7 : 1 < n) :
    Calls Tryf.prog 13 #[.pointer d, .slice ca n cc, .int .i64 s, .int .i64 e, .int .u64 h, .int .u64 l] w fun e w' => ∃ a, e = .returned (.tuple #[.nilFunc, .iface 69 (.pointer (some a))]) ∧ Below w.heap.size w w' := by
  have HS : Hid ((FmtStop.textOf (F "fmt.Sprintf" (readingC n) 0)).size ≤ 1000) := hsz
  have HF : Hid (F.answers w.tape) := hF
  clear hsz hF
  rcases h4 with h4 | ⟨h4, h4'⟩
  all_goals
    go_enter Tryf.func13, Tryf.ntmps13
    go_wp2_with fail
    refine (damC F (w.heap.size + 1 + 1 + 1 + 1) n _ ?hF ?h0 HS.out).mono ?_
    case hF => exact HF.out
    case h0 => go_simp
    rintro e1 w2 ⟨a, rfl, hb⟩
    have HB : Hid (Below w.heap.size w w2) := below_at hb (by repeat (first | exact Below.refl _ _ | (refine Below.alloc ?_ (by simp <;> omega) _)))
    clear hb
    go_wp2
    go_ret2
    exact ⟨a, rfl, HB.out⟩

/-- a function value that is not nil -/
def IsFn (v : Value) : Prop := ∃ f x y, v = .func (.func f) x y

set_option maxHeartbeats 3200000 in
theorem band_ok (d : Option Addr) (ca : Option Addr) (n cc : Nat) (s e h l : Int) (w : World) (h0 : 0 ≤ l)
    (h1 : ¬ e < s) (h2 : ¬ 64 ≤ e) (h3 : ¬ 13 < l) (h4 : (h != 0) = false ∨ ((h != 0) = true ∧ (h != l + 1) = false)) (h5 : ((s == 0) = true ∧ (e != 0) = false ∧ ¬ 0 < s) ∨ ((s == 0) = false ∧ ¬ 0 < s) ∨ ((s == 0) = false ∧ 0 < s ∧ ¬ 1 < n)) :
    Calls Tryf.prog 13 #[.pointer d, .slice ca n cc, .int .i64 s, .int .i64 e, .int .u64 h, .int .u64 l] w fun e w' => ∃ v, e = .returned (.tuple #[v, .nilIface]) ∧ IsFn v ∧ Below w.heap.size w w' := by
  rcases h4 with h4 | ⟨h4, h4'⟩
  all_goals
    have h6 : (h == 0) = !(h != 0) := (Bool.not_not _).symm
    rw [h4] at h6
    simp only [Bool.not_false, Bool.not_true] at h6
    rcases h5 with ⟨h5, h7, h8⟩ | ⟨h5, h7⟩ | ⟨h5, h7, h8⟩
    all_goals
      go_enter Tryf.func13, Tryf.ntmps13
      go_wp2
      go_ret2
      exact ⟨_, rfl, ⟨_, _, _, rfl⟩, by repeat (first | exact Below.refl _ _ | (refine Below.alloc ?_ (by simp <;> omega) _))⟩
end Go.Proofs.Qxb6605972aFmt
