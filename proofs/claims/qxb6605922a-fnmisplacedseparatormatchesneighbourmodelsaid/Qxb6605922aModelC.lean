import Derived.Test.Qxb6605922aModelB
namespace Go.Proofs.Qxb6605922a
open Go.ChangeShapes Go.WideShapes Go.ChangeAt Go.RowKit

set_option maxHeartbeats 400000 in
theorem model_empty (a : Option Addr) (cap : Nat) (p : Int) (w : World) :
    Calls Try.prog 10 #[.slice a 0 cap, .int .i32 p] w fun e w' => e = .returned (.int .i64 (-1)) ∧ w' = w := by
  go_enter Try.func10, Try.ntmps10
  go_wp2
  refine wp_loop_rounds 1 ?_
  rw [rounds_succ]
  go_wp2
  go_ret
  exact ⟨rfl, rfl⟩

theorem model_all (a : Option Addr) (len cap : Nat) (l : List Int) (p : Int) (w : World) (h : Row w a len l) (hm : len ≤ 1048577) (hp1 : -2147483648 ≤ p) (hp2 : p ≤ 2147483647) :
    Calls Try.prog 10 #[.slice a len cap, .int .i32 p] w fun e w' => e = .returned (.int .i64 (sm p l len 0)) ∧ w' = w := by
  obtain ⟨h1, h2, h3⟩ := h
  rcases h3 with rfl | ⟨b, off, rfl, h3⟩
  · exact model_empty a cap p w
  · exact model_any b off len cap l p w h1 hm hp1 hp2 h3 h2

set_option maxHeartbeats 800000 in
theorem matches_in (a : Option Addr) (len cap : Nat) (l : List Int) (p : Int) (w : World) (h : Row w a len l) (hn : a = none → len = 0 ∧ cap = 0) (hm : len ≤ 65536) (hp : p = 0 ∨ p = 48 ∨ (97 ≤ p ∧ p ≤ 122)) :
    Calls Try.prog 3 #[.slice a len cap, .int .i32 p] w fun e w' => e = .returned (.bool true) ∧ Below w.heap.size w w' := by
  have HE : Hid (mis p l 0 0 = sm p l len 0) := by
    have e := mis_sm p l hp h.2.1
    rw [h.1] at e; exact e
  have H : Hid (Row w a len l) := h
  have HN : Hid (a = none → len = 0 ∧ cap = 0) := hn
  clear h hn
  rcases hp with rfl | rfl | ⟨hp1, hp2⟩
  all_goals
    go_enter Try.func3, Try.ntmps3
    go_wp2_with (go_at_call 7; refine (bytes7_any _ _ _ _ _ (by omega)).mono ?_; rintro e w' ⟨rfl, rfl⟩)
    refine (copy_all _ _ _ l _ H.out HN.out (by omega)).mono ?_
    rintro e w1 ⟨a', rfl, hrow, hbel⟩
    have HR : Hid (Row w1 a' len l) := hrow
    have HW : Hid (Below _ _ w1) := hbel
    clear hrow hbel H HN
    go_wp2_with fail
    refine (zz_all _ _ _ l _ _ HR.out (by omega)).mono ?_
    rintro e w2 ⟨rfl, hw2⟩
    subst hw2
    go_wp2_with fail
    refine (model_all _ _ _ l _ _ HR.out (by omega) (by omega) (by omega)).mono ?_
    rintro e w3 ⟨rfl, hw3⟩
    subst hw3
    go_wp2
    go_ret
    exact ⟨ret_bool (by rw [HE.out]; simp), HW.out⟩

set_option maxHeartbeats 800000 in
theorem matches_out (a : Option Addr) (len cap : Nat) (p : Int) (w : World) (hm : len ≤ 65536) (hp : ¬ (p = 0 ∨ p = 48 ∨ (97 ≤ p ∧ p ≤ 122))) :
    Calls Try.prog 3 #[.slice a len cap, .int .i32 p] w fun e w' => e = .returned (.bool true) ∧ Below w.heap.size w w' := by
  have g1 : (p != 0) = true := by simp; omega
  have g2 : (p != 48) = true := by simp; omega
  have g3 : p < 97 ∨ 122 < p := by omega
  clear hp
  rcases g3 with g3 | g3
  · go_enter Try.func3, Try.ntmps3
    go_wp2_with (go_at_call 7; refine (bytes7_any _ _ _ _ _ (by omega)).mono ?_; rintro e w' ⟨rfl, rfl⟩)
    go_ret
    exact ⟨rfl, Below.refl _ _⟩
  · have g4 : ¬ p < 97 := by omega
    go_enter Try.func3, Try.ntmps3
    go_wp2_with (go_at_call 7; refine (bytes7_any _ _ _ _ _ (by omega)).mono ?_; rintro e w' ⟨rfl, rfl⟩)
    go_ret
    exact ⟨rfl, Below.refl _ _⟩
end Go.Proofs.Qxb6605922a
