import Derived.Test.Qxb6605922aCopy
namespace Go.Proofs.Qxb6605922a
open Go.ChangeShapes Go.WideShapes Go.ChangeAt Go.RowKit

/-- a slice of len bytes, read as the list l -/
def Row (w : World) (a : Option Addr) (len : Nat) (l : List Int) : Prop :=
  l.length = len ∧ (∀ j, 0 ≤ l.getD j 0 ∧ l.getD j 0 ≤ 255) ∧ (len = 0 ∨ ∃ b off, a = some ⟨b, off, none⟩ ∧ ∀ i, i < len → w.cell? ⟨b, off + i, none⟩ = some (.int .u8 (l.getD i 0)))

set_option maxHeartbeats 400000 in
theorem mis_empty (a : Option Addr) (cap : Nat) (p : Int) (w : World) :
    Calls Try.prog 15 #[.slice a 0 cap, .int .i32 p] w fun e w' => e = .returned (.int .i64 (-1)) ∧ w' = w := by
  go_enter Try.func15, Try.ntmps15
  go_wp2
  refine wp_loop_rounds 1 ?_
  rw [rounds_succ]
  go_wp2
  go_ret
  exact ⟨rfl, rfl⟩

theorem mis_all (a : Option Addr) (len cap : Nat) (l : List Int) (p : Int) (w : World) (h : Row w a len l) (hm : len ≤ 1048577) :
    Calls Try.prog 15 #[.slice a len cap, .int .i32 p] w fun e w' => e = .returned (.int .i64 (mis p l 0 0)) ∧ w' = w := by
  obtain ⟨h1, h2, h3⟩ := h
  rcases h3 with rfl | ⟨b, off, rfl, h3⟩
  · have : l = [] := List.length_eq_zero_iff.1 h1
    subst this
    exact mis_empty a cap p w
  · exact mis_any b off len cap l p w h1 hm h3 h2

set_option maxHeartbeats 400000 in
theorem zz_all (a : Option Addr) (len cap : Nat) (l : List Int) (p : Int) (w : World) (h : Row w a len l) (hm : len ≤ 1048577) :
    Calls Try.prog 9 #[.slice a len cap, .int .i32 p] w fun e w' => e = .returned (.int .i64 (mis p l 0 0)) ∧ w' = w := by
  have H : Hid (Row w a len l) := h
  clear h
  go_enter Try.func9, Try.ntmps9
  go_wp2_with (go_at_call 15; refine (mis_all _ _ _ l _ _ H.out hm).mono ?_; rintro e w' ⟨rfl, rfl⟩)
  go_ret
  exact ⟨rfl, rfl⟩

set_option maxHeartbeats 400000 in
theorem copy_nil (w : World) :
    Calls Try.prog 8 #[.slice none 0 0] w fun e w' => e = .returned (.slice none 0 0) ∧ w' = w := by
  have q22 : ∀ (w : World) (a : Option Addr) (n c : Nat), (binOp .eql 22 (.slice a n c) (.slice none 0 0)).run Try.prog w = .ok (.bool a.isNone) w := fun w a n c => Lib.run_eql_slice_nil w _ _ a n c 0 0 Try.underlying22
  go_enter Try.func8, Try.ntmps8
  go_wp2
  go_ret
  exact ⟨rfl, rfl⟩

set_option maxHeartbeats 400000 in
theorem copy_empty (x : Addr) (cap : Nat) (w : World) :
    Calls Try.prog 8 #[.slice (some x) 0 cap] w fun e w' => e = .returned (.slice (some ⟨w.heap.size, 0, none⟩) 0 0) ∧ Below w.heap.size w w' := by
  have q22 : ∀ (w : World) (a : Option Addr) (n c : Nat), (binOp .eql 22 (.slice a n c) (.slice none 0 0)).run Try.prog w = .ok (.bool a.isNone) w := fun w a n c => Lib.run_eql_slice_nil w _ _ a n c 0 0 Try.underlying22
  have hmk : ∀ w, (Instr.makeSlice 22 (.int .i64 0) (.int .i64 0)).run Try.prog w = .ok (.slice (some ⟨w.heap.size, 0, none⟩) 0 0) (w.alloc (.cells #[] 5)) := fun _ => by kernel_rfl
  go_enter Try.func8, Try.ntmps8
  go_wp2
  refine wp_loop_rounds 1 ?_
  rw [rounds_succ]
  go_wp2
  go_ret
  exact ⟨rfl, (Below.refl _ _).alloc (Nat.le_refl _) _⟩

theorem copy_all (a : Option Addr) (len cap : Nat) (l : List Int) (w : World) (h : Row w a len l) (hn : a = none → len = 0 ∧ cap = 0) (hm : len ≤ 1048577) :
    Calls Try.prog 8 #[.slice a len cap] w fun e w' => ∃ a', e = .returned (.slice a' len len) ∧ Row w' a' len l ∧ Below w.heap.size w w' := by
  obtain ⟨h1, h2, h3⟩ := h
  by_cases h0 : len = 0
  · subst h0
    cases a with
    | none =>
      obtain ⟨_, rfl⟩ := hn rfl
      refine (copy_nil w).mono ?_
      rintro e w' ⟨rfl, rfl⟩
      exact ⟨_, rfl, ⟨h1, h2, .inl rfl⟩, Below.refl _ _⟩
    | some x =>
      refine (copy_empty x cap w).mono ?_
      rintro e w' ⟨rfl, hb⟩
      exact ⟨_, rfl, ⟨h1, h2, .inl rfl⟩, hb⟩
  · rcases h3 with h3 | ⟨b, off, rfl, h3⟩
    · exact absurd h3 h0
    · refine (copy_any b off len cap l w h1 hm (block_lt_of_cell (h3 0 (by omega))) h3).mono ?_
      rintro e w' ⟨rfl, hR⟩
      exact ⟨_, rfl, ⟨h1, h2, .inr ⟨_, 0, rfl, fun i hi => hR.full h1 i hi⟩⟩, hR.2⟩

set_option maxHeartbeats 400000 in
theorem bytes7_any (a : Option Addr) (len cap : Nat) (p : Int) (w : World) (hm : len ≤ 1048576) :
    Calls Try.prog 7 #[.slice a len cap, .int .i32 p] w fun e w' => e = .returned (.bool true) ∧ w' = w := by
  go_enter Try.func7, Try.ntmps7
  go_wp2
  go_ret
  exact ⟨rfl, rfl⟩
set_option maxHeartbeats 400000 in
theorem bytes7_no (a : Option Addr) (len cap : Nat) (p : Int) (w : World) (hm : ¬ len ≤ 1048576) :
    Calls Try.prog 7 #[.slice a len cap, .int .i32 p] w fun e w' => e = .returned (.bool false) ∧ w' = w := by
  go_enter Try.func7, Try.ntmps7
  go_wp2
  go_ret
  exact ⟨rfl, rfl⟩
set_option maxHeartbeats 400000 in
theorem bytes11_any (a : Option Addr) (len cap : Nat) (p : Int) (w : World) (hm : len ≤ 1048576) :
    Calls Try.prog 11 #[.slice a len cap, .int .i32 p] w fun e w' => e = .returned (.bool true) ∧ w' = w := by
  go_enter Try.func11, Try.ntmps11
  go_wp2
  go_ret
  exact ⟨rfl, rfl⟩
set_option maxHeartbeats 400000 in
theorem bytes11_no (a : Option Addr) (len cap : Nat) (p : Int) (w : World) (hm : ¬ len ≤ 1048576) :
    Calls Try.prog 11 #[.slice a len cap, .int .i32 p] w fun e w' => e = .returned (.bool false) ∧ w' = w := by
  go_enter Try.func11, Try.ntmps11
  go_wp2
  go_ret
  exact ⟨rfl, rfl⟩
end Go.Proofs.Qxb6605922a
