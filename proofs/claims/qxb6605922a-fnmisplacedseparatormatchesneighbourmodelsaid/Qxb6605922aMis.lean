import Derived.Test.Qxb6605922aRows
import Derived.Test.Qxb6605922aLow
import Derived.Test.Qxb6605922aSepPlain
import Derived.WalkKit
import Derived.ProofKit
import Derived.OpenShut
import Derived.WalkSpells
namespace Go.Proofs.Qxb6605922a
open Go.ChangeShapes Go.WideShapes Go.ChangeAt Go.RowKit

set_option maxHeartbeats 400000 in
theorem isDig_any (c : Int) (w : World) :
    Calls Try.prog 18 #[.int .i32 c] w fun e w' => e = .returned (.bool (isDig c)) ∧ w' = w := by
  go_enter Try.func18, Try.ntmps18
  go_wp2
  all_goals
    go_ret
    exact ⟨ret_bool (by unfold isDig; first | exact (decide_eq_true (by omega)).symm | exact (decide_eq_false (by omega)).symm | (rw [Bool.eq_iff_iff]; simp only [decide_eq_true_eq]; omega)), rfl⟩
set_option maxHeartbeats 400000 in
theorem isHx_any (c : Int) (w : World) (h1 : 0 ≤ c) (h2 : c ≤ 255) :
    Calls Try.prog 19 #[.int .i32 c] w fun e w' => e = .returned (.bool (isHx c)) ∧ w' = w := by
  cases g : isDig c
  · go_enter Try.func19, Try.ntmps19
    go_wp2_with (first | (go_at_call 18; refine (isDig_any _ _).mono ?_; rintro e w' ⟨rfl, rfl⟩) | (go_at_call 17; refine (lower_any _ _ (by omega) (by omega)).mono ?_; rintro e w' ⟨rfl, rfl⟩))
    all_goals
      go_ret
      exact ⟨ret_bool (by unfold isHx; rw [g]; simp only [Bool.false_or]; first | exact (decide_eq_true (by omega)).symm | exact (decide_eq_false (by omega)).symm | (rw [Bool.eq_iff_iff]; simp only [decide_eq_true_eq]; omega)), rfl⟩
  · go_enter Try.func19, Try.ntmps19
    go_wp2_with (first | (go_at_call 18; refine (isDig_any _ _).mono ?_; rintro e w' ⟨rfl, rfl⟩))
    go_ret
    exact ⟨ret_bool (by unfold isHx; rw [g]; rfl), rfl⟩
theorem drop_at (l : List Int) (k : Nat) (h : k < l.length) : l.drop k = l.getD k 0 :: l.drop (k + 1) := by
  rw [List.drop_eq_getElem_cons h]; simp [h]
theorem dgt_t1 {p c : Int} {k : Nat} (g1 : isDig c = true) : dgt p k c = true := by simp [dgt, g1]
theorem dgt_t2 {p c : Int} {k : Nat} (g2 : (p == 120) = true) (g3 : isHx c = true) : dgt p k c = true := by
  have : p = 120 := by simpa using g2
  simp [dgt, g3, this]
theorem dgt_t3 {p c : Int} {k : Nat} (g4 : ((k : Int) == 1) = true) (g5 : (low c == p) = true) : dgt p k c = true := by
  have h1 : k = 1 := by have : (k : Int) = 1 := by simpa using g4
                        omega
  have h2 : low c = p := by simpa using g5
  simp [dgt, h1, h2]
theorem dgt_f {p c : Int} {k : Nat} (g1 : isDig c = false) (g2 : (p == 120) = false ∨ isHx c = false) (g4 : ((k : Int) == 1) = false ∨ (low c == p) = false) : dgt p k c = false := by
  have h2 : (decide (p = 120) && isHx c) = false := by
    rcases g2 with g | g
    · have : ¬ p = 120 := by simpa using g
      simp [this]
    · simp [g]
  have h4 : (decide (k = 1) && decide (low c = p)) = false := by
    rcases g4 with g | g
    · have : ¬ (k : Int) = 1 := by simpa using g
      have : ¬ k = 1 := by omega
      simp [this]
    · have : ¬ low c = p := by simpa using g
      simp [this]
  unfold dgt; rw [g1, h2, h4]; rfl

/-- what the walk of a round leaves, closed outside the walk -/
theorem step_dg {p c q : Int} {k : Nat} {l : List Int} (HI : Hid (mis p (l.drop k) k q = mis p l 0 0)) (HD : Hid (l.drop k = c :: l.drop (k + 1))) (h : (c == 95) = false) (hd : dgt p k c = true) :
    Hid (mis p (l.drop (k + 1)) (k + 1) 1 = mis p l 0 0) := by
  have h' : c ≠ 95 := by simpa using h
  show _ = _
  rw [← HI.out, HD.out, mis_dg _ _ _ _ _ h' hd]
theorem step_us {p c : Int} {k : Nat} {l : List Int} (HI : Hid (mis p (l.drop k) k 1 = mis p l 0 0)) (HD : Hid (l.drop k = c :: l.drop (k + 1))) (h : (c == 95) = true) :
    Hid (mis p (l.drop (k + 1)) (k + 1) 2 = mis p l 0 0) := by
  have h' : c = 95 := by simpa using h
  show _ = _
  rw [← HI.out, HD.out, h', mis_us1]
theorem end_us {p c q : Int} {k : Nat} {l : List Int} (HI : Hid (mis p (l.drop k) k q = mis p l 0 0)) (HD : Hid (l.drop k = c :: l.drop (k + 1))) (h : (c == 95) = true) (hq : q ≠ 1) :
    (k : Int) = mis p l 0 0 := by
  have h' : c = 95 := by simpa using h
  rw [← HI.out, HD.out, h', mis_us _ _ _ _ hq]
theorem step_ot {p c q : Int} {k : Nat} {l : List Int} (HI : Hid (mis p (l.drop k) k q = mis p l 0 0)) (HD : Hid (l.drop k = c :: l.drop (k + 1))) (h : (c == 95) = false) (hd : dgt p k c = false) (hq : q ≠ 2) :
    Hid (mis p (l.drop (k + 1)) (k + 1) 0 = mis p l 0 0) := by
  have h' : c ≠ 95 := by simpa using h
  show _ = _
  rw [← HI.out, HD.out, mis_ot _ _ _ _ _ h' hd hq]
theorem end_ot {p c : Int} {k : Nat} {l : List Int} (HI : Hid (mis p (l.drop k) k 2 = mis p l 0 0)) (HD : Hid (l.drop k = c :: l.drop (k + 1))) (h : (c == 95) = false) (hd : dgt p k c = false) :
    (k : Int) - 1 = mis p l 0 0 := by
  have h' : c ≠ 95 := by simpa using h
  rw [← HI.out, HD.out, mis_ot2 _ _ _ _ h' hd]
theorem end_nil {p q : Int} {k : Nat} {l : List Int} (HI : Hid (mis p (l.drop k) k q = mis p l 0 0)) (hk : l.length ≤ k) (hq : q ≠ 2) : -1 = mis p l 0 0 := by
  rw [← HI.out, List.drop_of_length_le hk, mis_nil _ _ _ hq]
theorem end_nil2 {p : Int} {k : Nat} {l : List Int} (HI : Hid (mis p (l.drop k) k 2 = mis p l 0 0)) (hk : l.length ≤ k) : (k : Int) - 1 = mis p l 0 0 := by
  rw [← HI.out, List.drop_of_length_le hk, mis_nil2]

set_option maxHeartbeats 1600000 in
theorem mis_any (b off len cap : Nat) (l : List Int) (p : Int) (w : World) (hl : l.length = len) (hm : len ≤ 1048577)
    (hc : ∀ i, i < len → w.cell? ⟨b, off + i, none⟩ = some (.int .u8 (l.getD i 0))) (hb : ∀ j, 0 ≤ l.getD j 0 ∧ l.getD j 0 ≤ 255) :
    Calls Try.prog 15 #[.slice (some ⟨b, off, none⟩) len cap, .int .i32 p] w fun e w' => e = .returned (.int .i64 (mis p l 0 0)) ∧ w' = w := by
  have HL : Hid (l.length = len) := hl
  have HB : Hid (∀ j, 0 ≤ l.getD j 0 ∧ l.getD j 0 ≤ 255) := hb
  have HC : Hid (∀ i, i < len → w.cell? ⟨b, off + i, none⟩ = some (.int .u8 (l.getD i 0))) := hc
  clear hl hb hc
  go_enter Try.func15, Try.ntmps15
  go_wp2
  go_loop [5, 10] (fun pv i => ∃ (k : Nat) (q : Int), k ≤ len ∧ i = .int .i64 k ∧ pv = .int .i64 q ∧ (q = 0 ∨ q = 1 ∨ q = 2) ∧ Hid (mis p (l.drop k) k q = mis p l 0 0)) (fun _ i => len - (intOf i).toNat)
  case atStart => exact ⟨0, 0, Nat.zero_le _, rfl, rfl, .inl rfl, (by rw [List.drop_zero] : mis p (l.drop 0) 0 0 = mis p l 0 0)⟩
  case round =>
    obtain ⟨k, q, hk, rfl, rfl, hq, HI⟩ := hrel
    by_cases hlt : k < len
    · have hcell := HC.out k hlt
      have hbd := HB.out k
      have HD : Hid (l.drop k = l.getD k 0 :: l.drop (k + 1)) := drop_at l k (by rw [HL.out]; exact hlt)
      generalize l.getD k 0 = c at hcell hbd HD
      obtain ⟨hb0, hb1⟩ := hbd
      cases g0 : (c == 95)
      · clear hq
        cases g1 : isDig c
        · cases g4 : ((k : Int) == 1) <;> cases g2 : (p == 120)
          all_goals (first | (have g5 : ((k : Int) == 1) = true := g4; clear g5; cases g5 : (low c == p)) | skip)
          all_goals (first | (have g3 : (p == 120) = true := g2; clear g3; cases g3 : isHx c) | skip)
          all_goals
            go_wp2_with (first | (go_at_call 18; refine (isDig_any _ _).mono ?_; rintro e w' ⟨rfl, rfl⟩) | (go_at_call 17; refine (lower_any _ _ (by omega) (by omega)).mono ?_; rintro e w' ⟨rfl, rfl⟩) | (go_at_call 19; refine (isHx_any _ _ (by omega) (by omega)).mono ?_; rintro e w' ⟨rfl, rfl⟩))
          all_goals first
            | (have hd : dgt p k c = true := by first | exact dgt_t2 ‹(p == 120) = true› ‹isHx c = true› | exact dgt_t3 g4 ‹(low c == p) = true›
               have R := step_dg HI HD g0 hd
               go_round
               case rel => exact ⟨k + 1, 1, by omega, by go_num, rfl, by simp, R⟩
               case measure => simp [intOf]; omega)
            | (have hd : dgt p k c = false := dgt_f g1 (by first | exact .inl ‹(p == 120) = false› | exact .inr ‹isHx c = false›) (by first | exact .inl g4 | exact .inr ‹(low c == p) = false›)
               have hq : q ≠ 2 := by simpa using ‹(q == 2) = false›
               have R := step_ot HI HD g0 hd hq
               go_round
               case rel => exact ⟨k + 1, 0, by omega, by go_num, rfl, by simp, R⟩
               case measure => simp [intOf]; omega)
            | (have hd : dgt p k c = false := dgt_f g1 (by first | exact .inl ‹(p == 120) = false› | exact .inr ‹isHx c = false›) (by first | exact .inl g4 | exact .inr ‹(low c == p) = false›)
               have hq : q = 2 := by simpa using ‹(q == 2) = true›
               rw [hq] at HI
               have R := end_ot HI HD g0 hd
               go_ret
               exact ⟨ret_int R, rfl⟩)
        · go_wp2_with (first | (go_at_call 18; refine (isDig_any _ _).mono ?_; rintro e w' ⟨rfl, rfl⟩))
          go_round
          case rel => exact ⟨k + 1, 1, by omega, by go_num, rfl, by simp, step_dg HI HD g0 (dgt_t1 g1)⟩
          case measure => simp [intOf]; omega
      · rcases hq with rfl | rfl | rfl
        · go_wp2
          go_ret
          exact ⟨ret_int (end_us HI HD g0 (by decide)), rfl⟩
        · go_wp2
          go_round
          case rel => exact ⟨k + 1, 2, by omega, by go_num, rfl, by simp, step_us HI HD g0⟩
          case measure => simp [intOf]; omega
        · go_wp2
          go_ret
          exact ⟨ret_int (end_us HI HD g0 (by decide)), rfl⟩
    · have hkl : l.length ≤ k := by rw [HL.out]; omega
      have hke : Hid (k = len) := by show k = len; omega
      rcases hq with rfl | rfl | rfl
      · go_wp2
        go_ret
        exact ⟨ret_int (end_nil HI hkl (by decide)), rfl⟩
      · go_wp2
        go_ret
        exact ⟨ret_int (end_nil HI hkl (by decide)), rfl⟩
      · go_wp2
        go_ret
        exact ⟨ret_int (by rw [← hke.out]; exact end_nil2 HI hkl), rfl⟩
end Go.Proofs.Qxb6605922a
