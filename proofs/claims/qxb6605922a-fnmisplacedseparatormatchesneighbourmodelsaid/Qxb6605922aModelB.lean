import Derived.Test.Qxb6605922aModel
namespace Go.Proofs.Qxb6605922a
open Go.ChangeShapes Go.WideShapes Go.ChangeAt Go.RowKit

theorem sm_bad {p : Int} {l : List Int} {len k : Nat} (HI : Hid (sm p l (len - k) k = sm p l len 0)) (hk : k < len) (h : bad p l k = true) : (k : Int) = sm p l len 0 := by
  rw [← HI.out, show len - k = (len - (k + 1)) + 1 by omega]; simp [sm, h]
theorem sm_ok {p : Int} {l : List Int} {len k : Nat} (HI : Hid (sm p l (len - k) k = sm p l len 0)) (hk : k < len) (h : bad p l k = false) : Hid (sm p l (len - (k + 1)) (k + 1) = sm p l len 0) := by
  show _ = _
  rw [← HI.out, show len - k = (len - (k + 1)) + 1 by omega]; simp [sm, h]
theorem sm_end {p : Int} {l : List Int} {len k : Nat} (HI : Hid (sm p l (len - k) k = sm p l len 0)) (hk : ¬ k < len) : -1 = sm p l len 0 := by
  rw [← HI.out, show len - k = 0 by omega]; rfl
theorem bad_not {p : Int} {l : List Int} {k : Nat} (h : (l.getD k 0 == 95) = false) : bad p l k = false := by
  have : ¬ l.getD k 0 = 95 := by simpa using h
  unfold bad; rw [decide_eq_false this]; rfl
/-- the underscore at k, its neighbours told -/
theorem bad_lr {p : Int} {l : List Int} {len k : Nat} {L R : Bool} (hl : l.length = len) (h : (l.getD k 0 == 95) = true)
    (hL : (0 < k ∧ L = sdl p (k - 1) (l.getD (k - 1) 0)) ∨ (¬ 0 < k ∧ L = false))
    (hR : (k + 1 < len ∧ R = (l.getD (k + 1) 0 == 95 || sdl p (k + 1) (l.getD (k + 1) 0))) ∨ (¬ k + 1 < len ∧ R = false)) : bad p l k = (!L || !R) := by
  have h1 : l.getD k 0 = 95 := by simpa using h
  unfold bad
  rw [h1, hl]
  have e : (decide (0 < k) && sdl p (k - 1) (l.getD (k - 1) 0)) = L := by
    rcases hL with ⟨a, rfl⟩ | ⟨a, rfl⟩
    · simp only [a, decide_true, Bool.true_and]
    · simp only [a, decide_false, Bool.false_and]
  have e2 : (decide (k + 1 < len) && (decide (l.getD (k + 1) 0 = 95) || sdl p (k + 1) (l.getD (k + 1) 0))) = R := by
    rcases hR with ⟨a, rfl⟩ | ⟨a, rfl⟩
    · simp only [a, decide_true, Bool.true_and]; rfl
    · simp only [a, decide_false, Bool.false_and]
  rw [e, e2]; rfl

set_option maxHeartbeats 3200000 in
theorem model_any (b off len cap : Nat) (l : List Int) (p : Int) (w : World) (hl : l.length = len) (hm : len ≤ 1048577) (hp1 : -2147483648 ≤ p) (hp2 : p ≤ 2147483647)
    (hc : ∀ i, i < len → w.cell? ⟨b, off + i, none⟩ = some (.int .u8 (l.getD i 0))) (hb : ∀ j, 0 ≤ l.getD j 0 ∧ l.getD j 0 ≤ 255) :
    Calls Try.prog 10 #[.slice (some ⟨b, off, none⟩) len cap, .int .i32 p] w fun e w' => e = .returned (.int .i64 (sm p l len 0)) ∧ w' = w := by
  have HL : Hid (l.length = len) := hl
  have HB : Hid (∀ j, 0 ≤ l.getD j 0 ∧ l.getD j 0 ≤ 255) := hb
  have HC : Hid (∀ i, i < len → w.cell? ⟨b, off + i, none⟩ = some (.int .u8 (l.getD i 0))) := hc
  clear hl hb hc
  go_enter Try.func10, Try.ntmps10
  go_wp2
  go_loop [6] (fun i => ∃ k : Nat, k ≤ len ∧ i = .int .i64 k ∧ Hid (sm p l (len - k) k = sm p l len 0)) (fun i => len - (intOf i).toNat)
  case atStart => exact ⟨0, Nat.zero_le _, rfl, (rfl : sm p l (len - 0) 0 = sm p l len 0)⟩
  case round =>
    obtain ⟨k, hk, rfl, HI⟩ := hrel
    by_cases hlt : k < len
    · have hcell := HC.out k hlt
      have hbd := HB.out k
      cases g0 : (l.getD k 0 == 95)
      · have R := sm_ok HI hlt (bad_not g0)
        generalize l.getD k 0 = c at hcell hbd g0
        obtain ⟨hb0, hb1⟩ := hbd
        go_wp2
        go_round
        case rel => exact ⟨k + 1, by omega, by go_num, R⟩
        case measure => simp [intOf]; omega
      · have HBad := fun L R => @bad_lr p l len k L R HL.out g0
        have HBad' : Hid (∀ L R : Bool, ((0 < k ∧ L = sdl p (k - 1) (l.getD (k - 1) 0)) ∨ (¬ 0 < k ∧ L = false)) → ((k + 1 < len ∧ R = (l.getD (k + 1) 0 == 95 || sdl p (k + 1) (l.getD (k + 1) 0))) ∨ (¬ k + 1 < len ∧ R = false)) → bad p l k = (!L || !R)) := HBad
        clear HBad
        have hcl : 0 < k → w.cell? ⟨b, off + (k - 1), none⟩ = some (.int .u8 (l.getD (k - 1) 0)) := fun h => HC.out (k - 1) (by omega)
        have hbl := HB.out (k - 1)
        have hcr : k + 1 < len → w.cell? ⟨b, off + (k + 1), none⟩ = some (.int .u8 (l.getD (k + 1) 0)) := fun h => HC.out (k + 1) h
        have hbr := HB.out (k + 1)
        generalize l.getD k 0 = c at hcell hbd g0
        generalize l.getD (k - 1) 0 = cl at hcl hbl HBad'
        generalize l.getD (k + 1) 0 = cr at hcr hbr HBad'
        obtain ⟨hb0, hb1⟩ := hbd
        obtain ⟨hbl0, hbl1⟩ := hbl
        obtain ⟨hbr0, hbr1⟩ := hbr
        have HCL : Hid (0 < k → w.cell? ⟨b, off + (k - 1), none⟩ = some (.int .u8 cl)) := hcl
        clear hcl
        by_cases hk0 : 0 < k
        · go_wp2_with fail
          refine (sdl_at b off len cap cl (k - 1) _ p _ (by omega) hm (by omega) hp1 hp2 (HCL.out hk0) hbl0 hbl1).mono ?_
          rintro e w1 ⟨rfl, hw1⟩
          subst hw1
          cases gl : sdl p (k - 1) cl
          all_goals
            by_cases hk1 : k + 1 < len
            · have hcr' := hcr hk1
              clear hcr
              cases gd : (cr == 95)
              · go_wp2_with fail
                refine (sdl_at b off len cap cr (k + 1) _ p _ (by omega) hm (by omega) hp1 hp2 hcr' hbr0 hbr1).mono ?_
                rintro e w2 ⟨rfl, hw2⟩
                subst hw2
                have hbad := HBad'.out (sdl p (k - 1) cl) (cr == 95 || sdl p (k + 1) cr) (.inl ⟨hk0, rfl⟩) (.inl ⟨hk1, rfl⟩)
                cases gr : sdl p (k + 1) cr
                all_goals
                  rw [gl, gd, gr] at hbad
                  have HX : Hid (bad p l k = _) := hbad
                  clear hbad
                  go_wp2
                  first
                    | (have R := sm_ok HI hlt (by rw [HX.out]; rfl : bad p l k = false)
                       go_round
                       case rel => exact ⟨k + 1, by omega, by go_num, R⟩
                       case measure => simp [intOf]; omega)
                    | (have R := sm_bad HI hlt (by rw [HX.out]; rfl : bad p l k = true)
                       go_ret
                       exact ⟨ret_int R, rfl⟩)
              · have hbad := HBad'.out (sdl p (k - 1) cl) (cr == 95 || sdl p (k + 1) cr) (.inl ⟨hk0, rfl⟩) (.inl ⟨hk1, rfl⟩)
                rw [gl, gd, Bool.true_or] at hbad
                have HX : Hid (bad p l k = _) := hbad
                clear hbad
                go_wp2
                first
                  | (have R := sm_ok HI hlt (by rw [HX.out]; rfl : bad p l k = false)
                     go_round
                     case rel => exact ⟨k + 1, by omega, by go_num, R⟩
                     case measure => simp [intOf]; omega)
                  | (have R := sm_bad HI hlt (by rw [HX.out]; rfl : bad p l k = true)
                     go_ret
                     exact ⟨ret_int R, rfl⟩)
            · have hbad := HBad'.out (sdl p (k - 1) cl) false (.inl ⟨hk0, rfl⟩) (.inr ⟨hk1, rfl⟩)
              rw [gl] at hbad
              have HX : Hid (bad p l k = _) := hbad
              clear hbad hcr
              go_wp2
              first
                | (have R := sm_ok HI hlt (by rw [HX.out]; rfl : bad p l k = false)
                   go_round
                   case rel => exact ⟨k + 1, by omega, by go_num, R⟩
                   case measure => simp [intOf]; omega)
                | (have R := sm_bad HI hlt (by rw [HX.out]; rfl : bad p l k = true)
                   go_ret
                   exact ⟨ret_int R, rfl⟩)
        · by_cases hk1 : k + 1 < len
          · have hcr' := hcr hk1
            clear hcr
            cases gd : (cr == 95)
            · go_wp2_with fail
              refine (sdl_at b off len cap cr (k + 1) _ p _ (by omega) hm (by omega) hp1 hp2 hcr' hbr0 hbr1).mono ?_
              rintro e w2 ⟨rfl, hw2⟩
              subst hw2
              have hbad := HBad'.out false (cr == 95 || sdl p (k + 1) cr) (.inr ⟨hk0, rfl⟩) (.inl ⟨hk1, rfl⟩)
              cases gr : sdl p (k + 1) cr
              all_goals
                rw [gd, gr] at hbad
                have HX : Hid (bad p l k = _) := hbad
                clear hbad
                go_wp2
                first
                  | (have R := sm_ok HI hlt (by rw [HX.out]; rfl : bad p l k = false)
                     go_round
                     case rel => exact ⟨k + 1, by omega, by go_num, R⟩
                     case measure => simp [intOf]; omega)
                  | (have R := sm_bad HI hlt (by rw [HX.out]; rfl : bad p l k = true)
                     go_ret
                     exact ⟨ret_int R, rfl⟩)
            · have hbad := HBad'.out false (cr == 95 || sdl p (k + 1) cr) (.inr ⟨hk0, rfl⟩) (.inl ⟨hk1, rfl⟩)
              rw [gd, Bool.true_or] at hbad
              have HX : Hid (bad p l k = _) := hbad
              clear hbad
              go_wp2
              first
                | (have R := sm_ok HI hlt (by rw [HX.out]; rfl : bad p l k = false)
                   go_round
                   case rel => exact ⟨k + 1, by omega, by go_num, R⟩
                   case measure => simp [intOf]; omega)
                | (have R := sm_bad HI hlt (by rw [HX.out]; rfl : bad p l k = true)
                   go_ret
                   exact ⟨ret_int R, rfl⟩)
          · have hbad := HBad'.out false false (.inr ⟨hk0, rfl⟩) (.inr ⟨hk1, rfl⟩)
            skip
            have HX : Hid (bad p l k = _) := hbad
            clear hbad hcr
            go_wp2
            first
              | (have R := sm_ok HI hlt (by rw [HX.out]; rfl : bad p l k = false)
                 go_round
                 case rel => exact ⟨k + 1, by omega, by go_num, R⟩
                 case measure => simp [intOf]; omega)
              | (have R := sm_bad HI hlt (by rw [HX.out]; rfl : bad p l k = true)
                 go_ret
                 exact ⟨ret_int R, rfl⟩)
    · go_wp2
      go_ret
      exact ⟨ret_int (sm_end HI hlt), rfl⟩
end Go.Proofs.Qxb6605922a
