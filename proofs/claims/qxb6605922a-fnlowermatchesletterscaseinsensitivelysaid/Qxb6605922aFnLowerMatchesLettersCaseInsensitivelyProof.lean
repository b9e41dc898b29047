/- The proof of 'Rows.FnLowerMatchesLettersCaseInsensitivelySaid'. The frame is the seat's own shell; the walk is by hand. -/
import Derived.Test.Qxb6605922aRows
import Derived.Test.Qxb6605922aLow
import Derived.WalkKit
import Derived.ProofKit
import Derived.OpenShut
import Derived.ShutString
namespace Go.Proofs.Qxb6605922a.fnLowerMatchesLettersCaseInsensitively
open Go.ChangeShapes Go.WideShapes Go.ChangeAt Go.RowKit
open Go.ChangeMaps (open_string shut_string)
set_option linter.unusedVariables false      -- a walk need not use every 'w<i>' (that an integer argument fits its kind)

theorem own : ownKnob Try.prog.godebug = none := by kernel_rfl

/-! ### STEP 1: THE WALK -/
theorem walk (a0 : Int) (a1 : Int) (w0 : (Lit.int .i32 a0).wf = true) (w1 : (Lit.int .i32 a1).wf = true) (w : World) :
    Calls Try.prog 6 #[.int .i32 a0, .int .i32 a1] w fun e w' => e = .returned (.bool true) ∧ Grown w w' := by
  obtain ⟨h1, h2⟩ := bounds_i32 w0
  obtain ⟨h3, h4⟩ := bounds_i32 w1
  have hm := low_match a0 a1
  have H : Hid ((low a0 == low a1 && isLet (low a0)) = (isLet a0 && isLet a1 && fold a0 == fold a1)) := hm
  clear hm
  cases g1 : (low a0 == low a1) <;> cases g2 : isLet (low a0) <;> cases g3 : isLet a0 <;> cases g4 : isLet a1 <;> cases g5 : (fold a0 == fold a1) <;>
    first
    | (exfalso; have h := H.out; rw [g1, g2, g3, g4, g5] at h; exact absurd h (by decide))
    | skip
  all_goals
    clear H
    go_enter Try.func6, Try.ntmps6
    go_wp2_with (first | (go_at_call 12; refine (zzlower_any _ _ (by omega) (by omega)).mono ?_; rintro e w' ⟨rfl, rfl⟩) | (go_at_call 13; refine (isLet_any _ _).mono ?_; rintro e w' ⟨rfl, rfl⟩) | (go_at_call 14; refine (fold_any _ _ (by omega) (by omega)).mono ?_; rintro e w' ⟨rfl, rfl⟩))
    go_ret
    exact ⟨rfl, Grown.refl _⟩

/-! ### THE ROW's STEP -/
set_option maxRecDepth 100000 in
theorem lifted (os : Os) (started : os.Started) (H : Type) (enc : TypeId × Value → H) :
    ReturnsInHanded {} Try.checked os 6 .any (Rows.fnLowerMatchesLettersCaseInsensitivelySpec.pre6 enc Try.prog Try.f6 Rows.fnLowerMatchesLettersCaseInsensitivelyRow.domain false) (Rows.fnLowerMatchesLettersCaseInsensitivelySpec.post enc Try.prog Try.f6 false true false false) := by
  refine returnsInHanded_of_change (C := Try.checked) own started (by kernel_rfl) Try.func6
    (ChangeSpec.witness6 (enc := enc) (C := Try.checked) false ⟨#[], #[.int .i32 0, .int .i32 0], []⟩ 8 (by kernel_rfl) (by kernel_rfl) (by kernel_rfl) (by kernel_rfl)) ?_
  intro W base args ds gs before hval0 hW hcnd _
  have hval : ∀ (j : Nat) t v, Try.f6.params[j]? = some t → args[j]? = some v → Value.okWide Try.prog W .any base t v := hval0
  have hW' := hW
  obtain ⟨p, q, hA0, hV, rfl, hfz, hnd⟩ := hW
  have hA : DataW.TrodAll enc Try.prog W 0 (fun _ => true) true Try.f6.params.toList args.toList ds p := hA0
  rw [Try.params6] at hA hval
  obtain ⟨v0, vs0, d0, ds0, p0, q0, hargs, rfl, rfl, h0, r0⟩ := trodAll_cons hA
  obtain ⟨v1, vs1, d1, ds1, p1, q1, rfl, rfl, rfl, h1, r1⟩ := trodAll_cons r0
  obtain ⟨rfl, rfl, rfl⟩ := trodAll_nil r1
  obtain rfl : args = #[v0, v1] := by cases args; simp_all
  obtain ⟨rfl, rfl⟩ := trodVars_none hV
  obtain ⟨a0, rfl, rfl, rfl, w0⟩ := open_int Try.underlying21 (hval 0 21 v0 rfl rfl) h0
  obtain ⟨a1, rfl, rfl, rfl, w1⟩ := open_int Try.underlying21 (hval 1 21 v1 rfl rfl) h1
  clear hA0 hval0
  simp only [List.append_nil] at hW'
  refine (walk a0 a1 w0 w1 W).mono fun e W' ⟨he, hg⟩ => ?_
  subst he
  exact ⟨_, rfl, post_of_same (pa := []) (pv := []) hW' (fun _ _ _ => (trodAll_cons_mk (shut_bool Try.underlying4 _) trodAll_mk0)) (fun sp _ => (trodAll_cons_mk (shut_int Try.underlying21 w0) (trodAll_cons_mk (shut_int Try.underlying21 w1) trodAll_mk0))) (fun _ _ => rfl) rfl
    (hg.frame _) hg.2.1 (ok_one (by kernel_rfl) rfl (okWide_bool_mk Try.underlying4 _))⟩

theorem over : Rows.fnLowerMatchesLettersCaseInsensitivelyRow.holds Try.pinned (OpenSpec.ofChange Rows.fnLowerMatchesLettersCaseInsensitivelySpec) :=
  OpenClaim.holds_of_wide 6 Try.f6 rfl rfl rfl rfl rfl rfl rfl ⟨rfl, rfl, rfl, rfl, rfl⟩ rfl rfl rfl rfl rfl (by kernel_rfl) Try.func6 (by kernel_rfl)
    (of_decide_eq_true (by kernel_rfl)) (by unfold Func.isWrapper; first | (rw [if_pos (by decide +kernel)]; kernel_rfl) | (rw [if_neg (by decide +kernel)]; exact ⟨rfl, rfl⟩))
    (fun os started H enc _ => lifted os started H enc)

/-- ████ THE STATEMENT ████ -/
theorem proved : Rows.FnLowerMatchesLettersCaseInsensitivelySaid :=
  over
#print axioms proved
end Go.Proofs.Qxb6605922a.fnLowerMatchesLettersCaseInsensitively
