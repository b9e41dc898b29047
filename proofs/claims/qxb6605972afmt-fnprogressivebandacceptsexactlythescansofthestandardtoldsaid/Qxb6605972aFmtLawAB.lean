import Derived.Test.Qxb6605972aFmtLawA
namespace Go.Proofs.Qxb6605972aFmt
open Go.ChangeShapes Go.WideShapes Go.ChangeAt Go.RowKit
open Go.Extern.Stop Go.Stop Go.Extern

set_option maxHeartbeats 3200000 in
theorem lawA_acc (a : Option Addr) (len cap : Nat) (z : List Int) (s e h l : Int) (w : World) (hrow : Row w a len z) (hnil : a = none → len = 0 ∧ cap = 0) (hm : len ≤ 65536) (hs : ¬ s < 0)
    (wl : (Lit.int .u64 l).wf = true) (hr : ¬ Rej len s e h l) :
    Calls Tryf.prog 3 #[.slice a len cap, .int .i64 s, .int .i64 e, .int .u64 h, .int .u64 l] w fun e w' => e = .returned (.bool true) ∧ Below w.heap.size w w' := by
  have HR := Hid.mk hrow
  have HN := Hid.mk hnil
  have HW := Hid.mk wl
  have HJ := Hid.mk hr
  have hl0 := (bounds_u64 wl).1
  have hq : ∀ w, (binOp .eql 31 .nilIface .nilIface).run Tryf.prog w = .ok (.bool true) w := fun _ => by kernel_rfl
  clear hrow hnil wl hr
  go_enter Tryf.func3, Tryf.ntmps3
  go_wp2_with (go_at_call 5; refine (bytes5_any _ _ _ _ _ _ _ _ (by omega)).mono ?_; rintro e w' ⟨rfl, rfl⟩)
  refine (clone_all _ _ _ z _ HR.out HN.out (by omega)).mono ?_
  rintro e1 w1 ⟨a1, rfl, hrow1, hb1⟩
  have HR1 := Hid.mk hrow1
  have HB1 := Hid.mk hb1
  clear hrow1 hb1
  go_wp2_with fail
  refine (decoder_any _).mono ?_
  rintro e2 w2 ⟨rfl, hb2⟩
  have HR2 := Hid.mk (HR1.out.below hb2)
  have HB2 := Hid.mk (below_at hb2 HB1.out)
  clear hb2 HR1 HB1
  go_wp2_with fail
  refine (scan_all _ _ _ z _ HR2.out (by omega)).mono ?_
  rintro e3 w3 ⟨a3, rfl, hb3⟩
  have HB3 := Hid.mk (below_at hb3 HB2.out)
  clear hb3 HB2 HR2
  go_wp2_with fail
  refine (zz_acc _ _ _ _ _ _ _ _ _ HW.out HJ.out).mono ?_
  rintro e4 w4 ⟨rfl, hb4⟩
  have HB4 := Hid.mk (below_at hb4 HB3.out)
  clear hb4 HB3
  go_wp2
  all_goals
    go_ret
    first
    | exact ⟨rfl, HB4.out⟩
    | (exfalso; have hr := HJ.out; unfold Rej at hr; omega)
    | exact ⟨ret_bool (by have hr := HJ.out; unfold Rej at hr; simp <;> omega), HB4.out⟩

set_option maxHeartbeats 400000 in
theorem lawA_big (a : Option Addr) (len cap : Nat) (s e h l : Int) (w : World) (hm : ¬ len ≤ 1048576) :
    Calls Tryf.prog 3 #[.slice a len cap, .int .i64 s, .int .i64 e, .int .u64 h, .int .u64 l] w fun e w' => e = .returned (.bool true) ∧ Below w.heap.size w w' := by
  go_enter Tryf.func3, Tryf.ntmps3
  go_wp2_with (go_at_call 5; refine (bytes5_no _ _ _ _ _ _ _ _ hm).mono ?_; rintro e w' ⟨rfl, rfl⟩)
  go_ret
  exact ⟨rfl, Below.refl _ _⟩
set_option maxHeartbeats 400000 in
theorem lawA_long (a : Option Addr) (len cap : Nat) (s e h l : Int) (w : World) (hm : len ≤ 1048576) (hm2 : ¬ len ≤ 65536) :
    Calls Tryf.prog 3 #[.slice a len cap, .int .i64 s, .int .i64 e, .int .u64 h, .int .u64 l] w fun e w' => e = .returned (.bool true) ∧ Below w.heap.size w w' := by
  go_enter Tryf.func3, Tryf.ntmps3
  go_wp2_with (go_at_call 5; refine (bytes5_any _ _ _ _ _ _ _ _ hm).mono ?_; rintro e w' ⟨rfl, rfl⟩)
  go_ret
  exact ⟨rfl, Below.refl _ _⟩
set_option maxHeartbeats 400000 in
theorem lawA_neg (a : Option Addr) (len cap : Nat) (s e h l : Int) (w : World) (hm : len ≤ 65536) (hs : s < 0) :
    Calls Tryf.prog 3 #[.slice a len cap, .int .i64 s, .int .i64 e, .int .u64 h, .int .u64 l] w fun e w' => e = .returned (.bool true) ∧ Below w.heap.size w w' := by
  go_enter Tryf.func3, Tryf.ntmps3
  go_wp2_with (go_at_call 5; refine (bytes5_any _ _ _ _ _ _ _ _ (by omega)).mono ?_; rintro e w' ⟨rfl, rfl⟩)
  go_ret
  exact ⟨rfl, Below.refl _ _⟩

/-- THE WALK OF THE FIRST LAW, every input -/
theorem lawA_any (G : Interp) (a : Option Addr) (len cap : Nat) (z : List Int) (s e h l : Int) (w : World) (hF : G.told.answers w.tape) (hrow : Row w a len z) (hnil : a = none → len = 0 ∧ cap = 0)
    (ws : (Lit.int .i64 s).wf = true) (we : (Lit.int .i64 e).wf = true) (wh : (Lit.int .u64 h).wf = true) (wl : (Lit.int .u64 l).wf = true) :
    Calls Tryf.prog 3 #[.slice a len cap, .int .i64 s, .int .i64 e, .int .u64 h, .int .u64 l] w fun e w' => e = .returned (.bool true) ∧ Below w.heap.size w w' := by
  by_cases h1 : len ≤ 1048576
  · by_cases h2 : len ≤ 65536
    · by_cases h3 : s < 0
      · exact lawA_neg a len cap s e h l w h2 h3
      · by_cases hr : Rej len s e h l
        · exact lawA_rej G a len cap z s e h l w hF hrow hnil h2 h3 ws we wh wl hr
        · exact lawA_acc a len cap z s e h l w hrow hnil h2 h3 wl hr
    · exact lawA_long a len cap s e h l w h1 h2
  · exact lawA_big a len cap s e h l w h1
end Go.Proofs.Qxb6605972aFmt
