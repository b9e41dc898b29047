import Derived.Test.Qxb6605972aFmtZZ
import Derived.RegionTactic
import Derived.ChangeAlike
namespace Go.Proofs.Qxb6605972aFmt
open Go.ChangeShapes Go.WideShapes Go.ChangeAt Go.RowKit
open Go.Extern.Stop Go.Stop Go.Extern

theorem wf_u64 {x : Int} (h0 : 0 ≤ x) (h1 : x ≤ 18446744073709551615) : (Lit.int .u64 x).wf = true := by
  simp [Lit.wf, IntKind.min, IntKind.max, IntKind.signed, IntKind.bits]; omega

/-- of a low that is small enough: what refuses at high = 0 refuses at every high -/
theorem rej_of {n : Nat} {s e l h : Int} (hl : l ≤ 13) (hr : Rej n s e 0 l) : Rej n s e h l := by unfold Rej at *; omega
theorem acc_of {n : Nat} {s e l h : Int} (hh : h = 0 ∨ h = l + 1) (hr : ¬ Rej n s e 0 l) : ¬ Rej n s e h l := by unfold Rej at *; omega
theorem acc_one {n : Nat} {s e l : Int} (hr : ¬ Rej n s e 0 l) : ¬ Rej n s e (l + 1) l := acc_of (.inr rfl) hr

set_option maxHeartbeats 3200000 in
theorem lawB_high (G : Interp) (a : Option Addr) (len cap : Nat) (z : List Int) (s e h l : Int) (w : World) (hF : G.told.answers w.tape) (hrow : Row w a len z) (hnil : a = none → len = 0 ∧ cap = 0) (hm : len ≤ 65536)
    (ws : (Lit.int .i64 s).wf = true) (we : (Lit.int .i64 e).wf = true) (wh : (Lit.int .u64 h).wf = true) (wl : (Lit.int .u64 l).wf = true) (h13 : 13 < l) :
    Calls Tryf.prog 4 #[.slice a len cap, .int .i64 s, .int .i64 e, .int .u64 h, .int .u64 l] w fun e w' => e = .returned (.bool true) ∧ Below w.heap.size w w' := by
  have HF := Hid.mk hF
  have HR := Hid.mk hrow
  have HN := Hid.mk hnil
  have HW := Hid.mk (And.intro ws (And.intro we (And.intro wh wl)))
  have hl0 := (bounds_u64 wl).1
  have hl1 := (bounds_u64 wl).2
  have hq1 : ∀ w a, (binOp .eql 31 (.iface 69 (.pointer (some a))) .nilIface).run Tryf.prog w = .ok (.bool false) w := fun _ _ => by kernel_rfl
  have hq2 : ∀ w, (binOp .eql 31 .nilIface .nilIface).run Tryf.prog w = .ok (.bool true) w := fun _ => by kernel_rfl
  have hq3 : ∀ w a, (binOp .neq 31 (.iface 69 (.pointer (some a))) .nilIface).run Tryf.prog w = .ok (.bool true) w := fun _ _ => by kernel_rfl
  have hq4 : ∀ w, (binOp .neq 31 .nilIface .nilIface).run Tryf.prog w = .ok (.bool false) w := fun _ => by kernel_rfl
  have HJ : Hid (13 < l) := h13
  clear hF hrow hnil ws we wh wl
  go_enter Tryf.func4, Tryf.ntmps4
  go_wp2_with (go_at_call 10; refine (bytes10_any _ _ _ _ _ _ _ _ (by omega)).mono ?_; rintro e w' ⟨rfl, rfl⟩)
  refine (clone_all _ _ _ z _ HR.out HN.out (by omega)).mono ?_
  rintro e1 w1 ⟨a1, rfl, hrow1, hb1⟩
  have HR1 := Hid.mk hrow1
  have HB1 := Hid.mk hb1
  clear hrow1 hb1
  go_wp2_with fail
  refine (decoder_any _).mono ?_
  rintro e2 w2 ⟨rfl, hb2⟩
  have HR2 := Hid.mk (HR1.out.below hb2)
  have HB2 := Hid.mk (below_at hb2 HB1.out)
  clear hb2 HR1 HB1
  go_wp2_with fail
  refine (scan_all _ _ _ z _ HR2.out (by omega)).mono ?_
  rintro e3 w3 ⟨a3, rfl, hb3⟩
  have HB3 := Hid.mk (below_at hb3 HB2.out)
  clear hb3 HB2 HR2
  go_wp2_with fail
  refine (zz_rej G _ _ _ _ _ _ _ _ _ ?hF4 hm HW.out.1 HW.out.2.1 ?wh4 HW.out.2.2.2 ?hr4).mono ?_
  case hF4 => rw [HB3.out.tape]; exact HF.out
  case wh4 => exact wf_u64 (by omega) (by omega)
  case hr4 => exact .inr (.inr (.inl h13))
  rintro e4 w4 ⟨a4, rfl, hb4⟩
  have HB4 := Hid.mk (below_at hb4 HB3.out)
  clear hb4 HB3
  go_wp2_with fail
  refine (zz_rej G _ _ _ _ _ _ _ _ _ ?hF5 hm HW.out.1 HW.out.2.1 ?wh5 HW.out.2.2.2 ?hr5).mono ?_
  case hF5 => rw [HB4.out.tape]; exact HF.out
  case wh5 => exact wf_wrap ..
  case hr5 => exact .inr (.inr (.inl h13))
  rintro e5 w5 ⟨a5, rfl, hb5⟩
  have HB5 := Hid.mk (below_at hb5 HB4.out)
  clear hb5 HB4
  go_wp2_with fail
  refine (zz_rej G _ _ _ _ _ _ _ _ _ ?hF6 hm HW.out.1 HW.out.2.1 ?wh6 HW.out.2.2.2 ?hr6).mono ?_
  case hF6 => rw [HB5.out.tape]; exact HF.out
  case wh6 => exact HW.out.2.2.1
  case hr6 => exact .inr (.inr (.inl h13))
  rintro e6 w6 ⟨a6, rfl, hb6⟩
  have HB6 := Hid.mk (below_at hb6 HB5.out)
  clear hb6 HB5
  go_wp2
  go_region
  all_goals go_wp2
  all_goals (try (go_region; all_goals go_wp2))
  all_goals
    go_ret
    first
    | exact ⟨rfl, HB6.out.drew⟩
    | exact ⟨rfl, HB6.out.drew.drew⟩
    | (exfalso; have hj := HJ.out; omega)

set_option maxHeartbeats 3200000 in
theorem lawB_rej (G : Interp) (a : Option Addr) (len cap : Nat) (z : List Int) (s e h l : Int) (w : World) (hF : G.told.answers w.tape) (hrow : Row w a len z) (hnil : a = none → len = 0 ∧ cap = 0) (hm : len ≤ 65536)
    (ws : (Lit.int .i64 s).wf = true) (we : (Lit.int .i64 e).wf = true) (wh : (Lit.int .u64 h).wf = true) (wl : (Lit.int .u64 l).wf = true) (h13 : l ≤ 13) (hr : Rej len s e 0 l) :
    Calls Tryf.prog 4 #[.slice a len cap, .int .i64 s, .int .i64 e, .int .u64 h, .int .u64 l] w fun e w' => e = .returned (.bool true) ∧ Below w.heap.size w w' := by
  have HF := Hid.mk hF
  have HR := Hid.mk hrow
  have HN := Hid.mk hnil
  have HW := Hid.mk (And.intro ws (And.intro we (And.intro wh wl)))
  have hl0 := (bounds_u64 wl).1
  have hl1 := (bounds_u64 wl).2
  have hq1 : ∀ w a, (binOp .eql 31 (.iface 69 (.pointer (some a))) .nilIface).run Tryf.prog w = .ok (.bool false) w := fun _ _ => by kernel_rfl
  have hq2 : ∀ w, (binOp .eql 31 .nilIface .nilIface).run Tryf.prog w = .ok (.bool true) w := fun _ => by kernel_rfl
  have hq3 : ∀ w a, (binOp .neq 31 (.iface 69 (.pointer (some a))) .nilIface).run Tryf.prog w = .ok (.bool true) w := fun _ _ => by kernel_rfl
  have hq4 : ∀ w, (binOp .neq 31 .nilIface .nilIface).run Tryf.prog w = .ok (.bool false) w := fun _ => by kernel_rfl
  have HJ := Hid.mk hr
  clear hr
  clear hF hrow hnil ws we wh wl
  go_enter Tryf.func4, Tryf.ntmps4
  go_wp2_with (go_at_call 10; refine (bytes10_any _ _ _ _ _ _ _ _ (by omega)).mono ?_; rintro e w' ⟨rfl, rfl⟩)
  refine (clone_all _ _ _ z _ HR.out HN.out (by omega)).mono ?_
  rintro e1 w1 ⟨a1, rfl, hrow1, hb1⟩
  have HR1 := Hid.mk hrow1
  have HB1 := Hid.mk hb1
  clear hrow1 hb1
  go_wp2_with fail
  refine (decoder_any _).mono ?_
  rintro e2 w2 ⟨rfl, hb2⟩
  have HR2 := Hid.mk (HR1.out.below hb2)
  have HB2 := Hid.mk (below_at hb2 HB1.out)
  clear hb2 HR1 HB1
  go_wp2_with fail
  refine (scan_all _ _ _ z _ HR2.out (by omega)).mono ?_
  rintro e3 w3 ⟨a3, rfl, hb3⟩
  have HB3 := Hid.mk (below_at hb3 HB2.out)
  clear hb3 HB2 HR2
  go_wp2_with fail
  refine (zz_rej G _ _ _ _ _ _ _ _ _ ?hF4 hm HW.out.1 HW.out.2.1 ?wh4 HW.out.2.2.2 ?hr4).mono ?_
  case hF4 => rw [HB3.out.tape]; exact HF.out
  case wh4 => exact wf_u64 (by omega) (by omega)
  case hr4 => exact HJ.out
  rintro e4 w4 ⟨a4, rfl, hb4⟩
  have HB4 := Hid.mk (below_at hb4 HB3.out)
  clear hb4 HB3
  go_wp2_with fail
  refine (zz_rej G _ _ _ _ _ _ _ _ _ ?hF5 hm HW.out.1 HW.out.2.1 ?wh5 HW.out.2.2.2 ?hr5).mono ?_
  case hF5 => rw [HB4.out.tape]; exact HF.out
  case wh5 => exact wf_u64 (by omega) (by omega)
  case hr5 => exact rej_of h13 HJ.out
  rintro e5 w5 ⟨a5, rfl, hb5⟩
  have HB5 := Hid.mk (below_at hb5 HB4.out)
  clear hb5 HB4
  go_wp2_with fail
  refine (zz_rej G _ _ _ _ _ _ _ _ _ ?hF6 hm HW.out.1 HW.out.2.1 ?wh6 HW.out.2.2.2 ?hr6).mono ?_
  case hF6 => rw [HB5.out.tape]; exact HF.out
  case wh6 => exact HW.out.2.2.1
  case hr6 => exact rej_of h13 HJ.out
  rintro e6 w6 ⟨a6, rfl, hb6⟩
  have HB6 := Hid.mk (below_at hb6 HB5.out)
  clear hb6 HB5
  go_wp2
  go_region
  all_goals go_wp2
  all_goals (try (go_region; all_goals go_wp2))
  all_goals
    go_ret
    first
    | exact ⟨rfl, HB6.out.drew⟩
    | exact ⟨rfl, HB6.out.drew.drew⟩
    | (exfalso; have hj := HJ.out; unfold Rej at hj; omega)
end Go.Proofs.Qxb6605972aFmt
