import Derived.Test.Qxb6605972aFmtLawB
namespace Go.Proofs.Qxb6605972aFmt
open Go.ChangeShapes Go.WideShapes Go.ChangeAt Go.RowKit
open Go.Extern.Stop Go.Stop Go.Extern

set_option maxHeartbeats 3200000 in
theorem lawB_acc (G : Interp) (a : Option Addr) (len cap : Nat) (z : List Int) (s e h l : Int) (w : World) (hF : G.told.answers w.tape) (hrow : Row w a len z) (hnil : a = none → len = 0 ∧ cap = 0) (hm : len ≤ 65536)
    (ws : (Lit.int .i64 s).wf = true) (we : (Lit.int .i64 e).wf = true) (wh : (Lit.int .u64 h).wf = true) (wl : (Lit.int .u64 l).wf = true) (h13 : l ≤ 13) (hr : ¬ Rej len s e 0 l) (hh : h = 0 ∨ h = l + 1) :
    Calls Tryf.prog 4 #[.slice a len cap, .int .i64 s, .int .i64 e, .int .u64 h, .int .u64 l] w fun e w' => e = .returned (.bool true) ∧ Below w.heap.size w w' := by
  have HF := Hid.mk hF
  have HR := Hid.mk hrow
  have HN := Hid.mk hnil
  have HW := Hid.mk (And.intro ws (And.intro we (And.intro wh wl)))
  have hl0 := (bounds_u64 wl).1
  have hl1 := (bounds_u64 wl).2
  have hq1 : ∀ w a, (binOp .eql 31 (.iface 69 (.pointer (some a))) .nilIface).run Tryf.prog w = .ok (.bool false) w := fun _ _ => by kernel_rfl
  have hq2 : ∀ w, (binOp .eql 31 .nilIface .nilIface).run Tryf.prog w = .ok (.bool true) w := fun _ => by kernel_rfl
  have hq3 : ∀ w a, (binOp .neq 31 (.iface 69 (.pointer (some a))) .nilIface).run Tryf.prog w = .ok (.bool true) w := fun _ _ => by kernel_rfl
  have hq4 : ∀ w, (binOp .neq 31 .nilIface .nilIface).run Tryf.prog w = .ok (.bool false) w := fun _ => by kernel_rfl
  have HJ := Hid.mk hr
  have HH := Hid.mk hh
  clear hr hh
  clear hF hrow hnil ws we wh wl
  go_enter Tryf.func4, Tryf.ntmps4
  go_wp2_with (go_at_call 10; refine (bytes10_any _ _ _ _ _ _ _ _ (by omega)).mono ?_; rintro e w' ⟨rfl, rfl⟩)
  refine (clone_all _ _ _ z _ HR.out HN.out (by omega)).mono ?_
  rintro e1 w1 ⟨a1, rfl, hrow1, hb1⟩
  have HR1 := Hid.mk hrow1
  have HB1 := Hid.mk hb1
  clear hrow1 hb1
  go_wp2_with fail
  refine (decoder_any _).mono ?_
  rintro e2 w2 ⟨rfl, hb2⟩
  have HR2 := Hid.mk (HR1.out.below hb2)
  have HB2 := Hid.mk (below_at hb2 HB1.out)
  clear hb2 HR1 HB1
  go_wp2_with fail
  refine (scan_all _ _ _ z _ HR2.out (by omega)).mono ?_
  rintro e3 w3 ⟨a3, rfl, hb3⟩
  have HB3 := Hid.mk (below_at hb3 HB2.out)
  clear hb3 HB2 HR2
  go_wp2_with fail
  refine (zz_acc _ _ _ _ _ _ _ _ _ HW.out.2.2.2 ?hr4).mono ?_
  case hr4 => exact HJ.out
  rintro e4 w4 ⟨rfl, hb4⟩
  have HB4 := Hid.mk (below_at hb4 HB3.out)
  clear hb4 HB3
  go_wp2_with fail
  refine (zz_acc _ _ _ _ _ _ _ _ _ HW.out.2.2.2 ?hr5).mono ?_
  case hr5 => exact acc_one HJ.out
  rintro e5 w5 ⟨rfl, hb5⟩
  have HB5 := Hid.mk (below_at hb5 HB4.out)
  clear hb5 HB4
  go_wp2_with fail
  refine (zz_acc _ _ _ _ _ _ _ _ _ HW.out.2.2.2 ?hr6).mono ?_
  case hr6 => exact acc_of HH.out HJ.out
  rintro e6 w6 ⟨rfl, hb6⟩
  have HB6 := Hid.mk (below_at hb6 HB5.out)
  clear hb6 HB5
  go_wp2
  go_region
  all_goals go_wp2
  all_goals (try (go_region; all_goals go_wp2))
  all_goals
    go_ret
    first
    | exact ⟨rfl, HB6.out.drew⟩
    | exact ⟨rfl, HB6.out.drew.drew⟩
    | (exfalso; have hj := HJ.out; have hi := HH.out; unfold Rej at hj; omega)
    | (exfalso; have hi := HH.out; have hx := ‹(h != 0) = true ∧ (h != l + 1) = true›; simp at hx; omega)

set_option maxHeartbeats 3200000 in
theorem lawB_mix (G : Interp) (a : Option Addr) (len cap : Nat) (z : List Int) (s e h l : Int) (w : World) (hF : G.told.answers w.tape) (hrow : Row w a len z) (hnil : a = none → len = 0 ∧ cap = 0) (hm : len ≤ 65536)
    (ws : (Lit.int .i64 s).wf = true) (we : (Lit.int .i64 e).wf = true) (wh : (Lit.int .u64 h).wf = true) (wl : (Lit.int .u64 l).wf = true) (h13 : l ≤ 13) (hr : ¬ Rej len s e 0 l) (hh : h ≠ 0 ∧ h ≠ l + 1) :
    Calls Tryf.prog 4 #[.slice a len cap, .int .i64 s, .int .i64 e, .int .u64 h, .int .u64 l] w fun e w' => e = .returned (.bool true) ∧ Below w.heap.size w w' := by
  have HF := Hid.mk hF
  have HR := Hid.mk hrow
  have HN := Hid.mk hnil
  have HW := Hid.mk (And.intro ws (And.intro we (And.intro wh wl)))
  have hl0 := (bounds_u64 wl).1
  have hl1 := (bounds_u64 wl).2
  have hq1 : ∀ w a, (binOp .eql 31 (.iface 69 (.pointer (some a))) .nilIface).run Tryf.prog w = .ok (.bool false) w := fun _ _ => by kernel_rfl
  have hq2 : ∀ w, (binOp .eql 31 .nilIface .nilIface).run Tryf.prog w = .ok (.bool true) w := fun _ => by kernel_rfl
  have hq3 : ∀ w a, (binOp .neq 31 (.iface 69 (.pointer (some a))) .nilIface).run Tryf.prog w = .ok (.bool true) w := fun _ _ => by kernel_rfl
  have hq4 : ∀ w, (binOp .neq 31 .nilIface .nilIface).run Tryf.prog w = .ok (.bool false) w := fun _ => by kernel_rfl
  have HJ := Hid.mk hr
  have HH := Hid.mk hh
  clear hr hh
  clear hF hrow hnil ws we wh wl
  go_enter Tryf.func4, Tryf.ntmps4
  go_wp2_with (go_at_call 10; refine (bytes10_any _ _ _ _ _ _ _ _ (by omega)).mono ?_; rintro e w' ⟨rfl, rfl⟩)
  refine (clone_all _ _ _ z _ HR.out HN.out (by omega)).mono ?_
  rintro e1 w1 ⟨a1, rfl, hrow1, hb1⟩
  have HR1 := Hid.mk hrow1
  have HB1 := Hid.mk hb1
  clear hrow1 hb1
  go_wp2_with fail
  refine (decoder_any _).mono ?_
  rintro e2 w2 ⟨rfl, hb2⟩
  have HR2 := Hid.mk (HR1.out.below hb2)
  have HB2 := Hid.mk (below_at hb2 HB1.out)
  clear hb2 HR1 HB1
  go_wp2_with fail
  refine (scan_all _ _ _ z _ HR2.out (by omega)).mono ?_
  rintro e3 w3 ⟨a3, rfl, hb3⟩
  have HB3 := Hid.mk (below_at hb3 HB2.out)
  clear hb3 HB2 HR2
  go_wp2_with fail
  refine (zz_acc _ _ _ _ _ _ _ _ _ HW.out.2.2.2 ?hr4).mono ?_
  case hr4 => exact HJ.out
  rintro e4 w4 ⟨rfl, hb4⟩
  have HB4 := Hid.mk (below_at hb4 HB3.out)
  clear hb4 HB3
  go_wp2_with fail
  refine (zz_acc _ _ _ _ _ _ _ _ _ HW.out.2.2.2 ?hr5).mono ?_
  case hr5 => exact acc_one HJ.out
  rintro e5 w5 ⟨rfl, hb5⟩
  have HB5 := Hid.mk (below_at hb5 HB4.out)
  clear hb5 HB4
  go_wp2_with fail
  refine (zz_rej G _ _ _ _ _ _ _ _ _ ?hF6 hm HW.out.1 HW.out.2.1 ?wh6 HW.out.2.2.2 ?hr6).mono ?_
  case hF6 => rw [HB5.out.tape]; exact HF.out
  case wh6 => exact HW.out.2.2.1
  case hr6 => exact .inr (.inr (.inr (.inl HH.out)))
  rintro e6 w6 ⟨a6, rfl, hb6⟩
  have HB6 := Hid.mk (below_at hb6 HB5.out)
  clear hb6 HB5
  go_wp2
  go_region
  all_goals go_wp2
  all_goals (try (go_region; all_goals go_wp2))
  all_goals
    go_ret
    first
    | exact ⟨rfl, HB6.out.drew⟩
    | exact ⟨rfl, HB6.out.drew.drew⟩
    | (exfalso; have hj := HJ.out; have hi := HH.out; unfold Rej at hj; omega)
    | (exfalso; have hi := HH.out; have hx := ‹(h != 0) = false ∨ (h != l + 1) = false›; simp at hx; omega)

set_option maxHeartbeats 400000 in
theorem lawB_big (a : Option Addr) (len cap : Nat) (s e h l : Int) (w : World) (hm : ¬ len ≤ 1048576) :
    Calls Tryf.prog 4 #[.slice a len cap, .int .i64 s, .int .i64 e, .int .u64 h, .int .u64 l] w fun e w' => e = .returned (.bool true) ∧ Below w.heap.size w w' := by
  go_enter Tryf.func4, Tryf.ntmps4
  go_wp2_with (go_at_call 10; refine (bytes10_no _ _ _ _ _ _ _ _ hm).mono ?_; rintro e w' ⟨rfl, rfl⟩)
  go_ret
  exact ⟨rfl, Below.refl _ _⟩
set_option maxHeartbeats 400000 in
theorem lawB_long (a : Option Addr) (len cap : Nat) (s e h l : Int) (w : World) (hm : len ≤ 1048576) (hm2 : ¬ len ≤ 65536) :
    Calls Tryf.prog 4 #[.slice a len cap, .int .i64 s, .int .i64 e, .int .u64 h, .int .u64 l] w fun e w' => e = .returned (.bool true) ∧ Below w.heap.size w w' := by
  go_enter Tryf.func4, Tryf.ntmps4
  go_wp2_with (go_at_call 10; refine (bytes10_any _ _ _ _ _ _ _ _ hm).mono ?_; rintro e w' ⟨rfl, rfl⟩)
  go_ret
  exact ⟨rfl, Below.refl _ _⟩

/-- THE WALK OF THE SECOND LAW, every input -/
theorem lawB_any (G : Interp) (a : Option Addr) (len cap : Nat) (z : List Int) (s e h l : Int) (w : World) (hF : G.told.answers w.tape) (hrow : Row w a len z) (hnil : a = none → len = 0 ∧ cap = 0)
    (ws : (Lit.int .i64 s).wf = true) (we : (Lit.int .i64 e).wf = true) (wh : (Lit.int .u64 h).wf = true) (wl : (Lit.int .u64 l).wf = true) :
    Calls Tryf.prog 4 #[.slice a len cap, .int .i64 s, .int .i64 e, .int .u64 h, .int .u64 l] w fun e w' => e = .returned (.bool true) ∧ Below w.heap.size w w' := by
  by_cases h1 : len ≤ 1048576
  · by_cases h2 : len ≤ 65536
    · by_cases h3 : l ≤ 13
      · by_cases hr : Rej len s e 0 l
        · exact lawB_rej G a len cap z s e h l w hF hrow hnil h2 ws we wh wl h3 hr
        · by_cases hh : h = 0 ∨ h = l + 1
          · exact lawB_acc G a len cap z s e h l w hF hrow hnil h2 ws we wh wl h3 hr hh
          · exact lawB_mix G a len cap z s e h l w hF hrow hnil h2 ws we wh wl h3 hr ⟨fun g => hh (.inl g), fun g => hh (.inr g)⟩
      · exact lawB_high G a len cap z s e h l w hF hrow hnil h2 ws we wh wl (by omega)
    · exact lawB_long a len cap s e h l w h1 h2
  · exact lawB_big a len cap s e h l w h1
end Go.Proofs.Qxb6605972aFmt
