import Derived.Test.Qxb6605972aFmtBand
namespace Go.Proofs.Qxb6605972aFmt
open Go.ChangeShapes Go.WideShapes Go.ChangeAt Go.RowKit
open Go.Extern.Stop Go.Stop Go.Extern

/-- the scans that are refused -/
def Rej (n : Nat) (s e h l : Int) : Prop := e < s ∨ 64 ≤ e ∨ 13 < l ∨ (h ≠ 0 ∧ h ≠ l + 1) ∨ (s = 0 ∧ e ≠ 0) ∨ (0 < s ∧ 1 < n)

theorem band_rej (G : Interp) (d : Option Addr) (ca : Option Addr) (n cc : Nat) (s e h l : Int) (w : World) (hF : G.told.answers w.tape) (hn : n ≤ 65536)
    (ws : (Lit.int .i64 s).wf = true) (we : (Lit.int .i64 e).wf = true) (wh : (Lit.int .u64 h).wf = true) (wl : (Lit.int .u64 l).wf = true) (hr : Rej n s e h l) :
    Calls Tryf.prog 13 #[.pointer d, .slice ca n cc, .int .i64 s, .int .i64 e, .int .u64 h, .int .u64 l] w fun e w' => ∃ a, e = .returned (.tuple #[.nilFunc, .iface 69 (.pointer (some a))]) ∧ Below w.heap.size w w' := by
  have h0 : 0 ≤ l := (bounds_u64 wl).1
  have wn : (Lit.int .i64 (n : Int)).wf = true := by
    simp [Lit.wf, IntKind.min, IntKind.max, IntKind.signed, IntKind.bits]; omega
  have hA := sizeA G s e h l ws we wh wl
  have hB := sizeB G
  have hC := sizeC G n wn
  by_cases c1 : e < s
  · exact band_A G.told d ca n cc s e h l w hF hA h0 (.inl c1)
  by_cases c2 : 64 ≤ e
  · exact band_A G.told d ca n cc s e h l w hF hA h0 (.inr (.inl ⟨c1, c2⟩))
  by_cases c3 : 13 < l
  · exact band_A G.told d ca n cc s e h l w hF hA h0 (.inr (.inr (.inl ⟨c1, c2, c3⟩)))
  by_cases c4 : h ≠ 0 ∧ h ≠ l + 1
  · exact band_A G.told d ca n cc s e h l w hF hA h0 (.inr (.inr (.inr ⟨c1, c2, c3, by simpa using c4.1, by simpa using c4.2⟩)))
  have c4' : (h != 0) = false ∨ ((h != 0) = true ∧ (h != l + 1) = false) := by
    by_cases g : h = 0
    · left; simp [g]
    · right; refine ⟨by simpa using g, ?_⟩
      have : h = l + 1 := by omega
      simp [this]
  by_cases c5 : s = 0 ∧ e ≠ 0
  · exact band_B G.told d ca n cc s e h l w hF hB h0 c1 c2 c3 c4' (by simpa using c5.1) (by simpa using c5.2)
  · have c6 : 0 < s ∧ 1 < n := by unfold Rej at hr; omega
    have c7 : s ≠ 0 := by omega
    exact band_C G.told d ca n cc s e h l w hF hC h0 hn c1 c2 c3 c4' (by simpa using c7) c6.1 c6.2

theorem band_acc (d : Option Addr) (ca : Option Addr) (n cc : Nat) (s e h l : Int) (w : World) (wl : (Lit.int .u64 l).wf = true) (hr : ¬ Rej n s e h l) :
    Calls Tryf.prog 13 #[.pointer d, .slice ca n cc, .int .i64 s, .int .i64 e, .int .u64 h, .int .u64 l] w fun e w' => ∃ v, e = .returned (.tuple #[v, .nilIface]) ∧ IsFn v ∧ Below w.heap.size w w' := by
  have h0 : 0 ≤ l := (bounds_u64 wl).1
  unfold Rej at hr
  have c4' : (h != 0) = false ∨ ((h != 0) = true ∧ (h != l + 1) = false) := by
    by_cases g : h = 0
    · left; simp [g]
    · right; refine ⟨by simpa using g, ?_⟩
      have : h = l + 1 := by omega
      simp [this]
  refine band_ok d ca n cc s e h l w h0 (by omega) (by omega) (by omega) c4' ?_
  by_cases g : s = 0
  · left
    have : e = 0 := by omega
    exact ⟨by simpa using g, by simp [this], by omega⟩
  · right
    have g' : (s == 0) = false := by simpa using g
    by_cases g2 : 0 < s
    · exact .inr ⟨g', g2, by omega⟩
    · exact .inl ⟨g', g2⟩

set_option maxHeartbeats 800000 in
theorem zz_rej (G : Interp) (d : Option Addr) (ca : Option Addr) (n cc : Nat) (s e h l : Int) (w : World) (hF : G.told.answers w.tape) (hn : n ≤ 65536)
    (ws : (Lit.int .i64 s).wf = true) (we : (Lit.int .i64 e).wf = true) (wh : (Lit.int .u64 h).wf = true) (wl : (Lit.int .u64 l).wf = true) (hr : Rej n s e h l) :
    Calls Tryf.prog 9 #[.pointer d, .slice ca n cc, .int .i64 s, .int .i64 e, .int .u64 h, .int .u64 l] w fun e w' => ∃ a, e = .returned (.tuple #[.bool false, .iface 69 (.pointer (some a))]) ∧ Below w.heap.size w w' := by
  have H := Hid.mk (band_rej G d ca n cc s e h l w hF hn ws we wh wl hr)
  have hq : ∀ w, (binOp .neq 62 .nilFunc .nilFunc).run Tryf.prog w = .ok (.bool false) w := fun _ => by kernel_rfl
  clear hF hn ws we wh wl hr
  go_enter Tryf.func9, Tryf.ntmps9
  go_wp2_with fail
  refine H.out.mono ?_
  rintro e1 w1 ⟨a, rfl, hb⟩
  have HB := Hid.mk hb
  clear hb
  go_wp2
  go_ret2
  exact ⟨a, rfl, HB.out⟩

set_option maxHeartbeats 800000 in
theorem zz_acc (d : Option Addr) (ca : Option Addr) (n cc : Nat) (s e h l : Int) (w : World) (wl : (Lit.int .u64 l).wf = true) (hr : ¬ Rej n s e h l) :
    Calls Tryf.prog 9 #[.pointer d, .slice ca n cc, .int .i64 s, .int .i64 e, .int .u64 h, .int .u64 l] w fun e w' => e = .returned (.tuple #[.bool true, .nilIface]) ∧ Below w.heap.size w w' := by
  have H := Hid.mk (band_acc d ca n cc s e h l w wl hr)
  clear wl hr
  go_enter Tryf.func9, Tryf.ntmps9
  go_wp2_with fail
  refine H.out.mono ?_
  rintro e1 w1 ⟨v, rfl, ⟨f, x, y, rfl⟩, hb⟩
  have HB := Hid.mk hb
  have hq : ∀ w, (binOp .neq 62 (.func (.func f) x y) .nilFunc).run Tryf.prog w = .ok (.bool true) w := fun _ => by kernel_rfl
  clear hb
  go_wp2
  go_ret2
  exact ⟨rfl, HB.out⟩
end Go.Proofs.Qxb6605972aFmt
