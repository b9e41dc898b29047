import Derived.Test.Qxb6605972aFmtClone
import Derived.Deep.RegionWith
import Derived.Deep.DrawnRows
import Derived.Deep.LoopGhost
import Derived.Deep.DeepCutAuto
namespace Go.Proofs.Qxb6605972aFmt
open Go.ChangeShapes Go.WideShapes Go.ChangeAt Go.RowKit

/-- the zero component's cells -/
def zeroCells57 (P : Program) : Array Value := (((P.info? 57).bind (·.zero)).getD undef).cells
theorem zero57 : (Tryf.prog.info? 57).bind (·.zero) = some (.agg (zeroCells57 Tryf.prog)) := by kernel_rfl
theorem zeroSize57 : (zeroCells57 Tryf.prog).size = 84 := by kernel_rfl

/-- a store of a whole component, its two operands reckoned -/
def St57 (p v : Value) (d : Option Tmp) (a : Act) (w : World) (K : Act → World → Prop) (Q : Exit → Act → World → Prop) : Prop :=
  Oper.wp Tryf.prog { dst := d, op := .store 57 (.const p) (.const v), type := 0, pos := "", after := #[], guard := none } a w K Q
theorem wp_store57 (d : Option Tmp) (x y : Operand) (t : TypeId) (pos : String) (af : Array Edge) (g : Option (Nat × Bool)) (a : Act) (w : World) (K : Act → World → Prop) (Q : Exit → Act → World → Prop) :
    Oper.wp Tryf.prog { dst := d, op := .store 57 x y, type := t, pos := pos, after := af, guard := g } a w K Q = St57 (a.eval x) (a.eval y) d a w K Q := rfl
theorem wp_alloc57 (d : Option Tmp) (t : TypeId) (pos : String) (af : Array Edge) (g : Option (Nat × Bool)) (a : Act) (w : World) (K : Act → World → Prop) (Q : Exit → Act → World → Prop) :
    Oper.wp Tryf.prog { dst := d, op := .alloc 57, type := t, pos := pos, after := af, guard := g } a w K Q = K (a.put d (.pointer (some ⟨w.heap.size, 0, none⟩))) (w.alloc (.cells (zeroCells57 Tryf.prog) 57)) := by
  have hz := zero57
  generalize zeroCells57 Tryf.prog = zs at hz ⊢
  unfold Oper.wp
  cases hi : Tryf.prog.info? 57 with
  | none => simp [hi] at hz
  | some i =>
    simp [hi] at hz
    simp [execOp, Instr.alloc, zeroValue, typeInfo, hi, hz, newVar, newRow, Value.cells]
    rfl
/-- block g is a component's own block -/
def fits (w : World) (g : Nat) : Prop := ∃ old, w.heap[g]? = some (.cells old 57 (0, 0)) ∧ old.size = 84
theorem fits_new (w : World) : fits (w.alloc (.cells (zeroCells57 Tryf.prog) 57)) w.heap.size := ⟨_, heap_alloc_new _ _, zeroSize57⟩
theorem fits_below {w w' : World} {B g : Nat} (h : fits w g) (hb : Below B w w') (hg : g < B) : fits w' g := by
  obtain ⟨old, h1, h2⟩ := h
  exact ⟨old, by rw [hb.block g hg]; exact h1, h2⟩
theorem fits_lt {w : World} {g : Nat} (h : fits w g) : g < w.heap.size := by
  obtain ⟨old, h1, h2⟩ := h
  exact (Array.getElem?_eq_some_iff.1 h1).1
theorem fits_new_drew (w : World) : fits ((w.alloc (.cells (zeroCells57 Tryf.prog) 57)).drew) w.heap.size := fits_new w
theorem fits_call {w w' : World} (hb : Below w.heap.size w w') : ∀ g, fits w g → fits w' g := fun _ h => fits_below h hb (fits_lt h)
theorem below_at {B : Nat} {w0 w w' : World} (hb : Below w.heap.size w w') (h : Below B w0 w) (hB : B ≤ w0.heap.size := by exact Nat.le_refl _) : Below B w0 w' := h.trans (hb.mono (Nat.le_trans hB h.size))
theorem Hid.mk {p : Prop} (h : p) : Hid p := h
theorem st57 {g : Nat} {cs : Array Value} {d : Option Tmp} {a : Act} {w : World} {K : Act → World → Prop} {Q : Exit → Act → World → Prop} (hf : fits w g) (hc : cs.size = 84) (h1 : cs.all (·.oneCell') = true)
    (h : K (a.put d undef) (w.setRow g cs)) : St57 (.pointer (some ⟨g, 0, none⟩)) (.agg cs) d a w K Q := by
  obtain ⟨old, ho, hs⟩ := hf
  exact wp_store_row 57 _ _ rfl g cs rfl rfl 57 old ho (by rw [hc]; exact comp_size) (by rw [hs, hc]) h1 h

theorem own_below {w w' : World} {B n cap : Nat} {e s : Nat} {xs : List Value} (h : w.ownsRow B e s (.slice (some ⟨B, 0, none⟩) n cap) n xs) (hb : Below w.heap.size w w') : w'.ownsRow B e s (.slice (some ⟨B, 0, none⟩) n cap) n xs := by
  obtain ⟨h0, h2⟩ := h
  refine ⟨h0, ?_⟩
  rcases h2 with ⟨h', h''⟩ | ⟨g', cap', cur, h', hb', hg, hnc, hcm, hcs, htake⟩
  · exact .inl ⟨h', h''⟩
  · simp only [Value.slice.injEq, Option.some.injEq, Addr.mk.injEq, and_true, true_and] at h'
    obtain ⟨rfl, rfl⟩ := h'
    exact .inr ⟨B, cap, cur, rfl, hb', by rw [hb.block B ((Array.getElem?_eq_some_iff.1 hg).1)]; exact hg, hnc, hcm, hcs, htake⟩

theorem Tryf.info60 : (Tryf.prog.info? 60).map (fun i => (i.zero, i.size, i.bytes)) = some (some (.pointer none), 1, 8) := by kernel_rfl

attribute [local go_sem ↓] Go.wp_at_zero Go.wp_at_succ wp_store57 wp_alloc57

set_option maxHeartbeats 1600000 in
theorem scan_any (b off len cap : Nat) (l : List Int) (w : World) (hm : len ≤ 65536) (hbw : b < w.heap.size)
    (hc : ∀ i, i < len → w.cell? ⟨b, off + i, none⟩ = some (.int .u8 (l.getD i 0))) :
    Calls Tryf.prog 8 #[.slice (some ⟨b, off, none⟩) len cap] w fun e w' => e = .returned (.slice (some ⟨w.heap.size, 0, none⟩) len len) ∧ Below w.heap.size w w' := by
  have HC : Hid (∀ i, i < len → w.cell? ⟨b, off + i, none⟩ = some (.int .u8 (l.getD i 0))) := hc
  clear hc
  obtain ⟨i0, hi, hz0, hz1, hz2⟩ := info_parts Tryf.info60
  have HI : Hid (Tryf.prog.info? 60 = some i0) := hi
  have HZ : Hid (i0.zero = some (.pointer none) ∧ i0.size = 1 ∧ i0.bytes = 8) := ⟨hz0, hz1, hz2⟩
  clear hi hz0 hz1 hz2
  go_enter Tryf.func8, Tryf.ntmps8
  go_wp2_with (at_make; refine wpList_make_full _ rfl _ _ 28 rfl w.heap.size 60 i0 (.pointer none) 1 Tryf.underlying28 HI.out HZ.out.1 HZ.out.2.1 .i64 .i64 len len len rfl rfl rfl rfl (by rw [HZ.out.2.2]; omega) (by unfold maxLen; omega) (Nat.le_refl _) ?_; intro w1 hown hgrow)
  go_loopg [11] len (fun g i wr => ∃ k : Nat, k ≤ len ∧ g = len - k ∧ i = .int .i64 k ∧ Hid (Below w.heap.size w wr) ∧ Hid (∃ xs, wr.ownsRow w.heap.size 60 1 (.slice (some ⟨w.heap.size, 0, none⟩) len len) len xs))
  case atStart => exact ⟨0, Nat.zero_le _, by omega, rfl, (Below.refl _ _).grown hgrow (Nat.le_refl _) (fun k hk => by cases hk), ⟨_, hown⟩⟩
  case round =>
    obtain ⟨k, hk, rfl, rfl, HB, HO⟩ := hrel
    clear hown hgrow
    by_cases hlt : k < len
    · have hcx : wr.cell? ⟨b, off + k, none⟩ = some (.int .u8 (l.getD k 0)) := (HB.out.cell (by exact hbw)).trans (HC.out k hlt)
      generalize l.getD k 0 = c at hcx
      have hbr : b < wr.heap.size := block_lt_of_cell hcx
      have HX : Hid (wr.cell? ⟨b, off + k, none⟩ = some (.int .u8 c)) := hcx
      go_upto_region 5 with fail
      go_cut [5] (fun q wx => (∃ ad, q = .pointer (some ad)) ∧ Hid (Below wr.heap.size wr wx))
      case first =>
        go_region_with (first
          | (go_at_call 12; refine (plane_any _).mono ?_; rintro e w12 ⟨rfl, hb12⟩; have HJ12 : Hid (Below wr.heap.size wr w12) := below_at hb12 (by first | exact (Below.refl _ _).drew | exact ((Below.refl _ _).alloc (Nat.le_refl _) _).drew); have HF12 := fits_call hb12; have hc12 := (HJ12.out.cell (p := ⟨b, off + k, none⟩) (by exact hbr)).trans HX.out; have hs12 := block_lt_of_cell hc12; have HH12 := Hid.mk HF12; clear HF12 hb12)
          | (go_at_call 11; refine (comp_any _ _).mono ?_; rintro e w11 ⟨cs, rfl, hcs1, hcs2, hb11⟩; have HJ11 : Hid (Below wr.heap.size wr w11) := below_at hb11 (by first | exact HJ12.out | exact HJ12.out.alloc HJ12.out.size _); have HF11 := fits_call hb11; have HH11 := Hid.mk HF11; have HCS := Hid.mk (And.intro hcs1 hcs2); clear HF11 hb11 hcs1 hcs2)
          | (with_reducible (refine st57 ?_ ?_ ?_ ?_); rotate_left; exact HCS.out.1; exact HCS.out.2; rotate_left; (first | exact fits_new _ | exact HH11.out _ (fits_new _) | exact HH11.out _ (HH12.out _ (fits_new_drew _)))))
        all_goals
          go_wp2_with fail
          go_meet
        all_goals exact ⟨⟨_, rfl⟩, by first | exact below_setRow (HJ11.out.alloc HJ11.out.size _) HJ11.out.size _ | exact below_setRow HJ11.out HJ12.out.size _ | exact below_setRow HJ11.out (Nat.le_refl _) _⟩
      case rest =>
        obtain ⟨⟨ad, rfl⟩, HBc⟩ := hcut
        obtain ⟨xs, hxs⟩ := HO.out
        have hown2 := own_below hxs HBc.out
        have hxl : xs.length = len := by have := hxs.1; omega
        have hcB : wc.cell? ⟨w.heap.size, k, none⟩ = some (xs[k]'(by omega)) := by
          rw [hown2.cellAt k (by omega), List.getElem?_eq_getElem (by omega)]
        have hfB := hown2.frozenAt k
        have HS : Hid (∃ ys, (wc.setCell ⟨w.heap.size, k, none⟩ (.pointer (some ad))).ownsRow w.heap.size 60 1 (.slice (some ⟨w.heap.size, 0, none⟩) len len) len ys) := ⟨_, (hown2.stored k (.pointer (some ad))).1⟩
        have HB2 : Hid (Below w.heap.size w (wc.setCell ⟨w.heap.size, k, none⟩ (.pointer (some ad)))) := (below_at HBc.out HB.out).setCell (Nat.le_refl _) _
        generalize xs[k]'(by omega) = old at hcB
        clear hown2 hxs hxl HO HB HBc hcx HX
        go_wp2
        go_roundg (len - (k + 1))
        case measure => omega
        case rel => exact ⟨k + 1, by omega, rfl, by go_num, HB2, HS⟩
    · have hke : k = len := by omega
      subst hke
      go_wp2
      go_ret
      exact ⟨rfl, HB.out⟩

set_option maxHeartbeats 400000 in
theorem scan_empty (a : Option Addr) (cap : Nat) (w : World) :
    Calls Tryf.prog 8 #[.slice a 0 cap] w fun e w' => e = .returned (.slice (some ⟨w.heap.size, 0, none⟩) 0 0) ∧ Below w.heap.size w w' := by
  have hmk : ∀ w, (Instr.makeSlice 28 (.int .i64 0) (.int .i64 0)).run Tryf.prog w = .ok (.slice (some ⟨w.heap.size, 0, none⟩) 0 0) (w.alloc (.cells #[] 60)) := fun _ => by kernel_rfl
  go_enter Tryf.func8, Tryf.ntmps8
  go_wp2
  refine wp_loop_rounds 1 ?_
  rw [rounds_succ]
  go_wp2
  go_ret
  exact ⟨rfl, (Below.refl _ _).alloc (Nat.le_refl _) _⟩

theorem scan_all (a : Option Addr) (len cap : Nat) (l : List Int) (w : World) (h : Row w a len l) (hm : len ≤ 65536) :
    Calls Tryf.prog 8 #[.slice a len cap] w fun e w' => ∃ a', e = .returned (.slice (some a') len len) ∧ Below w.heap.size w w' := by
  obtain ⟨_, h3⟩ := h
  by_cases h0 : len = 0
  · subst h0
    refine (scan_empty a cap w).mono ?_
    rintro e w' ⟨rfl, hb⟩
    exact ⟨_, rfl, hb⟩
  · rcases h3 with h3 | ⟨b, off, rfl, h3⟩
    · exact absurd h3 h0
    · refine (scan_any b off len cap l w hm (block_lt_of_cell (h3 0 (by omega))) h3).mono ?_
      rintro e w' ⟨rfl, hb⟩
      exact ⟨_, rfl, hb⟩
end Go.Proofs.Qxb6605972aFmt
