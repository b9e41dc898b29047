import Derived.Test.Qxb6605922aMis
import Derived.OwnWalk
import Derived.Laws.OwnMore
import Derived.Lib.SliceRun
namespace Go.Proofs.Qxb6605922a
open Go.ChangeShapes Go.WideShapes Go.ChangeAt Go.RowKit

theorem Try.info5 : (Try.prog.info? 5).map (fun i => (i.zero, i.size, i.bytes)) = some (some (.int .u8 0), 1, 1) := by kernel_rfl

/-- the row that the call itself made at block B: its first k cells are copied, the rest are zero; nothing below B has turned -/
def CopyRel (B len : Nat) (w wr : World) (l : List Int) (k : Nat) : Prop :=
  wr.ownsRow B 5 1 (.slice (some ⟨B, 0, none⟩) len len) len ((l.take k).map (Value.int .u8) ++ List.replicate (len - k) (.int .u8 0)) ∧ Below B w wr

theorem CopyRel.start {len : Nat} {w w1 : World} {l : List Int} (h : w1.ownsRow w.heap.size 5 1 (.slice (some ⟨w.heap.size, 0, none⟩) len len) len (madeCells (Value.int .u8 0).cells (len * 1)).toList) (hg : w.grownBy w1 none) :
    CopyRel w.heap.size len w w1 l 0 := by
  refine ⟨?_, (Below.refl _ _).grown hg (Nat.le_refl _) (fun k hk => by cases hk)⟩
  have e : (madeCells (Value.int .u8 0).cells (len * 1)).toList = List.replicate len (Value.int .u8 0) := by
    rw [Nat.mul_one]; exact toList_madeCells_one _ _
  rw [e] at h
  simpa using h
theorem CopyRel.cells {B len : Nat} {w wr : World} {l : List Int} {k : Nat} (h : CopyRel B len w wr l k) (hl : l.length = len) (hk : k < len) :
    wr.cell? ⟨B, k, none⟩ = some (.int .u8 0) ∧ wr.frozen? ⟨B, k, none⟩ = false := by
  refine ⟨?_, h.1.frozenAt k⟩
  rw [h.1.cellAt k (by omega), List.getElem?_append_right (by simp; omega)]
  rw [List.getElem?_replicate]
  simp; omega
theorem CopyRel.step {B len : Nat} {w wr : World} {l : List Int} {k : Nat} (h : CopyRel B len w wr l k) (hl : l.length = len) (hk : k < len) :
    CopyRel B len w (wr.setCell ⟨B, k, none⟩ (.int .u8 (l.getD k 0))) l (k + 1) := by
  obtain ⟨s1, s2⟩ := h.1.stored k (.int .u8 (l.getD k 0))
  refine ⟨?_, h.2.setCell (Nat.le_refl _) _⟩
  have e : ((l.take k).map (Value.int .u8) ++ List.replicate (len - k) (Value.int .u8 0)).set k (Value.int .u8 (l.getD k 0)) = (l.take (k + 1)).map (Value.int .u8) ++ List.replicate (len - (k + 1)) (Value.int .u8 0) := by
    have h1 : ((l.take k).map (Value.int .u8)).length = k := by simp; omega
    rw [List.set_append_right _ _ (by omega), h1, Nat.sub_self]
    have h2 : len - k = (len - (k + 1)) + 1 := by omega
    rw [h2, List.replicate_succ, List.set_cons_zero]
    rw [List.take_succ_eq_append_getElem (by omega)]
    rw [List.map_append, List.append_assoc]
    simp [hl, hk]
  rw [e] at s1
  exact s1
theorem CopyRel.full {B len : Nat} {w wr : World} {l : List Int} (h : CopyRel B len w wr l len) (hl : l.length = len) (i : Nat) (hi : i < len) : wr.cell? ⟨B, 0 + i, none⟩ = some (.int .u8 (l.getD i 0)) := by
  rw [Nat.zero_add, h.1.cellAt i (by omega), List.getElem?_append_left (by simp; omega)]
  simp [hl, hi]

set_option maxHeartbeats 800000 in
theorem copy_any (b off len cap : Nat) (l : List Int) (w : World) (hl : l.length = len) (hm : len ≤ 1048577) (hbw : b < w.heap.size)
    (hc : ∀ i, i < len → w.cell? ⟨b, off + i, none⟩ = some (.int .u8 (l.getD i 0))) :
    Calls Try.prog 8 #[.slice (some ⟨b, off, none⟩) len cap] w fun e w' => e = .returned (.slice (some ⟨w.heap.size, 0, none⟩) len len) ∧ CopyRel w.heap.size len w w' l len := by
  have HL : Hid (l.length = len) := hl
  have HC : Hid (∀ i, i < len → w.cell? ⟨b, off + i, none⟩ = some (.int .u8 (l.getD i 0))) := hc
  clear hl hc
  have q22 : ∀ (w : World) (a : Option Addr) (n c : Nat), (binOp .eql 22 (.slice a n c) (.slice none 0 0)).run Try.prog w = .ok (.bool a.isNone) w := fun w a n c => Lib.run_eql_slice_nil w _ _ a n c 0 0 Try.underlying22
  obtain ⟨i0, hi, hz0, hz1, hz2⟩ := info_parts Try.info5
  have HI : Hid (Try.prog.info? 5 = some i0) := hi
  have HZ : Hid (i0.zero = some (.int .u8 0) ∧ i0.size = 1 ∧ i0.bytes = 1) := ⟨hz0, hz1, hz2⟩
  clear hi hz0 hz1 hz2
  go_enter Try.func8, Try.ntmps8
  go_wp2_with (at_make; refine wpList_make_full _ rfl _ _ 22 rfl w.heap.size 5 i0 (.int .u8 0) 1 Try.underlying22 HI.out HZ.out.1 HZ.out.2.1 .i64 .i64 len len len rfl rfl rfl rfl (by rw [HZ.out.2.2]; omega) (by unfold maxLen; omega) (Nat.le_refl _) ?_; intro w1 hown hgrow)
  go_loopw [4] (fun i wr => ∃ k : Nat, k ≤ len ∧ i = .int .i64 k ∧ CopyRel w.heap.size len w wr l k) (fun i _ => len - (intOf i).toNat)
  case atStart => exact ⟨0, Nat.zero_le _, rfl, CopyRel.start hown hgrow⟩
  case round =>
    obtain ⟨k, hk, rfl, hR⟩ := hrel
    clear hown hgrow
    by_cases hlt : k < len
    · have hcx : wr.cell? ⟨b, off + k, none⟩ = some (.int .u8 (l.getD k 0)) := (hR.2.cell (by exact hbw)).trans (HC.out k hlt)
      obtain ⟨hcB, hfB⟩ := hR.cells HL.out hlt
      have R := hR.step HL.out hlt
      have RH : Hid (CopyRel w.heap.size len w (wr.setCell ⟨w.heap.size, k, none⟩ (.int .u8 (l.getD k 0))) l (k + 1)) := R
      generalize l.getD k 0 = c at hcx RH
      clear R hR
      go_wp2
      go_roundw
      case rel => exact ⟨k + 1, by omega, by go_num, RH.out⟩
      case measure => simp [intOf]; omega
    · have hke : k = len := by omega
      subst hke
      go_wp2
      go_ret
      exact ⟨rfl, hR⟩
end Go.Proofs.Qxb6605922a
