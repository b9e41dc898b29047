import Derived.Test.Qxb6605972aFmtBase
namespace Go.Proofs.Qxb6605972aFmt
open Go.ChangeShapes Go.WideShapes Go.ChangeAt Go.RowKit

theorem Tryf.info5 : (Tryf.prog.info? 5).map (fun i => (i.zero, i.size, i.bytes)) = some (some (.int .u8 0), 1, 1) := by kernel_rfl
theorem Tryf.size5 : (Tryf.prog.info? 5).map (·.size) = some 1 := by kernel_rfl

/-- a slice of len bytes, read as the list l -/
def Row (w : World) (a : Option Addr) (len : Nat) (l : List Int) : Prop :=
  l.length = len ∧ (len = 0 ∨ ∃ b off, a = some ⟨b, off, none⟩ ∧ ∀ i, i < len → w.cell? ⟨b, off + i, none⟩ = some (.int .u8 (l.getD i 0)))

theorem Row.below {w w' : World} {a : Option Addr} {len : Nat} {l : List Int} (h : Row w a len l) (hb : Below w.heap.size w w') : Row w' a len l := by
  obtain ⟨h1, h3⟩ := h
  refine ⟨h1, ?_⟩
  rcases h3 with h3 | ⟨b, off, rfl, h3⟩
  · exact .inl h3
  · exact .inr ⟨b, off, rfl, fun i hi => (hb.cell (by exact (block_lt_of_cell (h3 i hi)))).trans (h3 i hi)⟩

set_option maxHeartbeats 400000 in
theorem clone_nil (w : World) :
    Calls Tryf.prog 6 #[.slice none 0 0] w fun e w' => e = .returned (.slice none 0 0) ∧ w' = w := by
  have q22 : ∀ (w : World) (a : Option Addr) (n c : Nat), (binOp .eql 22 (.slice a n c) (.slice none 0 0)).run Tryf.prog w = .ok (.bool a.isNone) w := fun w a n c => Lib.run_eql_slice_nil w _ _ a n c 0 0 Tryf.underlying22
  go_enter Tryf.func6, Tryf.ntmps6
  go_wp2
  go_ret
  exact ⟨rfl, rfl⟩

theorem own_block {w : World} {B n : Nat} {xs : List Value} (h : w.ownsRow B 5 1 (.slice (some ⟨B, 0, none⟩) n n) n xs) : ∃ cur : List Value, w.heap[B]? = some (.cells cur.toArray 5 (0, 0)) ∧ cur.length = n := by
  rcases h.2 with ⟨h', _⟩ | ⟨g', cap', cur, h', hb, hg, hnc, hcm, hcs, htake⟩
  · simp at h'
  · simp only [Value.slice.injEq, Option.some.injEq, Addr.mk.injEq, and_true, true_and] at h'
    obtain ⟨rfl, rfl⟩ := h'
    exact ⟨cur.toList, by simpa using hg, by simpa using hcs⟩
theorem splice_at (cur : List Value) (l : List Int) (w : World) (B len : Nat) (hl : l.length = len) (h : w.heap[B]? = some (.cells (splice cur 0 (l.map (Value.int .u8))).toArray 5 (0, 0))) (i : Nat) (hi : i < len) :
    w.cell? ⟨B, 0 + i, none⟩ = some (.int .u8 (l.getD i 0)) := by
  rw [cell_of_row w B (0 + i) _ 5 (0, 0) h]
  simp [splice, hl, hi, List.getElem?_append_left]

theorem copy_src {w w1 : World} {x : Addr} {len : Nat} {l : List Int} (h : Row w (some x) len l) (hb : Below w.heap.size w w1) (h0 : 0 < (l.map (Value.int .u8)).length) :
    ∃ ad, some x = some ad ∧ ∀ j v, (l.map (Value.int .u8))[j]? = some v → w1.cell? (ad.add j) = some v := by
  obtain ⟨h1, h2⟩ := h
  rcases h2 with h2 | ⟨b, off, e, h2⟩
  · simp at h0; omega
  · simp only [Option.some.injEq] at e
    subst e
    refine ⟨_, rfl, fun j v hv => ?_⟩
    have hj : j < l.length := by
      rcases Nat.lt_or_ge j l.length with h | h
      · exact h
      · rw [List.getElem?_eq_none (by simpa using h)] at hv; cases hv
    have hc := h2 j (by omega)
    rw [add_plain, hb.cell (block_lt_of_cell hc), hc, ← hv]
    simp [hj]

set_option maxHeartbeats 800000 in
theorem clone_some (x : Addr) (len cap : Nat) (l : List Int) (w : World) (h : Row w (some x) len l) (hm : len ≤ 1048577) :
    Calls Tryf.prog 6 #[.slice (some x) len cap] w fun e w' => e = .returned (.slice (some ⟨w.heap.size, 0, none⟩) len len) ∧ Row w' (some ⟨w.heap.size, 0, none⟩) len l ∧ Below w.heap.size w w' := by
  have HR : Hid (Row w (some x) len l) := h
  clear h
  have q22 : ∀ (w : World) (a : Option Addr) (n c : Nat), (binOp .eql 22 (.slice a n c) (.slice none 0 0)).run Tryf.prog w = .ok (.bool a.isNone) w := fun w a n c => Lib.run_eql_slice_nil w _ _ a n c 0 0 Tryf.underlying22
  obtain ⟨i0, hi, hz0, hz1, hz2⟩ := info_parts Tryf.info5
  have HI : Hid (Tryf.prog.info? 5 = some i0) := hi
  have HZ : Hid (i0.zero = some (.int .u8 0) ∧ i0.size = 1 ∧ i0.bytes = 1) := ⟨hz0, hz1, hz2⟩
  clear hi hz0 hz1 hz2
  obtain ⟨X, hX⟩ : ∃ X, X = l.map (Value.int .u8) := ⟨_, rfl⟩
  have HX : Hid (X = l.map (Value.int .u8)) := hX
  have HXL : Hid (X.length = len) := by show _ = _; rw [hX, List.length_map]; exact HR.out.1
  clear hX
  go_enter Tryf.func6, Tryf.ntmps6
  go_wp2_with (first | (at_make; refine wpList_make_full _ rfl _ _ 22 rfl w.heap.size 5 i0 (.int .u8 0) 1 Tryf.underlying22 HI.out HZ.out.1 HZ.out.2.1 .i64 .i64 len len len rfl rfl rfl rfl (by rw [HZ.out.2.2]; omega) (by unfold maxLen; omega) (Nat.le_refl _) ?_; intro w1 hown hgrow; obtain ⟨cur, hcur, hcl⟩ := own_block hown; have HCUR : Hid (w1.heap[w.heap.size]? = some (.cells cur.toArray 5 (0, 0)) ∧ cur.length = len) := ⟨hcur, hcl⟩; have HB1 : Hid (Below w.heap.size w w1) := (Below.refl _ _).grown hgrow (Nat.le_refl _) (fun k hk => by cases hk); clear hown hgrow hcur hcl) | (refine wpList_copy_splice rfl _ _ 22 22 rfl 5 Tryf.underlying22 Tryf.size5 _ _ _ _ _ _ rfl rfl w.heap.size 0 cur 5 HCUR.out.1 X (by rw [HXL.out]; exact (Nat.min_self _).symm) (by rw [HX.out]; exact fun h0 => ⟨rfl, copy_src HR.out HB1.out h0⟩) (by rw [HXL.out, HCUR.out.2]; omega) (by rw [HX.out]; intro v hv; simp only [List.mem_map] at hv; obtain ⟨n, _, rfl⟩ := hv; rfl) w.heap.size w HB1.out (Nat.le_refl _) ?_; intro w2 HG2 hB2))
  go_ret
  have hg2 := HG2.out
  rw [HX.out] at hg2
  exact ⟨rfl, ⟨HR.out.1, .inr ⟨_, 0, rfl, fun i hi => splice_at cur l w2 w.heap.size len HR.out.1 hg2 i hi⟩⟩, hB2⟩

theorem clone_all (a : Option Addr) (len cap : Nat) (l : List Int) (w : World) (h : Row w a len l) (hn : a = none → len = 0 ∧ cap = 0) (hm : len ≤ 1048577) :
    Calls Tryf.prog 6 #[.slice a len cap] w fun e w' => ∃ a', e = .returned (.slice a' len len) ∧ Row w' a' len l ∧ Below w.heap.size w w' := by
  cases a with
  | none =>
    obtain ⟨rfl, rfl⟩ := hn rfl
    refine (clone_nil w).mono ?_
    rintro e w' ⟨rfl, rfl⟩
    exact ⟨_, rfl, h, Below.refl _ _⟩
  | some x =>
    refine (clone_some x len cap l w h hm).mono ?_
    rintro e w' ⟨rfl, h1, h2⟩
    exact ⟨_, rfl, h1, h2⟩
end Go.Proofs.Qxb6605972aFmt
