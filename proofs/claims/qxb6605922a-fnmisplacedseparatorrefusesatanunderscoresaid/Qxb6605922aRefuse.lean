import Derived.Test.Qxb6605922aAll
namespace Go.Proofs.Qxb6605922a
open Go.ChangeShapes Go.WideShapes Go.ChangeAt Go.RowKit

theorem Row.below {w w' : World} {a : Option Addr} {len : Nat} {l : List Int} (h : Row w a len l) (hb : Below w.heap.size w w') : Row w' a len l := by
  obtain ⟨h1, h2, h3⟩ := h
  refine ⟨h1, h2, ?_⟩
  rcases h3 with h3 | ⟨b, off, rfl, h3⟩
  · exact .inl h3
  · exact .inr ⟨b, off, rfl, fun i hi => (hb.cell (by exact (block_lt_of_cell (h3 i hi)))).trans (h3 i hi)⟩
theorem getD_snoc (l : List Int) (k : Nat) (h : k < l.length) : (l ++ [95]).getD k 0 = l.getD k 0 := by
  simp [List.getElem?_append_left, h]
theorem getD_snoc_last (l : List Int) : (l ++ [95]).getD l.length 0 = 95 := by
  simp

theorem bytes_snoc (l : List Int) (h : ∀ j, 0 ≤ l.getD j 0 ∧ l.getD j 0 ≤ 255) (j : Nat) : 0 ≤ (l ++ [95]).getD j 0 ∧ (l ++ [95]).getD j 0 ≤ 255 := by
  by_cases h1 : j < l.length
  · rw [getD_snoc l j h1]; exact h j
  · by_cases h2 : j = l.length
    · subst h2; rw [getD_snoc_last]; decide
    · have : (l ++ [95]).getD j 0 = 0 := by
        rw [List.getD_eq_getElem?_getD, List.getElem?_eq_none (by simp; omega)]; rfl
      rw [this]; decide

set_option maxHeartbeats 1600000 in
theorem refuses_no (a : Option Addr) (len cap : Nat) (l : List Int) (p : Int) (w : World) (h : Row w a len l) (hn : a = none → len = 0 ∧ cap = 0) (hm : len ≤ 65536) (hr : mis p l 0 0 = -1) :
    Calls Try.prog 4 #[.slice a len cap, .int .i32 p] w fun e w' => e = .returned (.bool true) ∧ Below w.heap.size w w' := by
  have H : Hid (Row w a len l) := h
  have HN : Hid (a = none → len = 0 ∧ cap = 0) := hn
  have HA : Hid (mis p (l ++ [95]) 0 0 = (len : Int)) := by
    have e := mis_append p l 0 0 (by decide) (.inl rfl) hr
    rw [h.1] at e; show _ = _; simpa using e
  have HL : Hid (l.length = len) := h.1
  clear h hn
  obtain ⟨i0, hi, hz0, hz1, hz2⟩ := info_parts Try.info5
  have HI : Hid (Try.prog.info? 5 = some i0) := hi
  have HZ : Hid (i0.zero = some (.int .u8 0) ∧ i0.size = 1 ∧ i0.bytes = 1) := ⟨hz0, hz1, hz2⟩
  clear hi hz0 hz1 hz2
  go_enter Try.func4, Try.ntmps4
  go_wp2_with (go_at_call 11; refine (bytes11_any _ _ _ _ _ (by omega)).mono ?_; rintro e w' ⟨rfl, rfl⟩)
  refine (copy_all _ _ _ l _ H.out HN.out (by omega)).mono ?_
  rintro e w1 ⟨a', rfl, hrow, hbel⟩
  have HR : Hid (Row w1 a' len l) := hrow
  have HW : Hid (Below _ _ w1) := hbel
  clear hrow hbel H HN
  go_wp2_with fail
  refine (zz_all _ _ _ l _ _ HR.out (by omega)).mono ?_
  rintro e w2 ⟨rfl, hw2⟩
  subst hw2
  go_wp2_with (at_make; refine wpList_make_full _ rfl _ _ 22 rfl w2.heap.size 5 i0 (.int .u8 0) 1 Try.underlying22 HI.out HZ.out.1 HZ.out.2.1 .i64 .i64 _ _ (len + 1) rfl rfl (by omega) (by omega) (by rw [HZ.out.2.2]; omega) (by unfold maxLen; omega) (Nat.le_refl _) ?_; intro w3 hown hgrow)
  have HL' : Hid ((l ++ [95]).length = len + 1) := by show _ = _; rw [List.length_append, HL.out]; rfl
  go_loopw [8] (fun i wr => ∃ k : Nat, k ≤ len ∧ i = .int .i64 k ∧ CopyRel w2.heap.size (len + 1) w2 wr (l ++ [95]) k) (fun i _ => len - (intOf i).toNat)
  case atStart => exact ⟨0, Nat.zero_le _, rfl, CopyRel.start hown hgrow⟩
  case round =>
    obtain ⟨k, hk, rfl, hR⟩ := hrel
    clear hown hgrow
    by_cases hlt : k < len
    · obtain ⟨b', off', e', hc'⟩ : ∃ b off, a' = some ⟨b, off, none⟩ ∧ ∀ i, i < len → w2.cell? ⟨b, off + i, none⟩ = some (.int .u8 (l.getD i 0)) := by
        rcases HR.out.2.2 with h0 | h0
        · omega
        · exact h0
      subst e'
      have hcx : wr.cell? ⟨b', off' + k, none⟩ = some (.int .u8 (l.getD k 0)) := (hR.2.cell (block_lt_of_cell (hc' k hlt))).trans (hc' k hlt)
      obtain ⟨hcB, hfB⟩ := hR.cells HL'.out (by omega)
      have R := hR.step HL'.out (by omega)
      rw [getD_snoc l k (by rw [HL.out]; exact hlt)] at R
      have RH : Hid (CopyRel w2.heap.size (len + 1) w2 (wr.setCell ⟨w2.heap.size, k, none⟩ (.int .u8 (l.getD k 0))) (l ++ [95]) (k + 1)) := R
      generalize l.getD k 0 = c at hcx RH
      clear R hR hc'
      go_wp2
      go_roundw
      case rel => exact ⟨k + 1, by omega, by go_num, RH.out⟩
      case measure => simp [intOf]; omega
    · have hke : k = len := by omega
      subst hke
      obtain ⟨hcB, hfB⟩ := hR.cells HL'.out (by omega)
      have R := hR.step HL'.out (by omega)
      have e95 := getD_snoc_last l
      rw [HL.out] at e95
      rw [e95] at R
      have hrow2 : Row (wr.setCell ⟨w2.heap.size, k, none⟩ (.int .u8 95)) (some ⟨w2.heap.size, 0, none⟩) (k + 1) (l ++ [95]) := by
        refine ⟨HL'.out, bytes_snoc l HR.out.2.1, .inr ⟨_, 0, rfl, fun i hi => R.full HL'.out i hi⟩⟩
      have HR2 : Hid (Row (wr.setCell ⟨w2.heap.size, k, none⟩ (.int .u8 95)) (some ⟨w2.heap.size, 0, none⟩) (k + 1) (l ++ [95])) := hrow2
      have HB2 : Hid (Below w2.heap.size w2 (wr.setCell ⟨w2.heap.size, k, none⟩ (.int .u8 95))) := R.2
      clear R hR e95 hrow2
      go_wp2_with (go_at_call 9; refine (zz_all _ _ _ (l ++ [95]) _ _ HR2.out (by omega)).mono ?_; rintro e w5 ⟨rfl, hw5⟩; subst hw5)
      go_ret
      refine ⟨ret_bool (by rw [HA.out]; simp), ?_⟩
      exact HW.out.trans (HB2.out.mono HW.out.size)

theorem Row.cut {w : World} {a : Option Addr} {len : Nat} {l : List Int} (h : Row w a len l) (n : Nat) (hn : n ≤ len) : Row w a n (l.take n) := by
  obtain ⟨h1, h2, h3⟩ := h
  have e : ∀ i, i < n → (l.take n).getD i 0 = l.getD i 0 := fun i hi => by
    rw [List.getD_eq_getElem?_getD, List.getD_eq_getElem?_getD, List.getElem?_take, if_pos hi]
  refine ⟨by simp; omega, fun j => ?_, ?_⟩
  · by_cases hj : j < n
    · rw [e j hj]; exact h2 j
    · rw [List.getD_eq_getElem?_getD, List.getElem?_take, if_neg hj]; decide
  · rcases h3 with h3 | ⟨b, off, rfl, h3⟩
    · exact .inl (by omega)
    · exact .inr ⟨b, off, rfl, fun i hi => by rw [e i hi]; exact h3 i (by omega)⟩

set_option maxHeartbeats 1600000 in
theorem refuses_yes (a : Option Addr) (len cap : Nat) (l : List Int) (p : Int) (w : World) (h : Row w a len l) (hn : a = none → len = 0 ∧ cap = 0) (hm : len ≤ 65536) (r : Nat) (hr : mis p l 0 0 = (r : Int))
    (hlt : r < len) (h95 : l[r]? = some 95) (hcut : mis p (l.take (r + 2)) 0 0 = (r : Int)) :
    Calls Try.prog 4 #[.slice a len cap, .int .i32 p] w fun e w' => e = .returned (.bool true) ∧ Below w.heap.size w w' := by
  have H : Hid (Row w a len l) := h
  have HN : Hid (a = none → len = 0 ∧ cap = 0) := hn
  have HC : Hid (mis p (l.take (r + 2)) 0 0 = (r : Int)) := hcut
  have H95 : Hid (l[r]? = some 95) := h95
  have HL : Hid (l.length = len) := h.1
  clear h hn hcut h95
  go_enter Try.func4, Try.ntmps4
  go_wp2_with (go_at_call 11; refine (bytes11_any _ _ _ _ _ (by omega)).mono ?_; rintro e w' ⟨rfl, rfl⟩)
  refine (copy_all _ _ _ l _ H.out HN.out (by omega)).mono ?_
  rintro e w1 ⟨a', rfl, hrow, hbel⟩
  have HR : Hid (Row w1 a' len l) := hrow
  have HW : Hid (Below _ _ w1) := hbel
  clear hrow hbel H HN
  go_wp2_with fail
  refine (zz_all _ _ _ l _ _ HR.out (by omega)).mono ?_
  rintro e w2 ⟨rfl, hw2⟩
  subst hw2
  obtain ⟨b', off', e', hc'⟩ : ∃ b off, a' = some ⟨b, off, none⟩ ∧ ∀ i, i < len → w2.cell? ⟨b, off + i, none⟩ = some (.int .u8 (l.getD i 0)) := by
    rcases HR.out.2.2 with h0 | h0
    · omega
    · exact h0
  subst e'
  have hcr : w2.cell? ⟨b', off' + r, none⟩ = some (.int .u8 95) := by
    rw [hc' r hlt, List.getD_eq_getElem?_getD, H95.out]; rfl
  clear hc'
  by_cases hk : len < r + 2
  · go_wp2_with (go_at_call 9; refine (zz_all _ _ _ l _ _ HR.out (by omega)).mono ?_; rintro e w5 ⟨rfl, hw5⟩; subst hw5)
    go_ret
    exact ⟨rfl, HW.out⟩
  · have HR2 : Hid (Row w2 (some ⟨b', off', none⟩) (r + 2) (l.take (r + 2))) := HR.out.cut (r + 2) (by omega)
    go_wp2_with (go_at_call 9; refine (zz_all _ _ _ (l.take (r + 2)) _ _ HR2.out (by omega)).mono ?_; rintro e w5 ⟨rfl, hw5⟩; subst hw5)
    go_ret
    exact ⟨ret_bool (by rw [HC.out]; simp), HW.out⟩
end Go.Proofs.Qxb6605922a
