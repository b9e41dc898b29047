import Derived.Test.Qxb6605922aPlain
namespace Go.Proofs.Qxb6605922a

def isDig (c : Int) : Bool := decide (48 ≤ c ∧ c ≤ 57)
def isHx (c : Int) : Bool := isDig c || decide (97 ≤ low c ∧ low c ≤ 102)
/-- does byte c at index i count as a digit to the function under test -/
def dgt (p : Int) (i : Nat) (c : Int) : Bool := isDig c || (decide (p = 120) && isHx c) || (decide (i = 1) && decide (low c = p))

/-- what the function under test computes, from index i on, the state being prev -/
def mis (p : Int) : List Int → Nat → Int → Int
  | [], i, prev => if prev = 2 then (i : Int) - 1 else -1
  | c :: cs, i, prev =>
    if c = 95 then (if prev = 1 then mis p cs (i + 1) 2 else (i : Int))
    else if dgt p i c = true then mis p cs (i + 1) 1
    else if prev = 2 then (i : Int) - 1 else mis p cs (i + 1) 0

theorem mis_nil2 (p : Int) (i : Nat) : mis p [] i 2 = (i : Int) - 1 := by simp [mis]
theorem mis_nil (p : Int) (i : Nat) (q : Int) (h : q ≠ 2) : mis p [] i q = -1 := by simp [mis, h]
theorem mis_us1 (p : Int) (cs : List Int) (i : Nat) : mis p (95 :: cs) i 1 = mis p cs (i + 1) 2 := by simp [mis]
theorem mis_us (p : Int) (cs : List Int) (i : Nat) (q : Int) (h : q ≠ 1) : mis p (95 :: cs) i q = (i : Int) := by simp [mis, h]
theorem mis_dg (p c : Int) (cs : List Int) (i : Nat) (q : Int) (h : c ≠ 95) (hd : dgt p i c = true) : mis p (c :: cs) i q = mis p cs (i + 1) 1 := by
  simp [mis, h, hd]
theorem mis_ot2 (p c : Int) (cs : List Int) (i : Nat) (h : c ≠ 95) (hd : dgt p i c = false) : mis p (c :: cs) i 2 = (i : Int) - 1 := by
  simp [mis, h, hd]
theorem mis_ot (p c : Int) (cs : List Int) (i : Nat) (q : Int) (h : c ≠ 95) (hd : dgt p i c = false) (hq : q ≠ 2) : mis p (c :: cs) i q = mis p cs (i + 1) 0 := by
  simp [mis, h, hd, hq]

/-- a refusing run, whatever is appended: a trailing separator is refused where nothing was -/
theorem mis_append (p : Int) (l : List Int) : ∀ (i : Nat) (q : Int), (q = 2 → 0 < i) → (q = 0 ∨ q = 1 ∨ q = 2) → mis p l i q = -1 → mis p (l ++ [95]) i q = (i : Int) + l.length := by
  induction l with
  | nil =>
    intro i q hq h3 h
    rcases h3 with rfl | rfl | rfl
    · rw [List.nil_append, mis_us _ _ _ _ (by decide)]; simp
    · rw [List.nil_append, mis_us1, mis_nil2]; simp
    · rw [mis_nil2] at h; have := hq rfl; omega
  | cons c cs ih =>
    intro i q hq h3 h
    have fin : ∀ q', (q' = 0 ∨ q' = 1 ∨ q' = 2) → mis p cs (i + 1) q' = -1 → mis p (cs ++ [95]) (i + 1) q' = (i : Int) + (c :: cs).length := by
      intro q' h3' h'
      rw [ih (i + 1) q' (fun _ => by omega) h3' h']; simp; omega
    rw [List.cons_append]
    by_cases hc : c = 95
    · subst hc
      by_cases h1 : q = 1
      · subst h1; rw [mis_us1] at h ⊢; exact fin 2 (by simp) h
      · rw [mis_us _ _ _ _ h1] at h; omega
    · cases hd : dgt p i c
      · by_cases h2 : q = 2
        · subst h2; rw [mis_ot2 _ _ _ _ hc hd] at h; have := hq rfl; omega
        · rw [mis_ot _ _ _ _ _ hc hd h2] at h ⊢; exact fin 0 (by simp) h
      · rw [mis_dg _ _ _ _ _ hc hd] at h ⊢; exact fin 1 (by simp) h

/-- where it refuses: at an underscore of the list (or at the one just ahead of it, where the state says so), and what stands two past that does not matter -/
theorem mis_refuse (p : Int) (l : List Int) : ∀ (i : Nat) (q : Int), (q = 2 → 0 < i) → (q = 0 ∨ q = 1 ∨ q = 2) → mis p l i q ≠ -1 →
    ∃ r : Nat, mis p l i q = (r : Int) ∧ r < i + l.length ∧ (i ≤ r ∨ (q = 2 ∧ r + 1 = i)) ∧ (i ≤ r → l[r - i]? = some 95) ∧ mis p (l.take (r + 2 - i)) i q = (r : Int) := by
  induction l with
  | nil =>
    intro i q hq h3 h
    by_cases h2 : q = 2
    · subst h2
      have := hq rfl
      refine ⟨i - 1, by rw [mis_nil2]; omega, by simp; omega, .inr ⟨rfl, by omega⟩, fun h => by omega, ?_⟩
      rw [List.take_nil, mis_nil2]; omega
    · exact absurd (mis_nil p i q h2) h
  | cons c cs ih =>
    intro i q hq h3 h
    have fin : ∀ q', (q' = 0 ∨ q' = 1 ∨ q' = 2) → (q' = 2 → c = 95) → (∀ ds, mis p (c :: ds) i q = mis p ds (i + 1) q') → mis p cs (i + 1) q' ≠ -1 →
        ∃ r : Nat, mis p (c :: cs) i q = (r : Int) ∧ r < i + (c :: cs).length ∧ (i ≤ r ∨ (q = 2 ∧ r + 1 = i)) ∧ (i ≤ r → (c :: cs)[r - i]? = some 95) ∧ mis p ((c :: cs).take (r + 2 - i)) i q = (r : Int) := by
      intro q' h3' hc' hstep h'
      obtain ⟨r, e1, e2, e3, e4, e5⟩ := ih (i + 1) q' (fun _ => by omega) h3' h'
      refine ⟨r, by rw [hstep, e1], by simp; omega, .inl (by omega), fun _ => ?_, ?_⟩
      · by_cases hr : i + 1 ≤ r
        · have e6 := e4 hr
          have : r - i = (r - (i + 1)) + 1 := by omega
          rw [this, List.getElem?_cons_succ]; exact e6
        · have hri : r = i := by omega
          subst hri
          rcases e3 with e3 | ⟨e3, _⟩
          · omega
          · simp [hc' e3]
      · have : r + 2 - i = (r + 2 - (i + 1)) + 1 := by omega
        rw [this, List.take_succ_cons, hstep, e5]
    by_cases hc : c = 95
    · by_cases h1 : q = 1
      · subst hc; subst h1
        rw [mis_us1] at h
        exact fin 2 (by simp) (fun _ => rfl) (fun ds => mis_us1 p ds i) h
      · subst hc
        refine ⟨i, mis_us _ _ _ _ h1, by simp, .inl (Nat.le_refl _), fun _ => by simp, ?_⟩
        have : i + 2 - i = 1 + 1 := by omega
        rw [this, List.take_succ_cons, mis_us _ _ _ _ h1]
    · cases hd : dgt p i c
      · by_cases h2 : q = 2
        · subst h2
          have := hq rfl
          refine ⟨i - 1, by rw [mis_ot2 _ _ _ _ hc hd]; omega, by simp; omega, .inr ⟨rfl, by omega⟩, fun h => by omega, ?_⟩
          have e : i - 1 + 2 - i = 0 + 1 := by omega
          rw [e, List.take_succ_cons, mis_ot2 _ _ _ _ hc hd]; omega
        · rw [mis_ot _ _ _ _ _ hc hd h2] at h
          exact fin 0 (by simp) (by simp) (fun ds => mis_ot _ _ _ _ _ hc hd h2) h
      · rw [mis_dg _ _ _ _ _ hc hd] at h
        exact fin 1 (by simp) (by simp) (fun ds => mis_dg _ _ _ _ _ hc hd) h

/-- does byte c at index j count as a digit to the model -/
def sdl (p : Int) (j : Nat) (c : Int) : Bool :=
  isDig c || (decide (p = 120) && decide ((97 ≤ c ∧ c ≤ 102) ∨ (65 ≤ c ∧ c ≤ 70))) ||
  (decide (j = 1) && ((decide (97 ≤ p ∧ p ≤ 122) && decide (c = p ∨ c = p - 32)) || (decide (p = 48) && decide (c = 16))))

/-- is the byte at j an underscore whose neighbours do not fit -/
def bad (p : Int) (l : List Int) (j : Nat) : Bool :=
  decide (l.getD j 0 = 95) && (!(decide (0 < j) && sdl p (j - 1) (l.getD (j - 1) 0)) || !(decide (j + 1 < l.length) && (decide (l.getD (j + 1) 0 = 95) || sdl p (j + 1) (l.getD (j + 1) 0))))
/-- the model's loop: 'f' rounds are left, from index j on -/
def sm (p : Int) (l : List Int) : Nat → Nat → Int
  | 0, _ => -1
  | f + 1, j => if bad p l j = true then (j : Int) else sm p l f (j + 1)

theorem dgt_sdl (p : Int) (i : Nat) (c : Int) (hp : p = 0 ∨ p = 48 ∨ (97 ≤ p ∧ p ≤ 122)) (h0 : 0 ≤ c) (h1 : c ≤ 255) : dgt p i c = sdl p i c := by
  rw [Bool.eq_iff_iff]
  simp only [dgt, sdl, isHx, isDig, Bool.or_eq_true, Bool.and_eq_true, decide_eq_true_eq]
  unfold low
  split <;> omega
theorem sdl_us (p : Int) (i : Nat) : sdl p i 95 = false := by
  rw [Bool.eq_false_iff]
  simp only [sdl, isDig, ne_eq, Bool.or_eq_true, Bool.and_eq_true, decide_eq_true_eq]
  omega

theorem mis_sm_core (p : Int) (l : List Int) (hp : p = 0 ∨ p = 48 ∨ (97 ≤ p ∧ p ≤ 122)) (hb : ∀ j, 0 ≤ l.getD j 0 ∧ l.getD j 0 ≤ 255) : ∀ (n k : Nat), n + k = l.length →
    (mis p (l.drop k) k 1 = sm p l n k ∨ ¬ (0 < k ∧ sdl p (k - 1) (l.getD (k - 1) 0) = true)) ∧
    (mis p (l.drop k) k 0 = sm p l n k ∨ (0 < k ∧ sdl p (k - 1) (l.getD (k - 1) 0) = true)) ∧
    (mis p (l.drop k) k 2 = sm p l (n + 1) (k - 1) ∨ ¬ (0 < k ∧ l.getD (k - 1) 0 = 95 ∧ 1 < k ∧ sdl p (k - 2) (l.getD (k - 2) 0) = true)) := by
  intro n
  induction n with
  | zero =>
    intro k hk
    have hd : l.drop k = [] := List.drop_of_length_le (by omega)
    rw [hd]
    refine ⟨.inl ?_, .inl ?_, ?_⟩
    · rw [mis_nil _ _ _ (by decide)]; rfl
    · rw [mis_nil _ _ _ (by decide)]; rfl
    · by_cases h : 0 < k ∧ l.getD (k - 1) 0 = 95 ∧ 1 < k ∧ sdl p (k - 2) (l.getD (k - 2) 0) = true
      · left
        obtain ⟨h1, h2, h3, h4⟩ := h
        have hbad : bad p l (k - 1) = true := by
          have : ¬ (k - 1 + 1 < l.length) := by omega
          unfold bad; rw [h2]; simp [this]
        rw [mis_nil2]; simp only [sm, hbad, if_true]; omega
      · exact .inr h
  | succ n ih =>
    intro k hk
    have hlt : k < l.length := by omega
    have hd : l.drop k = l.getD k 0 :: l.drop (k + 1) := by
      rw [List.drop_eq_getElem_cons hlt]; simp [hlt]
    obtain ⟨c, hc⟩ : ∃ c, c = l.getD k 0 := ⟨_, rfl⟩
    have hcb := hb k
    rw [hd]
    rw [← hc] at hcb ⊢
    obtain ⟨i1, i0, i2⟩ := ih (k + 1) (by omega)
    simp only [Nat.add_sub_cancel, show k + 1 - 2 = k - 1 by omega, ← hc] at i1 i0 i2
    have hds := dgt_sdl p k c hp hcb.1 hcb.2
    by_cases h95 : c = 95
    · subst h95
      have hu := sdl_us p k
      have badl : ¬ (0 < k ∧ sdl p (k - 1) (l.getD (k - 1) 0) = true) → bad p l k = true := by
        intro h
        unfold bad; rw [← hc]
        by_cases h1 : 0 < k
        · have : sdl p (k - 1) (l.getD (k - 1) 0) = false := by
            cases h2 : sdl p (k - 1) (l.getD (k - 1) 0)
            · rfl
            · exact absurd ⟨h1, h2⟩ h
          rw [this]; simp
        · simp [h1]
      refine ⟨?_, ?_, ?_⟩
      · by_cases h : 0 < k ∧ sdl p (k - 1) (l.getD (k - 1) 0) = true
        · left; rw [mis_us1]
          rcases i2 with i2 | i2
          · exact i2
          · exact absurd ⟨by omega, rfl, by omega, h.2⟩ i2
        · exact .inr h
      · by_cases h : 0 < k ∧ sdl p (k - 1) (l.getD (k - 1) 0) = true
        · exact .inr h
        · left; rw [mis_us _ _ _ _ (by decide)]; simp only [sm, badl h, if_true]
      · by_cases h : 0 < k ∧ l.getD (k - 1) 0 = 95 ∧ 1 < k ∧ sdl p (k - 2) (l.getD (k - 2) 0) = true
        · left
          obtain ⟨h1, h2, h3, h4⟩ := h
          have nb : bad p l (k - 1) = false := by
            have e1 : k - 1 + 1 = k := by omega
            have e2 : k - 1 - 1 = k - 2 := by omega
            have e3 : 0 < k - 1 := by omega
            unfold bad; rw [e1, e2, h2, ← hc, h4]; simp [hlt, e3]
          have hb2 : bad p l k = true := badl (by rw [h2, sdl_us p _]; simp)
          rw [mis_us _ _ _ _ (by decide)]
          have e1 : k - 1 + 1 = k := by omega
          simp only [sm, nb, e1, hb2, if_true]; simp
        · exact .inr h
    · have nbk : bad p l k = false := by unfold bad; rw [← hc]; simp [h95]
      have smk : sm p l (n + 1) k = sm p l n (k + 1) := by simp [sm, nbk]
      cases hs : sdl p k c
      · rw [hs] at hds i1 i0
        have m0 : mis p (l.drop (k + 1)) (k + 1) 0 = sm p l n (k + 1) := by
          rcases i0 with i0 | i0
          · exact i0
          · exact absurd i0.2 (by decide)
        refine ⟨.inl ?_, .inl ?_, ?_⟩
        · rw [mis_ot _ _ _ _ _ h95 hds (by decide), smk, m0]
        · rw [mis_ot _ _ _ _ _ h95 hds (by decide), smk, m0]
        · by_cases h : 0 < k ∧ l.getD (k - 1) 0 = 95 ∧ 1 < k ∧ sdl p (k - 2) (l.getD (k - 2) 0) = true
          · left
            obtain ⟨h1, h2, h3, h4⟩ := h
            have hb1 : bad p l (k - 1) = true := by
              have e1 : k - 1 + 1 = k := by omega
              unfold bad; rw [e1, h2, ← hc, hs]; simp [h95]
            rw [mis_ot2 _ _ _ _ h95 hds]; simp only [sm, hb1, if_true]; omega
          · exact .inr h
      · rw [hs] at hds i1 i0
        have m1 : mis p (l.drop (k + 1)) (k + 1) 1 = sm p l n (k + 1) := by
          rcases i1 with i1 | i1
          · exact i1
          · exact absurd ⟨by omega, rfl⟩ i1
        refine ⟨.inl ?_, .inl ?_, ?_⟩
        · rw [mis_dg _ _ _ _ _ h95 hds, smk, m1]
        · rw [mis_dg _ _ _ _ _ h95 hds, smk, m1]
        · by_cases h : 0 < k ∧ l.getD (k - 1) 0 = 95 ∧ 1 < k ∧ sdl p (k - 2) (l.getD (k - 2) 0) = true
          · left
            obtain ⟨h1, h2, h3, h4⟩ := h
            have nb : bad p l (k - 1) = false := by
              have e1 : k - 1 + 1 = k := by omega
              have e2 : k - 1 - 1 = k - 2 := by omega
              have e3 : 0 < k - 1 := by omega
              unfold bad; rw [e1, e2, h2, ← hc, h4, hs]; simp [hlt, e3]
            have e1 : k - 1 + 1 = k := by omega
            have e2 : sm p l (n + 1 + 1) (k - 1) = sm p l (n + 1) k := by
              rw [show sm p l (n + 1 + 1) (k - 1) = if bad p l (k - 1) = true then ((k - 1 : Nat) : Int) else sm p l (n + 1) (k - 1 + 1) from rfl, nb, e1]; simp
            rw [mis_dg _ _ _ _ _ h95 hds, e2, smk, m1]
          · exact .inr h

/-- THE LAW, no Go in sight -/
theorem mis_sm (p : Int) (l : List Int) (hp : p = 0 ∨ p = 48 ∨ (97 ≤ p ∧ p ≤ 122)) (hb : ∀ j, 0 ≤ l.getD j 0 ∧ l.getD j 0 ≤ 255) : mis p l 0 0 = sm p l l.length 0 := by
  have h := (mis_sm_core p l hp hb l.length 0 (by omega)).2.1
  rw [List.drop_zero] at h
  rcases h with h | h
  · exact h
  · omega

end Go.Proofs.Qxb6605922a
