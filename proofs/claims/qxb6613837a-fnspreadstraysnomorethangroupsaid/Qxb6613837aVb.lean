import Derived.Test.Qxb6613837aVa
namespace Go.Sp

def b2 (b : Bool) : Int := if b then 1 else 0
theorem b2_01 (b : Bool) : 0 ≤ b2 b ∧ b2 b ≤ 1 := by cases b <;> simp [b2]
/-- How many of the first n fit. -/
def cn (f : Nat → Bool) (n : Nat) : Int := sm (fun i => b2 (f i)) n
/-- What the nodes of j's host hold together. -/
def hsum (e : Nat → Nat → Bool) (s : Nat → Int) (k j : Nat) : Int := sm (fun i => if e i j then s i else 0) k
def hcnt (e : Nat → Nat → Bool) (k j : Nat) : Int := cn (fun i => e i j) k
theorem cn_not (f : Nat → Bool) (n : Nat) : cn (fun i => !f i) n = n - cn f n := by
  unfold cn
  have h := sm_add (fun i => b2 (!f i)) (fun i => b2 (f i)) n
  have h2 : sm (fun i => b2 (!f i) + b2 (f i)) n = sm (fun _ => 1) n := sm_congr (fun i _ => by cases f i <;> simp [b2])
  rw [sm_const] at h2
  dsimp only
  omega
theorem cn_le {f g : Nat → Bool} {n : Nat} (h : ∀ i, i < n → f i = true → g i = true) : cn f n ≤ cn g n := sm_le (fun i hi => by
  have := h i hi
  cases hf : f i <;> cases hg : g i <;> simp_all [b2])
theorem cn_zero {f : Nat → Bool} {n : Nat} (h : ∀ i, i < n → f i = false) : cn f n = 0 := sm_zero (fun i hi => by rw [h i hi]; rfl)
theorem cn_pos {f : Nat → Bool} {n i : Nat} (hi : i < n) (h : f i = true) : 1 ≤ cn f n := by
  have := sm_mem (f := fun i => b2 (f i)) hi (fun q _ => (b2_01 _).1)
  unfold cn
  simp only [h] at this
  exact this
/-- Gale's condition, in the form that the cuts ask for. -/
theorem Inst.hoff_of_gale (I : Inst) (hI : I.Fine) (e : Nat → Nat → Bool) (hsym : ∀ i j, e i j = e j i) (htr : ∀ i j q, e i j = true → e j q = true → e i q = true)
    (hlnk : ∀ i j, i < I.k → j < I.k → I.lnk i j = !e i j) (hb : ∀ i j, i < I.k → j < I.k → I.lnk i j = true → I.lo i j = 0 ∧ I.hi i j = I.s i)
    (h1 : ∀ j, j < I.k → hsum e I.s I.k j + I.ilo * hcnt e I.k j ≤ I.tot) (h2 : ∀ j, j < I.k → hsum e I.s I.k j ≤ I.ihi * (I.k - hcnt e I.k j)) (h3 : I.ilo * I.k ≤ I.tot) (h4 : I.tot ≤ I.ihi * I.k) (R : Nat → Bool) : Hoff I.bs (2 * I.k + 4) R := by
  have hs0 : ∀ q, q < I.k → 0 ≤ I.s q := fun q hq => (hI.s0 q hq).1
  have hil := hI.i0
  have ht0 := (I.tot_le hI).1
  -- what the links carry out of the set
  let W : Nat → Int := fun q => sm (fun j => if I.lnk q j then (if R q && !R (I.k + j) then I.s q else 0) else 0) I.k
  let A : Nat → Int := fun q => if R q then I.s q else 0
  have hW0 : ∀ q, q < I.k → 0 ≤ W q := fun q hq => sm_nonneg (fun j _ => by have := hs0 q hq; split; split; exact this; exact Int.le_refl _; exact Int.le_refl _)
  have hWj : ∀ q j, q < I.k → j < I.k → e q j = false → R (I.k + j) = false → A q ≤ W q := fun q j hq hj hne hr => by
    have hs := hs0 q hq
    have hl : I.lnk q j = true := by rw [hlnk q j hq hj, hne]; rfl
    have h := sm_mem (f := fun j => if I.lnk q j then (if R q && !R (I.k + j) then I.s q else 0) else 0) hj (fun j _ => by split; split; exact hs; exact Int.le_refl _; exact Int.le_refl _)
    simp only [hl, hr, if_true, Bool.not_false, Bool.and_true] at h
    exact h
  have hA : ∀ q, q < I.k → A q ≤ I.s q := fun q hq => by have := hs0 q hq; show (if R q then I.s q else 0) ≤ _; split <;> omega
  -- the three ways in which the consumers outside the set lie
  have key : ∃ D : Int, sm A I.k - sm W I.k ≤ D ∧ D + I.ilo * cn (fun j => !R (I.k + j)) I.k ≤ I.tot ∧ D ≤ I.ihi * cn (fun j => R (I.k + j)) I.k := by
    have hnot := cn_not (fun j => R (I.k + j)) I.k
    have hcb : 0 ≤ cn (fun j => R (I.k + j)) I.k := sm_nonneg (fun _ _ => (b2_01 _).1)
    have hnb : 0 ≤ cn (fun j => !R (I.k + j)) I.k := sm_nonneg (fun _ _ => (b2_01 _).1)
    by_cases hall : ∀ j, j < I.k → R (I.k + j) = true
    · refine ⟨I.tot, ?_, ?_, ?_⟩
      · have a1 := sm_le (f := A) (g := I.s) (n := I.k) hA
        have a2 := sm_nonneg (f := W) (n := I.k) hW0
        unfold Inst.tot; omega
      · rw [cn_zero (fun j hj => by rw [hall j hj]; rfl)]; omega
      · rw [cn_zero (f := fun j => !R (I.k + j)) (fun j hj => by rw [hall j hj]; rfl)] at hnot
        rw [show cn (fun j => R (I.k + j)) I.k = I.k by omega]; exact h4
    · obtain ⟨j0, hj0⟩ := Classical.not_forall.1 hall
      obtain ⟨hj0k, hr0⟩ := Classical.not_imp.1 hj0
      have hr0 : R (I.k + j0) = false := by simpa using hr0
      by_cases hone : ∀ j, j < I.k → R (I.k + j) = false → e j0 j = true
      · have hle : cn (fun j => !R (I.k + j)) I.k ≤ hcnt e I.k j0 := cn_le (fun j hj hr => by rw [hsym]; exact hone j hj (by simpa using hr))
        refine ⟨hsum e I.s I.k j0, ?_, ?_, ?_⟩
        · have h := sm_le (f := fun q => A q - W q) (g := fun q => if e q j0 then I.s q else 0) (n := I.k) (fun q hq => by
            cases he : e q j0 with
            | true => rw [if_pos rfl]; have := hA q hq; have := hW0 q hq; omega
            | false => rw [if_neg (by simp)]; have := hWj q j0 hq hj0k he hr0; omega)
          rw [sm_sub] at h
          exact h
        · have a1 := Int.mul_le_mul_of_nonneg_left hle hil.1
          have a2 := h1 j0 hj0k
          omega
        · have a1 : I.ihi * (I.k - hcnt e I.k j0) ≤ I.ihi * cn (fun j => R (I.k + j)) I.k := Int.mul_le_mul_of_nonneg_left (by omega) (by omega)
          have a2 := h2 j0 hj0k
          omega
      · obtain ⟨j1, hj1⟩ := Classical.not_forall.1 hone
        obtain ⟨hj1k, hj1⟩ := Classical.not_imp.1 hj1
        obtain ⟨hr1, he01⟩ := Classical.not_imp.1 hj1
        refine ⟨0, ?_, ?_, ?_⟩
        · have h := sm_le (f := A) (g := W) (n := I.k) (fun q hq => by
            cases he : e q j0 with
            | false => exact hWj q j0 hq hj0k he hr0
            | true =>
              cases he1 : e q j1 with
              | false => exact hWj q j1 hq hj1k he1 hr1
              | true => exact absurd (htr j0 q j1 (by rw [hsym]; exact he) he1) he01)
          omega
        · have hle : cn (fun j => !R (I.k + j)) I.k ≤ I.k := by omega
          have a1 := Int.mul_le_mul_of_nonneg_left hle hil.1
          omega
        · exact Int.mul_nonneg (by omega) hcb
  obtain ⟨D, k1, k2, k3⟩ := key
  rw [hoff_iff (fun a ha => by have := I.bs_lt a ha; omega), I.bs_sum, I.bs_sum]
  dsimp only
  have l1 : sm (fun q => (if R q then I.s q else 0) - (if R (2 * I.k) then I.s q else 0) + sm (fun j => if I.lnk q j then (if R (I.k + j) then I.lo q j else 0) - (if R q then I.lo q j else 0) else 0) I.k) I.k = sm A I.k - (if R (2 * I.k) then I.tot else 0) := by
    have e1 : sm (fun q => (if R q then I.s q else 0) - (if R (2 * I.k) then I.s q else 0) + sm (fun j => if I.lnk q j then (if R (I.k + j) then I.lo q j else 0) - (if R q then I.lo q j else 0) else 0) I.k) I.k = sm (fun q => A q - (if R (2 * I.k) then I.s q else 0)) I.k := sm_congr (fun q hq => by
      rw [sm_zero (fun j hj => by
        by_cases hl : I.lnk q j = true
        · rw [if_pos hl, (hb q j hq hj hl).1]; split <;> split <;> rfl
        · rw [if_neg hl])]
      show _ = (if R q then I.s q else 0) - _
      omega)
    rw [e1, sm_sub]
    congr 1
    split
    · rfl
    · exact sm_zero (fun _ _ => rfl)
  have l2 : sm (fun q => (if R (2 * I.k + 1) then I.ilo else 0) - (if R (I.k + q) then I.ilo else 0)) I.k = (if R (2 * I.k + 1) then I.ilo * I.k else 0) - I.ilo * cn (fun j => R (I.k + j)) I.k := by
    rw [sm_sub]
    congr 1
    · split
      · exact sm_const _ _
      · exact sm_zero (fun _ _ => rfl)
    · unfold cn; rw [← sm_mul]; exact sm_congr (fun j _ => by unfold b2; split <;> simp)
  have r1 : sm (fun q => (if R (2 * I.k) && !R q then I.s q - I.s q else 0) + sm (fun j => if I.lnk q j then (if R q && !R (I.k + j) then I.hi q j - I.lo q j else 0) else 0) I.k) I.k = sm W I.k := sm_congr (fun q hq => by
    have : sm (fun j => if I.lnk q j then (if R q && !R (I.k + j) then I.hi q j - I.lo q j else 0) else 0) I.k = W q := sm_congr (fun j hj => by
      by_cases hl : I.lnk q j = true
      · rw [if_pos hl, if_pos hl, (hb q j hq hj hl).1, (hb q j hq hj hl).2, Int.sub_zero]
      · rw [if_neg hl, if_neg hl])
    rw [this]
    split <;> omega)
  have r2 : sm (fun q => if R (I.k + q) && !R (2 * I.k + 1) then I.ihi - I.ilo else 0) I.k = if R (2 * I.k + 1) then 0 else (I.ihi - I.ilo) * cn (fun j => R (I.k + j)) I.k := by
    cases ht : R (2 * I.k + 1) with
    | true => rw [if_pos rfl]; exact sm_zero (fun _ _ => by simp)
    | false => rw [if_neg (by simp)]; unfold cn; rw [← sm_mul]; exact sm_congr (fun j _ => by show (if R (I.k + j) && !false then I.ihi - I.ilo else 0) = (I.ihi - I.ilo) * (if R (I.k + j) then 1 else 0); cases R (I.k + j) <;> simp)
  rw [l1, l2, r1, r2]
  have hnot := cn_not (fun j => R (I.k + j)) I.k
  rw [hnot, Int.mul_sub] at k2
  rw [Int.sub_mul]
  cases ht : R (2 * I.k + 1) <;> cases hsg : R (2 * I.k) <;> simp <;> omega
end Go.Sp
