import Derived.Test.Qxb6613837aTf
namespace Go.Sp

theorem hoff_of_circ2 {bs : List BArc} {V : Nat} (hV : ∀ x ∈ bs, x.a < V ∧ x.b < V) (R : Nat → Bool) (y : BArc → Int) (hy : ∀ x ∈ bs, x.lo ≤ y x ∧ y x ≤ x.hi)
    (hc : ∀ v, v < V → lsm (fun (x : BArc) _ => ind (x.b = v) (y x) - ind (x.a = v) (y x)) 0 bs = 0) : Hoff bs V R := by
  rw [hoff_iff hV]
  have h0 := set_sum hV R (fun x _ => y x)
  rw [sm_zero (fun v hv => by rw [hc v hv]; split <;> rfl)] at h0
  have h1 : lsm (fun (x : BArc) _ => (if R x.b then x.lo else 0) - (if R x.a then x.lo else 0)) 0 bs = lsm (fun (x : BArc) _ => ((if R x.b then x.lo else 0) - (if R x.a then x.lo else 0)) - ((if R x.b then y x else 0) - (if R x.a then y x else 0))) 0 bs := by
    have hs := lsm_sub (fun (x : BArc) _ => (if R x.b then x.lo else 0) - (if R x.a then x.lo else 0)) (fun (x : BArc) _ => (if R x.b then y x else 0) - (if R x.a then y x else 0)) bs 0
    rw [hs]; omega
  rw [h1]
  refine lsm_le (fun j x hx => ?_)
  have := hy x (List.mem_of_getElem? hx)
  cases R x.a <;> cases R x.b <;> simp <;> omega
/-- What a solution sends over each arc. -/
def Inst.yv (I : Inst) (x : Nat → Nat → Int) (a : BArc) : Int :=
  if a.a = 2 * I.k then I.s a.b else if a.b = 2 * I.k + 1 then sm (fun i => x i (a.a - I.k)) I.k else if a.a = 2 * I.k + 1 then I.tot else x a.a (a.b - I.k)
theorem Inst.yv_src (I : Inst) (x : Nat → Nat → Int) (q : Nat) (l h : Int) : I.yv x ⟨2 * I.k, q, l, h⟩ = I.s q := by simp [Inst.yv]
theorem Inst.yv_lnk (I : Inst) (x : Nat → Nat → Int) {q j : Nat} (hq : q < I.k) (hj : j < I.k) (l h : Int) : I.yv x ⟨q, I.k + j, l, h⟩ = x q j := by
  unfold Inst.yv
  rw [if_neg (by show ¬ q = 2 * I.k; omega), if_neg (by show ¬ I.k + j = 2 * I.k + 1; omega), if_neg (by show ¬ q = 2 * I.k + 1; omega)]
  show x q (I.k + j - I.k) = _
  rw [Nat.add_sub_cancel_left]
theorem Inst.yv_snk (I : Inst) (x : Nat → Nat → Int) {q : Nat} (hq : q < I.k) (l h : Int) : I.yv x ⟨I.k + q, 2 * I.k + 1, l, h⟩ = sm (fun i => x i q) I.k := by
  unfold Inst.yv
  rw [if_neg (by show ¬ I.k + q = 2 * I.k; omega), if_pos rfl]
  show sm (fun i => x i (I.k + q - I.k)) I.k = _
  rw [Nat.add_sub_cancel_left]
theorem Inst.yv_back (I : Inst) (x : Nat → Nat → Int) (l h : Int) : I.yv x ⟨2 * I.k + 1, 2 * I.k, l, h⟩ = I.tot := by
  unfold Inst.yv
  rw [if_neg (by show ¬ 2 * I.k + 1 = 2 * I.k; omega), if_neg (by show ¬ 2 * I.k = 2 * I.k + 1; omega), if_pos rfl]
/-- Where there is a solution, the condition holds everywhere. -/
theorem Inst.hoff_of_feas (I : Inst) (hI : I.Fine) {x : Nat → Nat → Int} (h : I.Feas x) (R : Nat → Bool) : Hoff I.bs (2 * I.k + 4) R := by
  have hlk : ∀ i j, i < I.k → j < I.k → (if I.lnk i j then x i j else 0) = x i j := fun i j hi hj => by
    by_cases hl : I.lnk i j = true
    · rw [if_pos hl]
    · rw [if_neg hl, h.none i j hi hj hl]
  have htot : sm (fun j => sm (fun i => x i j) I.k) I.k = I.tot := by
    rw [← sm_swap (fun i j => x i j)]
    exact sm_congr (fun i hi => h.row i hi)
  refine hoff_of_circ2 (fun a ha => by have := I.bs_lt a ha; omega) R (I.yv x) (fun a ha => ?_) (fun v hv => ?_)
  · have ht := I.tot_le hI
    rcases I.bs_mem a ha with ⟨q, hq, rfl⟩ | ⟨q, j, hq, hj, hl, rfl⟩ | ⟨q, hq, rfl⟩ | rfl
    · rw [I.yv_src]; exact ⟨Int.le_refl _, Int.le_refl _⟩
    · rw [I.yv_lnk x hq hj]; exact h.link q j hq hj hl
    · rw [I.yv_snk x hq]; exact h.col q hq
    · rw [I.yv_back]; exact ⟨ht.1, Int.le_refl _⟩
  · rw [I.bs_sum]
    dsimp only
    simp only [I.yv_src, I.yv_back]
    have e1 : sm (fun q => ind (q = v) (I.s q) - ind (2 * I.k = v) (I.s q) + sm (fun j => if I.lnk q j then ind (I.k + j = v) (I.yv x ⟨q, I.k + j, I.lo q j, I.hi q j⟩) - ind (q = v) (I.yv x ⟨q, I.k + j, I.lo q j, I.hi q j⟩) else 0) I.k) I.k
        = sm (fun q => ind (q = v) (I.s q) - ind (2 * I.k = v) (I.s q) + sm (fun j => ind (I.k + j = v) (x q j) - ind (q = v) (x q j)) I.k) I.k := by
      refine sm_congr (fun q hq => ?_)
      congr 1
      refine sm_congr (fun j hj => ?_)
      rw [I.yv_lnk x hq hj]
      by_cases hl : I.lnk q j = true
      · rw [if_pos hl]
      · rw [if_neg hl, h.none q j hq hj hl]; unfold ind; split <;> split <;> rfl
    have e2 : sm (fun q => ind (2 * I.k + 1 = v) (I.yv x ⟨I.k + q, 2 * I.k + 1, I.ilo, I.ihi⟩) - ind (I.k + q = v) (I.yv x ⟨I.k + q, 2 * I.k + 1, I.ilo, I.ihi⟩)) I.k = sm (fun q => ind (2 * I.k + 1 = v) (sm (fun i => x i q) I.k) - ind (I.k + q = v) (sm (fun i => x i q) I.k)) I.k :=
      sm_congr (fun q hq => by rw [I.yv_snk x hq])
    rw [e1, e2]
    by_cases c1 : v < I.k
    · have f1 : sm (fun q => ind (q = v) (I.s q) - ind (2 * I.k = v) (I.s q) + sm (fun j => ind (I.k + j = v) (x q j) - ind (q = v) (x q j)) I.k) I.k = I.s v - sm (fun j => x v j) I.k := by
        have hz : ∀ q, q < I.k → q ≠ v → ind (q = v) (I.s q) - ind (2 * I.k = v) (I.s q) + sm (fun j => ind (I.k + j = v) (x q j) - ind (q = v) (x q j)) I.k = 0 := fun q hq hne => by
          rw [sm_zero (fun j hj => by unfold ind; rw [if_neg (show ¬ I.k + j = v by omega), if_neg hne]; rfl)]
          unfold ind; rw [if_neg hne, if_neg (show ¬ 2 * I.k = v by omega)]; rfl
        rw [sm_one c1 hz]
        have e3 : sm (fun j => ind (I.k + j = v) (x v j) - ind (v = v) (x v j)) I.k = sm (fun j => 0 - x v j) I.k := sm_congr (fun j hj => by unfold ind; rw [if_neg (show ¬ I.k + j = v by omega), if_pos rfl])
        have e4 := sm_sub (fun _ => (0 : Int)) (fun j => x v j) I.k
        have e5 : sm (fun _ => (0 : Int)) I.k = 0 := sm_zero (fun _ _ => rfl)
        rw [e3, e4, e5]
        unfold ind; rw [if_pos rfl, if_neg (show ¬ 2 * I.k = v by omega)]; omega
      have f2 : sm (fun q => ind (2 * I.k + 1 = v) (sm (fun i => x i q) I.k) - ind (I.k + q = v) (sm (fun i => x i q) I.k)) I.k = 0 := sm_zero (fun q hq => by unfold ind; rw [if_neg (show ¬ 2 * I.k + 1 = v by omega), if_neg (show ¬ I.k + q = v by omega)]; rfl)
      rw [f1, f2, h.row v c1]
      unfold ind; rw [if_neg (show ¬ 2 * I.k = v by omega), if_neg (show ¬ 2 * I.k + 1 = v by omega)]; omega
    · by_cases c2 : v < 2 * I.k
      · obtain ⟨p, rfl⟩ : ∃ p, v = I.k + p := ⟨v - I.k, by omega⟩
        have hp : p < I.k := by omega
        have f1 : sm (fun q => ind (q = I.k + p) (I.s q) - ind (2 * I.k = I.k + p) (I.s q) + sm (fun j => ind (I.k + j = I.k + p) (x q j) - ind (q = I.k + p) (x q j)) I.k) I.k = sm (fun q => x q p) I.k := by
          refine sm_congr (fun q hq => ?_)
          rw [sm_one hp (fun j hj hne => by unfold ind; rw [if_neg (show ¬ I.k + j = I.k + p by omega), if_neg (show ¬ q = I.k + p by omega)]; rfl)]
          unfold ind; rw [if_neg (show ¬ q = I.k + p by omega), if_neg (show ¬ 2 * I.k = I.k + p by omega), if_pos rfl]; omega
        have f2 : sm (fun q => ind (2 * I.k + 1 = I.k + p) (sm (fun i => x i q) I.k) - ind (I.k + q = I.k + p) (sm (fun i => x i q) I.k)) I.k = - sm (fun i => x i p) I.k := by
          rw [sm_one hp (fun q hq hne => by unfold ind; rw [if_neg (show ¬ 2 * I.k + 1 = I.k + p by omega), if_neg (show ¬ I.k + q = I.k + p by omega)]; rfl)]
          unfold ind; rw [if_neg (show ¬ 2 * I.k + 1 = I.k + p by omega), if_pos rfl]; omega
        rw [f1, f2]
        unfold ind; rw [if_neg (show ¬ 2 * I.k = I.k + p by omega), if_neg (show ¬ 2 * I.k + 1 = I.k + p by omega)]; omega
      · by_cases c3 : v = 2 * I.k
        · subst c3
          have f1 : sm (fun q => ind (q = 2 * I.k) (I.s q) - ind (2 * I.k = 2 * I.k) (I.s q) + sm (fun j => ind (I.k + j = 2 * I.k) (x q j) - ind (q = 2 * I.k) (x q j)) I.k) I.k = - I.tot := by
            have e3 : sm (fun q => ind (q = 2 * I.k) (I.s q) - ind (2 * I.k = 2 * I.k) (I.s q) + sm (fun j => ind (I.k + j = 2 * I.k) (x q j) - ind (q = 2 * I.k) (x q j)) I.k) I.k = sm (fun q => 0 - I.s q) I.k := sm_congr (fun q hq => by
              rw [sm_zero (fun j hj => by unfold ind; rw [if_neg (show ¬ I.k + j = 2 * I.k by omega), if_neg (show ¬ q = 2 * I.k by omega)]; rfl)]
              unfold ind; rw [if_neg (show ¬ q = 2 * I.k by omega), if_pos rfl]; omega)
            rw [e3, sm_sub, sm_zero (fun _ _ => rfl)]; unfold Inst.tot; omega
          have f2 : sm (fun q => ind (2 * I.k + 1 = 2 * I.k) (sm (fun i => x i q) I.k) - ind (I.k + q = 2 * I.k) (sm (fun i => x i q) I.k)) I.k = 0 := sm_zero (fun q hq => by unfold ind; rw [if_neg (show ¬ 2 * I.k + 1 = 2 * I.k by omega), if_neg (show ¬ I.k + q = 2 * I.k by omega)]; rfl)
          rw [f1, f2]
          unfold ind; rw [if_pos rfl, if_neg (show ¬ 2 * I.k + 1 = 2 * I.k by omega)]; omega
        · have f1 : sm (fun q => ind (q = v) (I.s q) - ind (2 * I.k = v) (I.s q) + sm (fun j => ind (I.k + j = v) (x q j) - ind (q = v) (x q j)) I.k) I.k = 0 := sm_zero (fun q hq => by
            rw [sm_zero (fun j hj => by unfold ind; rw [if_neg (show ¬ I.k + j = v by omega), if_neg (show ¬ q = v by omega)]; rfl)]
            unfold ind; rw [if_neg (show ¬ q = v by omega), if_neg (show ¬ 2 * I.k = v by omega)]; rfl)
          rw [f1]
          by_cases c4 : v = 2 * I.k + 1
          · subst c4
            have f2 : sm (fun q => ind (2 * I.k + 1 = 2 * I.k + 1) (sm (fun i => x i q) I.k) - ind (I.k + q = 2 * I.k + 1) (sm (fun i => x i q) I.k)) I.k = I.tot := by
              rw [← htot]
              exact sm_congr (fun q hq => by unfold ind; rw [if_pos rfl, if_neg (show ¬ I.k + q = 2 * I.k + 1 by omega)]; omega)
            rw [f2]
            unfold ind; rw [if_neg (show ¬ 2 * I.k = 2 * I.k + 1 by omega), if_pos rfl]; omega
          · have f2 : sm (fun q => ind (2 * I.k + 1 = v) (sm (fun i => x i q) I.k) - ind (I.k + q = v) (sm (fun i => x i q) I.k)) I.k = 0 := sm_zero (fun q hq => by unfold ind; rw [if_neg (show ¬ 2 * I.k + 1 = v by omega), if_neg (show ¬ I.k + q = v by omega)]; rfl)
            rw [f2]
            unfold ind; rw [if_neg (show ¬ 2 * I.k = v by omega), if_neg (show ¬ 2 * I.k + 1 = v by omega)]; omega
end Go.Sp
