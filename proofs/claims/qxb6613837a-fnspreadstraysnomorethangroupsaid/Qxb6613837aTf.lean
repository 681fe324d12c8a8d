import Derived.Test.Qxb6613837aTi
namespace Go.Sp

theorem lsm_bound {β : Type} {φ : β → Nat → Int} {C : Int} : ∀ {l : List β} {n : Nat}, (∀ j x, l[j]? = some x → φ x (n + j) ≤ C) → lsm φ n l ≤ C * l.length
  | [], _, _ => by simp [lsm]
  | x :: t, n, h => by
    have h1 : φ x n ≤ C := h 0 x rfl
    have h2 := lsm_bound (φ := φ) (C := C) (l := t) (n := n + 1) (fun j y hy => by rw [show n + 1 + j = n + (j + 1) by omega]; exact h (j + 1) y (by simpa using hy))
    show φ x n + lsm φ (n + 1) t ≤ C * ((t.length + 1 : Nat) : Int)
    rw [Int.natCast_succ, Int.mul_add]; omega
theorem ex_bound {bs : List BArc} (h : ∀ x ∈ bs, 0 ≤ x.lo ∧ x.lo ≤ 1000000) (v : Nat) : -(1000000 * bs.length) ≤ exOf bs v ∧ exOf bs v ≤ 1000000 * bs.length := by
  have h1 : exOf bs v ≤ 1000000 * bs.length := lsm_bound (fun j x hx => by
    have := h x (List.mem_of_getElem? hx)
    unfold ind; split <;> split <;> omega)
  have h2 : lsm (fun (x : BArc) _ => 0 - (ind (x.b = v) x.lo - ind (x.a = v) x.lo)) 0 bs ≤ 1000000 * bs.length := lsm_bound (fun j x hx => by
    have := h x (List.mem_of_getElem? hx)
    unfold ind; split <;> split <;> omega)
  have h3 := lsm_sub (fun (_ : BArc) _ => (0 : Int)) (fun (x : BArc) _ => ind (x.b = v) x.lo - ind (x.a = v) x.lo) bs 0
  have h4 := lsm_zero (φ := fun (_ : BArc) _ => (0 : Int)) (l := bs) (n := 0) (fun _ _ _ => rfl)
  unfold exOf at *
  omega
theorem S0_bound {V : Nat} {es : List Arc} {C : Int} (h : ∀ x ∈ es, 0 ≤ x.c ∧ x.c ≤ C) (v : Nat) : (grOf V es).S (r0Of es) v ≤ C * es.length := by
  rw [S_lsm]
  refine lsm_bound (fun j x hx => ?_)
  rw [Nat.zero_add]
  obtain ⟨h1, h2⟩ := r0_even hx
  have := h x (List.mem_of_getElem? hx)
  rw [h1, h2]
  unfold ind; split <;> split <;> omega
theorem Inst.bs_len (I : Inst) (hI : I.Fine) : I.bs.length ≤ 70000 := by
  have h1 := I.blks_len I.k
  have h2 := I.snks_len I.k
  have hk := hI.kb
  have h3 : I.k * (I.k + 1) ≤ 256 * 257 := Nat.mul_le_mul hk (by omega)
  unfold Inst.bs
  rw [List.length_append, List.length_append, h2]
  simp; omega
theorem Inst.tot_le (I : Inst) (hI : I.Fine) : 0 ≤ I.tot ∧ I.tot ≤ 256000000 := by
  have h1 : 0 ≤ I.tot := sm_nonneg (fun i hi => (hI.s0 i hi).1)
  have h2 : I.tot ≤ sm (fun _ => 1000000) I.k := sm_le (fun i hi => (hI.s0 i hi).2)
  rw [sm_const] at h2
  have := hI.kb
  omega
theorem Inst.bs_lo (I : Inst) (hI : I.Fine) (x : BArc) (h : x ∈ I.bs) : 0 ≤ x.lo ∧ x.lo ≤ 1000000 := by
  rcases I.bs_mem x h with ⟨q, hq, rfl⟩ | ⟨q, j, hq, hj, hl, rfl⟩ | ⟨q, hq, rfl⟩ | rfl
  · exact hI.s0 q hq
  · have := hI.l0 q j hq hj hl; exact ⟨this.1, this.2.1⟩
  · have := hI.i0; exact ⟨this.1, by show I.ilo ≤ _; omega⟩
  · exact ⟨Int.le_refl _, by show (0 : Int) ≤ 1000000; omega⟩
theorem Inst.bs_cap (I : Inst) (hI : I.Fine) (hok : ∀ i j, i < I.k → j < I.k → I.lnk i j = true → I.lo i j ≤ I.hi i j) (x : BArc) (h : x ∈ I.bs) : 0 ≤ x.hi - x.lo ∧ x.hi - x.lo ≤ 256000000 := by
  have ht := I.tot_le hI
  rcases I.bs_mem x h with ⟨q, hq, rfl⟩ | ⟨q, j, hq, hj, hl, rfl⟩ | ⟨q, hq, rfl⟩ | rfl
  · have := hI.s0 q hq; show 0 ≤ I.s q - I.s q ∧ _; constructor
    · omega
    · show I.s q - I.s q ≤ _; omega
  · have := hI.l0 q j hq hj hl; have := hok q j hq hj hl; show 0 ≤ I.hi q j - I.lo q j ∧ I.hi q j - I.lo q j ≤ _; omega
  · have := hI.i0; show 0 ≤ I.ihi - I.ilo ∧ I.ihi - I.ilo ≤ _; omega
  · show 0 ≤ I.tot - 0 ∧ I.tot - 0 ≤ _; omega
/-- What transport promises of its shares. -/
structure Inst.Feas (I : Inst) (x : Nat → Nat → Int) : Prop where
  link : ∀ i j, i < I.k → j < I.k → I.lnk i j = true → I.lo i j ≤ x i j ∧ x i j ≤ I.hi i j
  none : ∀ i j, i < I.k → j < I.k → I.lnk i j ≠ true → x i j = 0
  row : ∀ i, i < I.k → sm (fun j => x i j) I.k = I.s i
  col : ∀ j, j < I.k → I.ilo ≤ sm (fun i => x i j) I.k ∧ sm (fun i => x i j) I.k ≤ I.ihi
theorem Inst.feas_of_circ (I : Inst) (y : Nat → Int) (hy : ∀ i x, I.bs[i]? = some x → x.lo ≤ y i ∧ y i ≤ x.hi)
    (hc : ∀ v, v < 2 * I.k + 2 → lsm (fun (x : BArc) i => ind (x.b = v) (y i) - ind (x.a = v) (y i)) 0 I.bs = 0) : I.Feas (fun i j => if I.lnk i j then y (I.pos i j) else 0) := by
  have hsrc : ∀ q, q < I.k → y (I.blks q).length = I.s q := by
    intro q hq
    have hg : I.bs[(I.blks q).length]? = some ⟨2 * I.k, q, I.s q, I.s q⟩ := by
      have h2 : ∀ m, q < m → (I.blks m)[(I.blks q).length]? = some ⟨2 * I.k, q, I.s q, I.s q⟩ := by
        intro m
        induction m with
        | zero => intro h; omega
        | succ m ih =>
          intro h
          by_cases hm : q = m
          · subst hm
            show (I.blks q ++ [_] ++ I.lks q I.k)[(I.blks q).length]? = _
            rw [List.append_assoc, List.getElem?_append_right (Nat.le_refl _)]
            simp
          · have := ih (by omega)
            show (I.blks m ++ [_] ++ I.lks m I.k)[(I.blks q).length]? = _
            rw [List.append_assoc, List.getElem?_append_left (List.getElem?_eq_some_iff.1 this).1]; exact this
      have := h2 I.k hq
      unfold Inst.bs
      rw [List.append_assoc, List.getElem?_append_left (List.getElem?_eq_some_iff.1 this).1]; exact this
    have := hy _ _ hg
    dsimp only at this
    omega
  have hsnk : ∀ q, q < I.k → I.ilo ≤ y ((I.blks I.k).length + q) ∧ y ((I.blks I.k).length + q) ≤ I.ihi := by
    intro q hq
    have h2 : ∀ m, q < m → (I.snks m)[q]? = some ⟨I.k + q, 2 * I.k + 1, I.ilo, I.ihi⟩ := by
      intro m
      induction m with
      | zero => intro h; omega
      | succ m ih =>
        intro h
        show (I.snks m ++ [_])[q]? = _
        by_cases hm : q = m
        · subst hm
          rw [List.getElem?_append_right (by rw [I.snks_len]; exact Nat.le_refl _), I.snks_len]; simp
        · have := ih (by omega)
          rw [List.getElem?_append_left (List.getElem?_eq_some_iff.1 this).1]; exact this
    have hg : I.bs[(I.blks I.k).length + q]? = some ⟨I.k + q, 2 * I.k + 1, I.ilo, I.ihi⟩ := by
      unfold Inst.bs
      rw [List.append_assoc, List.getElem?_append_right (by omega), Nat.add_sub_cancel_left]
      have := h2 I.k hq
      rw [List.getElem?_append_left (List.getElem?_eq_some_iff.1 this).1]; exact this
    exact hy _ _ hg
  refine ⟨fun i j hi hj hl => ?_, fun i j hi hj hl => ?_, fun i hi => ?_, fun j hj => ?_⟩
  · rw [if_pos hl]; exact hy _ _ (I.pos_get hi hj hl)
  · rw [if_neg hl]
  · have h := hc i (by omega)
    rw [I.bs_sum] at h
    have e1 : sm (fun q => (ind (q = i) (y (I.blks q).length) - ind (2 * I.k = i) (y (I.blks q).length)) + sm (fun j => if I.lnk q j then ind (I.k + j = i) (y (I.pos q j)) - ind (q = i) (y (I.pos q j)) else 0) I.k) I.k = I.s i - sm (fun j => if I.lnk i j then y (I.pos i j) else 0) I.k := by
      rw [sm_one hi (fun q hq hne => by
        rw [sm_zero (fun j hj => by unfold ind; rw [if_neg (show ¬ I.k + j = i by omega), if_neg hne]; split <;> rfl)]
        unfold ind; rw [if_neg hne, if_neg (show ¬ 2 * I.k = i by omega)]; rfl)]
      have e2 : sm (fun j => if I.lnk i j then ind (I.k + j = i) (y (I.pos i j)) - ind (i = i) (y (I.pos i j)) else 0) I.k = sm (fun j => 0 - (if I.lnk i j then y (I.pos i j) else 0)) I.k := sm_congr (fun j hj => by
        unfold ind; rw [if_neg (show ¬ I.k + j = i by omega), if_pos rfl]; split <;> rfl)
      rw [e2, sm_sub, sm_zero (fun _ _ => rfl)]
      unfold ind
      rw [if_pos rfl, if_neg (show ¬ 2 * I.k = i by omega), hsrc i hi]; omega
    have e3 : sm (fun q => ind (2 * I.k + 1 = i) (y ((I.blks I.k).length + q)) - ind (I.k + q = i) (y ((I.blks I.k).length + q))) I.k = 0 := sm_zero (fun q hq => by
      unfold ind; rw [if_neg (show ¬ 2 * I.k + 1 = i by omega), if_neg (show ¬ I.k + q = i by omega)]; rfl)
    dsimp only at h
    rw [e1, e3] at h
    unfold ind at h
    rw [if_neg (show ¬ 2 * I.k = i by omega), if_neg (show ¬ 2 * I.k + 1 = i by omega)] at h
    omega
  · have h := hc (I.k + j) (by omega)
    rw [I.bs_sum] at h
    have e1 : sm (fun q => (ind (q = I.k + j) (y (I.blks q).length) - ind (2 * I.k = I.k + j) (y (I.blks q).length)) + sm (fun p => if I.lnk q p then ind (I.k + p = I.k + j) (y (I.pos q p)) - ind (q = I.k + j) (y (I.pos q p)) else 0) I.k) I.k = sm (fun q => if I.lnk q j then y (I.pos q j) else 0) I.k := by
      refine sm_congr (fun q hq => ?_)
      rw [sm_one hj (fun p hp hne => by unfold ind; rw [if_neg (show ¬ I.k + p = I.k + j by omega), if_neg (show ¬ q = I.k + j by omega)]; split <;> rfl)]
      unfold ind
      rw [if_neg (show ¬ q = I.k + j by omega), if_neg (show ¬ 2 * I.k = I.k + j by omega), if_pos rfl]
      split <;> omega
    have e3 : sm (fun q => ind (2 * I.k + 1 = I.k + j) (y ((I.blks I.k).length + q)) - ind (I.k + q = I.k + j) (y ((I.blks I.k).length + q))) I.k = - y ((I.blks I.k).length + j) := by
      rw [sm_one hj (fun q hq hne => by unfold ind; rw [if_neg (show ¬ 2 * I.k + 1 = I.k + j by omega), if_neg (show ¬ I.k + q = I.k + j by omega)]; rfl)]
      unfold ind
      rw [if_neg (show ¬ 2 * I.k + 1 = I.k + j by omega), if_pos rfl]; omega
    dsimp only at h
    rw [e1, e3] at h
    unfold ind at h
    rw [if_neg (show ¬ 2 * I.k = I.k + j by omega), if_neg (show ¬ 2 * I.k + 1 = I.k + j by omega)] at h
    have := hsnk j hj
    have e5 : sm (fun i => if I.lnk i j then y (I.pos i j) else 0) I.k = y ((I.blks I.k).length + j) := by omega
    rw [e5]; exact this
end Go.Sp
