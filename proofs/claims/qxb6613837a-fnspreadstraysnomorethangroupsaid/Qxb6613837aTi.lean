import Derived.Test.Qxb6613837aTq
namespace Go.Sp

/-- What transport is asked. -/
structure Inst where
  k : Nat
  s : Nat → Int
  lnk : Nat → Nat → Bool
  lo : Nat → Nat → Int
  hi : Nat → Nat → Int
  ilo : Int
  ihi : Int
def Inst.lks (I : Inst) (i : Nat) : Nat → List BArc
  | 0 => []
  | j + 1 => I.lks i j ++ (if I.lnk i j then [⟨i, I.k + j, I.lo i j, I.hi i j⟩] else [])
def Inst.blks (I : Inst) : Nat → List BArc
  | 0 => []
  | i + 1 => I.blks i ++ [⟨2 * I.k, i, I.s i, I.s i⟩] ++ I.lks i I.k
/-- The arcs ahead of block i's link j. -/
def Inst.pre (I : Inst) (i j : Nat) : List BArc := I.blks i ++ [⟨2 * I.k, i, I.s i, I.s i⟩] ++ I.lks i j
def Inst.snks (I : Inst) : Nat → List BArc
  | 0 => []
  | j + 1 => I.snks j ++ [⟨I.k + j, 2 * I.k + 1, I.ilo, I.ihi⟩]
def Inst.tot (I : Inst) : Int := sm I.s I.k
def Inst.bs (I : Inst) : List BArc := (I.blks I.k ++ I.snks I.k) ++ [⟨2 * I.k + 1, 2 * I.k, 0, I.tot⟩]
theorem Inst.pre_succ (I : Inst) (i j : Nat) : I.pre i (j + 1) = I.pre i j ++ (if I.lnk i j then [⟨i, I.k + j, I.lo i j, I.hi i j⟩] else []) := by
  unfold Inst.pre; rw [Inst.lks]; simp only [List.append_assoc]
theorem Inst.pre_all (I : Inst) (i : Nat) : I.pre i I.k = I.blks (i + 1) := rfl
theorem Inst.lks_len (I : Inst) (i : Nat) : ∀ j, (I.lks i j).length ≤ j
  | 0 => Nat.le_refl _
  | j + 1 => by
    have := I.lks_len i j
    show (I.lks i j ++ _).length ≤ _
    rw [List.length_append]; split <;> simp <;> omega
theorem Inst.blks_len (I : Inst) : ∀ i, (I.blks i).length ≤ i * (I.k + 1)
  | 0 => Nat.zero_le _
  | i + 1 => by
    have h1 := I.blks_len i
    have h2 := I.lks_len i I.k
    show ((I.blks i ++ [_]) ++ I.lks i I.k).length ≤ _
    rw [List.length_append, List.length_append, Nat.add_mul]
    simp; omega
theorem Inst.snks_len (I : Inst) : ∀ j, (I.snks j).length = j
  | 0 => rfl
  | j + 1 => by show (I.snks j ++ [_]).length = _; rw [List.length_append, I.snks_len j]; rfl
theorem Inst.lks_mem (I : Inst) (i : Nat) : ∀ (j : Nat) (x : BArc), x ∈ I.lks i j → ∃ q, q < j ∧ I.lnk i q = true ∧ x = ⟨i, I.k + q, I.lo i q, I.hi i q⟩
  | 0, x, h => by cases h
  | j + 1, x, h => by
    rcases List.mem_append.1 h with h | h
    · obtain ⟨q, h1, h2⟩ := I.lks_mem i j x h
      exact ⟨q, by omega, h2⟩
    · by_cases hl : I.lnk i j = true
      · rw [if_pos hl] at h
        exact ⟨j, by omega, hl, by simpa using h⟩
      · rw [if_neg hl] at h; cases h
theorem Inst.blks_mem (I : Inst) : ∀ (i : Nat) (x : BArc), x ∈ I.blks i → ∃ q, q < i ∧ (x = ⟨2 * I.k, q, I.s q, I.s q⟩ ∨ ∃ j, j < I.k ∧ I.lnk q j = true ∧ x = ⟨q, I.k + j, I.lo q j, I.hi q j⟩)
  | 0, x, h => by cases h
  | i + 1, x, h => by
    rcases List.mem_append.1 h with h | h
    · rcases List.mem_append.1 h with h | h
      · obtain ⟨q, h1, h2⟩ := I.blks_mem i x h
        exact ⟨q, by omega, h2⟩
      · exact ⟨i, by omega, .inl (by simpa using h)⟩
    · exact ⟨i, by omega, .inr (I.lks_mem i I.k x h)⟩
theorem Inst.snks_mem (I : Inst) : ∀ (j : Nat) (x : BArc), x ∈ I.snks j → ∃ q, q < j ∧ x = ⟨I.k + q, 2 * I.k + 1, I.ilo, I.ihi⟩
  | 0, x, h => by cases h
  | j + 1, x, h => by
    rcases List.mem_append.1 h with h | h
    · obtain ⟨q, h1, h2⟩ := I.snks_mem j x h
      exact ⟨q, by omega, h2⟩
    · exact ⟨j, by omega, by simpa using h⟩
/-- The bounds that the walk needs of its numbers. -/
structure Inst.Fine (I : Inst) : Prop where
  kp : 0 < I.k
  kb : I.k ≤ 256
  s0 : ∀ i, i < I.k → 0 ≤ I.s i ∧ I.s i ≤ 1000000
  l0 : ∀ i j, i < I.k → j < I.k → I.lnk i j = true → 0 ≤ I.lo i j ∧ I.lo i j ≤ 1000000 ∧ 0 ≤ I.hi i j ∧ I.hi i j ≤ 1000000
  i0 : 0 ≤ I.ilo ∧ I.ilo ≤ I.ihi ∧ I.ihi ≤ 1000000
theorem Inst.bs_mem (I : Inst) (x : BArc) (h : x ∈ I.bs) : (∃ q, q < I.k ∧ x = ⟨2 * I.k, q, I.s q, I.s q⟩) ∨ (∃ q j, q < I.k ∧ j < I.k ∧ I.lnk q j = true ∧ x = ⟨q, I.k + j, I.lo q j, I.hi q j⟩) ∨ (∃ q, q < I.k ∧ x = ⟨I.k + q, 2 * I.k + 1, I.ilo, I.ihi⟩) ∨ x = ⟨2 * I.k + 1, 2 * I.k, 0, I.tot⟩ := by
  rcases List.mem_append.1 h with h | h
  · rcases List.mem_append.1 h with h | h
    · obtain ⟨q, hq, h | ⟨j, h⟩⟩ := I.blks_mem _ x h
      · exact .inl ⟨q, hq, h⟩
      · exact .inr (.inl ⟨q, j, hq, h⟩)
    · exact .inr (.inr (.inl (I.snks_mem _ x h)))
  · exact .inr (.inr (.inr (by simpa using h)))
theorem Inst.bs_lt (I : Inst) (x : BArc) (h : x ∈ I.bs) : x.a < 2 * I.k + 2 ∧ x.b < 2 * I.k + 2 := by
  rcases I.bs_mem x h with ⟨q, hq, rfl⟩ | ⟨q, j, hq, hj, _, rfl⟩ | ⟨q, hq, rfl⟩ | rfl <;> constructor <;> simp <;> omega
/-- Sums over the arcs, part by part. -/
theorem Inst.lks_sum (I : Inst) (φ : BArc → Nat → Int) (i n : Nat) : ∀ j, lsm φ n (I.lks i j) = sm (fun q => if I.lnk i q then φ ⟨i, I.k + q, I.lo i q, I.hi i q⟩ (n + (I.lks i q).length) else 0) j
  | 0 => rfl
  | j + 1 => by
    show lsm φ n (I.lks i j ++ _) = sm _ j + _
    rw [lsm_append, I.lks_sum φ i n j]
    by_cases h : I.lnk i j = true
    · simp only [if_pos h]; simp [lsm]
    · simp only [if_neg h]; simp [lsm]
def Inst.pos (I : Inst) (i j : Nat) : Nat := (I.pre i j).length
theorem Inst.pos_eq (I : Inst) (i j : Nat) : I.pos i j = (I.blks i).length + 1 + (I.lks i j).length := by
  unfold Inst.pos Inst.pre; simp; omega
theorem Inst.blks_sum (I : Inst) (φ : BArc → Nat → Int) : ∀ i, lsm φ 0 (I.blks i) = sm (fun q => φ ⟨2 * I.k, q, I.s q, I.s q⟩ (I.blks q).length + sm (fun j => if I.lnk q j then φ ⟨q, I.k + j, I.lo q j, I.hi q j⟩ (I.pos q j) else 0) I.k) i
  | 0 => rfl
  | i + 1 => by
    show lsm φ 0 (I.blks i ++ [_] ++ I.lks i I.k) = sm _ i + _
    rw [lsm_append, lsm_snoc, I.blks_sum φ i, I.lks_sum, Nat.zero_add, Nat.zero_add, List.length_append]
    have : sm (fun q => if I.lnk i q then φ ⟨i, I.k + q, I.lo i q, I.hi i q⟩ ((I.blks i).length + [(⟨2 * I.k, i, I.s i, I.s i⟩ : BArc)].length + (I.lks i q).length) else 0) I.k = sm (fun j => if I.lnk i j then φ ⟨i, I.k + j, I.lo i j, I.hi i j⟩ (I.pos i j) else 0) I.k :=
      sm_congr (fun q _ => by rw [I.pos_eq]; rfl)
    rw [this]; dsimp only; omega
theorem Inst.snks_sum (I : Inst) (φ : BArc → Nat → Int) (n : Nat) : ∀ j, lsm φ n (I.snks j) = sm (fun q => φ ⟨I.k + q, 2 * I.k + 1, I.ilo, I.ihi⟩ (n + q)) j
  | 0 => rfl
  | j + 1 => by
    show lsm φ n (I.snks j ++ [_]) = sm _ j + _
    rw [lsm_snoc, I.snks_sum φ n j, I.snks_len]
theorem Inst.bs_sum (I : Inst) (φ : BArc → Nat → Int) : lsm φ 0 I.bs = sm (fun q => φ ⟨2 * I.k, q, I.s q, I.s q⟩ (I.blks q).length + sm (fun j => if I.lnk q j then φ ⟨q, I.k + j, I.lo q j, I.hi q j⟩ (I.pos q j) else 0) I.k) I.k
    + sm (fun q => φ ⟨I.k + q, 2 * I.k + 1, I.ilo, I.ihi⟩ ((I.blks I.k).length + q)) I.k + φ ⟨2 * I.k + 1, 2 * I.k, 0, I.tot⟩ ((I.blks I.k).length + I.k) := by
  unfold Inst.bs
  rw [lsm_snoc, lsm_append, I.blks_sum, I.snks_sum, Nat.zero_add, Nat.zero_add, List.length_append, I.snks_len]
theorem Inst.pos_get (I : Inst) {i j : Nat} (hi : i < I.k) (hj : j < I.k) (hl : I.lnk i j = true) : I.bs[I.pos i j]? = some ⟨i, I.k + j, I.lo i j, I.hi i j⟩ := by
  have h1 : ∀ m, j < m → (I.pre i m)[I.pos i j]? = some ⟨i, I.k + j, I.lo i j, I.hi i j⟩ := by
    intro m
    induction m with
    | zero => intro h; omega
    | succ m ih =>
      intro h
      rw [I.pre_succ]
      by_cases hm : j = m
      · subst hm
        rw [if_pos hl]
        unfold Inst.pos
        rw [List.getElem?_append_right (Nat.le_refl _)]
        simp
      · have := ih (by omega)
        rw [List.getElem?_append_left (List.getElem?_eq_some_iff.1 this).1]; exact this
  have h2 : ∀ m, i < m → (I.blks m)[I.pos i j]? = some ⟨i, I.k + j, I.lo i j, I.hi i j⟩ := by
    intro m
    induction m with
    | zero => intro h; omega
    | succ m ih =>
      intro h
      by_cases hm : i = m
      · subst hm; exact h1 I.k hj
      · have := ih (by omega)
        have hlt := (List.getElem?_eq_some_iff.1 this).1
        show (I.blks m ++ [_] ++ I.lks m I.k)[I.pos i j]? = _
        rw [List.append_assoc, List.getElem?_append_left hlt]; exact this
  have := h2 I.k hi
  have hlt := (List.getElem?_eq_some_iff.1 this).1
  unfold Inst.bs
  rw [List.append_assoc, List.getElem?_append_left hlt]; exact this
end Go.Sp
