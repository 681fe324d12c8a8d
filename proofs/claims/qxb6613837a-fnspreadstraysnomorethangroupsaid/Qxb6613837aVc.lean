import Derived.Test.Qxb6613837aUk
namespace Go.Proofs.Qxb6613837a.Sp
open Go.Fr Go.RowKit Go.Sp

theorem same_refl (x : ByteArray) : same x x = true := by unfold same; simp
theorem same_trans {x y z : ByteArray} (h1 : same x y = true) (h2 : same y z = true) : same x z = true := by
  unfold same at *; rw [beq_iff_eq] at *; exact h1.trans h2
theorem same_congr {x y : ByteArray} (h : same x y = true) (z : ByteArray) : same z x = same z y := by
  unfold same at *; rw [beq_iff_eq] at h; rw [h]
theorem first_of (h : Nat → ByteArray) (j : Nat) : ∃ i, i ≤ j ∧ fo h i i ∧ same (h j) (h i) = true := by
  induction j using Nat.strongRecOn with
  | _ j ih =>
    by_cases hf : fo h j j
    · exact ⟨j, Nat.le_refl _, hf, same_refl _⟩
    · have hex : ∃ q, q < j ∧ same (h q) (h j) = true := by
        false_or_by_contra
        rename_i hn
        exact hf (fun q hq => by
          cases e : same (h q) (h j) with
          | false => rfl
          | true => exact absurd ⟨q, hq, e⟩ hn)
      obtain ⟨q, hq, hs⟩ := hex
      obtain ⟨i, hi, hfi, hsi⟩ := ih q hq
      exact ⟨i, by omega, hfi, same_trans (by rw [same_comm]; exact hs) hsi⟩
theorem first_one {h : Nat → ByteArray} {i i' : Nat} (h1 : fo h i i) (h2 : fo h i' i') (hs : same (h i) (h i') = true) : i = i' := by
  by_cases e : i < i'
  · rw [h2 i e] at hs; cases hs
  · by_cases e' : i' < i
    · rw [same_comm, h1 i' e'] at hs; cases hs
    · omega
/-- A sum over all, host by host. -/
theorem part (h : Nat → ByteArray) (k : Nat) (c : Nat → Int) : sm (fun i => if fo h i i then sm (fun j => if same (h j) (h i) then c j else 0) k else 0) k = sm c k := by
  have e1 : sm (fun i => if fo h i i then sm (fun j => if same (h j) (h i) then c j else 0) k else 0) k = sm (fun i => sm (fun j => if fo h i i ∧ same (h j) (h i) = true then c j else 0) k) k := sm_congr (fun i _ => by
    by_cases hf : fo h i i
    · rw [if_pos hf]
      refine sm_congr (fun j _ => ?_)
      by_cases e : same (h j) (h i) = true
      · rw [if_pos e, if_pos ⟨hf, e⟩]
      · rw [if_neg e, if_neg (fun e' => e e'.2)]
    · rw [if_neg hf]
      exact (sm_zero (fun j _ => if_neg (fun e => hf e.1))).symm)
  rw [e1, sm_swap]
  refine sm_congr (fun j hj => ?_)
  obtain ⟨i, hi, hf, hs⟩ := first_of h j
  rw [sm_one (f := fun i => if fo h i i ∧ same (h j) (h i) = true then c j else 0) (k := i) (by omega) (fun q _ hq => if_neg (fun e => hq (first_one e.1 hf (same_trans (by rw [same_comm]; exact e.2) hs))))]
  exact if_pos ⟨hf, hs⟩
theorem sh_sm (h : Nat → ByteArray) (i : Nat) : ∀ n, (sh h i n : Int) = sm (fun j => if same (h j) (h i) then 1 else 0) n
  | 0 => rfl
  | n + 1 => by
    have := sh_sm h i n
    show ((sh h i n + _ : Nat) : Int) = sm (fun j => if same (h j) (h i) then 1 else 0) n + (if same (h n) (h i) then 1 else 0)
    rw [← this]
    split <;> omega
theorem ss_sm (h : Nat → ByteArray) (s : Nat → Nat) (i : Nat) : ∀ n, (ss h s i n : Int) = sm (fun j => if same (h j) (h i) then (s j : Int) else 0) n
  | 0 => rfl
  | n + 1 => by
    have := ss_sm h s i n
    show ((ss h s i n + _ : Nat) : Int) = sm (fun j => if same (h j) (h i) then (s j : Int) else 0) n + (if same (h n) (h i) then (s n : Int) else 0)
    rw [← this]
    split <;> omega
theorem sh_same {h : Nat → ByteArray} {i j : Nat} (hs : same (h j) (h i) = true) : ∀ n, sh h j n = sh h i n
  | 0 => rfl
  | n + 1 => by show sh h j n + _ = sh h i n + _; rw [sh_same hs n, same_congr hs]
theorem ss_same {h : Nat → ByteArray} {s : Nat → Nat} {i j : Nat} (hs : same (h j) (h i) = true) : ∀ n, ss h s j n = ss h s i n
  | 0 => rfl
  | n + 1 => by show ss h s j n + _ = ss h s i n + _; rw [ss_same hs n, same_congr hs]
theorem rch_sm (h : Nat → ByteArray) (s : Nat → Nat) (k hi : Nat) : ∀ n, (rch h s k hi n : Int) = sm (fun i => if fo h i i then ((min (sh h i k * hi) (16384 - ss h s i k) : Nat) : Int) else 0) n
  | 0 => rfl
  | n + 1 => by
    have := rch_sm h s k hi n
    show ((rch h s k hi n + _ : Nat) : Int) = sm (fun i => if fo h i i then ((min (sh h i k * hi) (16384 - ss h s i k) : Nat) : Int) else 0) n + (if fo h n n then ((min (sh h n k * hi) (16384 - ss h s n k) : Nat) : Int) else 0)
    rw [← this]
    split <;> omega
theorem sh_all (h : Nat → ByteArray) (k : Nat) : sm (fun i => if fo h i i then (sh h i k : Int) else 0) k = k := by
  have := part h k (fun _ => 1)
  rw [sm_const, Int.one_mul] at this
  rw [← this]
  exact sm_congr (fun i _ => by rw [sh_sm])
/-- Gale's condition lets the widest question be answered. -/
theorem okay_of_gale {k : Nat} {h : Nat → ByteArray} {s : Nat → Nat} {W : Nat} (hk : 0 < k) (hkb : k ≤ 256) (hs : ∀ q, q < k → s q ≤ W) (hWb : W ≤ 1000000) (htot : sm (fun q => (s q : Int)) k = 16384) (hg : Gale h s k) :
    (SI k h s (fun i => ap h i k) W W ((16384 / k : Nat) : Int) (((16384 + k - 1) / k : Nat) : Int)).Okay := by
  have hio := ilo_ok k hk
  have hfine := SI_fine (h := h) (p := fun i => ap h i k) (d := W) (most := W) hk hkb (fun q hq => Nat.le_trans (hs q hq) hWb) hio
  have hlk : ∀ i j, i < k → j < k → wlnk h i j = true → wlo h s (fun i => ap h i k) W i j = 0 ∧ whi h s (fun i => ap h i k) W W i j = (s i : Int) := by
    intro i j hi _ hl
    unfold wlo whi
    rw [if_pos hl, if_pos hl]
    have h1 := hs i hi
    have h2 : evlo s (fun i => ap h i k) i ≤ s i := Nat.div_le_self _ _
    omega
  refine ⟨fun i j hi hj hl => ?_, fun R => ?_⟩
  · have := hlk i j hi hj hl
    show wlo h s (fun i => ap h i k) W i j ≤ whi h s (fun i => ap h i k) W W i j
    omega
  have hlo : 16384 / k * k ≤ 16384 := Nat.div_mul_le_self _ _
  have hhi : 16384 ≤ (16384 + k - 1) / k * k := by
    have h1 := Nat.div_add_mod (16384 + k - 1) k
    have h2 := Nat.mod_lt (16384 + k - 1) hk
    rw [Nat.mul_comm] at h1
    omega
  refine Inst.hoff_of_gale (SI k h s (fun i => ap h i k) W W ((16384 / k : Nat) : Int) (((16384 + k - 1) / k : Nat) : Int)) hfine (fun i j => same (h i) (h j)) (fun i j => same_comm _ _) (fun i j q => same_trans) (fun i j _ _ => rfl) hlk ?_ ?_ ?_ ?_ R
  · intro j hj
    have hj : j < k := hj
    show sm (fun i => if same (h i) (h j) then (s i : Int) else 0) k + ((16384 / k : Nat) : Int) * sm (fun i => b2 (same (h i) (h j))) k ≤ sm (fun q => (s q : Int)) k
    rw [show (fun i => b2 (same (h i) (h j))) = (fun i => if same (h i) (h j) then 1 else 0) from rfl, ← sh_sm, ← ss_sm, htot]
    obtain ⟨i, hi, hf, hsi⟩ := first_of h j
    have h1 := hg.1 i (by omega) hf
    rw [sh_same hsi, ss_same hsi, Int.mul_comm, ← Int.natCast_mul]
    omega
  · intro j hj
    have hj : j < k := hj
    show sm (fun i => if same (h i) (h j) then (s i : Int) else 0) k ≤ (((16384 + k - 1) / k : Nat) : Int) * ((k : Int) - sm (fun i => b2 (same (h i) (h j))) k)
    rw [show (fun i => b2 (same (h i) (h j))) = (fun i => if same (h i) (h j) then 1 else 0) from rfl, ← sh_sm, ← ss_sm]
    obtain ⟨i, hi, hf, hsi⟩ := first_of h j
    rw [sh_same hsi, ss_same hsi]
    have h2 := hg.2
    generalize (16384 + k - 1) / k = H at *
    have h3 := rch_sm h s k H k
    have hss : ss h s i k ≤ 16384 := by have := ss_le h s i k; omega
    -- the reach, the host of i taken by what it may take
    have h4 : sm (fun a => if fo h a a then ((min (sh h a k * H) (16384 - ss h s a k) : Nat) : Int) else 0) k ≤ sm (fun a => if a = i then ((16384 - ss h s i k : Nat) : Int) else if fo h a a then (H : Int) * (sh h a k : Int) else 0) k := by
      refine sm_le (fun a _ => ?_)
      by_cases e : a = i
      · subst e
        rw [if_pos hf, if_pos rfl]
        omega
      · rw [if_neg e]
        split
        · rw [Int.mul_comm, ← Int.natCast_mul]
          omega
        · exact Int.le_refl _
    have h5 : sm (fun a => if a = i then ((16384 - ss h s i k : Nat) : Int) else if fo h a a then (H : Int) * (sh h a k : Int) else 0) k = sm (fun a => if fo h a a then (H : Int) * (sh h a k : Int) else 0) k + (((16384 - ss h s i k : Nat) : Int) - (H : Int) * (sh h i k : Int)) := by
      have := sm_change (f := fun a => if fo h a a then (H : Int) * (sh h a k : Int) else 0) (g := fun a => if a = i then ((16384 - ss h s i k : Nat) : Int) else if fo h a a then (H : Int) * (sh h a k : Int) else 0) (k := i) (n := k) (by omega) (fun a _ ha => if_neg ha)
      rw [this, if_pos rfl, if_pos hf]
    have h6 : sm (fun a => if fo h a a then (H : Int) * (sh h a k : Int) else 0) k = (H : Int) * k := by
      have e := sm_mul (H : Int) (fun i => if fo h i i then (sh h i k : Int) else 0) k
      rw [sh_all] at e
      rw [← e]
      exact sm_congr (fun a _ => by
        split
        · rfl
        · rw [Int.mul_zero])
    rw [Int.mul_sub]
    omega
  · show ((16384 / k : Nat) : Int) * (k : Int) ≤ sm (fun q => (s q : Int)) k
    rw [htot, ← Int.natCast_mul]
    omega
  · show sm (fun q => (s q : Int)) k ≤ (((16384 + k - 1) / k : Nat) : Int) * (k : Int)
    rw [htot, ← Int.natCast_mul]
    omega
theorem feas_nonneg {k : Nat} {h : Nat → ByteArray} {s p : Nat → Nat} {d most : Nat} {ilo ihi : Int} {x : Nat → Nat → Int} (hx : (SI k h s p d most ilo ihi).Feas x) {i j : Nat} (hi : i < k) (hj : j < k) : 0 ≤ x i j ∧ x i j ≤ s i ∧ (wlnk h i j = true → (evlo s p i : Int) - x i j ≤ d ∧ x i j - (evhi s p i : Int) ≤ d) ∧ (wlnk h i j ≠ true → x i j = 0) := by
  by_cases hl : wlnk h i j = true
  · have h1 := hx.link i j hi hj hl
    have e1 : (SI k h s p d most ilo ihi).lo i j = max 0 ((evlo s p i : Int) - d) := by show wlo h s p d i j = _; simp [wlo, hl]
    have e2 : (SI k h s p d most ilo ihi).hi i j = min (min (s i : Int) ((evhi s p i : Int) + d)) most := by show whi h s p d most i j = _; simp [whi, hl]
    rw [e1, e2] at h1
    exact ⟨by omega, by omega, fun _ => by omega, fun e => absurd hl e⟩
  · have h1 := hx.none i j hi hj hl
    exact ⟨by omega, by omega, fun e => absurd e hl, fun _ => h1⟩
/-- Shares meet Gale's condition. -/
theorem gale_of_feas {k : Nat} {h : Nat → ByteArray} {s p : Nat → Nat} {d most : Nat} {x : Nat → Nat → Int} (htot : sm (fun q => (s q : Int)) k = 16384) (hx : (SI k h s p d most ((16384 / k : Nat) : Int) (((16384 + k - 1) / k : Nat) : Int)).Feas x) : Gale h s k := by
  have hx0 : ∀ i j, i < k → j < k → 0 ≤ x i j := fun i j hi hj => (feas_nonneg hx hi hj).1
  have hxs : ∀ i j, i < k → j < k → same (h i) (h j) = true → x i j = 0 := fun i j hi hj hs => (feas_nonneg hx hi hj).2.2.2 (by unfold wlnk; rw [hs]; exact Bool.false_ne_true)
  have hrow : ∀ i, i < k → sm (fun j => x i j) k = (s i : Int) := hx.row
  have hcol : ∀ j, j < k → ((16384 / k : Nat) : Int) ≤ sm (fun i => x i j) k ∧ sm (fun i => x i j) k ≤ (((16384 + k - 1) / k : Nat) : Int) := hx.col
  have hss : ∀ i, ss h s i k ≤ 16384 := fun i => by have := ss_le h s i k; omega
  generalize hC : (fun i => sm (fun j => if same (h j) (h i) then sm (fun a => x a j) k else 0) k) = C
  have hCi : ∀ i, C i = sm (fun j => if same (h j) (h i) then sm (fun a => x a j) k else 0) k := fun i => by rw [← hC]
  have c1 : ∀ i, ((16384 / k : Nat) : Int) * (sh h i k : Int) ≤ C i := fun i => by
    rw [hCi, sh_sm, ← sm_mul]
    refine sm_le (fun j hj => ?_)
    try dsimp only
    split
    · rw [Int.mul_one]; exact (hcol j hj).1
    · rw [Int.mul_zero]; exact Int.le_refl _
  have c2 : ∀ i, C i ≤ (((16384 + k - 1) / k : Nat) : Int) * (sh h i k : Int) := fun i => by
    rw [hCi, sh_sm, ← sm_mul]
    refine sm_le (fun j hj => ?_)
    try dsimp only
    split
    · rw [Int.mul_one]; exact (hcol j hj).2
    · rw [Int.mul_zero]; exact Int.le_refl _
  have c3 : ∀ i, C i ≤ 16384 - (ss h s i k : Int) := fun i => by
    rw [hCi]
    have e1 : sm (fun j => if same (h j) (h i) then sm (fun a => x a j) k else 0) k = sm (fun j => sm (fun a => if same (h j) (h i) then x a j else 0) k) k := sm_congr (fun j _ => by
      try dsimp only
      split
      · rfl
      · exact (sm_zero (fun _ _ => rfl)).symm)
    rw [e1, sm_swap, ss_sm, ← htot, ← sm_sub]
    refine sm_le (fun a ha => ?_)
    try dsimp only
    by_cases hs : same (h a) (h i) = true
    · rw [if_pos hs, Int.sub_self]
      refine Int.le_of_eq (sm_zero (fun j hj => ?_))
      try dsimp only
      split
      · rename_i hsj
        exact hxs a j ha hj (same_trans hs (by rw [same_comm]; exact hsj))
      · rfl
    · rw [if_neg hs, Int.sub_zero, ← hrow a ha]
      refine sm_le (fun j hj => ?_)
      try dsimp only
      split
      · exact Int.le_refl _
      · exact hx0 a j ha hj
  refine ⟨fun i _ _ => ?_, ?_⟩
  · have h1 := c1 i
    have h2 := c3 i
    rw [Int.mul_comm, ← Int.natCast_mul] at h1
    omega
  · have h1 := part h k (fun j => sm (fun a => x a j) k)
    have h2 : sm (fun j => sm (fun a => x a j) k) k = 16384 := by
      rw [sm_swap (fun j a => x a j), ← htot]
      exact sm_congr (fun a ha => hrow a ha)
    rw [h2] at h1
    have h3 := rch_sm h s k ((16384 + k - 1) / k) k
    have h4 : sm (fun i => if fo h i i then sm (fun j => if same (h j) (h i) then sm (fun a => x a j) k else 0) k else 0) k ≤ sm (fun i => if fo h i i then ((min (sh h i k * ((16384 + k - 1) / k)) (16384 - ss h s i k) : Nat) : Int) else 0) k := by
      refine sm_le (fun i _ => ?_)
      try dsimp only
      split
      · have g1 := c2 i
        have g2 := c3 i
        have g3 := hss i
        rw [hCi] at g1 g2
        rw [Int.mul_comm, ← Int.natCast_mul] at g1
        omega
      · exact Int.le_refl _
    omega
/-- No host over half: a pairing is there. -/
theorem okay_of_half {k : Nat} {h : Nat → ByteArray} (hk : 0 < k) (hkb : k ≤ 256) (hh : ∀ i, i < k → 2 * sh h i k ≤ k) : (GI k h).Okay := by
  refine ⟨fun _ _ _ _ _ => by show (0 : Int) ≤ 1; omega, fun R => ?_⟩
  have ht : sm (fun _ => (1 : Int)) k = k := by rw [sm_const, Int.one_mul]
  refine Inst.hoff_of_gale (GI k h) (GI_fine hk hkb) (fun i j => same (h i) (h j)) (fun i j => same_comm _ _) (fun i j q => same_trans) (fun i j _ _ => rfl) (fun _ _ _ _ _ => ⟨rfl, rfl⟩) ?_ ?_ ?_ ?_ R
  · intro j hj
    have h1 := hh j hj
    show sm (fun i => if same (h i) (h j) then (1 : Int) else 0) k + 1 * sm (fun i => b2 (same (h i) (h j))) k ≤ sm (fun _ => (1 : Int)) k
    rw [show (fun i => b2 (same (h i) (h j))) = (fun i => if same (h i) (h j) then 1 else 0) from rfl, ← sh_sm, ht]
    omega
  · intro j hj
    have h1 := hh j hj
    show sm (fun i => if same (h i) (h j) then (1 : Int) else 0) k ≤ 1 * ((k : Int) - sm (fun i => b2 (same (h i) (h j))) k)
    rw [show (fun i => b2 (same (h i) (h j))) = (fun i => if same (h i) (h j) then 1 else 0) from rfl, ← sh_sm]
    omega
  · show 1 * (k : Int) ≤ sm (fun _ => (1 : Int)) k
    rw [ht]; omega
  · show sm (fun _ => (1 : Int)) k ≤ 1 * (k : Int)
    rw [ht]; omega
/-- The pairs' amounts are shares that stray as far as they stray. -/
theorem feas_of_pairs {k : Nat} {h : Nat → ByteArray} {s : Nat → Nat} {W z : Nat} {x : Nat → Nat → Int} (hs : ∀ q, q < k → s q ≤ W) (hbal : ∀ q, q < k → 16384 / k ≤ s q ∧ s q ≤ (16384 + k - 1) / k) (hx : (GI k h).Feas x)
    (hz : ∀ a b, a < k → b < k → wlnk h a b = true → (evlo s (fun q => ap h q k) a : Int) - x a b * (s a : Int) ≤ z ∧ x a b * (s a : Int) - (evhi s (fun q => ap h q k) a : Int) ≤ z) :
    (SI k h s (fun i => ap h i k) z W ((16384 / k : Nat) : Int) (((16384 + k - 1) / k : Nat) : Int)).Feas (fun i j => x i j * (s i : Int)) := by
  refine ⟨fun i j hi hj hl => ?_, fun i j hi hj hl => ?_, fun i hi => ?_, fun j hj => ?_⟩
  · have hl' : wlnk h i j = true := hl
    have e1 : (SI k h s (fun i => ap h i k) z W ((16384 / k : Nat) : Int) (((16384 + k - 1) / k : Nat) : Int)).lo i j = max 0 ((evlo s (fun i => ap h i k) i : Int) - z) := by show wlo h s _ z i j = _; simp [wlo, hl']
    have e2 : (SI k h s (fun i => ap h i k) z W ((16384 / k : Nat) : Int) (((16384 + k - 1) / k : Nat) : Int)).hi i j = min (min (s i : Int) ((evhi s (fun i => ap h i k) i : Int) + z)) W := by show whi h s _ z W i j = _; simp [whi, hl']
    rw [e1, e2]
    have h1 := hz i j hi hj hl'
    have h3 := hs i hi
    have h4 : 0 ≤ x i j * (s i : Int) ∧ x i j * (s i : Int) ≤ s i := by rcases GI_01 hx hi hj with e | e <;> rw [e] <;> omega
    generalize x i j * (s i : Int) = y at *
    omega
  · have h1 : x i j = 0 := hx.none i j hi hj hl
    rw [h1, Int.zero_mul]
  · have h1 : sm (fun j => x i j) k = 1 := hx.row i hi
    show sm (fun j => x i j * (s i : Int)) k = (s i : Int)
    have e := sm_mul (s i : Int) (fun j => x i j) k
    rw [h1, Int.mul_one] at e
    exact (sm_congr (fun j _ => Int.mul_comm _ _)).trans e
  · have h1 : (1 : Int) ≤ sm (fun i => x i j) k ∧ sm (fun i => x i j) k ≤ 1 := hx.col j hj
    have h2 : sm (fun i => x i j) k = 1 := by omega
    have e1 := sm_mul ((16384 / k : Nat) : Int) (fun i => x i j) k
    have e2 := sm_mul (((16384 + k - 1) / k : Nat) : Int) (fun i => x i j) k
    rw [h2, Int.mul_one] at e1 e2
    refine ⟨?_, ?_⟩
    · show ((16384 / k : Nat) : Int) ≤ sm (fun i => x i j * (s i : Int)) k
      rw [← e1]
      refine sm_le (fun i hi => ?_)
      have h3 := (hbal i hi).1
      rcases GI_01 hx hi hj with e | e <;> rw [e] <;> omega
    · show sm (fun i => x i j * (s i : Int)) k ≤ (((16384 + k - 1) / k : Nat) : Int)
      rw [← e2]
      refine sm_le (fun i hi => ?_)
      have h3 := (hbal i hi).2
      rcases GI_01 hx hi hj with e | e <;> rw [e] <;> omega
/-- Shares within d stray d at most. -/
theorem stray_le {k : Nat} {h : Nat → ByteArray} {s : Nat → Nat} {d most : Nat} {ilo ihi : Int} {x : Nat → Nat → Int} {z : Int} (hx : (SI k h s (fun i => ap h i k) d most ilo ihi).Feas x) (hz : Wst x h s k k 0 z) : z ≤ d := by
  rcases hz.least with h0 | ⟨a, b, ha, hb, hl, h0⟩
  · omega
  · have := (feas_nonneg hx ha hb).2.2.1 hl
    omega
end Go.Proofs.Qxb6613837a.Sp
