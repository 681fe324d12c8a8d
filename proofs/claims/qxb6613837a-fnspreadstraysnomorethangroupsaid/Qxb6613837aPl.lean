namespace Go.Sp

/-! ### Sums -/
def sm (f : Nat → Int) : Nat → Int
  | 0 => 0
  | n + 1 => sm f n + f n
theorem sm_congr {f g : Nat → Int} : ∀ {n : Nat}, (∀ i, i < n → f i = g i) → sm f n = sm g n
  | 0, _ => rfl
  | n + 1, h => by
    show sm f n + f n = sm g n + g n
    rw [sm_congr (fun i hi => h i (by omega)), h n (by omega)]
theorem sm_le {f g : Nat → Int} : ∀ {n : Nat}, (∀ i, i < n → f i ≤ g i) → sm f n ≤ sm g n
  | 0, _ => Int.le_refl _
  | n + 1, h => by
    have h1 := sm_le (f := f) (g := g) (n := n) (fun i hi => h i (by omega))
    have h2 := h n (by omega)
    show sm f n + f n ≤ sm g n + g n
    omega
theorem sm_zero {f : Nat → Int} : ∀ {n : Nat}, (∀ i, i < n → f i = 0) → sm f n = 0
  | 0, _ => rfl
  | n + 1, h => by
    show sm f n + f n = 0
    rw [sm_zero (fun i hi => h i (by omega)), h n (by omega)]; rfl
theorem sm_nonneg {f : Nat → Int} {n : Nat} (h : ∀ i, i < n → 0 ≤ f i) : 0 ≤ sm f n := by
  have := sm_le (f := fun _ => 0) (g := f) (n := n) h
  rw [sm_zero (fun _ _ => rfl)] at this
  exact this
theorem sm_add (f g : Nat → Int) : ∀ n : Nat, sm (fun i => f i + g i) n = sm f n + sm g n
  | 0 => rfl
  | n + 1 => by
    show sm (fun i => f i + g i) n + (f n + g n) = sm f n + f n + (sm g n + g n)
    rw [sm_add f g n]; omega
theorem sm_sub (f g : Nat → Int) : ∀ n : Nat, sm (fun i => f i - g i) n = sm f n - sm g n
  | 0 => rfl
  | n + 1 => by
    show sm (fun i => f i - g i) n + (f n - g n) = sm f n + f n - (sm g n + g n)
    rw [sm_sub f g n]; omega
theorem sm_mul (a : Int) (f : Nat → Int) : ∀ n : Nat, sm (fun i => a * f i) n = a * sm f n
  | 0 => by simp [sm]
  | n + 1 => by
    show sm (fun i => a * f i) n + a * f n = a * (sm f n + f n)
    rw [sm_mul a f n, Int.mul_add]
theorem sm_const (a : Int) : ∀ n : Nat, sm (fun _ => a) n = a * n
  | 0 => by simp [sm]
  | n + 1 => by
    show sm (fun _ => a) n + a = a * ((n + 1 : Nat) : Int)
    rw [sm_const a n, Int.natCast_succ, Int.mul_add]; omega
theorem sm_swap (f : Nat → Nat → Int) (m : Nat) : ∀ n : Nat, sm (fun i => sm (fun j => f i j) m) n = sm (fun j => sm (fun i => f i j) n) m
  | 0 => (sm_zero (fun _ _ => rfl)).symm
  | n + 1 => by
    show sm (fun i => sm (fun j => f i j) m) n + sm (fun j => f n j) m = sm (fun j => sm (fun i => f i j) n + f n j) m
    rw [sm_swap f m n, ← sm_add]
/-- One place changed. -/
theorem sm_change {f g : Nat → Int} {k : Nat} : ∀ {n : Nat}, k < n → (∀ i, i < n → i ≠ k → g i = f i) → sm g n = sm f n + (g k - f k)
  | 0, h, _ => by omega
  | n + 1, h, hs => by
    show sm g n + g n = sm f n + f n + (g k - f k)
    by_cases hk : k = n
    · subst hk
      rw [sm_congr (fun i hi => hs i (by omega) (by omega))]; omega
    · rw [sm_change (f := f) (by omega) (fun i hi hne => hs i (by omega) hne), hs n (by omega) (by omega)]; omega
theorem sm_one {f : Nat → Int} {k n : Nat} (hk : k < n) (h : ∀ i, i < n → i ≠ k → f i = 0) : sm f n = f k := by
  have := sm_change (f := fun _ => 0) (g := f) hk (fun i hi hne => by rw [h i hi hne])
  rw [sm_zero (fun _ _ => rfl)] at this
  omega
theorem sm_mem {f : Nat → Int} {k n : Nat} (hk : k < n) (h : ∀ i, i < n → 0 ≤ f i) : f k ≤ sm f n := by
  have h1 := sm_change (f := f) (g := fun i => if i = k then 0 else f i) hk (fun i _ hne => by simp [hne])
  have h2 : 0 ≤ sm (fun i => if i = k then 0 else f i) n := sm_nonneg (fun i hi => by split; exact Int.le_refl _; exact h i hi)
  simp at h1
  omega

/-! ### Edges go in pairs: e and its reverse -/
def rev (e : Nat) : Nat := if e % 2 = 0 then e + 1 else e - 1
theorem rev_rev (e : Nat) : rev (rev e) = e := by unfold rev; split <;> split <;> omega
theorem rev_ne (e : Nat) : rev e ≠ e := by unfold rev; split <;> omega
theorem rev_lt {e M : Nat} (h : e < M) (hM : M % 2 = 0) : rev e < M := by unfold rev; split <;> omega
theorem rev_even (i : Nat) : rev (2 * i) = 2 * i + 1 := by unfold rev; split <;> omega
theorem rev_odd (i : Nat) : rev (2 * i + 1) = 2 * i := by unfold rev; split <;> omega
theorem sm_pair (f : Nat → Int) : ∀ m : Nat, sm f (2 * m) = sm (fun i => f (2 * i) + f (2 * i + 1)) m
  | 0 => rfl
  | m + 1 => by
    show sm f (2 * m + 1 + 1) = sm (fun i => f (2 * i) + f (2 * i + 1)) m + (f (2 * m) + f (2 * m + 1))
    show sm f (2 * m) + f (2 * m) + f (2 * m + 1) = _
    rw [sm_pair f m]; omega

/-- A network: V vertices, M edges, an even number; hd e is where edge e leads. -/
structure Gr where
  V : Nat
  M : Nat
  hd : Nat → Nat
  deg : Nat → Nat
  E : Nat → Nat → Nat
def Gr.tl (G : Gr) (e : Nat) : Nat := G.hd (rev e)
structure Gr.WF (G : Gr) : Prop where
  hdV : ∀ e, e < G.M → G.hd e < G.V
  ev : G.M % 2 = 0
  big : G.M ≤ 1000000
  bigV : G.V ≤ 1000000
  eM : ∀ u j, u < G.V → j < G.deg u → G.E u j < G.M
  et : ∀ u j, u < G.V → j < G.deg u → G.tl (G.E u j) = u
  all : ∀ e, e < G.M → ∃ j, j < G.deg (G.tl e) ∧ G.E (G.tl e) j = e
  degM : ∀ u, u < G.V → G.deg u ≤ G.M
/-- What room the edges out of v have. -/
def Gr.S (G : Gr) (r : Nat → Int) (v : Nat) : Int := sm (fun e => if G.tl e = v then r e else 0) G.M
/-- The rooms of a flow: none is below zero, and each pair's sum stays. -/
def Gr.Ok (G : Gr) (c r : Nat → Int) : Prop := ∀ e, e < G.M → 0 ≤ r e ∧ r e + r (rev e) = c e
def ind (p : Prop) [Decidable p] (f : Int) : Int := if p then f else 0
/-- f goes over edge e. -/
def over (r : Nat → Int) (e : Nat) (f : Int) (i : Nat) : Int := if i = e then r e - f else if i = rev e then r (rev e) + f else r i
theorem over_S {G : Gr} (hG : G.WF) {r : Nat → Int} {e : Nat} {f : Int} (he : e < G.M) (v : Nat) : G.S (over r e f) v = G.S r v - ind (G.tl e = v) f + ind (G.hd e = v) f := by
  have hr := rev_lt he hG.ev
  have hne := rev_ne e
  have h1 := sm_change (f := fun i => if G.tl i = v then r i else 0) (g := fun i => if G.tl i = v then (if i = e then r e - f else r i) else 0) he (fun i _ hi => by simp [hi])
  have h2 := sm_change (f := fun i => if G.tl i = v then (if i = e then r e - f else r i) else 0) (g := fun i => if G.tl i = v then over r e f i else 0) hr (fun i _ hi => by unfold over; simp [hi])
  have ht : G.tl (rev e) = G.hd e := by unfold Gr.tl; rw [rev_rev]
  unfold Gr.S
  rw [h2, h1, ht]
  unfold ind over
  simp [hne]
  split <;> split <;> omega
theorem over_ok {G : Gr} (_ : G.WF) {c r : Nat → Int} {e : Nat} {f : Int} (_ : e < G.M) (h : G.Ok c r) (h0 : 0 ≤ f) (hf : f ≤ r e) : G.Ok c (over r e f) := by
  intro i hi
  obtain ⟨a, b⟩ := h i hi
  have hne := rev_ne e
  unfold over
  by_cases h1 : i = e
  · subst h1
    simp [hne]; omega
  · by_cases h2 : i = rev e
    · subst h2
      rw [rev_rev] at *
      simp [hne]; omega
    · have h3 : rev i ≠ e := fun h => h2 (by rw [← h, rev_rev])
      have h4 : rev i ≠ rev e := fun h => h1 (by rw [← rev_rev i, h, rev_rev])
      simp [h1, h2, h3, h4]; omega

/-! ### Level paths -/
def Gr.adm (G : Gr) (r lv : Nat → Int) (u e : Nat) : Prop := r e ≠ 0 ∧ lv (G.hd e) = lv u + 1
def Gr.PathN (G : Gr) (r lv : Nat → Int) (t : Nat) : Nat → Nat → Prop
  | 0, u => u = t
  | n + 1, u => ∃ j, j < G.deg u ∧ G.adm r lv u (G.E u j) ∧ Gr.PathN G r lv t n (G.hd (G.E u j))
def Gr.Path (G : Gr) (r lv : Nat → Int) (t u : Nat) : Prop := ∃ n, G.PathN r lv t n u
theorem Gr.Path.here {G : Gr} {r lv : Nat → Int} {t : Nat} : G.Path r lv t t := ⟨0, rfl⟩
theorem Gr.Path.step {G : Gr} {r lv : Nat → Int} {t u j : Nat} (hj : j < G.deg u) (ha : G.adm r lv u (G.E u j)) (hp : G.Path r lv t (G.hd (G.E u j))) : G.Path r lv t u := by
  obtain ⟨n, hn⟩ := hp
  exact ⟨n + 1, j, hj, ha, hn⟩
/-- The edges out of each vertex ahead of its mark lead nowhere. -/
def Gr.Dead (G : Gr) (r lv : Nat → Int) (t : Nat) (nx : Nat → Nat) : Prop :=
  ∀ v, v < G.V → ∀ j, j < nx v → G.adm r lv v (G.E v j) → ¬ G.Path r lv t (G.hd (G.E v j))
theorem Gr.Dead.ends {G : Gr} {r lv : Nat → Int} {t u : Nat} {nx : Nat → Nat} (h : G.Dead r lv t nx) (hu : u < G.V) (hut : u ≠ t) (hn : G.deg u ≤ nx u) : ¬ G.Path r lv t u := by
  rintro ⟨n, hn⟩
  cases n with
  | zero => exact hut hn
  | succ n =>
    obtain ⟨j, hj, ha, hp⟩ := hn
    exact h u hu j (by omega) ha ⟨n, hp⟩
/-- What 'push' leaves: either nothing went, and the mark is sound; or f went from u to t. -/
structure Gr.Went (G : Gr) (c r lv : Nat → Int) (u t : Nat) (f : Int) (r' : Nat → Int) : Prop where
  ok : G.Ok c r'
  bal : ∀ v, G.S r' v = G.S r v - ind (u = v) f + ind (t = v) f
  low : ∀ e, e < G.M → lv (G.tl e) < lv u → r' e = r e
theorem Gr.Went.here {G : Gr} {c r lv : Nat → Int} {t : Nat} {f : Int} (h : G.Ok c r) : G.Went c r lv t t f r := ⟨h, fun v => by omega, fun _ _ _ => rfl⟩
theorem Gr.Went.step {G : Gr} (hG : G.WF) {c r r' lv : Nat → Int} {u t j : Nat} {f lim : Int} (hu : u < G.V) (hj : j < G.deg u) (ha : G.adm r lv u (G.E u j)) (h : G.Went c r lv (G.hd (G.E u j)) t f r') (h0 : 0 ≤ f) (hf : f ≤ min lim (r (G.E u j))) :
    G.Went c r lv u t f (over r' (G.E u j) f) := by
  have he := hG.eM u j hu hj
  have ht := hG.et u j hu hj
  have hsame : r' (G.E u j) = r (G.E u j) := h.low _ he (by rw [ht, ha.2]; omega)
  refine ⟨over_ok hG he h.ok h0 (by rw [hsame]; omega), fun v => ?_, fun i hi hl => ?_⟩
  · rw [over_S hG he, h.bal v, ht]; omega
  · have h1 := h.low i hi (by rw [ha.2]; omega)
    unfold over
    by_cases e1 : i = G.E u j
    · rw [e1, ht] at hl; omega
    · by_cases e2 : i = rev (G.E u j)
      · subst e2
        have : G.tl (rev (G.E u j)) = G.hd (G.E u j) := by unfold Gr.tl; rw [rev_rev]
        rw [this, ha.2] at hl; omega
      · simp [e1, e2, h1]
end Go.Sp
