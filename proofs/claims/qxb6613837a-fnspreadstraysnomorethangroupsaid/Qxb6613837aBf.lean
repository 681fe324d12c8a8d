import Derived.Test.Qxb6613837aPl
namespace Go.Sp

/-! ### Breadth first -/
def vis (lv : Nat → Int) : Nat → Nat
  | 0 => 0
  | n + 1 => vis lv n + if 0 ≤ lv n then 1 else 0
theorem vis_le (lv : Nat → Int) : ∀ n, vis lv n ≤ n
  | 0 => Nat.le_refl _
  | n + 1 => by
    have := vis_le lv n
    show vis lv n + (if 0 ≤ lv n then 1 else 0) ≤ n + 1
    split <;> omega
theorem vis_congr {lv lv' : Nat → Int} : ∀ {n : Nat}, (∀ i, i < n → lv i = lv' i) → vis lv n = vis lv' n
  | 0, _ => rfl
  | n + 1, h => by
    show vis lv n + _ = vis lv' n + _
    rw [vis_congr (fun i hi => h i (by omega)), h n (by omega)]
def set1 (lv : Nat → Int) (v : Nat) (x : Int) (i : Nat) : Int := if i = v then x else lv i
theorem set1_at (lv : Nat → Int) (v : Nat) (x : Int) : set1 lv v x v = x := by simp [set1]
theorem set1_ne (lv : Nat → Int) {v i : Nat} (x : Int) (h : i ≠ v) : set1 lv v x i = lv i := by simp [set1, h]
theorem vis_set {lv : Nat → Int} {v : Nat} {x : Int} (hv : lv v < 0) (hx : 0 ≤ x) : ∀ {n : Nat}, v < n → vis (set1 lv v x) n = vis lv n + 1
  | 0, h => by omega
  | n + 1, h => by
    show vis (set1 lv v x) n + (if 0 ≤ set1 lv v x n then 1 else 0) = vis lv n + (if 0 ≤ lv n then 1 else 0) + 1
    by_cases hn : v = n
    · subst hn
      rw [set1_at, vis_congr (lv' := lv) (fun i hi => set1_ne _ _ (by omega)), if_pos hx, if_neg (by omega)]
    · rw [set1_ne _ _ (Ne.symm hn), vis_set hv hx (by omega)]; omega
structure Gr.Bfs (G : Gr) (r lv : Nat → Int) (s : Nat) (Q : List Nat) : Prop where
  neg : ∀ v, v < G.V → -1 ≤ lv v
  s0 : lv s = 0
  lvl : ∀ v, v < G.V → lv v < (vis lv G.V : Int)
  pre : ∀ v, v < G.V → v ≠ s → 0 ≤ lv v → ∃ u j, u < G.V ∧ j < G.deg u ∧ 0 < r (G.E u j) ∧ G.hd (G.E u j) = v ∧ 0 ≤ lv u ∧ lv v = lv u + 1
  q : ∀ x, x ∈ Q → x < G.V ∧ 0 ≤ lv x
  clo : ∀ x, x < G.V → 0 ≤ lv x → x ∈ Q ∨ ∀ j, j < G.deg x → 0 < r (G.E x j) → 0 ≤ lv (G.hd (G.E x j))
theorem Gr.Bfs.init {G : Gr} {r lv : Nat → Int} {s : Nat} (hs : s < G.V) (h : ∀ v, v < G.V → lv v = -1) : G.Bfs r (set1 lv s 0) s [s] := by
  have hv : vis (set1 lv s 0) G.V = vis lv G.V + 1 := vis_set (by rw [h s hs]; omega) (Int.le_refl _) hs
  refine ⟨fun v hv => ?_, set1_at _ _ _, fun v hv' => ?_, fun v hv hne h0 => ?_, fun x hx => ?_, fun x hx h0 => ?_⟩
  · by_cases hvs : v = s
    · subst hvs; rw [set1_at]; omega
    · rw [set1_ne _ _ hvs, h v hv]; omega
  · rw [hv]
    by_cases hvs : v = s
    · subst hvs; rw [set1_at]; omega
    · rw [set1_ne _ _ hvs, h v hv']; omega
  · rw [set1_ne _ _ hne, h v hv] at h0; omega
  · obtain rfl : x = s := by simpa using hx
    rw [set1_at]; exact ⟨hs, Int.le_refl _⟩
  · left
    by_cases hvs : x = s
    · simp [hvs]
    · rw [set1_ne _ _ hvs, h x hx] at h0; omega
theorem Gr.Bfs.visit {G : Gr} {r lv : Nat → Int} {s u j : Nat} {Q : List Nat} (h : G.Bfs r lv s Q) (hu : u < G.V) (hlu : 0 ≤ lv u) (hj : j < G.deg u) (hr : 0 < r (G.E u j)) (hv : G.hd (G.E u j) < G.V) (hn : lv (G.hd (G.E u j)) < 0) :
    G.Bfs r (set1 lv (G.hd (G.E u j)) (lv u + 1)) s (Q ++ [G.hd (G.E u j)]) := by
  generalize hvv : G.hd (G.E u j) = v at *
  have hvis : vis (set1 lv v (lv u + 1)) G.V = vis lv G.V + 1 := vis_set hn (by omega) hv
  have hsv : s ≠ v := by intro e; subst e; rw [h.s0] at hn; omega
  have huv : u ≠ v := by intro e; subst e; omega
  have key : ∀ x, 0 ≤ lv x → 0 ≤ set1 lv v (lv u + 1) x := fun x hx => by
    by_cases e : x = v
    · subst e; omega
    · rw [set1_ne _ _ e]; exact hx
  refine ⟨fun x hx => ?_, by rw [set1_ne _ _ hsv]; exact h.s0, fun x hx => ?_, fun x hx hne h0 => ?_, fun x hx => ?_, fun x hx h0 => ?_⟩
  · by_cases e : x = v
    · subst e; rw [set1_at]; omega
    · rw [set1_ne _ _ e]; exact h.neg x hx
  · rw [hvis]
    by_cases e : x = v
    · subst e; rw [set1_at]; have := h.lvl u hu; omega
    · rw [set1_ne _ _ e]; have := h.lvl x hx; omega
  · by_cases e : x = v
    · subst e
      exact ⟨u, j, hu, hj, hr, hvv, key u hlu, by rw [set1_at, set1_ne _ _ huv]⟩
    · rw [set1_ne _ _ e] at h0 ⊢
      obtain ⟨a, b, h1, h2, h3, h4, h5, h6⟩ := h.pre x hx hne h0
      have hav : a ≠ v := by intro e; subst e; omega
      exact ⟨a, b, h1, h2, h3, h4, key a h5, by rw [set1_ne _ _ hav]; exact h6⟩
  · rcases List.mem_append.1 hx with hx | hx
    · exact ⟨(h.q x hx).1, key x (h.q x hx).2⟩
    · obtain rfl : x = v := by simpa using hx
      rw [set1_at]; exact ⟨hv, by omega⟩
  · by_cases e : x = v
    · left; simp [e]
    · rw [set1_ne _ _ e] at h0
      rcases h.clo x hx h0 with hq | hc
      · left; simp [hq]
      · right; intro j hj hr; exact key _ (hc j hj hr)
theorem Gr.Bfs.pop {G : Gr} {r lv : Nat → Int} {s u : Nat} {Q : List Nat} (h : G.Bfs r lv s (u :: Q)) (hd : ∀ j, j < G.deg u → 0 < r (G.E u j) → 0 ≤ lv (G.hd (G.E u j))) : G.Bfs r lv s Q := by
  refine ⟨h.neg, h.s0, h.lvl, h.pre, fun x hx => h.q x (List.mem_cons_of_mem _ hx), fun x hx h0 => ?_⟩
  rcases h.clo x hx h0 with hq | hc
  · rcases List.mem_cons.1 hq with e | hq
    · subst e; exact .inr hd
    · exact .inl hq
  · exact .inr hc
/-- What the levels reach, a level path reaches. -/
theorem Gr.Bfs.path {G : Gr} {r lv : Nat → Int} {s t : Nat} {Q : List Nat} (h : G.Bfs r lv s Q) : ∀ (n : Nat) (v : Nat), v < G.V → lv v = (n : Int) → G.Path r lv t v → G.Path r lv t s
  | n, v, hv, hl, hp => by
    by_cases hvs : v = s
    · subst hvs; exact hp
    · obtain ⟨u, j, h1, h2, h3, h4, h5, h6⟩ := h.pre v hv hvs (by omega)
      cases n with
      | zero => omega
      | succ n => exact Gr.Bfs.path h n u h1 (by omega) (.step h2 ⟨by omega, by rw [h4]; exact h6⟩ (by rw [h4]; exact hp))
end Go.Sp
