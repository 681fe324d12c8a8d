import Derived.Test.Qxb6613837aTp
namespace Go.Sp

/-- An arc with a lower and an upper bound. -/
structure BArc where
  a : Nat
  b : Nat
  lo : Int
  hi : Int
def BArc.arc (x : BArc) : Arc := ⟨x.a, x.b, x.hi - x.lo⟩
/-- What the lower bounds bring each vertex, less what they take. -/
def exOf (bs : List BArc) (v : Nat) : Int := lsm (fun x _ => ind (x.b = v) x.lo - ind (x.a = v) x.lo) 0 bs
theorem exOf_snoc (bs : List BArc) (x : BArc) (v : Nat) : exOf (bs ++ [x]) v = exOf bs v + (ind (x.b = v) x.lo - ind (x.a = v) x.lo) := by unfold exOf; rw [lsm_snoc]
def exs (o u : Nat) (ex : Nat → Int) : Nat → List Arc
  | 0 => []
  | v + 1 => exs o u ex v ++ (if 0 < ex v then [⟨o, v, ex v⟩] else if ex v < 0 then [⟨v, u, -ex v⟩] else [])
def need (ex : Nat → Int) (n : Nat) : Int := sm (fun v => if 0 < ex v then ex v else 0) n
theorem lsm_map (φ : Arc → Nat → Int) : ∀ (bs : List BArc) (n : Nat), lsm φ n (bs.map BArc.arc) = lsm (fun x i => φ x.arc i) n bs
  | [], _ => rfl
  | x :: t, n => by show φ x.arc n + lsm φ (n + 1) (t.map BArc.arc) = _; rw [lsm_map φ t (n + 1)]; rfl
theorem lsm_exs (φ : Arc → Nat → Int) (o u : Nat) (ex : Nat → Int) (m : Nat) : ∀ n : Nat, lsm φ m (exs o u ex n) = sm (fun v => if 0 < ex v then φ ⟨o, v, ex v⟩ (m + (exs o u ex v).length) else if ex v < 0 then φ ⟨v, u, -ex v⟩ (m + (exs o u ex v).length) else 0) n
  | 0 => rfl
  | n + 1 => by
    show lsm φ m (exs o u ex n ++ _) = sm _ n + _
    rw [lsm_append, lsm_exs φ o u ex m n]
    by_cases h : 0 < ex n
    · simp only [if_pos h]; simp [lsm]
    · by_cases h' : ex n < 0
      · simp only [if_neg h, if_pos h']; simp [lsm]
      · simp only [if_neg h, if_neg h']; simp [lsm]
theorem exs_get (o u : Nat) (ex : Nat → Int) : ∀ (n v : Nat), v < n → (0 < ex v → (exs o u ex n)[(exs o u ex v).length]? = some ⟨o, v, ex v⟩) ∧ (ex v < 0 → (exs o u ex n)[(exs o u ex v).length]? = some ⟨v, u, -ex v⟩)
  | 0, v, h => by omega
  | n + 1, v, h => by
    by_cases hv : v = n
    · subst hv
      constructor
      · intro hp
        show (exs o u ex v ++ _)[(exs o u ex v).length]? = _
        rw [if_pos hp]; simp
      · intro hp
        show (exs o u ex v ++ _)[(exs o u ex v).length]? = _
        rw [if_neg (by omega), if_pos hp]; simp
    · have ih := exs_get o u ex n v (by omega)
      have key : ∀ x, (exs o u ex n)[(exs o u ex v).length]? = some x → (exs o u ex (n + 1))[(exs o u ex v).length]? = some x := fun x hx => by
        show (exs o u ex n ++ _)[(exs o u ex v).length]? = _
        rw [List.getElem?_append_left (List.getElem?_eq_some_iff.1 hx).1]; exact hx
      exact ⟨fun hp => key _ (ih.1 hp), fun hp => key _ (ih.2 hp)⟩
theorem exs_mem (o u : Nat) (ex : Nat → Int) : ∀ (n : Nat) (x : Arc), x ∈ exs o u ex n → 0 ≤ x.c ∧ ((x.a = o ∧ x.b < n) ∨ (x.a < n ∧ x.b = u))
  | 0, x, h => by cases h
  | n + 1, x, h => by
    rcases List.mem_append.1 h with h | h
    · have := exs_mem o u ex n x h
      refine ⟨this.1, ?_⟩
      rcases this.2 with ⟨a, b⟩ | ⟨a, b⟩
      · exact .inl ⟨a, by omega⟩
      · exact .inr ⟨by omega, b⟩
    · by_cases hp : 0 < ex n
      · rw [if_pos hp] at h
        obtain rfl : x = ⟨o, n, ex n⟩ := by simpa using h
        exact ⟨by show 0 ≤ ex n; omega, .inl ⟨rfl, by show n < n + 1; omega⟩⟩
      · rw [if_neg hp] at h
        by_cases hq : ex n < 0
        · rw [if_pos hq] at h
          obtain rfl : x = ⟨n, u, -ex n⟩ := by simpa using h
          exact ⟨by show 0 ≤ -ex n; omega, .inr ⟨by show n < n + 1; omega, rfl⟩⟩
        · rw [if_neg hq] at h; cases h
theorem exs_len (o u : Nat) (ex : Nat → Int) : ∀ n, (exs o u ex n).length ≤ n
  | 0 => Nat.le_refl _
  | n + 1 => by
    have := exs_len o u ex n
    show (exs o u ex n ++ _).length ≤ _
    rw [List.length_append]
    split
    · simp; omega
    · split <;> simp <;> omega
/-- The sum over a set of vertices of what arcs bring, less what they take. -/
theorem set_sum {V : Nat} {bs : List BArc} (hV : ∀ x ∈ bs, x.a < V ∧ x.b < V) (R : Nat → Bool) (y : BArc → Nat → Int) :
    sm (fun v => if R v then lsm (fun x i => ind (x.b = v) (y x i) - ind (x.a = v) (y x i)) 0 bs else 0) V = lsm (fun x i => (if R x.b then y x i else 0) - (if R x.a then y x i else 0)) 0 bs := by
  have e1 : sm (fun v => if R v then lsm (fun (x : BArc) i => ind (x.b = v) (y x i) - ind (x.a = v) (y x i)) 0 bs else 0) V = sm (fun v => lsm (fun (x : BArc) i => if R v then ind (x.b = v) (y x i) - ind (x.a = v) (y x i) else 0) 0 bs) V := by
    refine sm_congr (fun v _ => ?_)
    by_cases hv : R v = true
    · simp only [if_pos hv]
    · simp only [if_neg hv]; exact (lsm_zero (fun _ _ _ => rfl)).symm
  rw [e1, lsm_sm (fun v (x : BArc) i => if R v then ind (x.b = v) (y x i) - ind (x.a = v) (y x i) else 0)]
  refine lsm_congr (fun j x hx => ?_)
  rw [Nat.zero_add]
  obtain ⟨ha, hb⟩ := hV x (List.mem_of_getElem? hx)
  rw [← ind_sm hb R (y x j), ← ind_sm ha R (y x j), ← sm_sub]
  exact sm_congr (fun v _ => by split <;> omega)
/-- Hoffman's condition at a set of vertices. -/
def Hoff (bs : List BArc) (V : Nat) (R : Nat → Bool) : Prop :=
  sm (fun v => if R v then exOf bs v else 0) V ≤ lsm (fun x _ => if R x.a && !R x.b then x.hi - x.lo else 0) 0 bs
theorem hoff_iff {bs : List BArc} {V : Nat} (hV : ∀ x ∈ bs, x.a < V ∧ x.b < V) (R : Nat → Bool) :
    Hoff bs V R ↔ lsm (fun x _ => (if R x.b then x.lo else 0) - (if R x.a then x.lo else 0)) 0 bs ≤ lsm (fun x _ => if R x.a && !R x.b then x.hi - x.lo else 0) 0 bs := by
  unfold Hoff exOf
  rw [set_sum hV R (fun x _ => x.lo)]
/-- A circulation meets it everywhere. -/
theorem hoff_of_circ {bs : List BArc} {V : Nat} (hV : ∀ x ∈ bs, x.a < V ∧ x.b < V) (R : Nat → Bool) (y : Nat → Int) (hy : ∀ i x, bs[i]? = some x → x.lo ≤ y i ∧ y i ≤ x.hi)
    (hc : ∀ v, v < V → lsm (fun (x : BArc) i => ind (x.b = v) (y i) - ind (x.a = v) (y i)) 0 bs = 0) : Hoff bs V R := by
  rw [hoff_iff hV]
  have h0 := set_sum hV R (fun _ i => y i)
  rw [sm_zero (fun v hv => by rw [hc v hv]; split <;> rfl)] at h0
  have h1 : lsm (fun (x : BArc) _ => (if R x.b then x.lo else 0) - (if R x.a then x.lo else 0)) 0 bs = lsm (fun (x : BArc) i => ((if R x.b then x.lo else 0) - (if R x.a then x.lo else 0)) - ((if R x.b then y i else 0) - (if R x.a then y i else 0))) 0 bs := by
    have hs := lsm_sub (fun (x : BArc) _ => (if R x.b then x.lo else 0) - (if R x.a then x.lo else 0)) (fun (x : BArc) i => (if R x.b then y i else 0) - (if R x.a then y i else 0)) bs 0
    rw [hs]; omega
  rw [h1]
  refine lsm_le (fun j x hx => ?_)
  rw [Nat.zero_add]
  have := hy j x hx
  cases R x.a <;> cases R x.b <;> simp <;> omega

section
variable {bs : List BArc} {V o u : Nat} {r : Nat → Int} {F : Int}
theorem ex_total (hV : ∀ x ∈ bs, x.a < V ∧ x.b < V) : sm (exOf bs) V = 0 := by
  have h := set_sum hV (fun _ => true) (fun x _ => x.lo)
  simp only [if_true] at h
  rw [lsm_zero (fun _ _ _ => by omega)] at h
  exact h
theorem need_neg (hV : ∀ x ∈ bs, x.a < V ∧ x.b < V) : need (exOf bs) V = sm (fun v => if exOf bs v < 0 then -exOf bs v else 0) V := by
  have h := ex_total hV
  have h2 : sm (exOf bs) V = sm (fun v => (if 0 < exOf bs v then exOf bs v else 0) - (if exOf bs v < 0 then -exOf bs v else 0)) V := sm_congr (fun v _ => by split <;> split <;> omega)
  rw [sm_sub] at h2
  unfold need
  omega
theorem ex_off (h : ∀ x ∈ bs, x.a ≠ o ∧ x.b ≠ o) : exOf bs o = 0 := lsm_zero (fun j x hx => by
  have := h x (List.mem_of_getElem? hx)
  simp [ind, this])
/-- The flow that saturates what the lower bounds ask for is a circulation. -/
theorem circ_of_flow (hV : ∀ x ∈ bs, x.a < V ∧ x.b < V) (ho : ∀ x ∈ bs, x.a ≠ o ∧ x.b ≠ o) (hu : ∀ x ∈ bs, x.a ≠ u ∧ x.b ≠ u) (hou : o ≠ u)
    (h : (grOf V (bs.map BArc.arc ++ exs o u (exOf bs) V)).Flow (cOf (bs.map BArc.arc ++ exs o u (exOf bs) V)) (r0Of (bs.map BArc.arc ++ exs o u (exOf bs) V)) r o u F) (hF : need (exOf bs) V ≤ F) :
    (∀ v, v < V → v ≠ o → v ≠ u → lsm (fun (x : BArc) i => ind (x.b = v) (x.lo + fl r i) - ind (x.a = v) (x.lo + fl r i)) 0 bs = 0) ∧ ∀ i x, bs[i]? = some x → 0 ≤ fl r i ∧ fl r i ≤ x.hi - x.lo := by
  have eo : exOf bs o = 0 := ex_off ho
  have eu : exOf bs u = 0 := ex_off hu
  have hgl : ∀ v, v < V → (0 < exOf bs v → 0 ≤ fl r (bs.length + (exs o u (exOf bs) v).length) ∧ fl r (bs.length + (exs o u (exOf bs) v).length) ≤ exOf bs v) ∧ (exOf bs v < 0 → 0 ≤ fl r (bs.length + (exs o u (exOf bs) v).length) ∧ fl r (bs.length + (exs o u (exOf bs) v).length) ≤ -exOf bs v) := by
    intro v hv
    obtain ⟨g1, g2⟩ := exs_get o u (exOf bs) V v hv
    constructor
    · intro hp
      have := h.fle (i := bs.length + (exs o u (exOf bs) v).length) (x := ⟨o, v, exOf bs v⟩) (by rw [List.getElem?_append_right (by simp), List.length_map, Nat.add_sub_cancel_left]; exact g1 hp)
      exact this
    · intro hp
      have := h.fle (i := bs.length + (exs o u (exOf bs) v).length) (x := ⟨v, u, -exOf bs v⟩) (by rw [List.getElem?_append_right (by simp), List.length_map, Nat.add_sub_cancel_left]; exact g2 hp)
      exact this
  generalize hg : (fun v => fl r (bs.length + (exs o u (exOf bs) v).length)) = g at *
  have hgv : ∀ v, fl r (bs.length + (exs o u (exOf bs) v).length) = g v := fun v => by rw [← hg]
  simp only [hgv] at hgl
  have nets : ∀ v, lsm (fun (x : BArc) i => ind (x.b = v) (fl r i) - ind (x.a = v) (fl r i)) 0 bs + sm (fun q => if 0 < exOf bs q then ind (q = v) (g q) - ind (o = v) (g q) else if exOf bs q < 0 then ind (u = v) (g q) - ind (q = v) (g q) else 0) V = ind (u = v) F - ind (o = v) F := by
    intro v
    have := h.nets v
    rw [lsm_append, lsm_map, lsm_exs, List.length_map, Nat.zero_add] at this
    rw [← this]
    congr 1
    exact sm_congr (fun q _ => by simp only [hgv])
  have bz : ∀ q, (∀ x ∈ bs, x.a ≠ q ∧ x.b ≠ q) → lsm (fun (x : BArc) i => ind (x.b = q) (fl r i) - ind (x.a = q) (fl r i)) 0 bs = 0 := fun q hq => lsm_zero (fun j x hx => by
    have := hq x (List.mem_of_getElem? hx)
    simp [ind, this])
  have so : sm (fun q => if 0 < exOf bs q then g q else 0) V = F := by
    have h1 := nets o
    rw [bz o ho, Int.zero_add] at h1
    have h2 : sm (fun q => if 0 < exOf bs q then ind (q = o) (g q) - ind (o = o) (g q) else if exOf bs q < 0 then ind (u = o) (g q) - ind (q = o) (g q) else 0) V = sm (fun q => 0 - (if 0 < exOf bs q then g q else 0)) V := by
      refine sm_congr (fun q _ => ?_)
      have hq : q = o → exOf bs q = 0 := fun e => by rw [e]; exact eo
      unfold ind
      rw [if_pos rfl, if_neg (Ne.symm hou)]
      by_cases p : 0 < exOf bs q
      · rw [if_pos p, if_pos p, if_neg (fun e => by have := hq e; omega)]
      · rw [if_neg p, if_neg p]
        by_cases p' : exOf bs q < 0
        · rw [if_pos p', if_neg (fun e => by have := hq e; omega)]
        · rw [if_neg p']; rfl
    rw [h2, sm_sub, sm_zero (fun _ _ => rfl)] at h1
    unfold ind at h1
    rw [if_pos rfl, if_neg (Ne.symm hou)] at h1
    omega
  have su : sm (fun q => if exOf bs q < 0 then g q else 0) V = F := by
    have h1 := nets u
    rw [bz u hu, Int.zero_add] at h1
    have h2 : sm (fun q => if 0 < exOf bs q then ind (q = u) (g q) - ind (o = u) (g q) else if exOf bs q < 0 then ind (u = u) (g q) - ind (q = u) (g q) else 0) V = sm (fun q => if exOf bs q < 0 then g q else 0) V := by
      refine sm_congr (fun q _ => ?_)
      have hq : q = u → exOf bs q = 0 := fun e => by rw [e]; exact eu
      unfold ind
      rw [if_pos rfl, if_neg hou]
      by_cases p : 0 < exOf bs q
      · rw [if_pos p, if_neg (fun e => by have := hq e; omega), if_neg (show ¬ exOf bs q < 0 by omega)]; rfl
      · rw [if_neg p]
        by_cases p' : exOf bs q < 0
        · rw [if_pos p', if_pos p', if_neg (fun e => by have := hq e; omega)]; omega
        · rw [if_neg p', if_neg p']
    rw [h2] at h1
    unfold ind at h1
    rw [if_pos rfl, if_neg hou] at h1
    omega
  have sat : ∀ v, v < V → (0 < exOf bs v → g v = exOf bs v) ∧ (exOf bs v < 0 → g v = -exOf bs v) := by
    intro v hv
    constructor
    · intro hp
      have hn : ∀ q, q < V → 0 ≤ (if 0 < exOf bs q then exOf bs q else 0) - (if 0 < exOf bs q then g q else 0) := fun q hq => by
        split
        · rename_i p; have := ((hgl q hq).1 p).2; omega
        · omega
      have h1 := sm_mem hv hn
      rw [sm_sub, so] at h1
      have h2 := ((hgl v hv).1 hp).2
      simp only [if_pos hp] at h1
      unfold need at hF
      omega
    · intro hp
      have hn : ∀ q, q < V → 0 ≤ (if exOf bs q < 0 then -exOf bs q else 0) - (if exOf bs q < 0 then g q else 0) := fun q hq => by
        split
        · rename_i p; have := ((hgl q hq).2 p).2; omega
        · omega
      have h1 := sm_mem hv hn
      rw [sm_sub, su] at h1
      have h2 := ((hgl v hv).2 hp).2
      simp only [if_pos hp] at h1
      rw [need_neg hV] at hF
      omega
  refine ⟨fun v hv hvo hvu => ?_, fun i x hx => ?_⟩
  · have h1 := nets v
    have h2 : sm (fun q => if 0 < exOf bs q then ind (q = v) (g q) - ind (o = v) (g q) else if exOf bs q < 0 then ind (u = v) (g q) - ind (q = v) (g q) else 0) V = exOf bs v := by
      have hz : ∀ q, q < V → q ≠ v → (if 0 < exOf bs q then ind (q = v) (g q) - ind (o = v) (g q) else if exOf bs q < 0 then ind (u = v) (g q) - ind (q = v) (g q) else 0) = 0 := fun q _ hne => by
        unfold ind
        rw [if_neg hne, if_neg (Ne.symm hvo), if_neg (Ne.symm hvu)]
        split
        · rfl
        · split <;> rfl
      rw [sm_one hv hz]
      unfold ind
      rw [if_pos rfl, if_neg (Ne.symm hvo), if_neg (Ne.symm hvu)]
      have := sat v hv
      split
      · rename_i p; rw [this.1 p]; omega
      · split
        · rename_i p; rw [this.2 p]; omega
        · omega
    rw [h2] at h1
    unfold ind at h1
    rw [if_neg (Ne.symm hvo), if_neg (Ne.symm hvu)] at h1
    have h3 : lsm (fun (x : BArc) i => ind (x.b = v) (x.lo + fl r i) - ind (x.a = v) (x.lo + fl r i)) 0 bs = lsm (fun (x : BArc) i => (ind (x.b = v) (fl r i) - ind (x.a = v) (fl r i)) + (ind (x.b = v) x.lo - ind (x.a = v) x.lo)) 0 bs := lsm_congr (fun j x _ => by unfold ind; split <;> split <;> omega)
    rw [h3, lsm_add]
    unfold exOf at h1
    unfold ind
    unfold ind at h1
    omega
  · have := h.fle (i := i) (x := x.arc) (by rw [List.getElem?_append_left (by rw [List.length_map]; exact (List.getElem?_eq_some_iff.1 hx).1), List.getElem?_map, hx]; rfl)
    exact this
/-- Where the greatest flow falls short, some set of vertices breaks the condition. -/
theorem hoff_of_cut {lv : Nat → Int} (hV : ∀ x ∈ bs, x.a < V ∧ x.b < V) (hoV : o < V) (huV : u < V) (hw : (grOf V (bs.map BArc.arc ++ exs o u (exOf bs) V)).WF)
    (h : (grOf V (bs.map BArc.arc ++ exs o u (exOf bs) V)).Flow (cOf (bs.map BArc.arc ++ exs o u (exOf bs) V)) (r0Of (bs.map BArc.arc ++ exs o u (exOf bs) V)) r o u F) (hb : (grOf V (bs.map BArc.arc ++ exs o u (exOf bs) V)).Bfs r lv o []) (hlt : lv u < 0) (hF : F < need (exOf bs) V) :
    ¬ Hoff bs V (fun v => decide (0 ≤ lv v)) := by
  have hall : ∀ x ∈ bs.map BArc.arc ++ exs o u (exOf bs) V, x.a < V ∧ x.b < V := by
    intro x hx
    rcases List.mem_append.1 hx with hx | hx
    · obtain ⟨y, hy, rfl⟩ := List.mem_map.1 hx
      exact hV y hy
    · rcases (exs_mem _ _ _ _ _ hx).2 with ⟨e1, e2⟩ | ⟨e1, e2⟩
      · exact ⟨by omega, e2⟩
      · exact ⟨e1, by omega⟩
  have hc := cut hall hw h hb hoV huV hlt
  rw [lsm_append, lsm_map, lsm_exs] at hc
  intro hh
  unfold Hoff at hh
  dsimp only at hh
  have e : sm (fun v => if 0 < exOf bs v then (if decide (0 ≤ lv o) && !decide (0 ≤ lv v) then exOf bs v else 0) else if exOf bs v < 0 then (if decide (0 ≤ lv v) && !decide (0 ≤ lv u) then -exOf bs v else 0) else 0) V = need (exOf bs) V - sm (fun v => if decide (0 ≤ lv v) then exOf bs v else 0) V := by
    unfold need
    rw [← sm_sub]
    refine sm_congr (fun v _ => ?_)
    have ho : decide (0 ≤ lv o) = true := by rw [hb.s0]; rfl
    have hu' : decide (0 ≤ lv u) = false := decide_eq_false (by omega)
    rw [ho, hu']
    by_cases p : 0 < exOf bs v
    · by_cases q : 0 ≤ lv v
      · simp [p, q]
      · simp [p, q]
    · by_cases p' : exOf bs v < 0
      · by_cases q : 0 ≤ lv v
        · simp [p, p', q]
        · simp [p, p', q]
      · have : exOf bs v = 0 := by omega
        simp [this]
  have hc' : F = lsm (fun (x : BArc) _ => if decide (0 ≤ lv x.a) && !decide (0 ≤ lv x.b) then x.hi - x.lo else 0) 0 bs + (need (exOf bs) V - sm (fun v => if decide (0 ≤ lv v) then exOf bs v else 0) V) := by
    rw [← e]; exact hc
  omega
end
end Go.Sp
