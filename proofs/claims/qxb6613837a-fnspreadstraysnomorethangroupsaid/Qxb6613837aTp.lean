import Derived.Test.Qxb6613837aMax
import Derived.Test.Qxb6613837aEs
namespace Go.Sp

/-! ### Sums along a list -/
def lsm {β : Type} (φ : β → Nat → Int) : Nat → List β → Int
  | _, [] => 0
  | n, x :: t => φ x n + lsm φ (n + 1) t
theorem lsm_append {β : Type} (φ : β → Nat → Int) : ∀ (p q : List β) (n : Nat), lsm φ n (p ++ q) = lsm φ n p + lsm φ (n + p.length) q
  | [], q, n => by simp [lsm]
  | x :: t, q, n => by
    show φ x n + lsm φ (n + 1) (t ++ q) = φ x n + lsm φ (n + 1) t + lsm φ (n + (t.length + 1)) q
    rw [lsm_append φ t q (n + 1), show n + 1 + t.length = n + (t.length + 1) by omega]; omega
theorem lsm_snoc {β : Type} (φ : β → Nat → Int) (p : List β) (x : β) (n : Nat) : lsm φ n (p ++ [x]) = lsm φ n p + φ x (n + p.length) := by
  rw [lsm_append]; simp [lsm]
theorem lsm_congr {β : Type} {φ ψ : β → Nat → Int} : ∀ {l : List β} {n : Nat}, (∀ j x, l[j]? = some x → φ x (n + j) = ψ x (n + j)) → lsm φ n l = lsm ψ n l
  | [], _, _ => rfl
  | x :: t, n, h => by
    show φ x n + lsm φ (n + 1) t = ψ x n + lsm ψ (n + 1) t
    have h1 : φ x n = ψ x n := h 0 x rfl
    have h2 := lsm_congr (φ := φ) (ψ := ψ) (l := t) (n := n + 1) (fun j y hy => by rw [show n + 1 + j = n + (j + 1) by omega]; exact h (j + 1) y (by simpa using hy))
    rw [h1, h2]
theorem lsm_le {β : Type} {φ ψ : β → Nat → Int} : ∀ {l : List β} {n : Nat}, (∀ j x, l[j]? = some x → φ x (n + j) ≤ ψ x (n + j)) → lsm φ n l ≤ lsm ψ n l
  | [], _, _ => Int.le_refl _
  | x :: t, n, h => by
    have h1 : φ x n ≤ ψ x n := h 0 x rfl
    have h2 := lsm_le (φ := φ) (ψ := ψ) (l := t) (n := n + 1) (fun j y hy => by rw [show n + 1 + j = n + (j + 1) by omega]; exact h (j + 1) y (by simpa using hy))
    show φ x n + lsm φ (n + 1) t ≤ ψ x n + lsm ψ (n + 1) t
    omega
theorem lsm_add {β : Type} (φ ψ : β → Nat → Int) : ∀ (l : List β) (n : Nat), lsm (fun x i => φ x i + ψ x i) n l = lsm φ n l + lsm ψ n l
  | [], _ => rfl
  | x :: t, n => by
    show φ x n + ψ x n + lsm (fun x i => φ x i + ψ x i) (n + 1) t = φ x n + lsm φ (n + 1) t + (ψ x n + lsm ψ (n + 1) t)
    rw [lsm_add φ ψ t (n + 1)]; omega
theorem lsm_sub {β : Type} (φ ψ : β → Nat → Int) : ∀ (l : List β) (n : Nat), lsm (fun x i => φ x i - ψ x i) n l = lsm φ n l - lsm ψ n l
  | [], _ => rfl
  | x :: t, n => by
    show φ x n - ψ x n + lsm (fun x i => φ x i - ψ x i) (n + 1) t = φ x n + lsm φ (n + 1) t - (ψ x n + lsm ψ (n + 1) t)
    rw [lsm_sub φ ψ t (n + 1)]; omega
theorem lsm_zero {β : Type} {φ : β → Nat → Int} {l : List β} {n : Nat} (h : ∀ j x, l[j]? = some x → φ x (n + j) = 0) : lsm φ n l = 0 := by
  rw [lsm_congr (ψ := fun _ _ => 0) h]
  clear h
  induction l generalizing n with
  | nil => rfl
  | cons x t ih => show 0 + lsm (fun _ _ => 0) (n + 1) t = 0; rw [ih]; rfl
theorem lsm_sm {β : Type} (φ : Nat → β → Nat → Int) (V : Nat) : ∀ (l : List β) (n : Nat), sm (fun v => lsm (φ v) n l) V = lsm (fun x i => sm (fun v => φ v x i) V) n l
  | [], _ => sm_zero (fun _ _ => rfl)
  | x :: t, n => by
    show sm (fun v => φ v x n + lsm (φ v) (n + 1) t) V = sm (fun v => φ v x n) V + lsm (fun x i => sm (fun v => φ v x i) V) (n + 1) t
    rw [sm_add, lsm_sm φ V t (n + 1)]
/-- A sum over the places, taken along the list. -/
theorem sm_lsm {β : Type} (g : Nat → Int) (φ : β → Nat → Int) : ∀ (l : List β) (n : Nat), (∀ j x, l[j]? = some x → g (n + j) = φ x (n + j)) → sm (fun i => g (n + i)) l.length = lsm φ n l := by
  intro l n h
  have key : ∀ m, m ≤ l.length → sm (fun i => g (n + i)) m = lsm φ n (l.take m) := by
    intro m
    induction m with
    | zero => intro _; simp [sm, lsm]
    | succ m ih =>
      intro hm
      have hx : l[m]? = some l[m] := List.getElem?_eq_getElem (by omega)
      have ht : l.take (m + 1) = l.take m ++ [l[m]] := by rw [List.take_add_one, hx]; rfl
      show sm (fun i => g (n + i)) m + g (n + m) = _
      rw [ih (by omega), ht, lsm_snoc, List.length_take, Nat.min_eq_left (by omega), h m _ hx]
  rw [key l.length (Nat.le_refl _), List.take_length]

theorem ind_sm {V : Nat} {x : Nat} (hx : x < V) (R : Nat → Bool) (f : Int) : sm (fun v => if R v then ind (x = v) f else 0) V = if R x then f else 0 := by
  rw [sm_one hx (fun i _ hne => by simp [ind, Ne.symm hne])]
  simp [ind]

/-! ### The network's rooms, along its list of arcs -/
def r0Of (es : List Arc) (e : Nat) : Int := (rooms es).getD e 0
def cOf (es : List Arc) (e : Nat) : Int := (rooms es).getD e 0 + (rooms es).getD (rev e) 0
theorem r0_even {es : List Arc} {i : Nat} {x : Arc} (h : es[i]? = some x) : r0Of es (2 * i) = x.c ∧ r0Of es (2 * i + 1) = 0 := by
  obtain ⟨h1, h2⟩ := rooms_get es i x h
  constructor
  · show (rooms es).getD (2 * i) 0 = _; rw [List.getD_eq_getElem?_getD, h1]; rfl
  · show (rooms es).getD (2 * i + 1) 0 = _; rw [List.getD_eq_getElem?_getD, h2]; rfl
theorem c_even {es : List Arc} {i : Nat} {x : Arc} (h : es[i]? = some x) : cOf es (2 * i) = x.c ∧ cOf es (2 * i + 1) = x.c := by
  obtain ⟨h1, h2⟩ := r0_even h
  unfold r0Of at h1 h2
  unfold cOf
  rw [rev_even, rev_odd, h1, h2]
  omega
theorem ok0 {V : Nat} {es : List Arc} (h : ∀ x ∈ es, 0 ≤ x.c) : (grOf V es).Ok (cOf es) (r0Of es) := by
  intro e he
  obtain ⟨i, x, hx, hi⟩ := edge_of he
  obtain ⟨h1, h2⟩ := r0_even hx
  have := h x (List.mem_of_getElem? hx)
  refine ⟨?_, rfl⟩
  rcases hi with rfl | rfl <;> omega
theorem S_lsm (V : Nat) (es : List Arc) (r : Nat → Int) (v : Nat) : (grOf V es).S r v = lsm (fun x i => ind (x.a = v) (r (2 * i)) + ind (x.b = v) (r (2 * i + 1))) 0 es := by
  unfold Gr.S
  show sm _ (2 * es.length) = _
  rw [sm_pair]
  have := sm_lsm (fun i => (if (grOf V es).tl (2 * i) = v then r (2 * i) else 0) + (if (grOf V es).tl (2 * i + 1) = v then r (2 * i + 1) else 0)) (fun (x : Arc) i => ind (x.a = v) (r (2 * i)) + ind (x.b = v) (r (2 * i + 1))) es 0 (fun j x hx => by
    obtain ⟨_, h2, _, h4⟩ := grOf_even V hx
    rw [Nat.zero_add, h2, h4]; rfl)
  simp only [Nat.zero_add] at this
  exact this
/-- What edge pair i carries. -/
def fl (r : Nat → Int) (i : Nat) : Int := r (2 * i + 1)
/-- What a flow brings each vertex, less what it takes. -/
theorem Gr.Flow.nets {V : Nat} {es : List Arc} {r : Nat → Int} {s t : Nat} {F : Int} (h : (grOf V es).Flow (cOf es) (r0Of es) r s t F) (v : Nat) :
    lsm (fun x i => ind (x.b = v) (fl r i) - ind (x.a = v) (fl r i)) 0 es = ind (t = v) F - ind (s = v) F := by
  have hb := h.bal v
  rw [S_lsm, S_lsm] at hb
  have e : lsm (fun x i => ind (x.b = v) (fl r i) - ind (x.a = v) (fl r i)) 0 es = lsm (fun x i => (ind (x.a = v) (r (2 * i)) + ind (x.b = v) (r (2 * i + 1))) - (ind (x.a = v) (r0Of es (2 * i)) + ind (x.b = v) (r0Of es (2 * i + 1)))) 0 es := by
    refine lsm_congr (fun j x hx => ?_)
    rw [Nat.zero_add]
    obtain ⟨h1, h2⟩ := r0_even hx
    obtain ⟨h3, _⟩ := c_even hx
    have hM : 2 * j < (grOf V es).M := by show 2 * j < 2 * es.length; have := (List.getElem?_eq_some_iff.1 hx).1; omega
    have hok := h.ok (2 * j) hM
    rw [rev_even, h3] at hok
    rw [h1, h2]
    unfold fl ind
    split <;> split <;> omega
  rw [e, lsm_sub]
  omega
theorem Gr.Flow.fle {V : Nat} {es : List Arc} {r : Nat → Int} {s t : Nat} {F : Int} (h : (grOf V es).Flow (cOf es) (r0Of es) r s t F) {i : Nat} {x : Arc} (hx : es[i]? = some x) : 0 ≤ fl r i ∧ fl r i ≤ x.c := by
  have hl := (List.getElem?_eq_some_iff.1 hx).1
  have h1 := h.ok (2 * i) (by show 2 * i < 2 * es.length; omega)
  have h2 := h.ok (2 * i + 1) (by show 2 * i + 1 < 2 * es.length; omega)
  rw [rev_even, (c_even hx).1] at h1
  unfold fl
  omega
/-- The cut that the last levels leave. -/
theorem cut {V : Nat} {es : List Arc} {r lv : Nat → Int} {s t : Nat} {F : Int} (hV : ∀ x ∈ es, x.a < V ∧ x.b < V) (hw : (grOf V es).WF) (h : (grOf V es).Flow (cOf es) (r0Of es) r s t F) (hb : (grOf V es).Bfs r lv s []) (hs : s < V) (ht : t < V) (hlt : lv t < 0) :
    F = lsm (fun x _ => if decide (0 ≤ lv x.a) && !decide (0 ≤ lv x.b) then x.c else 0) 0 es := by
  have hn := sm_congr (n := V) (fun v _ => congrArg (fun z => if decide (0 ≤ lv v) then z else 0) (h.nets v))
  have hR : sm (fun v => if decide (0 ≤ lv v) then (ind (t = v) F - ind (s = v) F) else 0) V = -F := by
    have e1 := ind_sm ht (fun v => decide (0 ≤ lv v)) F
    have e2 := ind_sm hs (fun v => decide (0 ≤ lv v)) F
    rw [if_neg (by simp; omega)] at e1
    rw [if_pos (by rw [hb.s0]; rfl)] at e2
    have : sm (fun v => if decide (0 ≤ lv v) then (ind (t = v) F - ind (s = v) F) else 0) V = sm (fun v => if decide (0 ≤ lv v) then ind (t = v) F else 0) V - sm (fun v => if decide (0 ≤ lv v) then ind (s = v) F else 0) V := by
      rw [← sm_sub]; exact sm_congr (fun v _ => by split <;> omega)
    rw [this, e1, e2]; omega
  have hL : sm (fun v => if decide (0 ≤ lv v) then lsm (fun (x : Arc) i => ind (x.b = v) (fl r i) - ind (x.a = v) (fl r i)) 0 es else 0) V = - lsm (fun x _ => if decide (0 ≤ lv x.a) && !decide (0 ≤ lv x.b) then x.c else 0) 0 es := by
    have e1 : sm (fun v => if decide (0 ≤ lv v) then lsm (fun (x : Arc) i => ind (x.b = v) (fl r i) - ind (x.a = v) (fl r i)) 0 es else 0) V = sm (fun v => lsm (fun (x : Arc) i => if decide (0 ≤ lv v) then ind (x.b = v) (fl r i) - ind (x.a = v) (fl r i) else 0) 0 es) V := by
      refine sm_congr (fun v _ => ?_)
      by_cases hv : decide (0 ≤ lv v) = true
      · simp only [if_pos hv]
      · simp only [if_neg hv]
        exact (lsm_zero (fun _ _ _ => rfl)).symm
    rw [e1, lsm_sm (fun v (x : Arc) i => if decide (0 ≤ lv v) then ind (x.b = v) (fl r i) - ind (x.a = v) (fl r i) else 0)]
    have e2 : lsm (fun (x : Arc) i => sm (fun v => if decide (0 ≤ lv v) then ind (x.b = v) (fl r i) - ind (x.a = v) (fl r i) else 0) V) 0 es = lsm (fun x i => 0 - (if decide (0 ≤ lv x.a) && !decide (0 ≤ lv x.b) then x.c else 0)) 0 es := by
      refine lsm_congr (fun j x hx => ?_)
      rw [Nat.zero_add]
      obtain ⟨ha, hbb⟩ := hV x (List.mem_of_getElem? hx)
      have e3 : sm (fun v => if decide (0 ≤ lv v) then ind (x.b = v) (fl r j) - ind (x.a = v) (fl r j) else 0) V = sm (fun v => if decide (0 ≤ lv v) then ind (x.b = v) (fl r j) else 0) V - sm (fun v => if decide (0 ≤ lv v) then ind (x.a = v) (fl r j) else 0) V := by
        rw [← sm_sub]; exact sm_congr (fun v _ => by split <;> omega)
      have e4 := ind_sm ha (fun v => decide (0 ≤ lv v)) (fl r j)
      have e5 := ind_sm hbb (fun v => decide (0 ≤ lv v)) (fl r j)
      rw [e3, e4, e5]
      have hl := (List.getElem?_eq_some_iff.1 hx).1
      obtain ⟨g1, g2, g3, g4⟩ := grOf_even V hx
      have hM : 2 * j < (grOf V es).M := by show 2 * j < 2 * es.length; omega
      have hM1 : 2 * j + 1 < (grOf V es).M := by show 2 * j + 1 < 2 * es.length; omega
      have hok := h.ok (2 * j) hM
      have hok1 := h.ok (2 * j + 1) hM1
      rw [rev_even, (c_even hx).1] at hok
      -- closed both ways
      have close : ∀ e, e < (grOf V es).M → 0 ≤ lv ((grOf V es).tl e) → lv ((grOf V es).hd e) < 0 → r e ≤ 0 := fun e he h1 h2 => by
        obtain ⟨q, hq1, hq2⟩ := hw.all e he
        have htl : (grOf V es).tl e < V := by
          have := hw.hdV (rev e) (rev_lt he hw.ev); exact this
        rcases hb.clo _ htl h1 with hc | hc
        · cases hc
        · have := hc q hq1
          rw [hq2] at this
          omega
      have c1 := close (2 * j) hM
      have c2 := close (2 * j + 1) hM1
      rw [g2, g1] at c1
      rw [g4, g3] at c2
      unfold fl
      by_cases p1 : 0 ≤ lv x.a <;> by_cases p2 : 0 ≤ lv x.b
      · simp [p1, p2]
      · have := c1 p1 (by omega)
        simp [p1, p2]; omega
      · have := c2 p2 (by omega)
        simp [p1, p2]; omega
      · simp [p1, p2]
    rw [e2, lsm_sub, lsm_zero (φ := fun (_ : Arc) _ => (0 : Int)) (fun _ _ _ => rfl)]; omega
  have := hL.symm.trans (hn.trans hR)
  omega
end Go.Sp
