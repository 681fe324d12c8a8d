import Derived.Test.Qxb6613837aBf
namespace Go.Sp

/-! ### A network out of a list of edges -/
structure Arc where
  a : Nat
  b : Nat
  c : Int
def heads : List Arc → List Nat
  | [] => []
  | x :: t => x.b :: x.a :: heads t
def rooms : List Arc → List Int
  | [] => []
  | x :: t => x.c :: 0 :: rooms t
def outs (u : Nat) : Nat → List Arc → List Nat
  | _, [] => []
  | i, x :: t => (if x.a = u then [2 * i] else []) ++ (if x.b = u then [2 * i + 1] else []) ++ outs u (i + 1) t
theorem heads_snoc (x : Arc) : ∀ es, heads (es ++ [x]) = heads es ++ [x.b, x.a]
  | [] => rfl
  | y :: t => by show y.b :: y.a :: heads (t ++ [x]) = _; rw [heads_snoc x t]; rfl
theorem rooms_snoc (x : Arc) : ∀ es, rooms (es ++ [x]) = rooms es ++ [x.c, 0]
  | [] => rfl
  | y :: t => by show y.c :: 0 :: rooms (t ++ [x]) = _; rw [rooms_snoc x t]; rfl
theorem heads_len : ∀ es, (heads es).length = 2 * es.length
  | [] => rfl
  | x :: t => by show (heads t).length + 1 + 1 = 2 * (t.length + 1); rw [heads_len t]; omega
theorem rooms_len : ∀ es, (rooms es).length = 2 * es.length
  | [] => rfl
  | x :: t => by show (rooms t).length + 1 + 1 = 2 * (t.length + 1); rw [rooms_len t]; omega
theorem outs_snoc (u : Nat) (x : Arc) : ∀ (es : List Arc) (i : Nat), outs u i (es ++ [x]) = outs u i es ++ ((if x.a = u then [2 * (i + es.length)] else []) ++ (if x.b = u then [2 * (i + es.length) + 1] else []))
  | [], i => by simp [outs]
  | y :: t, i => by
    show _ ++ outs u (i + 1) (t ++ [x]) = (_ ++ outs u (i + 1) t) ++ _
    rw [outs_snoc u x t (i + 1), show i + 1 + t.length = i + (y :: t).length by simp; omega]
    simp only [List.append_assoc]
theorem heads_get : ∀ (es : List Arc) (i : Nat) (x : Arc), es[i]? = some x → (heads es)[2 * i]? = some x.b ∧ (heads es)[2 * i + 1]? = some x.a
  | [], i, x, h => by simp at h
  | y :: t, 0, x, h => by simp at h; subst h; exact ⟨rfl, rfl⟩
  | y :: t, i + 1, x, h => by
    have := heads_get t i x (by simpa using h)
    rw [show 2 * (i + 1) = 2 * i + 1 + 1 by omega]
    exact this
theorem rooms_get : ∀ (es : List Arc) (i : Nat) (x : Arc), es[i]? = some x → (rooms es)[2 * i]? = some x.c ∧ (rooms es)[2 * i + 1]? = some 0
  | [], i, x, h => by simp at h
  | y :: t, 0, x, h => by simp at h; subst h; exact ⟨rfl, rfl⟩
  | y :: t, i + 1, x, h => by
    have := rooms_get t i x (by simpa using h)
    rw [show 2 * (i + 1) = 2 * i + 1 + 1 by omega]
    exact this
theorem outs_mem (u : Nat) : ∀ (es : List Arc) (i e : Nat), e ∈ outs u i es ↔ ∃ j x, es[j]? = some x ∧ ((e = 2 * (i + j) ∧ x.a = u) ∨ (e = 2 * (i + j) + 1 ∧ x.b = u))
  | [], i, e => by simp [outs]
  | y :: t, i, e => by
    show e ∈ (_ ++ _) ++ outs u (i + 1) t ↔ _
    rw [List.mem_append, List.mem_append, outs_mem u t (i + 1) e]
    constructor
    · rintro ((h | h) | ⟨j, x, h1, h2⟩)
      · by_cases hy : y.a = u
        · rw [if_pos hy] at h; exact ⟨0, y, rfl, .inl ⟨by simpa using h, hy⟩⟩
        · rw [if_neg hy] at h; cases h
      · by_cases hy : y.b = u
        · rw [if_pos hy] at h; exact ⟨0, y, rfl, .inr ⟨by simpa using h, hy⟩⟩
        · rw [if_neg hy] at h; cases h
      · exact ⟨j + 1, x, by simpa using h1, by rw [show i + (j + 1) = i + 1 + j by omega]; exact h2⟩
    · rintro ⟨j, x, h1, h2⟩
      cases j with
      | zero =>
        simp at h1
        subst h1
        left
        rcases h2 with ⟨h, hy⟩ | ⟨h, hy⟩
        · left; rw [if_pos hy]; simpa using h
        · right; rw [if_pos hy]; simpa using h
      | succ j =>
        right
        exact ⟨j, x, by simpa using h1, by rw [show i + 1 + j = i + (j + 1) by omega]; exact h2⟩
theorem outs_len (u : Nat) : ∀ (es : List Arc) (i : Nat), (outs u i es).length ≤ 2 * es.length
  | [], _ => Nat.le_refl _
  | y :: t, i => by
    have := outs_len u t (i + 1)
    show ((_ ++ _) ++ outs u (i + 1) t).length ≤ 2 * (t.length + 1)
    rw [List.length_append, List.length_append]
    split <;> split <;> simp <;> omega
def grOf (V : Nat) (es : List Arc) : Gr where
  V := V
  M := 2 * es.length
  hd e := (heads es).getD e 0
  deg u := (outs u 0 es).length
  E u j := (outs u 0 es).getD j 0
theorem grOf_even (V : Nat) {es : List Arc} {i : Nat} {x : Arc} (h : es[i]? = some x) : (grOf V es).hd (2 * i) = x.b ∧ (grOf V es).tl (2 * i) = x.a ∧ (grOf V es).hd (2 * i + 1) = x.a ∧ (grOf V es).tl (2 * i + 1) = x.b := by
  obtain ⟨h1, h2⟩ := heads_get es i x h
  have e1 : (grOf V es).hd (2 * i) = x.b := by show (heads es).getD (2 * i) 0 = _; rw [List.getD_eq_getElem?_getD, h1]; rfl
  have e2 : (grOf V es).hd (2 * i + 1) = x.a := by show (heads es).getD (2 * i + 1) 0 = _; rw [List.getD_eq_getElem?_getD, h2]; rfl
  refine ⟨e1, ?_, e2, ?_⟩
  · unfold Gr.tl; rw [rev_even]; exact e2
  · unfold Gr.tl; rw [rev_odd]; exact e1
theorem edge_of {es : List Arc} {e : Nat} (h : e < 2 * es.length) : ∃ i x, es[i]? = some x ∧ (e = 2 * i ∨ e = 2 * i + 1) := by
  have hl : e / 2 < es.length := by omega
  exact ⟨e / 2, es[e / 2], List.getElem?_eq_getElem hl, by omega⟩
theorem outs_get (u : Nat) (es : List Arc) {j : Nat} (h : j < (outs u 0 es).length) : (outs u 0 es).getD j 0 ∈ outs u 0 es := by
  rw [List.getD_eq_getElem?_getD, List.getElem?_eq_getElem h]
  exact List.getElem_mem h
theorem grOf_wf {V : Nat} {es : List Arc} (hV : V ≤ 1000000) (hl : es.length ≤ 500000) (h : ∀ x ∈ es, x.a < V ∧ x.b < V) : (grOf V es).WF where
  hdV e he := by
    obtain ⟨i, x, hx, hi⟩ := edge_of he
    obtain ⟨h1, _, h3, _⟩ := grOf_even V hx
    have := h x (List.mem_of_getElem? hx)
    rcases hi with rfl | rfl
    · rw [h1]; exact this.2
    · rw [h3]; exact this.1
  ev := by show 2 * es.length % 2 = 0; omega
  big := by show 2 * es.length ≤ _; omega
  bigV := hV
  eM u j _ hj := by
    obtain ⟨i, x, hx, hi⟩ := (outs_mem u es 0 _).1 (outs_get u es hj)
    have := (List.getElem?_eq_some_iff.1 hx).1
    show (outs u 0 es).getD j 0 < 2 * es.length
    rcases hi with ⟨e, _⟩ | ⟨e, _⟩ <;> omega
  et u j _ hj := by
    obtain ⟨i, x, hx, hi⟩ := (outs_mem u es 0 _).1 (outs_get u es hj)
    obtain ⟨_, h2, _, h4⟩ := grOf_even V hx
    show (grOf V es).tl ((outs u 0 es).getD j 0) = u
    rw [Nat.zero_add] at hi
    rcases hi with ⟨e, hu⟩ | ⟨e, hu⟩
    · rw [e, h2, hu]
    · rw [e, h4, hu]
  all e he := by
    obtain ⟨i, x, hx, hi⟩ := edge_of he
    obtain ⟨_, h2, _, h4⟩ := grOf_even V hx
    have hm : e ∈ outs ((grOf V es).tl e) 0 es := by
      refine (outs_mem _ es 0 e).2 ⟨i, x, hx, ?_⟩
      rcases hi with rfl | rfl
      · left; rw [h2, Nat.zero_add]; exact ⟨rfl, rfl⟩
      · right; rw [h4, Nat.zero_add]; exact ⟨rfl, rfl⟩
    obtain ⟨j, hj, he⟩ := List.getElem_of_mem hm
    refine ⟨j, hj, ?_⟩
    show (outs _ 0 es).getD j 0 = e
    rw [List.getD_eq_getElem?_getD, List.getElem?_eq_getElem hj, he]; rfl
  degM u _ := outs_len u es 0
end Go.Sp
