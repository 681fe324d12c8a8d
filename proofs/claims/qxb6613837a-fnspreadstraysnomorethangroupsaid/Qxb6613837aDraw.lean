import Derived.Test.Qxb6613837aEx
import Derived.OrdersHeld
import Derived.KernelRfl
namespace Go.Fr
open Go.RowKit

/-! ### Regions that draw their order: quiet operations are taken first, in an order of our own choice; 'S' is what they may know of the world; 'tl' marks operations that wait for all of them: behind those S need not hold. -/
section
variable {P : Program} {ops : Array Oper} {Q : Exit → Act → World → Prop} {S : World → Prop} {tl : Nat → Bool}

/-- Whatever order is picked from here on; each operation that is not marked keeps S. -/
def wpH (P : Program) (ops : Array Oper) (Q : Exit → Act → World → Prop) (S : World → Prop) (tl : Nat → Bool) : Nat → Array Bool → Act → World → Prop
  | 0, L, a, w => Region.ready .any ops L = [] ∧ Q .normal a w
  | fuel + 1, L, a, w =>
    (Region.ready .any ops L = [] → Q .normal a w) ∧
    ∀ i ∈ Region.ready .any ops L, wpOp P ops Q i (fun a' w' => (S w → tl i = false → S w') ∧ wpH P ops Q S tl fuel (L.setIfInBounds i true) a' w') a w

theorem any_of_H : ∀ (fuel : Nat) (L : Array Bool) (a : Act) (w : World), wpH P ops Q S tl fuel L a w → wpAny P .any ops Q fuel L a w
  | 0, _, _, _, h => h
  | fuel + 1, _, _, _, h => ⟨h.1, fun i hi => wpOp_mono (fun a' w' h' => any_of_H fuel _ a' w' h'.2) (h.2 i hi)⟩

/-- Every marked operation waits for i. -/
def waitsB (ops : Array Oper) (tl : Nat → Bool) (i : Nat) : Bool :=
  (List.range ops.size).all fun j => !tl j || match ops[j]? with
    | some oj => oj.after.any fun e => Region.binds .any e && e.on == i
    | none => true

theorem waitsB_spec {i j : Nat} {oj : Oper} (h : waitsB ops tl i = true) (hj : ops[j]? = some oj) (ht : tl j = true) : ∃ e ∈ oj.after, Region.binds .any e = true ∧ e.on = i := by
  unfold waitsB at h
  rw [List.all_eq_true] at h
  have h1 := h j (List.mem_range.2 (Array.getElem?_eq_some_iff.1 hj).1)
  simp only [ht, hj, Bool.not_true, Bool.false_or] at h1
  rw [Array.any_eq_true] at h1
  obtain ⟨n, hn, hb⟩ := h1
  rw [Bool.and_eq_true] at hb
  exact ⟨_, Array.getElem_mem hn, hb.1, by simpa using hb.2⟩

/-- A quiet operation that may come up now is taken first. -/
theorem wpH_first {i : Nat} {oi : Oper} {v : Value} (hi : ops[i]? = some oi) (hs : Region.noSelect ops = true) (hQ : ∀ c a w, ¬ Q (.panic c) a w) (hw : waitsB ops tl i = true) :
    ∀ (fuel : Nat) (L : Array Bool) (a : Act) (w : World),
      (∀ j oj, ops[j]? = some oj → j ≠ i → L.getD j true = false → (∀ e ∈ oj.after, Region.binds .any e = true → e.on ≠ i) → oi.apart ops oj = true) →
      i ∈ Region.ready .any ops L → YieldsIf P ops S oi v a → S w →
      wpH P ops Q S tl fuel (L.setIfInBounds i true) (a.put oi.dst v) w → wpH P ops Q S tl (fuel + 1) L a w := by
  have hsel := Region.noSelect_spec hs
  intro fuel
  induction fuel with
  | zero =>
    intro L a w _ hr hy hSw H
    refine ⟨fun h => (by rw [h] at hr; cases hr), fun j hj => ?_⟩
    by_cases hji : j = i
    · subst hji; exact hy.wpOp hi hSw ⟨fun h _ => h, H⟩
    · have := ready_mono hj hji
      rw [H.1] at this
      cases this
  | succ fuel ih =>
    intro L a w hfree hr hy hSw H
    have hun := (mem_ready.1 hr).1
    refine ⟨fun h => (by rw [h] at hr; cases hr), fun j hj => ?_⟩
    by_cases hji : j = i
    · subst hji; exact hy.wpOp hi hSw ⟨fun h _ => h, H⟩
    · have h1 := H.2 j (ready_mono hj hji)
      obtain ⟨hjun, oj, hoj, hall⟩ := mem_ready.1 hj
      have hnot : ∀ e ∈ oj.after, Region.binds .any e = true → e.on ≠ i := fun e he hb heq => by
        have h1 := hall e he hb
        rw [heq] at h1
        rcases Nat.lt_or_ge i L.size with h' | h'
        · simp [h'] at hun h1; rw [hun] at h1; cases h1
        · simp [Array.getElem?_eq_none h'] at h1
      have htl : tl j = false := by
        cases ht : tl j with
        | false => rfl
        | true =>
          obtain ⟨e, he, hb, heq⟩ := waitsB_spec hw hoj ht
          exact absurd heq (hnot e he hb)
      have h2 := wpOp_putIf hoj (hfree j oj hoj hji hjun hnot) (fun cs b => hsel i oi cs b hi) (fun cs b => hsel j oj cs b hoj) (fun c a w hq => absurd hq (hQ c _ w)) hy h1
      have hfree' : ∀ k ok, ops[k]? = some ok → k ≠ i → (L.setIfInBounds j true).getD k true = false →
          (∀ e ∈ ok.after, Region.binds .any e = true → e.on ≠ i) → oi.apart ops ok = true := fun k ok hk hki hun' hno => by
        refine hfree k ok hk hki ?_ hno
        by_cases hjk : j = k
        · subst hjk; exact hjun
        · rw [getD_set_ne true hjk] at hun'; exact hun'
      refine wpOp_mono (fun a' w' h3 => ?_) h2
      obtain ⟨hy', hS', hH'⟩ := h3
      refine ⟨hS', ih (L.setIfInBounds j true) a' w' hfree' (ready_mono hr (Ne.symm hji)) hy' (hS' hSw htl) ?_⟩
      rw [Array.setIfInBounds_comm _ _ hji]
      exact hH'

/-- The same for an operation that yields in whatever world: nothing is asked of the world. -/
theorem wpH_pure {i : Nat} {oi : Oper} {v : Value} (hi : ops[i]? = some oi) (hs : Region.noSelect ops = true) (hQ : ∀ c a w, ¬ Q (.panic c) a w) :
    ∀ (fuel : Nat) (L : Array Bool) (a : Act) (w : World),
      (∀ j oj, ops[j]? = some oj → j ≠ i → L.getD j true = false → (∀ e ∈ oj.after, Region.binds .any e = true → e.on ≠ i) → oi.apart ops oj = true) →
      i ∈ Region.ready .any ops L → YieldsIf P ops (fun _ => True) oi v a →
      wpH P ops Q S tl fuel (L.setIfInBounds i true) (a.put oi.dst v) w → wpH P ops Q S tl (fuel + 1) L a w := by
  have hsel := Region.noSelect_spec hs
  intro fuel
  induction fuel with
  | zero =>
    intro L a w _ hr hy H
    refine ⟨fun h => (by rw [h] at hr; cases hr), fun j hj => ?_⟩
    by_cases hji : j = i
    · subst hji; exact hy.wpOp hi trivial ⟨fun h _ => h, H⟩
    · have := ready_mono hj hji
      rw [H.1] at this
      cases this
  | succ fuel ih =>
    intro L a w hfree hr hy H
    have hun := (mem_ready.1 hr).1
    refine ⟨fun h => (by rw [h] at hr; cases hr), fun j hj => ?_⟩
    by_cases hji : j = i
    · subst hji; exact hy.wpOp hi trivial ⟨fun h _ => h, H⟩
    · have h1 := H.2 j (ready_mono hj hji)
      obtain ⟨hjun, oj, hoj, hall⟩ := mem_ready.1 hj
      have hnot : ∀ e ∈ oj.after, Region.binds .any e = true → e.on ≠ i := fun e he hb heq => by
        have h1 := hall e he hb
        rw [heq] at h1
        rcases Nat.lt_or_ge i L.size with h' | h'
        · simp [h'] at hun h1; rw [hun] at h1; cases h1
        · simp [Array.getElem?_eq_none h'] at h1
      have h2 := wpOp_putIf hoj (hfree j oj hoj hji hjun hnot) (fun cs b => hsel i oi cs b hi) (fun cs b => hsel j oj cs b hoj) (fun c a w hq => absurd hq (hQ c _ w)) hy h1
      have hfree' : ∀ k ok, ops[k]? = some ok → k ≠ i → (L.setIfInBounds j true).getD k true = false →
          (∀ e ∈ ok.after, Region.binds .any e = true → e.on ≠ i) → oi.apart ops ok = true := fun k ok hk hki hun' hno => by
        refine hfree k ok hk hki ?_ hno
        by_cases hjk : j = k
        · subst hjk; exact hjun
        · rw [getD_set_ne true hjk] at hun'; exact hun'
      refine wpOp_mono (fun a' w' h3 => ?_) h2
      obtain ⟨hy', hS', hH'⟩ := h3
      refine ⟨hS', ih (L.setIfInBounds j true) a' w' hfree' (ready_mono hr (Ne.symm hji)) hy' ?_⟩
      rw [Array.setIfInBounds_comm _ _ hji]
      exact hH'

/-- Normal or nothing. -/
def NP (K : Act → World → Prop) : Exit → Act → World → Prop
  | .normal, a, w => K a w
  | _, _, _ => False

/-! ### The moves, over association-list frames -/
/-- The walk's state: how many operations may still come up, which have. -/
structure wpd (P : Program) (ol : List Oper) (K : Act → World → Prop) (S : World → Prop) (tl : Nat → Bool) (fuel : Nat) (L : Array Bool) (a : Act) (w : World) : Prop where
  out : wpH P ol.toArray (NP K) S tl fuel L a w

def nthOp : List Oper → Nat → Option Oper
  | [], _ => none
  | o :: _, 0 => some o
  | _ :: r, i + 1 => nthOp r i
theorem nthOp_eq : ∀ (ol : List Oper) (i : Nat), nthOp ol i = ol.toArray[i]?
  | [], i => by simp [nthOp]
  | o :: r, 0 => by simp [nthOp]
  | o :: r, i + 1 => by rw [nthOp, nthOp_eq r i]; simp

/-- One check for one operation that is taken first. -/
def takeB (ol : List Oper) (tl : Nat → Bool) (L : Array Bool) (i : Nat) : Bool :=
  Region.noSelect ol.toArray && Region.free .any ol.toArray L i && (Region.ready .any ol.toArray L).contains i && waitsB ol.toArray tl i

variable {ol : List Oper} {K : Act → World → Prop} {fuel : Nat} {L : Array Bool} {N : Nat} {u : Nat → Value} {l : List (Nat × Value)} {w w' : World} {v : Value}
  {dst : Option Tmp} {op : Op} {ty : TypeId} {pos : String} {after : Array Edge}

theorem wp_draw_seq {id : Nat} {y : Code} (hm : P.follows .mixedOrders = true) (S : World → Prop) (tl : Nat → Bool) (n : Nat) (hn : ol.length = n)
    (h : ∀ K, (∀ a w, y.wp P Q a w → K a w) → wpd P ol K S tl n (Array.replicate n false) (fr N u l) w.drew) : (Code.seq (Code.region id ol.toArray true) y).wp P Q (fr N u l) w := by
  subst hn
  refine wp_seq_k fun K hK => ?_
  refine Code.wp_mono (Q := NP K) (fun e a w h => ?_) (wp_region_any hm (any_of_H (S := S) (tl := tl) _ _ _ _ ?_))
  · cases e <;> first | exact h | exact (h : False).elim
  · have := (h K hK).out
    simpa using this
theorem wp_draw_last {id : Nat} (hm : P.follows .mixedOrders = true) (S : World → Prop) (tl : Nat → Bool) (n : Nat) (hn : ol.length = n)
    (h : wpd P ol (Q .normal) S tl n (Array.replicate n false) (fr N u l) w.drew) : (Code.region id ol.toArray true).wp P Q (fr N u l) w := by
  subst hn
  refine Code.wp_mono (Q := NP (Q .normal)) (fun e a w h => ?_) (wp_region_any hm (any_of_H (S := S) (tl := tl) _ _ _ _ ?_))
  · cases e <;> first | exact h | exact (h : False).elim
  · have := h.out
    simpa using this

/-- A quiet operation, taken first. -/
theorem wpd_take (i : Nat) (hB : takeB ol tl L i = true) (hn : nthOp ol i = some { dst := dst, op := op, type := ty, pos := pos, after := after, guard := none })
    (hS : S w) (h : ∀ w, S w → Ex P (ev N u l) op ty w v w) (hv : v ≠ undef)
    (k : wpd P ol K S tl fuel (L.setIfInBounds i true) (fr N u (putl dst v l)) w) : wpd P ol K S tl (fuel + 1) L (fr N u l) w := by
  unfold takeB at hB
  simp only [Bool.and_eq_true] at hB
  obtain ⟨⟨⟨h1, h2⟩, h3⟩, h4⟩ := hB
  rw [nthOp_eq] at hn
  refine ⟨wpH_first (v := v) hn h1 (fun c a w hq => hq) h4 fuel L _ w (Region.free_spec hn h2) (by simpa using h3) (.inl ⟨by simp [Region.wanted], fun w hw => ?_⟩) hS (by rw [put_fr]; exact k.out)⟩
  rw [eval_fr]
  rcases h w hw { dst := dst, op := op, type := ty, pos := pos, after := after, guard := none } rfl rfl with hx | ⟨_, hx⟩
  · exact hx
  · exact absurd hx hv
/-- One check for a pure operation. -/
def pureB (ol : List Oper) (L : Array Bool) (i : Nat) : Bool :=
  Region.noSelect ol.toArray && Region.free .any ol.toArray L i && (Region.ready .any ol.toArray L).contains i
/-- An operation that yields in whatever world, taken first. -/
theorem wpd_pure (i : Nat) (hB : pureB ol L i = true) (hn : nthOp ol i = some { dst := dst, op := op, type := ty, pos := pos, after := after, guard := none })
    (h : ∀ w, Ex P (ev N u l) op ty w v w) (hv : v ≠ undef)
    (k : wpd P ol K S tl fuel (L.setIfInBounds i true) (fr N u (putl dst v l)) w) : wpd P ol K S tl (fuel + 1) L (fr N u l) w := by
  unfold pureB at hB
  simp only [Bool.and_eq_true] at hB
  obtain ⟨⟨h1, h2⟩, h3⟩ := hB
  rw [nthOp_eq] at hn
  refine ⟨wpH_pure (v := v) hn h1 (fun c a w hq => hq) fuel L _ w (Region.free_spec hn h2) (by simpa using h3) (.inl ⟨by simp [Region.wanted], fun w _ => ?_⟩) (by rw [put_fr]; exact k.out)⟩
  rw [eval_fr]
  rcases h w { dst := dst, op := op, type := ty, pos := pos, after := after, guard := none } rfl rfl with hx | ⟨_, hx⟩
  · exact hx
  · exact absurd hx hv
/-- A guarded quiet operation that is wanted. -/
theorem wpd_takeg (i : Nat) {j t : Nat} {b : Bool} (hB : takeB ol tl L i = true) (hn : nthOp ol i = some { dst := dst, op := op, type := ty, pos := pos, after := after, guard := some (j, b) })
    (h1 : dstAt ol j = some t) (h2 : boolOf (ev N u l (.tmp t)) = some b) (hS : S w) (h : ∀ w, S w → Ex P (ev N u l) op ty w v w) (hv : v ≠ undef)
    (k : wpd P ol K S tl fuel (L.setIfInBounds i true) (fr N u (putl dst v l)) w) : wpd P ol K S tl (fuel + 1) L (fr N u l) w := by
  unfold takeB at hB
  simp only [Bool.and_eq_true] at hB
  obtain ⟨⟨⟨g1, g2⟩, g3⟩, g4⟩ := hB
  rw [nthOp_eq] at hn
  have hy := yl_of (ol := ol) h1 h2
  refine ⟨wpH_first (v := v) hn g1 (fun c a w hq => hq) g4 fuel L _ w (Region.free_spec hn g2) (by simpa using g3) (.inl ⟨by simp [Region.wanted, yielded_fr, hy], fun w hw => ?_⟩) hS (by rw [put_fr]; exact k.out)⟩
  rw [eval_fr]
  rcases h w hw { dst := dst, op := op, type := ty, pos := pos, after := after, guard := some (j, b) } rfl rfl with hx | ⟨_, hx⟩
  · exact hx
  · exact absurd hx hv
/-- A guarded operation that is passed over. -/
theorem wpd_pass (i : Nat) {j t : Nat} {b : Bool} (hB : takeB ol tl L i = true) (hn : nthOp ol i = some { dst := dst, op := op, type := ty, pos := pos, after := after, guard := some (j, b) })
    (h1 : dstAt ol j = some t) (h2 : isB (ev N u l (.tmp t)) b = false) (hS : S w)
    (k : wpd P ol K S tl fuel (L.setIfInBounds i true) (fr N u (putl dst undef l)) w) : wpd P ol K S tl (fuel + 1) L (fr N u l) w := by
  unfold takeB at hB
  simp only [Bool.and_eq_true] at hB
  obtain ⟨⟨⟨g1, g2⟩, g3⟩, g4⟩ := hB
  rw [nthOp_eq] at hn
  have hy : yl ol.toArray N u l j ≠ some b := by
    unfold yl
    rw [← dstAt_eq, h1]
    simp only []
    cases hv : ev N u l (.tmp t) <;> simp_all [isB]
  exact ⟨wpH_first (v := undef) hn g1 (fun c a w hq => hq) g4 fuel L _ w (Region.free_spec hn g2) (by simpa using g3) (.inr ⟨by simp [Region.wanted, yielded_fr, hy], rfl⟩) hS (by rw [put_fr]; exact k.out)⟩

/-- The only operation that may come up. -/
theorem wpd_one (i : Nat) (hr : Region.ready .any ol.toArray L = [i]) (hn : nthOp ol i = some { dst := dst, op := op, type := ty, pos := pos, after := after, guard := none })
    (h : Ex P (ev N u l) op ty w v w') (hS : S w → tl i = false → S w') (k : wpd P ol K S tl fuel (L.setIfInBounds i true) (fr N u (putl dst v l)) w') : wpd P ol K S tl (fuel + 1) L (fr N u l) w := by
  rw [nthOp_eq] at hn
  refine ⟨⟨fun h0 => (by rw [hr] at h0; cases h0), fun j hj => ?_⟩⟩
  rw [hr] at hj
  obtain rfl : j = i := by simpa using hj
  unfold wpOp
  simp only [hn]
  rw [if_pos (by simp [Region.wanted])]
  refine .inl ?_
  have hx := h { dst := dst, op := op, type := ty, pos := pos, after := after, guard := none } rfl rfl
  unfold Oper.wp
  rw [eval_fr]
  rcases hx with hx | ⟨hx, rfl⟩
  · rw [hx]; simp only [Oper.upon]; rw [put_fr]; exact ⟨hS, k.out⟩
  · rw [hx]; simp only [Oper.upon]; rw [put_fr]; exact ⟨hS, k.out⟩

/-- The only operation that may come up, a call. -/
theorem wpd_call (i : Nat) {f : FuncId} {args : Array Value} {Φ : Value → World → Prop} (hr : Region.ready .any ol.toArray L = [i]) (hn : nthOp ol i = some { dst := dst, op := op, type := ty, pos := pos, after := after, guard := none })
    (h : ExC P (ev N u l) op ty w f args) (hc : Ret P f args w Φ) (k : ∀ v w', Φ v w' → (S w → tl i = false → S w') ∧ wpd P ol K S tl fuel (L.setIfInBounds i true) (fr N u (putl dst v l)) w') :
    wpd P ol K S tl (fuel + 1) L (fr N u l) w := by
  rw [nthOp_eq] at hn
  refine ⟨⟨fun h0 => (by rw [hr] at h0; cases h0), fun j hj => ?_⟩⟩
  rw [hr] at hj
  obtain rfl : j = i := by simpa using hj
  unfold wpOp
  simp only [hn]
  rw [if_pos (by simp [Region.wanted])]
  refine .inl ?_
  have hx := h { dst := dst, op := op, type := ty, pos := pos, after := after, guard := none } rfl rfl
  unfold Oper.wp
  rw [eval_fr, hx]
  simp only [Oper.upon]
  refine Calls.mono hc ?_
  rintro e w' ⟨v, rfl, hv⟩
  simp only []
  rw [put_fr]
  exact ⟨(k v w' hv).1, (k v w' hv).2.out⟩

/-- All have come up. -/
theorem wpd_nil {a : Act} (hr : Region.ready .any ol.toArray L = []) (h : K a w) : wpd P ol K S tl fuel L a w := by
  refine ⟨?_⟩
  cases fuel with
  | zero => exact ⟨hr, h⟩
  | succ n => exact ⟨fun _ => h, by rw [hr]; simp⟩

/-! ### Regions that draw, only read and call what only makes memory: one walk in the text's order -/
/-- The worlds: nothing that was there at the region's beginning has turned. -/
structure wpq (P : Program) (ol : List Oper) (w₀ : World) (K : Act → World → Prop) (r : List Oper) (a : Act) : Prop where
  out : wpQuiet P ol.toArray (fun w' => Below w₀.heap.size w₀ w') (fun a' => ∀ w', Below w₀.heap.size w₀ w' → K a' w') r a

variable {w₀ : World} {rest : List Oper}
theorem wp_quiet_seq {id : Nat} {y : Code} (hm : P.follows .mixedOrders = true) (hB : Region.lexB .any ol.toArray = true)
    (h : ∀ K, (∀ a w, y.wp P Q a w → K a w) → wpq P ol w K ol (fr N u l)) : (Code.seq (Code.region id ol.toArray true) y).wp P Q (fr N u l) w := by
  refine wp_seq_k fun K hK => ?_
  refine wp_region_quiet (C := fun w' => Below w.heap.size w w') hm hB (Below.refl _ _).drew ?_
  exact (h K hK).out
theorem wp_quiet_last {id : Nat} (hm : P.follows .mixedOrders = true) (hB : Region.lexB .any ol.toArray = true)
    (h : wpq P ol w (Q .normal) ol (fr N u l)) : (Code.region id ol.toArray true).wp P Q (fr N u l) w :=
  wp_region_quiet (C := fun w' => Below w.heap.size w w') hm hB (Below.refl _ _).drew h.out
theorem wpq_nil {a : Act} (h : ∀ w', Below w₀.heap.size w₀ w' → K a w') : wpq P ol w₀ K [] a := ⟨h⟩

theorem quiet_of_ex {a : Act} {K' : Act → Prop} {gd : Option (Nat × Bool)} (h : ∀ w, Below w₀.heap.size w₀ w → Ex P (ev N u l) op ty w v w) (k : K' (fr N u (putl dst v l))) (ha : a = fr N u l) :
    Oper.quiet P { dst := dst, op := op, type := ty, pos := pos, after := after, guard := gd } a (fun w' => Below w₀.heap.size w₀ w') K' := by
  subst ha
  refine ⟨v, fun w hw => ?_, by rw [put_fr]; exact k⟩
  unfold Oper.quietAt
  rw [eval_fr]
  rcases h w hw { dst := dst, op := op, type := ty, pos := pos, after := after, guard := gd } rfl rfl with hx | ⟨hx, hv⟩
  · rw [hx]; exact ⟨rfl, rfl⟩
  · rw [hx]; exact ⟨rfl, hv⟩
theorem wpq_op (h : ∀ w, Below w₀.heap.size w₀ w → Ex P (ev N u l) op ty w v w) (k : wpq P ol w₀ K rest (fr N u (putl dst v l))) :
    wpq P ol w₀ K ({ dst := dst, op := op, type := ty, pos := pos, after := after, guard := none } :: rest) (fr N u l) := by
  refine ⟨wpQuiet_step fun K' hK' => ?_⟩
  rw [if_pos (by simp [Region.wanted])]
  exact quiet_of_ex h (hK' _ k.out) rfl
theorem wpq_opg {j t : Nat} {b : Bool} (h1 : dstAt ol j = some t) (h2 : boolOf (ev N u l (.tmp t)) = some b) (h : ∀ w, Below w₀.heap.size w₀ w → Ex P (ev N u l) op ty w v w) (k : wpq P ol w₀ K rest (fr N u (putl dst v l))) :
    wpq P ol w₀ K ({ dst := dst, op := op, type := ty, pos := pos, after := after, guard := some (j, b) } :: rest) (fr N u l) := by
  have hy := yl_of (ol := ol) h1 h2
  refine ⟨wpQuiet_step fun K' hK' => ?_⟩
  rw [if_pos (by simp [Region.wanted, yielded_fr, hy])]
  exact quiet_of_ex h (hK' _ k.out) rfl
theorem wpq_pass {j t : Nat} {b : Bool} (h1 : dstAt ol j = some t) (h2 : isB (ev N u l (.tmp t)) b = false) (k : wpq P ol w₀ K rest (fr N u (putl dst undef l))) :
    wpq P ol w₀ K ({ dst := dst, op := op, type := ty, pos := pos, after := after, guard := some (j, b) } :: rest) (fr N u l) := by
  have hy : yl ol.toArray N u l j ≠ some b := by
    unfold yl
    rw [← dstAt_eq, h1]
    simp only []
    cases hv : ev N u l (.tmp t) <;> simp_all [isB]
  refine ⟨wpQuiet_step fun K' hK' => ?_⟩
  rw [if_neg (by simp [Region.wanted, yielded_fr, hy]), put_fr]
  exact hK' _ k.out
theorem quiet_of_call {a : Act} {K' : Act → Prop} {gd : Option (Nat × Bool)} {f : FuncId} {args : Array Value} (h : ∀ w, ExC P (ev N u l) op ty w f args)
    (hc : ∀ w, Below w₀.heap.size w₀ w → Ret P f args w fun v' w' => v' = v ∧ Below w.heap.size w w') (k : K' (fr N u (putl dst v l))) (ha : a = fr N u l) :
    Oper.quiet P { dst := dst, op := op, type := ty, pos := pos, after := after, guard := gd } a (fun w' => Below w₀.heap.size w₀ w') K' := by
  subst ha
  refine ⟨v, fun w hw => ?_, by rw [put_fr]; exact k⟩
  unfold Oper.quietAt
  rw [eval_fr, h w { dst := dst, op := op, type := ty, pos := pos, after := after, guard := gd } rfl rfl]
  refine ⟨rfl, Calls.mono (hc w hw) ?_⟩
  rintro e w' ⟨v', rfl, rfl, hb⟩
  exact ⟨rfl, hw.trans (hb.mono hw.size)⟩
theorem wpq_call {f : FuncId} {args : Array Value} (h : ∀ w, ExC P (ev N u l) op ty w f args)
    (hc : ∀ w, Below w₀.heap.size w₀ w → Ret P f args w fun v' w' => v' = v ∧ Below w.heap.size w w') (k : wpq P ol w₀ K rest (fr N u (putl dst v l))) :
    wpq P ol w₀ K ({ dst := dst, op := op, type := ty, pos := pos, after := after, guard := none } :: rest) (fr N u l) := by
  refine ⟨wpQuiet_step fun K' hK' => ?_⟩
  rw [if_pos (by simp [Region.wanted])]
  exact quiet_of_call h hc (hK' _ k.out) rfl
theorem wpq_callg {j t : Nat} {b : Bool} {f : FuncId} {args : Array Value} (h1 : dstAt ol j = some t) (h2 : boolOf (ev N u l (.tmp t)) = some b) (h : ∀ w, ExC P (ev N u l) op ty w f args)
    (hc : ∀ w, Below w₀.heap.size w₀ w → Ret P f args w fun v' w' => v' = v ∧ Below w.heap.size w w') (k : wpq P ol w₀ K rest (fr N u (putl dst v l))) :
    wpq P ol w₀ K ({ dst := dst, op := op, type := ty, pos := pos, after := after, guard := some (j, b) } :: rest) (fr N u l) := by
  have hy := yl_of (ol := ol) h1 h2
  refine ⟨wpQuiet_step fun K' hK' => ?_⟩
  rw [if_pos (by simp [Region.wanted, yielded_fr, hy])]
  exact quiet_of_call h hc (hK' _ k.out) rfl
end
end Go.Fr
