import Derived.WalkKit
import Derived.WalkSpells
import Derived.WalkSmall
import Derived.WalkLawsBesides
import Derived.Deep.Quiet
import Derived.Orders
namespace Go.Fr
open Go.RowKit

/-! ### Frames as association lists over whatever the other slots hold -/
def look (u : Nat → Value) : List (Nat × Value) → Nat → Value
  | [], t => u t
  | (d, v) :: l, t => bif Nat.beq d t then v else look u l t

def fr (N : Nat) (u : Nat → Value) (l : List (Nat × Value)) : Act := ⟨Array.ofFn (n := N) fun i => look u l i.1, []⟩

def ev (N : Nat) (u : Nat → Value) (l : List (Nat × Value)) : Operand → Value
  | .tmp t => bif Nat.blt t N then look u l t else undef
  | .const v => v
  | .global g => .pointer (some ⟨g, 0, none⟩)
  | .func f => .func (.func f) #[] #[]

theorem eval_fr (N : Nat) (u : Nat → Value) (l : List (Nat × Value)) : (fr N u l).eval = ev N u l := by
  funext x
  cases x with
  | tmp t =>
    simp only [Act.eval, fr, ev]
    by_cases h : t < N
    · have hb : Nat.blt t N = true := by simpa [Nat.blt_eq] using h
      simp [Array.getD, h, hb]
    · have hb : Nat.blt t N = false := by
        cases e : Nat.blt t N with
        | false => rfl
        | true => exact absurd (by simpa [Nat.blt_eq] using e) h
      simp [Array.getD, h, hb]
  | _ => rfl

def putl (d : Option Tmp) (v : Value) (l : List (Nat × Value)) : List (Nat × Value) :=
  match d with
  | some d => (d, v) :: l
  | none => l

theorem put_fr (N : Nat) (u : Nat → Value) (l : List (Nat × Value)) (d : Option Tmp) (v : Value) : (fr N u l).put d v = fr N u (putl d v l) := by
  cases d with
  | none => rfl
  | some d =>
    simp only [Act.put, fr, putl]
    congr 1
    apply Array.ext_getElem?
    intro i
    rw [Array.getElem?_setIfInBounds, Array.getElem?_ofFn, Array.getElem?_ofFn]
    by_cases e : d = i
    · subst e
      by_cases hd : d < N
      · simp [hd, look]
      · simp [hd]
    · rw [if_neg e]
      have : Nat.beq d i = false := by
        cases hb : Nat.beq d i with
        | false => rfl
        | true => exact absurd (Nat.eq_of_beq_eq_true hb) e
      simp only [look, this, cond_false]

/-- Each listed slot holds what the list says. -/
def Agree (u : Nat → Value) (l : List (Nat × Value)) : List (Nat × Value) → Prop
  | [] => True
  | (d, v) :: r => look u l d = v ∧ Agree u l r

theorem look_agree {u : Nat → Value} {l : List (Nat × Value)} : ∀ {l' : List (Nat × Value)}, Agree u l l' → ∀ t, look (look u l) l' t = look u l t
  | [], _, _ => rfl
  | (d, v) :: r, h, t => by
    simp only [look]
    cases hb : Nat.beq d t with
    | true => have := Nat.eq_of_beq_eq_true hb; subst this; simpa using h.1.symm
    | false => simpa using look_agree h.2 t

theorem fr_norm {N : Nat} {u : Nat → Value} {l : List (Nat × Value)} (l' : List (Nat × Value)) (h : Agree u l l') : fr N u l = fr N (look u l) l' := by
  simp only [fr]
  congr 2
  funext i
  rw [look_agree h]

theorem wp_norm {P : Program} {c : Code} {Q : Exit → Act → World → Prop} {N : Nat} {u : Nat → Value} {l : List (Nat × Value)} {w : World} (l' : List (Nat × Value)) (h : Agree u l l')
    (k : ∀ u', c.wp P Q (fr N u' l') w) : c.wp P Q (fr N u l) w := by
  rw [fr_norm l' h]; exact k _

/-! ### One operation -/
/-- What an operation yields: a value (nothing: 'undef') and a world. -/
def Ex (P : Program) (ρ : Operand → Value) (op : Op) (ty : TypeId) (w : World) (v : Value) (w' : World) : Prop :=
  ∀ o : Oper, o.op = op → o.type = ty → (execOp ρ o).run P w = .ok (.value v) w' ∨ ((execOp ρ o).run P w = .ok .skip w' ∧ v = undef)

/-- An operation that enters a function. -/
def ExC (P : Program) (ρ : Operand → Value) (op : Op) (ty : TypeId) (w : World) (f : FuncId) (args : Array Value) : Prop :=
  ∀ o : Oper, o.op = op → o.type = ty → (execOp ρ o).run P w = .ok (.enter f args) w

/-- A call that returns. -/
def Ret (P : Program) (f : FuncId) (args : Array Value) (w : World) (Φ : Value → World → Prop) : Prop :=
  Calls P f args w fun e w' => ∃ v, e = .returned v ∧ Φ v w'

theorem Ret.mono {P : Program} {f : FuncId} {args : Array Value} {w : World} {Φ Ψ : Value → World → Prop} (h : Ret P f args w Φ) (k : ∀ v w', Φ v w' → Ψ v w') : Ret P f args w Ψ :=
  Calls.mono h fun _ _ ⟨v, e, hv⟩ => ⟨v, e, k _ _ hv⟩

/-! ### A region without a draw -/
structure wpl (P : Program) (ops : Array Oper) (K : Act → World → Prop) (Q : Exit → Act → World → Prop) (l : List Oper) (a : Act) (w : World) : Prop where
  out : wpList P ops (Exit.then K Q) l a w

section
variable {P : Program} {ops : Array Oper} {K : Act → World → Prop} {Q : Exit → Act → World → Prop} {N : Nat} {u : Nat → Value} {l : List (Nat × Value)} {w w' : World} {rest : List Oper} {v : Value}
  {dst : Option Tmp} {op : Op} {ty : TypeId} {pos : String} {after : Array Edge} {gd : Option (Nat × Bool)}

theorem wpl_nil {a : Act} (h : K a w) : wpl P ops K Q [] a w := ⟨h⟩

theorem wpl_op (hg : gd = none) (h : Ex P (ev N u l) op ty w v w') (k : wpl P ops K Q rest (fr N u (putl dst v l)) w') :
    wpl P ops K Q ({ dst := dst, op := op, type := ty, pos := pos, after := after, guard := gd } :: rest) (fr N u l) w := by
  subst hg
  refine ⟨wpList_plain rfl fun K' hK' => ?_⟩
  have hx := h { dst := dst, op := op, type := ty, pos := pos, after := after, guard := none } rfl rfl
  unfold Oper.wp
  rw [eval_fr]
  rcases hx with hx | ⟨hx, rfl⟩
  · rw [hx]; simp only [Oper.upon]; rw [put_fr]; exact hK' _ _ k.out
  · rw [hx]; simp only [Oper.upon]; rw [put_fr]; exact hK' _ _ k.out

theorem wpl_call (hg : gd = none) {f : FuncId} {args : Array Value} {Φ : Value → World → Prop} (h : ExC P (ev N u l) op ty w f args) (hc : Ret P f args w Φ)
    (k : ∀ v w', Φ v w' → wpl P ops K Q rest (fr N u (putl dst v l)) w') :
    wpl P ops K Q ({ dst := dst, op := op, type := ty, pos := pos, after := after, guard := gd } :: rest) (fr N u l) w := by
  subst hg
  refine ⟨wpList_plain rfl fun K' hK' => ?_⟩
  have hx := h { dst := dst, op := op, type := ty, pos := pos, after := after, guard := none } rfl rfl
  unfold Oper.wp
  rw [eval_fr, hx]
  simp only [Oper.upon]
  refine Calls.mono hc ?_
  rintro e w' ⟨v, rfl, hv⟩
  simp only []
  rw [put_fr]
  exact hK' _ _ (k v w' hv).out

/-- The Bool in the slot of operation j. -/
def yl (ops : Array Oper) (N : Nat) (u : Nat → Value) (l : List (Nat × Value)) (j : Nat) : Option Bool :=
  match (ops[j]?).bind (·.dst) with
  | some t => match ev N u l (.tmp t) with
    | .bool b => some b
    | _ => none
  | none => none

theorem yielded_fr (j : Nat) : yielded ops (fr N u l).tmps j = yl ops N u l j := by
  unfold yielded yl
  cases h : (ops[j]?).bind (·.dst) with
  | none => rfl
  | some t =>
    simp only [Option.bind_some, fr, ev]
    by_cases ht : t < N
    · have hb : Nat.blt t N = true := by simpa [Nat.blt_eq] using ht
      simp only [hb, cond_true]
      rw [Array.getElem?_ofFn]
      simp only [ht, dite_true]
      cases look u l t <;> rfl
    · have hb : Nat.blt t N = false := by
        cases e : Nat.blt t N with
        | false => rfl
        | true => exact absurd (by simpa [Nat.blt_eq] using e) ht
      simp only [hb, cond_false]
      rw [Array.getElem?_ofFn]
      simp only [ht, dite_false]
      rfl

/-- The slot of operation j. -/
def dstAt : List Oper → Nat → Option Tmp
  | [], _ => none
  | o :: _, 0 => o.dst
  | _ :: r, j + 1 => dstAt r j
def boolOf : Value → Option Bool
  | .bool b => some b
  | _ => none
theorem dstAt_eq : ∀ (ol : List Oper) (j : Nat), dstAt ol j = (ol.toArray[j]?).bind (·.dst)
  | [], j => by simp [dstAt]
  | o :: r, 0 => by simp [dstAt]
  | o :: r, j + 1 => by rw [dstAt, dstAt_eq r j]; simp
theorem yl_of {ol : List Oper} {j t : Nat} {b : Bool} (h1 : dstAt ol j = some t) (h2 : boolOf (ev N u l (.tmp t)) = some b) : yl ol.toArray N u l j = some b := by
  unfold yl
  rw [← dstAt_eq, h1]
  simp only []
  cases hv : ev N u l (.tmp t) <;> simp_all [boolOf]

/-- A guarded operation that is wanted. -/
theorem wpl_opg {ol : List Oper} {j t : Nat} {b : Bool} (h1 : dstAt ol j = some t) (h2 : boolOf (ev N u l (.tmp t)) = some b) (h : Ex P (ev N u l) op ty w v w') (k : wpl P ol.toArray K Q rest (fr N u (putl dst v l)) w') :
    wpl P ol.toArray K Q ({ dst := dst, op := op, type := ty, pos := pos, after := after, guard := some (j, b) } :: rest) (fr N u l) w := by
  have hy := yl_of (ol := ol) h1 h2
  refine ⟨wpList_step fun K' hK' => ?_⟩
  rw [if_pos (by simp [Region.wanted, yielded_fr, hy])]
  have hx := h { dst := dst, op := op, type := ty, pos := pos, after := after, guard := some (j, b) } rfl rfl
  unfold Oper.wp
  rw [eval_fr]
  rcases hx with hx | ⟨hx, rfl⟩
  · rw [hx]; simp only [Oper.upon]; rw [put_fr]; exact hK' _ _ k.out
  · rw [hx]; simp only [Oper.upon]; rw [put_fr]; exact hK' _ _ k.out

def isB : Value → Bool → Bool
  | .bool c, b => c == b
  | _, _ => false
/-- A guarded operation that is passed over. -/
theorem wpl_pass {ol : List Oper} {j t : Nat} {b : Bool} (h1 : dstAt ol j = some t) (h2 : isB (ev N u l (.tmp t)) b = false) (k : wpl P ol.toArray K Q rest (fr N u (putl dst undef l)) w) :
    wpl P ol.toArray K Q ({ dst := dst, op := op, type := ty, pos := pos, after := after, guard := some (j, b) } :: rest) (fr N u l) w := by
  refine ⟨wpList_step fun K' hK' => ?_⟩
  have hn : yl ol.toArray N u l j ≠ some b := by
    unfold yl
    rw [← dstAt_eq, h1]
    simp only []
    cases hv : ev N u l (.tmp t) <;> simp_all [isB]
  rw [if_neg (by simp [Region.wanted, yielded_fr, hn])]
  rw [put_fr]; exact hK' _ _ k.out

theorem out_block {id : Nat} {a : Act} (h : Q .ret a w) : Exit.inBlock id Q .ret a w := h
theorem out_then {a : Act} (h : Q .ret a w) : Exit.then K Q .ret a w := h

/-! ### Code -/
theorem wp_region_seq {id : Nat} {ol : List Oper} {y : Code} {a : Act} (h : ∀ K, (∀ a w, y.wp P Q a w → K a w) → wpl P ol.toArray K Q ol a w) :
    (Code.seq (Code.region id ol.toArray false) y).wp P Q a w :=
  wp_seq_k fun K hK => wp_region_lit (h K hK).out

theorem wp_region_last {id : Nat} {ol : List Oper} {a : Act} (h : wpl P ol.toArray (Q .normal) Q ol a w) : (Code.region id ol.toArray false).wp P Q a w := by
  refine wp_region_lit ?_
  have e : Exit.then (Q .normal) Q = Q := by funext e; cases e <;> rfl
  have h' := h.out
  rwa [e] at h'

theorem wp_if_true {c : Operand} {x y : Code} (hc : ev N u l c = .bool true) (h : x.wp P Q (fr N u l) w) : (Code.cond c x y).wp P Q (fr N u l) w :=
  wp_cond_true (by rw [eval_fr]; exact hc) h
theorem wp_if_false {c : Operand} {x y : Code} (hc : ev N u l c = .bool false) (h : y.wp P Q (fr N u l) w) : (Code.cond c x y).wp P Q (fr N u l) w :=
  wp_cond_false (by rw [eval_fr]; exact hc) h
/-- Both ways. -/
theorem wp_if {c : Operand} {x y : Code} {t : Bool} (hc : ev N u l c = .bool t) (ht : t = true → x.wp P Q (fr N u l) w) (hf : t = false → y.wp P Q (fr N u l) w) : (Code.cond c x y).wp P Q (fr N u l) w :=
  wp_cond_split (by rw [eval_fr]; exact hc) ht hf

/-- A loop, its measure a number that need stand in no slot. -/
theorem wp_loop_n {c : Code} {a : Act} (I : Nat → Act → World → Prop) (n : Nat) (h₀ : I n a w) (round : ∀ n a w, I n a w → c.wp P (Exit.then (fun a' w' => ∃ m, m < n ∧ I m a' w') Q) a w) : (Code.loop c).wp P Q a w := by
  intro b k cs
  have key : ∀ n a w, I n a w → ∃ e a' w', Q e a' w' ∧ Arrives P (lone (b.at a (.code c :: .inLoop c :: k)) cs w) b k cs e a' w' := by
    intro n
    induction n using Nat.strongRecOn with
    | _ n ih =>
      intro a w hI
      obtain ⟨e, a₁, w₁, hq, harr⟩ := round n a w hI b (.inLoop c :: k) cs
      cases e with
      | normal =>
        obtain ⟨m, hlt, hI₁⟩ := hq
        obtain ⟨e₂, a₂, w₂, hq₂, harr₂⟩ := ih m hlt a₁ w₁ hI₁
        exact ⟨e₂, a₂, w₂, hq₂, .of_steps (Steps.trans harr (.one step_inLoop)) harr₂⟩
      | exit id => exact ⟨_, a₁, w₁, hq, .pass (x := .inLoop c) rfl (fun _ _ => .inl (by simp)) harr⟩
      | goto l => exact ⟨_, a₁, w₁, hq, .pass (x := .inLoop c) rfl (fun _ _ => .inl (by simp)) harr⟩
      | ret => exact ⟨_, a₁, w₁, hq, .pass (x := .inLoop c) rfl (fun _ _ => .inl (by simp)) harr⟩
      | panic ch => exact ⟨_, a₁, w₁, hq, .pass (x := .inLoop c) rfl (fun _ _ => .inl (by simp)) harr⟩
      | outgrown => exact ⟨_, a₁, w₁, hq, .pass (x := .inLoop c) rfl (fun _ _ => .inl (by simp)) harr⟩
  obtain ⟨e, a', w', hq, harr⟩ := key n a w h₀
  exact ⟨e, a', w', hq, .of_steps (.one step_loop) harr⟩

/-- A loop over states: of each state, what the slots hold, what holds of the world, and a measure. What stands behind the loop, and behind a round, is hidden. -/
theorem wp_loop_st {c : Code} {σ : Type} (ls : σ → List (Nat × Value)) (I : σ → World → Prop) (μ : σ → Nat) (s₀ : σ) (hl : Agree u l (ls s₀)) (h₀ : I s₀ w)
    (round : ∀ s u w, I s w → ∀ R : Act → World → Prop, (∀ u' l' w' s', Agree u' l' (ls s') → I s' w' → μ s' < μ s → R (fr N u' l') w') → c.wp P (Exit.then R Q) (fr N u (ls s)) w) : (Code.loop c).wp P Q (fr N u l) w := by
  refine wp_loop_n (fun n a w => ∃ u s, a = fr N u (ls s) ∧ I s w ∧ μ s = n) (μ s₀) ⟨_, s₀, fr_norm _ hl, h₀, rfl⟩ ?_
  rintro n a w ⟨u, s, rfl, hI, rfl⟩
  refine round s u w hI _ ?_
  intro u' l' w' s' ha hI' hlt
  exact ⟨μ s', hlt, _, s', fr_norm _ ha, hI', rfl⟩

/-! ### Functions -/
def post (P : Program) (fn : Func) (Φ : Value → World → Prop) : Exit → Act → World → Prop := bodyPost P fn fun e w' => ∃ v, e = .returned v ∧ Φ v w'

def argl : List Value → Nat → List (Nat × Value)
  | [], _ => []
  | v :: vs, k => (k, v) :: argl vs (k + 1)

theorem look_argl : ∀ (vs : List Value) (k : Nat) (t : Nat), look (fun _ => undef) (argl vs k) t = if k ≤ t then vs.getD (t - k) undef else undef
  | [], k, t => by simp [argl, look]
  | v :: vs, k, t => by
    simp only [argl, look]
    cases hb : Nat.beq k t with
    | true => have := Nat.eq_of_beq_eq_true hb; subst this; simp
    | false =>
      have hne : k ≠ t := fun e => by subst e; simp at hb
      simp only [cond_false]
      rw [look_argl vs (k + 1) t]
      by_cases h1 : k ≤ t
      · have h2 : k + 1 ≤ t := by omega
        obtain ⟨d, rfl⟩ : ∃ d, t = k + 1 + d := ⟨t - (k + 1), by omega⟩
        have e1 : k + 1 + d - k = d + 1 := by omega
        have e2 : k + 1 + d - (k + 1) = d := by omega
        rw [if_pos h1, if_pos h2, e1, e2, List.getD_cons_succ]
      · rw [if_neg h1, if_neg (by omega)]

theorem start_fr (vs : List Value) (N : Nat) (h : vs.length ≤ N) : ({ tmps := vs.toArray ++ Array.replicate (N - vs.toArray.size) undef, defers := [] } : Act) = fr N (fun _ => undef) (argl vs 0) := by
  simp only [fr]
  congr 1
  apply Array.ext
  · simp; omega
  · intro i h1 h2
    rw [Array.getElem_ofFn, look_argl]
    simp only [Nat.zero_le, if_true, Nat.sub_zero]
    rw [Array.getElem_append]
    split
    · rename_i hi
      simp at hi
      simp [List.getD, List.getElem?_eq_getElem hi]
    · rename_i hi
      simp at hi
      simp [List.getD, List.getElem?_eq_none hi]

theorem Ret.of_body {f : FuncId} {fn : Func} {c : Code} {vs : List Value} {Φ : Value → World → Prop} (hf : P.funcs[f]? = some fn) (hb : fn.body = some c) (hn : fn.ntmps = N) (hl : Nat.ble vs.length N = true)
    (h : c.wp P (post P fn Φ) (fr N (fun _ => undef) (argl vs 0)) w) : Ret P f vs.toArray w Φ := by
  refine calls_of_wp hf hb ?_
  rw [hn, start_fr vs N (Nat.le_of_ble_eq_true hl)]
  exact h

theorem ret_tmp {fn : Func} {Φ : Value → World → Prop} {t : Tmp} (hr : fn.results = #[.tmp t]) (h : Φ (ev N u l (.tmp t)) w) : post P fn Φ .ret (fr N u l) w := by
  refine ⟨rfl, ev N u l (.tmp t), ?_, _, rfl, h⟩
  have := congrFun (eval_fr N u l) (.tmp t)
  rw [← this]
  simp [results, hr, Act.eval]
theorem ret_none {fn : Func} {Φ : Value → World → Prop} (hr : fn.results = #[]) (h : Φ (.tuple #[]) w) : post P fn Φ .normal (fr N u l) w :=
  ⟨rfl, .tuple #[], by simp [results, hr], _, rfl, h⟩
theorem ret_none' {fn : Func} {Φ : Value → World → Prop} (hr : fn.results = #[]) (h : Φ (.tuple #[]) w) : post P fn Φ .ret (fr N u l) w :=
  ⟨rfl, .tuple #[], by simp [results, hr], _, rfl, h⟩
theorem ret_tmp2 {fn : Func} {Φ : Value → World → Prop} {t s : Tmp} (hr : fn.results = #[.tmp t, .tmp s]) (h : Φ (.tuple #[ev N u l (.tmp t), ev N u l (.tmp s)]) w) : post P fn Φ .ret (fr N u l) w := by
  refine ⟨rfl, _, ?_, _, rfl, h⟩
  rw [← eval_fr]
  simp [results, hr, Act.eval]
end
end Go.Fr
