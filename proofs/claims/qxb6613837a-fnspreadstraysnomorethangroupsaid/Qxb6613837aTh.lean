import Derived.Test.Qxb6613837aTg
namespace Go.Proofs.Qxb6613837a.Sp
open Go.Fr Go.RowKit Go.Sp

theorem bld41 (x y : Int) (w : World) : (Instr.build 41 #[(0, .int .i64 x), (1, .int .i64 y)]).run Try.prog w = .ok (.agg #[.int .i64 x, .int .i64 y]) w := by simp [go_sem]
theorem zero41 : ∀ w, (zeroValue 41).run Try.prog w = .ok (.agg #[.int .i64 0, .int .i64 0]) w := fun w => by simp [go_sem]
def zrow (k : Nat) : Obj := .cells (madeCells (Value.int .i64 0).cells (k * 1)) 3
theorem own_zrow (w : World) (k : Nat) : Own (w.alloc (zrow k)) w.heap.size 3 k k (fun _ => .int .i64 0) := by
  unfold zrow; rw [Nat.mul_one]; exact ⟨_, heap_new w _, size_madeCells _ _, fun i hi => made_get hi⟩
theorem own_next {w : World} {g k i : Nat} {t : TypeId} {tb : Nat → Nat} (h : Own w g t k i (fun q => sl (tb q) k)) (hi : i < k) (e : Nat) : Own (w.setCell ⟨g, i, none⟩ (sl e k)) g t k (i + 1) (fun q => sl (upd tb i e q) k) :=
  h.set hi (fun j hj => by
    by_cases hje : j = i
    · exact .inl ⟨hje, by rw [hje, upd_at]⟩
    · exact .inr ⟨hje, by omega, by rw [upd_ne _ _ hje]⟩)
/-- What the two fresh rows of a round look like. -/
structure Two (w w' : World) (k i gE gL e l : Nat) (tE tL : Nat → Nat) : Prop where
  kp : Keep [gE, gL] w w'
  oE : Own w' gE 22 k (i + 1) (fun q => sl (upd tE i e q) k)
  oL : Own w' gL 22 k (i + 1) (fun q => sl (upd tL i l q) k)
  e0 : Own w' e 3 k k (fun _ => .int .i64 0)
  l0 : Own w' l 3 k k (fun _ => .int .i64 0)
  en : w.heap.size ≤ e
  ln : w.heap.size ≤ l
  ne : e ≠ l
theorem Sq.keep {w w' : World} {k gX n : Nat} {xb : Nat → Nat} {x : Nat → Nat → Int} {l : List Nat} (h : Sq w k gX xb x n) (hk : Keep l w w') (h1 : gX ∉ l) (h2 : ∀ q, q < n → xb q ∉ l) : Sq w' k gX xb x n := ⟨h.top.keep hk h1, fun q hq => (h.row q hq).keep hk (h2 q hq)⟩
theorem Tr.keep {w w' : World} {B bx bg gx g go V : Nat} {rv : Nat → Value} {es : List Arc} {ex : Nat → Int} {l : List Nat} (h : Tr w B bx bg gx g go V rv es ex) (hk : Keep l w w') (hB : ∀ b, b ∈ l → b ∉ [g, go, gx, bx, bg] ∧ ∀ a, a < V + 2 → (rv a).ownBlock ≠ some b) : Tr w' B bx bg gx g go V rv es ex := by
  have hn : ∀ b, b ∈ [g, go, gx, bx, bg] → b ∉ l := fun b hb hm => (hB b hm).1 hb
  exact ⟨hk.cell h.xb (hn _ (by simp)), hk.cell h.gb (hn _ (by simp)), h.ex.keep hk (hn _ (by simp)),
    ⟨h.bld.st.keep hk (hn _ (by simp)), h.bld.ot.keep hk (hn _ (by simp)), h.bld.fam.keep hk (fun k hm => .inr (hB k hm).2), h.bld.gB, h.bld.goB, h.bld.ne⟩, h.xB, h.gB, h.eB, h.n1, h.n2, h.n3⟩
/-- The state inside a round: block i, links below j. -/
structure Rd (I : Inst) (w0 w : World) (B ib bx bg gx g go gE gL : Nat) (tE tL : Nat → Nat) (rv : Nat → Value) (i j e l : Nat) : Prop where
  bel : Below w0.heap.size w0 w
  tr : Tr w B bx bg gx g go (2 * I.k + 4) rv ((I.pre i j).map BArc.arc) (exOf (I.pre i j))
  oE : Own w gE 22 I.k (i + 1) (fun q => sl (upd tE i e q) I.k)
  oL : Own w gL 22 I.k (i + 1) (fun q => sl (upd tL i l q) I.k)
  rE : ∀ q, q < i → Own w (tE q) 3 I.k I.k (fun j => .int .i64 (eixv I q j))
  rL : ∀ q, q < i → Own w (tL q) 3 I.k I.k (fun j => .int .i64 (lowv I q j))
  e0 : Own w e 3 I.k I.k (fun q => .int .i64 (if q < j then eixv I i q else 0))
  l0 : Own w l 3 I.k I.k (fun q => .int .i64 (if q < j then lowv I i q else 0))
  xE : ∀ q, q < i → (B ≤ tE q ∧ tE q ≠ e ∧ tE q ≠ l) ∧ ∀ a, a < 2 * I.k + 4 + 2 → (rv a).ownBlock ≠ some (tE q)
  xL : ∀ q, q < i → (B ≤ tL q ∧ tL q ≠ e ∧ tL q ≠ l) ∧ ∀ a, a < 2 * I.k + 4 + 2 → (rv a).ownBlock ≠ some (tL q)
  xe : B ≤ e ∧ ∀ a, a < 2 * I.k + 4 + 2 → (rv a).ownBlock ≠ some e
  xl : B ≤ l ∧ ∀ a, a < 2 * I.k + 4 + 2 → (rv a).ownBlock ≠ some l
  el : e ≠ l
  i0 : w.cell? ⟨ib, 0, none⟩ = some (.int .i64 I.ilo)
  i1 : w.cell? ⟨ib, 1, none⟩ = some (.int .i64 I.ihi)
/-- The fixed blocks. -/
structure Fx (w0 : World) (B ib bx bg gx g go gE gL : Nat) : Prop where
  hW : w0.heap.size ≤ B ∧ w0.heap.size ≤ g ∧ w0.heap.size ≤ go ∧ w0.heap.size ≤ gx ∧ w0.heap.size ≤ gE ∧ w0.heap.size ≤ gL
  hB : g < B ∧ go < B ∧ gx < B ∧ gE < B ∧ gL < B ∧ ib < B ∧ bx < B ∧ bg < B
  nE : gE ∉ [g, go, gx, bx, bg]
  nL : gL ∉ [g, go, gx, bx, bg]
  nI : ib ∉ [g, go, gx]
  nEL : gE ≠ gL
  nIE : ib ≠ gE ∧ ib ≠ gL
theorem Rd.later {I : Inst} {w0 w w' : World} {B ib bx bg gx g go gE gL : Nat} {tE tL : Nat → Nat} {rv : Nat → Value} {i j e l : Nat} (h : Rd I w0 w B ib bx bg gx g go gE gL tE tL rv i j e l) (hb : Below w.heap.size w w') : Rd I w0 w' B ib bx bg gx g go gE gL tE tL rv i j e l :=
  ⟨h.bel.trans (hb.mono h.bel.size), h.tr.below hb, h.oE.later hb, h.oL.later hb, fun q hq => (h.rE q hq).later hb, fun q hq => (h.rL q hq).later hb, h.e0.later hb, h.l0.later hb, h.xE, h.xL, h.xe, h.xl, h.el, cell_later hb h.i0, cell_later hb h.i1⟩
/-- A link that is none. -/
theorem Rd.skip {I : Inst} {w0 w : World} {B ib bx bg gx g go gE gL : Nat} {tE tL : Nat → Nat} {rv : Nat → Value} {i j e l : Nat} (h : Rd I w0 w B ib bx bg gx g go gE gL tE tL rv i j e l) (fx : Fx w0 B ib bx bg gx g go gE gL) (hj : j < I.k) (hl : I.lnk i j ≠ true) :
    Rd I w0 (w.setCell ⟨e, j, none⟩ (.int .i64 (-1))) B ib bx bg gx g go gE gL tE tL rv i (j + 1) e l := by
  have hk := Keep.setCell w (l := [e]) (g := e) (i := j) (by simp) (.int .i64 (-1))
  have h1 := fx.hB
  have h2 := fx.hW
  have h3 := h.xe.1
  have hpre : I.pre i (j + 1) = I.pre i j := by rw [I.pre_succ, if_neg hl, List.append_nil]
  refine ⟨h.bel.setCell (p := ⟨e, j, none⟩) (by show w0.heap.size ≤ e; omega) _, ?_, h.oE.other (by omega) _, h.oL.other (by omega) _, fun q hq => (h.rE q hq).other (h.xE q hq).1.2.1 _, fun q hq => (h.rL q hq).other (h.xL q hq).1.2.1 _, ?_, ?_, h.xE, h.xL, h.xe, h.xl, h.el, hk.cell h.i0 (by simp; omega), hk.cell h.i1 (by simp; omega)⟩
  · rw [hpre]
    exact h.tr.keep hk (fun b hb => by
      rw [show b = e by simpa using hb]
      refine ⟨?_, h.xe.2⟩
      have := h.tr.xB
      have := h.tr.gB
      simp; omega)
  · refine h.e0.set hj (fun q hq => ?_)
    by_cases hqj : q = j
    · exact .inl ⟨hqj, by rw [if_pos (by omega), hqj]; simp [eixv, hl]⟩
    · refine .inr ⟨hqj, hq, ?_⟩
      by_cases hlt : q < j
      · rw [if_pos hlt, if_pos (by omega)]
      · rw [if_neg hlt, if_neg (by omega)]
  · refine (h.l0.other (Ne.symm h.el) _).congr (fun q hq => ?_)
    by_cases hqj : q = j
    · rw [if_neg (by omega), if_pos (by omega), hqj]; simp [lowv, hl]
    · by_cases hlt : q < j
      · rw [if_pos hlt, if_pos (by omega)]
      · rw [if_neg hlt, if_neg (by omega)]
/-- A link: bounded has been called, the two cells are laid. -/
theorem Rd.link {I : Inst} {w0 w w1 : World} {B ib bx bg gx g go gE gL : Nat} {tE tL : Nat → Nat} {rv rv1 : Nat → Value} {i j e l : Nat} (h : Rd I w0 w B ib bx bg gx g go gE gL tE tL rv i j e l) (fx : Fx w0 B ib bx bg gx g go gE gL) (hj : j < I.k) (hl : I.lnk i j = true)
    (htr : Tr w1 B bx bg gx g go (2 * I.k + 4) rv1 ((I.pre i j).map BArc.arc ++ [⟨i, I.k + j, I.hi i j - I.lo i j⟩]) (set1 (set1 (exOf (I.pre i j)) i (exOf (I.pre i j) i - I.lo i j)) (I.k + j) (set1 (exOf (I.pre i j)) i (exOf (I.pre i j) i - I.lo i j) (I.k + j) + I.lo i j)))
    (hk : Kept (2 * I.k + 4 + 2) [g, go, gx] w rv w1 rv1) :
    Rd I w0 ((w1.setCell ⟨e, j, none⟩ (.int .i64 ((2 * I.pos i j : Nat) : Int))).setCell ⟨l, j, none⟩ (.int .i64 (I.lo i j))) B ib bx bg gx g go gE gL tE tL rv1 i (j + 1) e l := by
  have h1 := fx.hB
  have h2 := fx.hW
  have h3 := h.xe.1
  have h4 := h.xl.1
  have hf := h.tr.bld.fam
  have hlB : ∀ b, B ≤ b → b ∉ [g, go, gx] := fun b hb hm => by simp at hm; omega
  have nE := fx.nE
  have nL := fx.nL
  simp only [List.mem_cons, List.not_mem_nil, or_false, not_or] at nE nL
  have oE := h.oE.kept hk (by simp [nE]) (hf.out (.inl h1.2.2.2.1))
  have oL := h.oL.kept hk (by simp [nL]) (hf.out (.inl h1.2.2.2.2.1))
  have e0 := h.e0.kept hk (hlB e h3) h.xe.2
  have l0 := h.l0.kept hk (hlB l h4) h.xl.2
  have rE := fun q hq => (h.rE q hq).kept hk (hlB _ (h.xE q hq).1.1) (h.xE q hq).2
  have rL := fun q hq => (h.rL q hq).kept hk (hlB _ (h.xL q hq).1.1) (h.xL q hq).2
  have i0 := Kept.cell hk h.i0 fx.nI (hf.out (.inl h1.2.2.2.2.2.1))
  have i1 := Kept.cell hk h.i1 fx.nI (hf.out (.inl h1.2.2.2.2.2.1))
  have bel := h.bel.trans (hk.below hf h2.1 (fun b hb => by simp at hb; omega))
  have old := fun b (hb : b < w.heap.size) (hB : B ≤ b) (ho : ∀ a, a < 2 * I.k + 4 + 2 → (rv a).ownBlock ≠ some b) => (hk.old b hb (hlB b hB) ho).2
  have xe := old e h.e0.lt h3 h.xe.2
  have xl := old l h.l0.lt h4 h.xl.2
  have xE := fun q hq => old (tE q) (h.rE q hq).lt (h.xE q hq).1.1 (h.xE q hq).2
  have xL := fun q hq => old (tL q) (h.rL q hq).lt (h.xL q hq).1.1 (h.xL q hq).2
  have htr2 : Tr w1 B bx bg gx g go (2 * I.k + 4) rv1 ((I.pre i (j + 1)).map BArc.arc) (exOf (I.pre i (j + 1))) := by
    rw [I.pre_succ, if_pos hl]; exact htr.step
  have k1 := Keep.setCell w1 (l := [e, l]) (g := e) (i := j) (by simp) (.int .i64 ((2 * I.pos i j : Nat) : Int))
  have k2 := k1.trans (Keep.setCell (w1.setCell ⟨e, j, none⟩ (.int .i64 ((2 * I.pos i j : Nat) : Int))) (l := [e, l]) (g := l) (i := j) (by simp) (.int .i64 (I.lo i j)))
  have nel : ∀ b, b < B → b ∉ [e, l] := fun b hb hm => by simp at hm; omega
  refine ⟨bel.trans (k2.below bel.size (fun b hb => by simp at hb; omega)), ?_, oE.keep k2 (nel _ h1.2.2.2.1), oL.keep k2 (nel _ h1.2.2.2.2.1), fun q hq => (rE q hq).keep k2 (by have := (h.xE q hq).1; simp; omega), fun q hq => (rL q hq).keep k2 (by have := (h.xL q hq).1; simp; omega), ?_, ?_, fun q hq => ⟨(h.xE q hq).1, xE q hq⟩, fun q hq => ⟨(h.xL q hq).1, xL q hq⟩, ⟨h3, xe⟩, ⟨h4, xl⟩, h.el, k2.cell i0 (nel _ h1.2.2.2.2.2.1), k2.cell i1 (nel _ h1.2.2.2.2.2.1)⟩
  · refine htr2.keep k2 (fun b hb => ⟨fun hm => ?_, ?_⟩)
    · simp at hb hm; omega
    · rcases (by simpa using hb : b = e ∨ b = l) with rfl | rfl
      · exact xe
      · exact xl
  · refine Own.other ?_ h.el _
    refine e0.set hj (fun q hq => ?_)
    by_cases hqj : q = j
    · exact .inl ⟨hqj, by rw [if_pos (by omega), hqj]; simp [eixv, hl]⟩
    · refine .inr ⟨hqj, hq, ?_⟩
      by_cases hlt : q < j
      · rw [if_pos hlt, if_pos (by omega)]
      · rw [if_neg hlt, if_neg (by omega)]
  · refine (l0.other (Ne.symm h.el) _).set hj (fun q hq => ?_)
    by_cases hqj : q = j
    · exact .inl ⟨hqj, by rw [if_pos (by omega), hqj]; simp [lowv, hl]⟩
    · refine .inr ⟨hqj, hq, ?_⟩
      by_cases hlt : q < j
      · rw [if_pos hlt, if_pos (by omega)]
      · rw [if_neg hlt, if_neg (by omega)]

end Go.Proofs.Qxb6613837a.Sp
