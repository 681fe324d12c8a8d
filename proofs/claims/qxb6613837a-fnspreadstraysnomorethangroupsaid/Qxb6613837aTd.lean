import Derived.Test.Qxb6613837aBnd
import Derived.Test.Qxb6613837aTi
namespace Go.Proofs.Qxb6613837a.Sp
open Go.Fr Go.RowKit Go.Sp

def codeAt : List Nat → Code → Code
  | [], c => c
  | 0 :: p, .seq x _ => codeAt p x
  | _ :: p, .seq _ y => codeAt p y
  | _, c => c
theorem own_at {w : World} {g n k i : Nat} {t : TypeId} {f : Nat → Value} (h : Own w g t n k f) (hi : i < n) (v : Value) : (w.setCell ⟨g, i, none⟩ v).cell? ⟨g, i, none⟩ = some v := by
  obtain ⟨arr, h1, h2, _⟩ := h
  exact cell_at (heap_set_same _ h1) (by rw [Array.getElem?_setIfInBounds]; simp [h2, hi])
/-- The shares that are handed back. -/
def share (I : Inst) (r : Nat → Int) (i j : Nat) : Int := if I.lnk i j then I.lo i j + r (2 * I.pos i j + 1) else 0
def lowv (I : Inst) (i j : Nat) : Int := if I.lnk i j then I.lo i j else 0
def eixv (I : Inst) (i j : Nat) : Int := if I.lnk i j then ((2 * I.pos i j : Nat) : Int) else -1
def sl (b k : Nat) : Value := .slice (some ⟨b, 0, none⟩) k k
/-- A square of numbers in memory: gX's cell i leads to row xb i. -/
structure Sq (w : World) (k gX : Nat) (xb : Nat → Nat) (x : Nat → Nat → Int) (n : Nat) : Prop where
  top : Own w gX 22 k n (fun q => sl (xb q) k)
  row : ∀ q, q < n → Own w (xb q) 3 k k (fun j => .int .i64 (x q j))
theorem Sq.later {w w' : World} {k gX n : Nat} {xb : Nat → Nat} {x : Nat → Nat → Int} (h : Sq w k gX xb x n) (hb : Below w.heap.size w w') : Sq w' k gX xb x n := ⟨h.top.later hb, fun q hq => (h.row q hq).later hb⟩
theorem Sq.set {w : World} {k gX n b i : Nat} {xb : Nat → Nat} {x : Nat → Nat → Int} (h : Sq w k gX xb x n) (v : Value) (h1 : gX ≠ b) (h2 : ∀ q, q < n → xb q ≠ b) : Sq (w.setCell ⟨b, i, none⟩ v) k gX xb x n := ⟨h.top.other h1 v, fun q hq => (h.row q hq).other (h2 q hq) v⟩


theorem rest4 (I : Inst) (hI : I.Fine) (L : Lay) (hM : L.G.M ≤ 1000000) (r : Nat → Int) (bg gE gL : Nat) (tE tL : Nat → Nat) (w0 w : World) (hb0 : Below w0.heap.size w0 w) (hnet : Net w L r) (hbg : w.cell? ⟨bg, 0, none⟩ = some (.pointer (some ⟨L.g, 0, none⟩)))
    (hE : Sq w I.k gE tE (eixv I) I.k) (hL : Sq w I.k gL tL (lowv I) I.k) (hpos : ∀ i j, i < I.k → j < I.k → I.lnk i j = true → 2 * I.pos i j + 1 < L.G.M ∧ 0 ≤ r (2 * I.pos i j + 1) ∧ r (2 * I.pos i j + 1) ≤ 1000000000) (Ψ : Value → World → Prop)
    (hΨ : ∀ gX xb w', Sq w' I.k gX xb (share I r) I.k → w0.heap.size ≤ gX → (∀ q, q < I.k → gX < xb q) → (∀ p q, p < q → q < I.k → xb p < xb q) → Below w0.heap.size w0 w' → Ψ (sl gX I.k) w') (u : Nat → Value) :
    Code.wp Try.prog (codeAt [1, 1, 1, 1, 1, 1, 1, 1, 1, 1, 1, 1, 1, 1, 1] (Try.f26.body.getD .skip)) (post Try.prog Try.f26 Ψ) (fr 230 u [(7, .int .i64 (I.k : Int)), (12, .pointer (some ⟨bg, 0, none⟩)), (16, sl gE I.k), (17, sl gL I.k)]) w := by
  conv => arg 2; whnf
  have hkb := hI.kb
  refine wp_region_seq (fun K hK => ?_)
  refine wpl_op rfl (Ex_move (by conv => lhs; whnf)) ?_
  refine wpl_op rfl (Ex_mk Try.underlying27 info22 rfl rfl (by omega) (by omega)) ?_
  refine wpl_op rfl (Ex_assign (by conv => lhs; whnf)) ?_
  refine wpl_nil (hK _ _ ?_)
  clear hK K
  have hbA : Below w.heap.size w (w.alloc (.cells (madeCells (Value.slice none 0 0).cells (I.k * 1)) 22)) := (Below.refl _ _).alloc (Nat.le_refl _) _
  have hXA : Own (w.alloc (.cells (madeCells (Value.slice none 0 0).cells (I.k * 1)) 22)) w.heap.size 22 I.k 0 (fun q => sl 0 I.k) := by rw [Nat.mul_one]; exact Own.made w _ _ _ _
  refine wp_gen (fun w1 => Below w.heap.size w w1 ∧ Own w1 w.heap.size 22 I.k 0 (fun q => sl 0 I.k)) ⟨hbA, hXA⟩ (fun w1 hg1 => ?_)
  clear hbA hXA
  obtain ⟨hbA, hXA⟩ := hg1
  refine wp_seq_k (fun K1 hK1 => ?_)
  refine wp_region_seq (fun K hK => ?_)
  refine wpl_op rfl (Ex_move (by conv => lhs; whnf)) ?_
  refine wpl_op rfl (Ex_move (by conv => lhs; whnf)) ?_
  refine wpl_nil (hK _ _ ?_)
  clear hK K
  refine wp_block ?_
  refine wp_loop_st (fun q : Nat × (Nat → Nat) => [(7, .int .i64 (I.k : Int)), (12, .pointer (some ⟨bg, 0, none⟩)), (16, sl gE I.k), (17, sl gL I.k), (26, sl w.heap.size I.k), (189, .int .i64 (I.k : Int)), (190, .int .i64 (q.1 : Int))])
    (fun q w' => q.1 ≤ I.k ∧ Below w.heap.size w w' ∧ Sq w' I.k w.heap.size q.2 (share I r) q.1 ∧ (∀ p, p < q.1 → w.heap.size < q.2 p ∧ q.2 p < w'.heap.size) ∧ (∀ p p', p < p' → p' < q.1 → q.2 p < q.2 p'))
    (fun q => I.k - q.1) (0, fun _ => 0) ⟨rfl, rfl, rfl, rfl, rfl, rfl, rfl, trivial⟩ ⟨Nat.zero_le _, hbA, ⟨hXA.congr (fun i hi => by omega), fun q hq => absurd hq (Nat.not_lt_zero _)⟩, fun p hp => absurd hp (Nat.not_lt_zero _), fun p p' _ hp => absurd hp (Nat.not_lt_zero _)⟩ ?_
  clear hXA hbA
  rintro ⟨i, xb⟩ uu w2 ⟨hi, hb, hX, hgt, hinc⟩ R hR
  dsimp only at hi hX hgt hinc
  by_cases hlt : i < I.k
  · skip
    refine wp_region_seq (fun K hK => ?_)
    refine wpl_op rfl (Ex_lss rfl rfl (decide_eq_true (by dsimp only; omega))) ?_
    refine wpl_nil (hK _ _ ?_)
    clear hK K
    refine wp_seq_k (fun K' hK' => ?_)
    refine wp_if_true rfl ?_
    refine wp_skip (hK' _ _ ?_)
    clear hK' K'
    refine wp_seq_k (fun K' hK' => ?_)
    refine wp_block ?_
    refine wp_region_seq (fun K hK => ?_)
    refine wpl_op rfl (Ex_move (by conv => lhs; whnf)) ?_
    refine wpl_op rfl (Ex_assign (by conv => lhs; whnf)) ?_
    refine wpl_nil (hK _ _ ?_)
    clear hK K
    have hbB : Below w2.heap.size w2 (w2.alloc (.cells (madeCells (Value.int .i64 0).cells (I.k * 1)) 3)) := (Below.refl _ _).alloc (Nat.le_refl _) _
    have hrow : Own (w2.alloc (.cells (madeCells (Value.int .i64 0).cells (I.k * 1)) 3)) w2.heap.size 3 I.k I.k (fun _ => .int .i64 0) := by
      rw [Nat.mul_one]; exact ⟨_, heap_new w2 _, size_madeCells _ _, fun i hi => made_get hi⟩
    have hX2 := hX.later hbB
    obtain ⟨old, hold⟩ := hX2.top.some (i := i) hlt
    have hgX2 : w.heap.size < w2.heap.size := hX.top.lt
    refine wp_region_seq (fun K hK => ?_)
    refine wpl_op rfl (Ex_move (by conv => lhs; whnf)) ?_
    refine wpl_op rfl (Ex_move (by conv => lhs; whnf)) ?_
    refine wpl_op rfl (Ex_move (by conv => lhs; whnf)) ?_
    refine wpl_op rfl (Ex_mk Try.underlying22 info3 rfl rfl (by omega) (by omega)) ?_
    refine wpl_op rfl (Ex_index1 Try.underlying27 size_27 rfl rfl hlt) ?_
    refine wpl_op rfl (Ex_store one22 rfl (by conv => lhs; whnf) rfl (by rw [Nat.zero_add]; exact hold) hX2.top.open_) ?_
    refine wpl_nil (hK _ _ ?_)
    clear hK K
    rw [Nat.zero_add]
    have hX3 : Sq ((w2.alloc (.cells (madeCells (Value.int .i64 0).cells (I.k * 1)) 3)).setCell ⟨w.heap.size, i, none⟩ (sl w2.heap.size I.k)) I.k w.heap.size (upd xb i w2.heap.size) (share I r) i := by
      refine ⟨?_, fun q hq => ?_⟩
      · exact hX2.top.set hlt (fun j hj => .inr ⟨by omega, hj, by rw [upd_ne _ _ (by omega)]⟩)
      · rw [upd_ne _ _ (by omega)]
        exact (hX2.row q hq).other (by have := hgt q hq; omega) _
    have htop : ((w2.alloc (.cells (madeCells (Value.int .i64 0).cells (I.k * 1)) 3)).setCell ⟨w.heap.size, i, none⟩ (sl w2.heap.size I.k)).cell? ⟨w.heap.size, 0 + i, none⟩ = some (sl w2.heap.size I.k) := by
      rw [Nat.zero_add]
      exact own_at hX2.top hlt _
    have hrow3 : Own ((w2.alloc (.cells (madeCells (Value.int .i64 0).cells (I.k * 1)) 3)).setCell ⟨w.heap.size, i, none⟩ (sl w2.heap.size I.k)) w2.heap.size 3 I.k I.k (fun _ => .int .i64 0) := hrow.other (by omega) _
    have hb3 : Below w.heap.size w ((w2.alloc (.cells (madeCells (Value.int .i64 0).cells (I.k * 1)) 3)).setCell ⟨w.heap.size, i, none⟩ (sl w2.heap.size I.k)) := (hb.trans (hbB.mono hb.size)).setCell (Nat.le_refl _) _
    have hsz3 : w2.heap.size + 1 ≤ ((w2.alloc (.cells (madeCells (Value.int .i64 0).cells (I.k * 1)) 3)).setCell ⟨w.heap.size, i, none⟩ (sl w2.heap.size I.k)).heap.size := hrow3.lt
    refine wp_gen (fun w3 => Below w.heap.size w w3 ∧ Sq w3 I.k w.heap.size (upd xb i w2.heap.size) (share I r) i ∧ w3.cell? ⟨w.heap.size, 0 + i, none⟩ = some (sl w2.heap.size I.k) ∧ Own w3 w2.heap.size 3 I.k I.k (fun _ => .int .i64 0) ∧ w2.heap.size + 1 ≤ w3.heap.size) ⟨hb3, hX3, htop, hrow3, hsz3⟩ (fun w3 hg3 => ?_)
    clear hbB hrow hX2 hold hb3 hX3 htop hrow3 hsz3
    obtain ⟨hb3, hX3, htop, hrow3, hsz3⟩ := hg3
    generalize w2.heap.size = e at *
    refine wp_region_seq (fun K hK => ?_)
    refine wpl_op rfl (Ex_move (by conv => lhs; whnf)) ?_
    refine wpl_op rfl (Ex_move (by conv => lhs; whnf)) ?_
    refine wpl_op rfl (Ex_index1 Try.underlying27 size_27 rfl rfl hlt) ?_
    refine wpl_op rfl (Ex_load one22 rfl ((hE.later hb3).top.c0 hlt)) ?_
    refine wpl_op rfl (Ex_len Try.underlying22 rfl) ?_
    refine wpl_op rfl (Ex_move (by conv => lhs; whnf)) ?_
    refine wpl_nil (hK _ _ ?_)
    clear hK K
    refine wp_block ?_
    refine wp_loop_st (fun j : Nat => [(7, .int .i64 (I.k : Int)), (12, .pointer (some ⟨bg, 0, none⟩)), (16, sl gE I.k), (17, sl gL I.k), (26, sl w.heap.size I.k), (189, .int .i64 (I.k : Int)), (27, .int .i64 (i : Int)), (190, .int .i64 (i : Int)), (201, sl (tE i) I.k), (202, .int .i64 (I.k : Int)), (203, .int .i64 (j : Int))])
      (fun j w' => j ≤ I.k ∧ Below w.heap.size w w' ∧ Sq w' I.k w.heap.size (upd xb i e) (share I r) i ∧ w'.cell? ⟨w.heap.size, 0 + i, none⟩ = some (sl e I.k) ∧ Own w' e 3 I.k I.k (fun p => .int .i64 (if p < j then share I r i p else 0)) ∧ e + 1 ≤ w'.heap.size)
      (fun j => I.k - j) 0 ⟨rfl, rfl, rfl, rfl, rfl, rfl, rfl, rfl, rfl, rfl, rfl, trivial⟩ ⟨Nat.zero_le _, hb3, hX3, htop, hrow3.congr (fun p hp => by simp), hsz3⟩ ?_
    clear hb3 hX3 htop hrow3 hsz3
    rintro j uu w4 ⟨hj, hb4, hX4, htop, hrow4, hsz4⟩ R1 hR1
    have hE4 := hE.later hb4
    have hL4 := hL.later hb4
    have hnet4 := hnet.later hb4
    have hbg4 := cell_later hb4 hbg
    by_cases hjlt : j < I.k
    · skip
      refine wp_region_seq (fun K hK => ?_)
      refine wpl_op rfl (Ex_lss rfl rfl (decide_eq_true (by omega))) ?_
      refine wpl_nil (hK _ _ ?_)
      clear hK K
      refine wp_seq_k (fun K2 hK2 => ?_)
      refine wp_if_true rfl ?_
      refine wp_skip (hK2 _ _ ?_)
      clear hK2 K2
      refine wp_seq_k (fun K2 hK2 => ?_)
      refine wp_block ?_
      have hec := (hE4.row i hlt).c0 hjlt
      have hlc := (hL4.row i hlt).c0 hjlt
      unfold eixv at hec
      unfold lowv at hlc
      by_cases hl : I.lnk i j = true
      · rw [if_pos hl] at hec hlc
        obtain ⟨hp1, hp2, hp3⟩ := hpos i j hlt hjlt hl
        have hlo := hI.l0 i j hlt hjlt hl
        have hshare : share I r i j = I.lo i j + r (2 * I.pos i j + 1) := by simp [share, hl]
        have hrev : rev (2 * I.pos i j) = 2 * I.pos i j + 1 := rev_even _
        refine wp_region_seq (fun K hK => ?_)
        refine wpl_op rfl (Ex_move (by conv => lhs; whnf)) ?_
        refine wpl_op rfl (Ex_index1 Try.underlying22 size_22 rfl rfl hjlt) ?_
        refine wpl_op rfl (Ex_load one3 rfl hec) ?_
        refine wpl_op rfl (Ex_assign (by conv => lhs; whnf)) ?_
        refine wpl_op rfl (Ex_assign (by conv => lhs; whnf)) ?_
        refine wpl_nil (hK _ _ ?_)
        clear hK K
        refine wp_region_seq (fun K hK => ?_)
        refine wpl_op rfl (Ex_move (by conv => lhs; whnf)) ?_
        refine wpl_op rfl (Ex_geq rfl rfl (decide_eq_true (by omega))) ?_
        refine wpl_nil (hK _ _ ?_)
        clear hK K
        refine wp_if_true rfl ?_
        refine wp_draw_last (by kernel_rfl) (fun w' => w'.cell? ⟨w.heap.size, 0 + i, none⟩ = some (sl e I.k) ∧ w'.cell? ⟨gL, 0 + i, none⟩ = some (sl (tL i) I.k) ∧ w'.cell? ⟨tL i, 0 + j, none⟩ = some (.int .i64 (I.lo i j)) ∧ w'.cell? ⟨bg, 0, none⟩ = some (.pointer (some ⟨L.g, 0, none⟩))) (fun q => Nat.beq q 17) 18 rfl ?_
        have hS : w4.drew.cell? ⟨w.heap.size, 0 + i, none⟩ = some (sl e I.k) ∧ w4.drew.cell? ⟨gL, 0 + i, none⟩ = some (sl (tL i) I.k) ∧ w4.drew.cell? ⟨tL i, 0 + j, none⟩ = some (.int .i64 (I.lo i j)) ∧ w4.drew.cell? ⟨bg, 0, none⟩ = some (.pointer (some ⟨L.g, 0, none⟩)) := ⟨htop, hL4.top.c0 hlt, hlc, hbg4⟩
        refine wpd_pure 0 (by kernel_rfl) rfl (fun w => Ex_move (by conv => lhs; whnf)) (by intro h; cases h) ?_
        refine wpd_pure 1 (by kernel_rfl) rfl (fun w => Ex_move (by conv => lhs; whnf)) (by intro h; cases h) ?_
        refine wpd_pure 2 (by kernel_rfl) rfl (fun w => Ex_index1 Try.underlying27 size_27 rfl rfl hlt) (by intro h; cases h) ?_
        refine wpd_take 3 (by kernel_rfl) rfl hS (fun w hw => Ex_load one22 rfl hw.1) (by intro h; cases h) ?_
        refine wpd_pure 4 (by kernel_rfl) rfl (fun w => Ex_move (by conv => lhs; whnf)) (by intro h; cases h) ?_
        refine wpd_pure 5 (by kernel_rfl) rfl (fun w => Ex_move (by conv => lhs; whnf)) (by intro h; cases h) ?_
        refine wpd_pure 6 (by kernel_rfl) rfl (fun w => Ex_move (by conv => lhs; whnf)) (by intro h; cases h) ?_
        refine wpd_pure 7 (by kernel_rfl) rfl (fun w => Ex_index1 Try.underlying27 size_27 rfl rfl hlt) (by intro h; cases h) ?_
        refine wpd_take 8 (by kernel_rfl) rfl hS (fun w hw => Ex_load one22 rfl hw.2.1) (by intro h; cases h) ?_
        refine wpd_pure 9 (by kernel_rfl) rfl (fun w => Ex_move (by conv => lhs; whnf)) (by intro h; cases h) ?_
        refine wpd_pure 10 (by kernel_rfl) rfl (fun w => Ex_index1 Try.underlying22 size_22 rfl rfl hjlt) (by intro h; cases h) ?_
        refine wpd_take 11 (by kernel_rfl) rfl hS (fun w hw => Ex_load one3 rfl hw.2.2.1) (by intro h; cases h) ?_
        refine wpd_take 12 (by kernel_rfl) rfl hS (fun w hw => Ex_load one48 rfl hw.2.2.2) (by intro h; cases h) ?_
        refine wpd_pure 13 (by kernel_rfl) rfl (fun w => Ex_move (by conv => lhs; whnf)) (by intro h; cases h) ?_
        refine wpd_call 14 (by kernel_rfl) rfl (ExC_func ent38 rfl rfl) (flow_ret L r (2 * I.pos i j) (by rw [hrev]; omega) hM w4.drew (show Net w4.drew L r from ⟨hnet4.c0, hnet4.c1, hnet4.c2, hnet4.out, hnet4.ovb, hnet4.ed, hnet4.hd, hnet4.rm, hnet4.cap, hnet4.s0, hnet4.s1, hnet4.s2, hnet4.s3⟩)) ?_
        rintro v' w5 ⟨rfl, rfl⟩
        refine ⟨fun h _ => h, ?_⟩
        rw [hrev]
        refine wpd_pure 15 (by kernel_rfl) rfl (fun w => Ex_add rfl rfl (by omega) (by omega)) (by intro h; cases h) ?_
        refine wpd_pure 16 (by kernel_rfl) rfl (fun w => Ex_index1 Try.underlying22 size_22 rfl rfl hjlt) (by intro h; cases h) ?_
        refine wpd_one 17 (by kernel_rfl) rfl (Ex_store one3 rfl (by conv => lhs; whnf) rfl (hrow4.c0 hjlt) hrow4.open_) (by intro _ h; cases h) ?_
        refine wpd_nil (by kernel_rfl) ?_
        rw [Nat.zero_add]
        refine hK2 _ _ ?_
        refine wp_region_last ?_
        refine wpl_op rfl (Ex_inc rfl rfl (by omega)) ?_
        refine wpl_op rfl (Ex_move (by conv => lhs; whnf)) ?_
        refine wpl_nil ?_
        have hne : ∀ q, q < i → upd xb i e q ≠ e := fun q hq => by rw [upd_ne _ _ (by omega)]; have := (hgt q hq).2; omega
        have hge : w.heap.size ≠ e := by omega
        refine hR1 _ _ _ (j + 1) ⟨rfl, rfl, rfl, rfl, rfl, rfl, rfl, rfl, rfl, rfl, rfl, trivial⟩ ⟨hjlt, ?_, ?_, ?_, ?_, ?_⟩ (by omega)
        · exact (show Below w.heap.size w w4.drew from ⟨hb4.os, hb4.tape, hb4.output, hb4.size, hb4.block⟩).setCell (p := ⟨e, j, none⟩) (by show w.heap.size ≤ e; omega) _
        · exact (show Sq w4.drew _ _ _ _ _ from ⟨hX4.top, hX4.row⟩).set _ hge hne
        · exact (Keep.setCell w4.drew (l := [e]) (g := e) (i := j) (by simp) _).cell (show w4.drew.cell? _ = _ from htop) (by simpa using hge)
        · refine (show Own w4.drew e 3 I.k I.k _ from hrow4).set hjlt (fun p hp => ?_)
          by_cases hpj : p = j
          · subst hpj; exact .inl ⟨rfl, by rw [if_pos (by omega), hshare]⟩
          · refine .inr ⟨hpj, hp, ?_⟩
            by_cases hpl : p < j
            · rw [if_pos (by omega), if_pos hpl]
            · rw [if_neg (by omega), if_neg hpl]
        · exact Nat.le_trans hsz4 (Keep.setCell w4.drew (l := [e]) (g := e) (i := j) (by simp) _).size
      · rw [if_neg hl] at hec hlc
        have hshare : share I r i j = 0 := by simp [share, hl]
        refine wp_region_seq (fun K hK => ?_)
        refine wpl_op rfl (Ex_move (by conv => lhs; whnf)) ?_
        refine wpl_op rfl (Ex_index1 Try.underlying22 size_22 rfl rfl hjlt) ?_
        refine wpl_op rfl (Ex_load one3 rfl hec) ?_
        refine wpl_op rfl (Ex_assign (by conv => lhs; whnf)) ?_
        refine wpl_op rfl (Ex_assign (by conv => lhs; whnf)) ?_
        refine wpl_nil (hK _ _ ?_)
        clear hK K
        refine wp_region_seq (fun K hK => ?_)
        refine wpl_op rfl (Ex_move (by conv => lhs; whnf)) ?_
        refine wpl_op rfl (Ex_geq rfl rfl rfl) ?_
        refine wpl_nil (hK _ _ ?_)
        clear hK K
        refine wp_if_false rfl ?_
        refine wp_skip ?_
        refine hK2 _ _ ?_
        refine wp_region_last ?_
        refine wpl_op rfl (Ex_inc rfl rfl (by omega)) ?_
        refine wpl_op rfl (Ex_move (by conv => lhs; whnf)) ?_
        refine wpl_nil ?_
        refine hR1 _ _ _ (j + 1) ⟨rfl, rfl, rfl, rfl, rfl, rfl, rfl, rfl, rfl, rfl, rfl, trivial⟩ ⟨hjlt, hb4, hX4, htop, hrow4.congr (fun p hp => ?_), hsz4⟩ (by omega)
        by_cases hpj : p = j
        · subst hpj; rw [if_neg (by omega), if_pos (by omega), hshare]
        · by_cases hpl : p < j
          · rw [if_pos hpl, if_pos (by omega)]
          · rw [if_neg hpl, if_neg (by omega)]
    · have hje : j = I.k := by omega
      subst hje
      refine wp_region_seq (fun K hK => ?_)
      refine wpl_op rfl (Ex_lss rfl rfl (decide_eq_false (by omega))) ?_
      refine wpl_nil (hK _ _ ?_)
      clear hK K
      refine wp_seq_k (fun K2 hK2 => ?_)
      refine wp_if_false rfl ?_
      refine wp_exit ?_
      refine hK' _ _ ?_
      refine wp_region_last ?_
      refine wpl_op rfl (Ex_inc rfl rfl (by omega)) ?_
      refine wpl_op rfl (Ex_move (by conv => lhs; whnf)) ?_
      refine wpl_nil ?_
      refine hR _ _ _ (i + 1, upd xb i e) ⟨rfl, rfl, rfl, rfl, rfl, rfl, rfl, trivial⟩ ⟨hlt, hb4, ⟨?_, fun q hq => ?_⟩, fun p hp => ?_, fun p p' hpp hp => ?_⟩ (by dsimp only; omega)
      · obtain ⟨arr, h1, h2, h3⟩ := hX4.top
        refine ⟨arr, h1, h2, fun q hq => ?_⟩
        dsimp only at hq ⊢
        by_cases hqi : q = i
        · subst hqi
          rw [upd_at]
          obtain ⟨arr', h1', _⟩ := hX4.top
          rw [Nat.zero_add] at htop
          simp only [World.cell?, h1] at htop
          simpa using htop
        · exact h3 q (by omega)
      · dsimp only at hq ⊢
        by_cases hqi : q = i
        · subst hqi
          rw [upd_at]
          exact hrow4.congr (fun p hp => by rw [if_pos hp])
        · exact hX4.row q (by omega)
      · dsimp only at hp ⊢
        by_cases hqi : p = i
        · subst hqi; rw [upd_at]; omega
        · rw [upd_ne _ _ hqi]; have := hgt p (by omega); omega
      · dsimp only at hp ⊢
        by_cases hqi : p' = i
        · subst hqi
          rw [upd_at, upd_ne _ _ (by omega)]
          exact (hgt p (by omega)).2
        · rw [upd_ne _ _ hqi, upd_ne _ _ (by omega)]
          exact hinc p p' hpp (by omega)
  · have hie : i = I.k := by omega
    subst hie
    refine wp_region_seq (fun K hK => ?_)
    refine wpl_op rfl (Ex_lss rfl rfl (decide_eq_false (by dsimp only; omega))) ?_
    refine wpl_nil (hK _ _ ?_)
    clear hK K
    refine wp_seq_k (fun K' hK' => ?_)
    refine wp_if_false rfl ?_
    refine wp_exit ?_
    refine hK1 _ _ ?_
    refine wp_region_seq (fun K hK => ?_)
    refine wpl_op rfl (Ex_move (by conv => lhs; whnf)) ?_
    refine wpl_op rfl (Ex_assign (by conv => lhs; whnf)) ?_
    refine wpl_nil (hK _ _ ?_)
    clear hK K
    refine wp_ret ?_
    repeat (first | refine out_block ?_ | refine out_then ?_)
    refine ret_tmp Try.results26 (hΨ w.heap.size xb _ hX hb0.size (fun q hq => (hgt q hq).1) hinc (hb0.trans (hb.mono hb0.size)))
end Go.Proofs.Qxb6613837a.Sp
