import Derived.Test.Qxb6613837aUg
namespace Go.Proofs.Qxb6613837a.Sp
open Go.Fr Go.RowKit Go.Sp

/-- peers, as it stands in the round (i, j). -/
def pv (h : Nat → ByteArray) (k i j q : Nat) : Nat := if q < i then ap h q k else if q = i then ap h q j else 0
theorem pv_next (h : Nat → ByteArray) (k i q : Nat) : pv h k i k q = pv h k (i + 1) 0 q := by
  unfold pv
  by_cases h1 : q < i
  · rw [if_pos h1, if_pos (by omega)]
  · by_cases h2 : q = i
    · subst h2; rw [if_neg h1, if_pos rfl, if_pos (by omega)]
    · rw [if_neg h1, if_neg h2, if_neg (by omega)]
      split <;> rfl
theorem pv_end (h : Nat → ByteArray) (k q : Nat) (hq : q < k) : pv h k k 0 q = ap h q k := by unfold pv; rw [if_pos hq]
theorem pv_step (h : Nat → ByteArray) (k i j q : Nat) : pv h k i (j + 1) q = pv h k i j q + if q = i ∧ wlnk h i j = true then 1 else 0 := by
  unfold pv
  by_cases h1 : q < i
  · rw [if_pos h1, if_pos h1, if_neg (by omega)]
    rfl
  · by_cases h2 : q = i
    · subst h2
      rw [if_neg h1, if_neg h1, if_pos rfl, if_pos rfl]
      show ap h q j + _ = _
      by_cases h3 : wlnk h q j = true
      · rw [if_pos h3, if_pos ⟨rfl, h3⟩]
      · rw [if_neg h3, if_neg (fun e => h3 e.2)]
    · rw [if_neg h1, if_neg h1, if_neg h2, if_neg h2, if_neg (fun e => h2 e.1)]
theorem pv_le (h : Nat → ByteArray) (k i j q : Nat) (hj : j ≤ k) : pv h k i j q ≤ k := by
  unfold pv
  split
  · exact ap_le _ _ _
  · split
    · exact Nat.le_trans (ap_le _ _ _) hj
    · exact Nat.zero_le _
/-- The memory of spread while it counts. -/
structure Sp0 (w0 w : World) (k ps pa pi pb pp c0 : Nat) (hx : Nat) (a0 : Option Addr) (p : Nat → Nat) : Prop where
  bl : Below w0.heap.size w0 w
  cs : w.cell? ⟨ps, 0, none⟩ = some (.slice a0 k c0)
  ca : w.cell? ⟨pa, 0, none⟩ = some (.func (.func 25) #[] #[.pointer (some ⟨hx, 0, none⟩)])
  ci0 : w.cell? ⟨pi, 0, none⟩ = some (.int .i64 ((16384 / k : Nat) : Int))
  ci1 : w.cell? ⟨pi, 1, none⟩ = some (.int .i64 (((16384 + k - 1) / k : Nat) : Int))
  cp : w.cell? ⟨pp, 0, none⟩ = some (sl pb k)
  op : Own w pb 3 k k (fun i => .int .i64 (p i : Int))
theorem Sp0.later {w0 w w' : World} {k ps pa pi pb pp c0 : Nat} {hx : Nat} {a0 : Option Addr} {p : Nat → Nat} (m : Sp0 w0 w k ps pa pi pb pp c0 hx a0 p) (hb : Below w.heap.size w w') : Sp0 w0 w' k ps pa pi pb pp c0 hx a0 p :=
  ⟨m.bl.trans (hb.mono m.bl.size), cell_later hb m.cs, cell_later hb m.ca, cell_later hb m.ci0, cell_later hb m.ci1, cell_later hb m.cp, m.op.later hb⟩
theorem Sp0.congr {w0 w : World} {k ps pa pi pb pp c0 : Nat} {hx : Nat} {a0 : Option Addr} {p p' : Nat → Nat} (m : Sp0 w0 w k ps pa pi pb pp c0 hx a0 p) (he : ∀ q, q < k → p q = p' q) : Sp0 w0 w k ps pa pi pb pp c0 hx a0 p' :=
  ⟨m.bl, m.cs, m.ca, m.ci0, m.ci1, m.cp, m.op.congr (fun q hq => by rw [he q hq])⟩
theorem Sp0.set {w0 w : World} {k ps pa pi pb pp c0 : Nat} {hx : Nat} {a0 : Option Addr} {p : Nat → Nat} (m : Sp0 w0 w k ps pa pi pb pp c0 hx a0 p) (hne : w0.heap.size ≤ pb ∧ ps ≠ pb ∧ pa ≠ pb ∧ pi ≠ pb ∧ pp ≠ pb) {i : Nat} (hi : i < k) (p' : Nat → Nat) (hp : ∀ q, q < k → q ≠ i → p' q = p q) : Sp0 w0 (w.setCell ⟨pb, i, none⟩ (.int .i64 (p' i : Int))) k ps pa pi pb pp c0 hx a0 p' := by
  have hk : Keep [pb] w (w.setCell ⟨pb, i, none⟩ (.int .i64 (p' i : Int))) := Keep.setCell w (by simp) _
  refine ⟨m.bl.trans (hk.below m.bl.size (fun q hq => by rw [show q = pb by simpa using hq]; exact hne.1)), hk.cell m.cs (by simpa using hne.2.1), hk.cell m.ca (by simpa using hne.2.2.1), hk.cell m.ci0 (by simpa using hne.2.2.2.1), hk.cell m.ci1 (by simpa using hne.2.2.2.1), hk.cell m.cp (by simpa using hne.2.2.2.2), m.op.set hi (fun j hj => ?_)⟩
  by_cases e : j = i
  · exact .inl ⟨e, by rw [e]⟩
  · exact .inr ⟨e, hj, by rw [hp j hj e]⟩
/-- What spread gives. -/
def SpRes (k : Nat) (h : Nat → ByteArray) (s : Nat → Nat) (W : Nat) (w0 : World) (v : Value) (w' : World) : Prop :=
  Below w0.heap.size w0 w' ∧ ((v = .slice none 0 0 ∧ ¬ (SI k h s (fun i => ap h i k) W W ((16384 / k : Nat) : Int) (((16384 + k - 1) / k : Nat) : Int)).Okay) ∨
    ∃ d most, d ≤ W ∧ most ≤ W ∧ Ans (SI k h s (fun i => ap h i k) d most ((16384 / k : Nat) : Int) (((16384 + k - 1) / k : Nat) : Int)) w0 v w' ∧ ∀ m, m < d → ¬ ∃ x, (SI k h s (fun i => ap h i k) m W ((16384 / k : Nat) : Int) (((16384 + k - 1) / k : Nat) : Int)).Feas x)
theorem ilo_ok (k : Nat) (hk : 0 < k) : (0 : Int) ≤ ((16384 / k : Nat) : Int) ∧ ((16384 / k : Nat) : Int) ≤ (((16384 + k - 1) / k : Nat) : Int) ∧ (((16384 + k - 1) / k : Nat) : Int) ≤ 1000000 := by
  have h1 : 16384 / k ≤ (16384 + k - 1) / k := Nat.div_le_div_right (by omega)
  have h2 : (16384 + k - 1) / k ≤ 16384 := by
    rw [Nat.div_le_iff_le_mul_add_pred hk]
    have : 16384 ≤ k * 16384 := Nat.le_mul_of_pos_left _ hk
    omega
  generalize 16384 / k = x at *
  generalize (16384 + k - 1) / k = y at *
  omega


theorem spread_ret (k hx c0 c1 : Nat) (a0 a1 : Option Addr) (h : Nat → ByteArray) (s : Nat → Nat) (W : Nat) (w0 : World) (hb : w0.cell? ⟨hx, 0, none⟩ = some (.slice a1 k c1)) (hst : StrsAt w0 a1 k h) (his : IntsAt w0 a0 k (fun i => (s i : Int)))
    (hk : 0 < k) (hkb : k ≤ 256) (hs : ∀ q, q < k → s q ≤ 1000000) (hW : mxs (fun i => (s i : Int)) k = (W : Int)) (hWb : W ≤ 1000000) :
    Ret Try.prog 24 #[.slice a0 k c0, .func (.func 25) #[] #[.pointer (some ⟨hx, 0, none⟩)]] w0 (SpRes k h s W w0) := by
  refine Ret.of_body (vs := [.slice a0 k c0, .func (.func 25) #[] #[.pointer (some ⟨hx, 0, none⟩)]]) Try.func24 rfl Try.ntmps24 rfl ?_
  refine wp_region_seq (fun K hK => ?_)
  refine wpl_op rfl (Ex_box (by conv => lhs; whnf)) ?_
  refine wpl_op rfl (Ex_box (by conv => lhs; whnf)) ?_
  refine wpl_op rfl (Ex_assign (by conv => lhs; whnf)) ?_
  refine wpl_nil (hK _ _ ?_)
  clear hK K
  have g1 : Below w0.heap.size w0 ((w0.alloc (.cells (Value.slice a0 k c0).cells 22)).alloc (.cells (Value.func (.func 25) #[] #[.pointer (some ⟨hx, 0, none⟩)]).cells 37)) := ((Below.refl _ _).alloc (Nat.le_refl _) _).alloc (by simp) _
  have g2 := heap_old (.cells (Value.func (.func 25) #[] #[.pointer (some ⟨hx, 0, none⟩)]).cells 37) (heap_new w0 (.cells (Value.slice a0 k c0).cells 22))
  have g3 := heap_new (w0.alloc (.cells (Value.slice a0 k c0).cells 22)) (.cells (Value.func (.func 25) #[] #[.pointer (some ⟨hx, 0, none⟩)]).cells 37)
  have g4 : (w0.alloc (.cells (Value.slice a0 k c0).cells 22)).heap.size = w0.heap.size + 1 := by simp
  rw [g4] at g3 ⊢
  refine wp_gen (fun w1 => Below w0.heap.size w0 w1 ∧ w1.cell? ⟨w0.heap.size, 0, none⟩ = some (.slice a0 k c0) ∧ w1.cell? ⟨w0.heap.size + 1, 0, none⟩ = some (.func (.func 25) #[] #[.pointer (some ⟨hx, 0, none⟩)])) ⟨g1, cell_at g2 rfl, cell_at g3 rfl⟩ (fun w1 hg1 => ?_)
  clear g1 g2 g3 g4
  obtain ⟨hb1, cs1, ca1⟩ := hg1
  generalize hps : w0.heap.size = ps at cs1 ca1
  refine wp_region_seq (fun K hK => ?_)
  refine wpl_op rfl (Ex_load one22 rfl cs1) ?_
  refine wpl_op rfl (Ex_len Try.underlying22 rfl) ?_
  refine wpl_op rfl (Ex_assign (by conv => lhs; whnf)) ?_
  refine wpl_nil (hK _ _ ?_)
  clear hK K
  refine wp_draw_seq (by kernel_rfl) (fun _ => True) (fun _ => false) 10 rfl (fun K hK => ?_)
  have hS : True := trivial
  refine wpd_pure 0 (by kernel_rfl) rfl (fun w => Ex_move (by conv => lhs; whnf)) (by intro h; cases h) ?_
  refine wpd_pure 1 (by kernel_rfl) rfl (fun w => Ex_quo (m := 16384) rfl rfl hk (by omega)) (by intro h; cases h) ?_
  refine wpd_pure 2 (by kernel_rfl) rfl (fun w => Ex_move (by conv => lhs; whnf)) (by intro h; cases h) ?_
  refine wpd_pure 3 (by kernel_rfl) rfl (fun w => Ex_plus (m := 16384) rfl rfl (by omega)) (by intro h; cases h) ?_
  refine wpd_pure 4 (by kernel_rfl) rfl (fun w => Ex_pred (m := 16384 + k) rfl rfl (by omega) (by omega)) (by intro h; cases h) ?_
  refine wpd_pure 5 (by kernel_rfl) rfl (fun w => Ex_move (by conv => lhs; whnf)) (by intro h; cases h) ?_
  refine wpd_pure 6 (by kernel_rfl) rfl (fun w => Ex_quo (m := 16384 + k - 1) rfl rfl hk (by omega)) (by intro h; cases h) ?_
  refine wpd_pure 7 (by kernel_rfl) rfl (fun w => Ex_build (pv := [(0, .int .i64 ((16384 / k : Nat) : Int)), (1, .int .i64 (((16384 + k - 1) / k : Nat) : Int))]) rfl (bld41 _ _ _)) (by intro h; cases h) ?_
  refine wpd_one 8 (by kernel_rfl) rfl (Ex_alloc zero41) (fun h _ => h) ?_
  refine wpd_one 9 (by kernel_rfl) rfl (Ex_storeagg (cs := [.int .i64 ((16384 / k : Nat) : Int), .int .i64 (((16384 + k - 1) / k : Nat) : Int)]) agg41 rfl rfl rfl rfl (heap_new _ _) (by decide)) (fun h _ => h) ?_
  refine wpd_nil (by kernel_rfl) (hK _ _ ?_)
  clear hK K
  obtain ⟨hbs, hsb⟩ := span_fresh w1.drew ((16384 / k : Nat) : Int) (((16384 + k - 1) / k : Nat) : Int)
  have hbd : Below w1.heap.size w1 w1.drew := ⟨rfl, rfl, rfl, Nat.le_refl _, fun _ _ => rfl⟩
  have hbs' := hbd.trans hbs
  rw [show w1.drew.heap.size = w1.heap.size from rfl] at hsb ⊢
  refine wp_gen (fun w2 => Below w1.heap.size w1 w2 ∧ w2.heap[w1.heap.size]? = some (.cells #[.int .i64 ((16384 / k : Nat) : Int), .int .i64 (((16384 + k - 1) / k : Nat) : Int)] 41 (0, 0))) ⟨hbs', hsb⟩ (fun w2 hg2 => ?_)
  clear hbs hsb hbd hbs'
  obtain ⟨hb2, hpi⟩ := hg2
  have ci0 : w2.cell? ⟨w1.heap.size, 0, none⟩ = some (.int .i64 ((16384 / k : Nat) : Int)) := cell_at hpi rfl
  have ci1 : w2.cell? ⟨w1.heap.size, 1, none⟩ = some (.int .i64 (((16384 + k - 1) / k : Nat) : Int)) := cell_at hpi rfl
  have hl2 := lt_of_heap hpi
  have hl1 : ps + 1 < w1.heap.size := World.block_lt_of_cell? w1 _ ca1
  clear hpi
  have cs2 := cell_later hb2 cs1
  have ca2 := cell_later hb2 ca1
  have hb02 : Below w0.heap.size w0 w2 := hb1.trans (hb2.mono hb1.size)
  generalize w1.heap.size = pi at ci0 ci1 hl1 hl2
  clear cs1 ca1 hb1 hb2
  refine wp_region_seq (fun K hK => ?_)
  refine wpl_op rfl (Ex_move (by conv => lhs; whnf)) ?_
  refine wpl_op rfl (Ex_mk Try.underlying22 info3 rfl rfl (by omega) (by omega)) ?_
  refine wpl_op rfl (Ex_alloc zero22) ?_
  refine wpl_op rfl (Ex_store one22 rfl (by conv => lhs; whnf) rfl (cell_at (heap_new _ _) rfl) (frozen_at (heap_new _ _))) ?_
  refine wpl_nil (hK _ _ ?_)
  clear hK K
  have ka := Keep.alloc [(w2.alloc (zrow k)).heap.size] w2 (zrow k)
  have kb := (ka.trans (Keep.alloc _ (w2.alloc (zrow k)) (.cells (Value.slice none 0 0).cells 22))).trans (Keep.setCell _ (g := (w2.alloc (zrow k)).heap.size) (i := 0) (by simp) (.slice (some ⟨w2.heap.size, 0, none⟩) k k))
  have hs3 : (w2.alloc (zrow k)).heap.size = w2.heap.size + 1 := by simp
  have hx4 := ((own_zrow w2 k).keep (Keep.alloc [] _ (.cells (Value.slice none 0 0).cells 22)) (by simp)).other (g' := (w2.alloc (zrow k)).heap.size) (i := 0) (by omega) (.slice (some ⟨w2.heap.size, 0, none⟩) k k)
  refine wp_gen (fun w3 => Keep [w2.heap.size + 1] w2 w3 ∧ w3.cell? ⟨w2.heap.size + 1, 0, none⟩ = some (.slice (some ⟨w2.heap.size, 0, none⟩) k k) ∧ Own w3 w2.heap.size 3 k k (fun _ => .int .i64 0)) ⟨by rw [← hs3]; exact kb, by rw [← hs3]; exact one_at (w2.alloc (zrow k)) _ _ 22 rfl, hx4⟩ (fun w3 hg3 => ?_)
  clear ka kb hx4
  obtain ⟨hk3, cp3, op3⟩ := hg3
  rw [show (w2.alloc (.cells (madeCells (Value.int .i64 0).cells (k * 1)) 3)).heap.size = w2.heap.size + 1 by simp]
  have f2 : ∀ b, b < w2.heap.size → b ∉ [w2.heap.size + 1] := fun b hb hm => by simp at hm; omega
  have hszp := hb02.size
  have m3 : Sp0 w0 w3 k ps (ps + 1) pi w2.heap.size (w2.heap.size + 1) c0 hx a0 (pv h k 0 0) :=
    ⟨hb02.trans (hk3.below hszp (fun q hq => by rw [show q = w2.heap.size + 1 by simpa using hq]; omega)), hk3.cell cs2 (f2 _ (by omega)), hk3.cell ca2 (f2 _ (by omega)), hk3.cell ci0 (f2 _ (by omega)), hk3.cell ci1 (f2 _ (by omega)), cp3, op3.congr (fun q hq => by
      show _ = Value.int .i64 ((pv h k 0 0 q : Nat) : Int)
      have e : pv h k 0 0 q = 0 := by unfold pv; rw [if_neg (by omega)]; split <;> rfl
      rw [e]; rfl)⟩
  have hne : w0.heap.size ≤ w2.heap.size ∧ ps ≠ w2.heap.size ∧ ps + 1 ≠ w2.heap.size ∧ pi ≠ w2.heap.size ∧ w2.heap.size + 1 ≠ w2.heap.size := ⟨hszp, by omega, by omega, by omega, by omega⟩
  clear hk3 cp3 op3 f2 hs3 cs2 ca2 ci0 ci1 hb02
  generalize w2.heap.size = pb at m3 hne hl2 hszp
  refine wp_norm [(2, .pointer (some ⟨ps, 0, none⟩)), (3, .pointer (some ⟨ps + 1, 0, none⟩)), (5, .int .i64 (k : Int)), (6, .pointer (some ⟨pi, 0, none⟩)), (7, .pointer (some ⟨pb + 1, 0, none⟩))] ⟨rfl, rfl, rfl, rfl, rfl, trivial⟩ (fun u => ?_)
  refine wp_seq_k (fun K1 hK1 => ?_)
  refine wp_region_seq (fun K hK => ?_)
  refine wpl_op rfl (Ex_move (by conv => lhs; whnf)) ?_
  refine wpl_op rfl (Ex_move (by conv => lhs; whnf)) ?_
  refine wpl_nil (hK _ _ ?_)
  clear hK K
  refine wp_block ?_
  refine wp_loop_st (fun i : Nat => [(2, .pointer (some ⟨ps, 0, none⟩)), (3, .pointer (some ⟨ps + 1, 0, none⟩)), (5, .int .i64 (k : Int)), (6, .pointer (some ⟨pi, 0, none⟩)), (7, .pointer (some ⟨pb + 1, 0, none⟩)), (28, .int .i64 (k : Int)), (29, .int .i64 (i : Int))]) (fun i w => Sp0 w0 w k ps (ps + 1) pi pb (pb + 1) c0 hx a0 (pv h k i 0) ∧ i ≤ k) (fun i => k - i) 0 ⟨rfl, rfl, rfl, rfl, rfl, rfl, rfl, trivial⟩ ⟨m3, by omega⟩ ?_
  clear m3
  rintro i uu w4 ⟨m4, hi⟩ R hR
  by_cases hlt : i < k
  · skip
    refine wp_region_seq (fun K hK => ?_)
    refine wpl_op rfl (Ex_lss rfl rfl (decide_eq_true (by omega))) ?_
    refine wpl_nil (hK _ _ ?_)
    clear hK K
    refine wp_seq_k (fun KK hKK => ?_)
    refine wp_if_true rfl ?_
    refine wp_skip (hKK _ _ ?_)
    clear hKK KK
    refine wp_seq_k (fun K' hK' => ?_)
    refine wp_block ?_
    refine wp_region_seq (fun K hK => ?_)
    refine wpl_op rfl (Ex_move (by conv => lhs; whnf)) ?_
    refine wpl_op rfl (Ex_assign (by conv => lhs; whnf)) ?_
    refine wpl_nil (hK _ _ ?_)
    clear hK K
    refine wp_region_seq (fun K hK => ?_)
    refine wpl_op rfl (Ex_move (by conv => lhs; whnf)) ?_
    refine wpl_op rfl (Ex_move (by conv => lhs; whnf)) ?_
    refine wpl_nil (hK _ _ ?_)
    clear hK K
    refine wp_block ?_
    refine wp_loop_st (fun j : Nat => [(2, .pointer (some ⟨ps, 0, none⟩)), (3, .pointer (some ⟨ps + 1, 0, none⟩)), (5, .int .i64 (k : Int)), (6, .pointer (some ⟨pi, 0, none⟩)), (7, .pointer (some ⟨pb + 1, 0, none⟩)), (28, .int .i64 (k : Int)), (29, .int .i64 (i : Int)), (8, .int .i64 (i : Int)), (32, .int .i64 (k : Int)), (33, .int .i64 (j : Int))]) (fun j w => Sp0 w0 w k ps (ps + 1) pi pb (pb + 1) c0 hx a0 (pv h k i j) ∧ j ≤ k) (fun j => k - j) 0 ⟨rfl, rfl, rfl, rfl, rfl, rfl, rfl, rfl, rfl, rfl, trivial⟩ ⟨m4, by omega⟩ ?_
    clear m4
    rintro j uu2 w5 ⟨m5, hj⟩ R2 hR2
    by_cases hjt : j < k
    · skip
      refine wp_region_seq (fun K hK => ?_)
      refine wpl_op rfl (Ex_lss rfl rfl (decide_eq_true (by omega))) ?_
      refine wpl_nil (hK _ _ ?_)
      clear hK K
      refine wp_seq_k (fun KK hKK => ?_)
      refine wp_if_true rfl ?_
      refine wp_skip (hKK _ _ ?_)
      clear hKK KK
      refine wp_seq_k (fun K2 hK2 => ?_)
      refine wp_block ?_
      refine wp_region_seq (fun K hK => ?_)
      refine wpl_op rfl (Ex_move (by conv => lhs; whnf)) ?_
      refine wpl_op rfl (Ex_assign (by conv => lhs; whnf)) ?_
      refine wpl_nil (hK _ _ ?_)
      clear hK K
      refine wp_region_seq (fun K hK => ?_)
      refine wpl_op rfl (Ex_load one37 rfl m5.ca) ?_
      refine wpl_op rfl (Ex_move (by conv => lhs; whnf)) ?_
      refine wpl_op rfl (Ex_move (by conv => lhs; whnf)) ?_
      refine wpl_call rfl (ExC_closure (cap := [.pointer (some ⟨hx, 0, none⟩)]) ent25 rfl rfl) (apart25_ret hx a1 k c1 i j h _ (cell_later m5.bl hb) (hst.below m5.bl) hlt hjt) ?_
      rintro v w6 ⟨rfl, hb6⟩
      refine wpl_nil (hK _ _ ?_)
      clear hK K
      have m6 := m5.later hb6
      clear m5 hb6
      have hp6 := pv_le h k i j i hj
      refine wp_if rfl (fun ht => ?_) (fun hf => ?_)
      · have ht' : wlnk h i j = true := ht
        refine wp_region_last ?_
        refine wpl_op rfl (Ex_load one22 rfl m6.cp) ?_
        refine wpl_op rfl (Ex_move (by conv => lhs; whnf)) ?_
        refine wpl_op rfl (Ex_index1 Try.underlying22 size_22 rfl rfl hlt) ?_
        refine wpl_op rfl (Ex_load one3 rfl (m6.op.c0 hlt)) ?_
        refine wpl_op rfl (Ex_plus (n := 1) rfl rfl (by omega)) ?_
        refine wpl_op rfl (Ex_index1 Try.underlying22 size_22 rfl rfl hlt) ?_
        refine wpl_op rfl (Ex_store one3 rfl (by conv => lhs; whnf) rfl (m6.op.c0 hlt) m6.op.open_) ?_
        refine wpl_nil ?_
        refine hK2 _ _ ?_
        refine wp_region_last ?_
        refine wpl_op rfl (Ex_inc rfl rfl (by omega)) ?_
        refine wpl_op rfl (Ex_move (by conv => lhs; whnf)) ?_
        refine wpl_nil ?_
        refine hR2 _ _ _ (j + 1) ⟨rfl, rfl, rfl, rfl, rfl, rfl, rfl, rfl, rfl, rfl, trivial⟩ ⟨?_, hjt⟩ (by omega)
        have m7 := m6.set hne hlt (pv h k i (j + 1)) (fun q _ hqi => by rw [pv_step, if_neg (fun e => hqi e.1)]; rfl)
        rw [pv_step, if_pos ⟨rfl, ht'⟩] at m7
        rw [Nat.zero_add]
        exact m7
      · have hf' : wlnk h i j = false := hf
        refine wp_skip ?_
        refine hK2 _ _ ?_
        refine wp_region_last ?_
        refine wpl_op rfl (Ex_inc rfl rfl (by omega)) ?_
        refine wpl_op rfl (Ex_move (by conv => lhs; whnf)) ?_
        refine wpl_nil ?_
        exact hR2 _ _ _ (j + 1) ⟨rfl, rfl, rfl, rfl, rfl, rfl, rfl, rfl, rfl, rfl, trivial⟩ ⟨m6.congr (fun q _ => by rw [pv_step, if_neg (fun e => by rw [hf'] at e; cases e.2)]; rfl), hjt⟩ (by omega)
    · have hje : j = k := by omega
      subst hje
      refine wp_region_seq (fun K hK => ?_)
      refine wpl_op rfl (Ex_lss rfl rfl (decide_eq_false (by omega))) ?_
      refine wpl_nil (hK _ _ ?_)
      clear hK K
      refine wp_seq_k (fun KK hKK => ?_)
      refine wp_if_false rfl ?_
      refine wp_exit ?_
      clear hKK
      refine hK' _ _ ?_
      refine wp_region_last ?_
      refine wpl_op rfl (Ex_inc rfl rfl (by omega)) ?_
      refine wpl_op rfl (Ex_move (by conv => lhs; whnf)) ?_
      refine wpl_nil ?_
      exact hR _ _ _ (i + 1) ⟨rfl, rfl, rfl, rfl, rfl, rfl, rfl, trivial⟩ ⟨m5.congr (fun q _ => pv_next h _ i q), hlt⟩ (by omega)
  have hie : i = k := by omega
  subst hie
  refine wp_region_seq (fun K hK => ?_)
  refine wpl_op rfl (Ex_lss rfl rfl (decide_eq_false (by omega))) ?_
  refine wpl_nil (hK _ _ ?_)
  clear hK K
  refine wp_seq_k (fun KK hKK => ?_)
  refine wp_if_false rfl ?_
  refine wp_exit ?_
  clear hKK
  refine hK1 _ _ ?_
  clear hR R hK1 K1 hlt
  have m8 : Sm w4 i hx (ps + 1) ps (pb + 1) pb c1 c0 a1 a0 h s (fun q => ap h q i) :=
    ⟨cell_later m4.bl hb, hst.below m4.bl, m4.ca, m4.cs, his.below m4.bl, m4.cp, m4.op.congr (fun q hq => by rw [pv_end h i q hq])⟩
  have c0' := m4.ci0
  have c1' := m4.ci1
  have hb4 := m4.bl
  clear m4
  refine wp_region_seq (fun K hK => ?_)
  refine wpl_op rfl (Ex_func (fv := []) (cv := [.pointer (some ⟨ps + 1, 0, none⟩), .pointer (some ⟨ps, 0, none⟩), .pointer (some ⟨pb + 1, 0, none⟩)]) rfl rfl) ?_
  refine wpl_op rfl (Ex_alloc zero43) ?_
  refine wpl_op rfl (Ex_store one43 rfl (by conv => lhs; whnf) rfl (cell_at (heap_new _ _) rfl) (frozen_at (heap_new _ _))) ?_
  refine wpl_nil (hK _ _ ?_)
  clear hK K
  have kf : Keep [w4.heap.size] w4 ((w4.alloc (.cells (.nilFunc : Value).cells 43)).setCell ⟨w4.heap.size, 0, none⟩ (.func (.func 28) #[] #[.pointer (some ⟨ps + 1, 0, none⟩), .pointer (some ⟨ps, 0, none⟩), .pointer (some ⟨pb + 1, 0, none⟩)])) := (Keep.alloc _ _ _).trans (Keep.setCell _ (by simp) _)
  refine wp_gen (fun w5 => Below w4.heap.size w4 w5 ∧ w5.cell? ⟨w4.heap.size, 0, none⟩ = some (.func (.func 28) #[] #[.pointer (some ⟨ps + 1, 0, none⟩), .pointer (some ⟨ps, 0, none⟩), .pointer (some ⟨pb + 1, 0, none⟩)])) ⟨kf.below (Nat.le_refl _) (fun q hq => by rw [show q = w4.heap.size by simpa using hq]; exact Nat.le_refl _), one_at w4 _ _ 43 rfl⟩ (fun w5 hg => ?_)
  clear kf
  obtain ⟨hb5, cw⟩ := hg
  replace m8 := m8.later hb5
  replace c0' := cell_later hb5 c0'
  replace c1' := cell_later hb5 c1'
  replace hb4 := hb4.trans (hb5.mono hb4.size)
  generalize w4.heap.size = pw at cw
  clear hb5
  refine wp_region_seq (fun K hK => ?_)
  refine wpl_op rfl (Ex_load one22 rfl m8.cs) ?_
  refine wpl_call rfl (ExC_func ent30 rfl rfl) (max_ret a0 i c0 (fun q => (s q : Int)) _ m8.is hk (by omega)) ?_
  rintro v w6 ⟨rfl, rfl⟩
  rw [hW]
  refine wpl_op rfl (Ex_alloc zero3) ?_
  refine wpl_op rfl (Ex_store one3 rfl (by conv => lhs; whnf) rfl (cell_at (heap_new _ _) rfl) (frozen_at (heap_new _ _))) ?_
  refine wpl_nil (hK _ _ ?_)
  clear hK K
  have kf : Keep [w6.heap.size] w6 ((w6.alloc (.cells (.int .i64 0 : Value).cells 3)).setCell ⟨w6.heap.size, 0, none⟩ (.int .i64 (W : Int))) := (Keep.alloc _ _ _).trans (Keep.setCell _ (by simp) _)
  refine wp_gen (fun w7 => Below w6.heap.size w6 w7 ∧ w7.cell? ⟨w6.heap.size, 0, none⟩ = some (.int .i64 (W : Int))) ⟨kf.below (Nat.le_refl _) (fun q hq => by rw [show q = w6.heap.size by simpa using hq]; exact Nat.le_refl _), one_at w6 _ _ 3 rfl⟩ (fun w7 hg => ?_)
  clear kf
  obtain ⟨hb7, ct⟩ := hg
  replace m8 := m8.later hb7
  replace c0' := cell_later hb7 c0'
  replace c1' := cell_later hb7 c1'
  replace cw := cell_later hb7 cw
  replace hb4 := hb4.trans (hb7.mono hb4.size)
  generalize w6.heap.size = pt at ct
  clear hb7
  have hpp : ∀ q, q < i → ap h q i ≤ 1000000 := fun q _ => Nat.le_trans (ap_le h q i) (by omega)
  have hio := ilo_ok i hk
  have hposs : ∀ a b, a < i → b < i → wlnk h a b = true → 0 < ap h a i := fun a b _ hb hl => ap_pos hb hl
  refine wp_region_seq (fun K hK => ?_)
  refine wpl_op rfl (Ex_load one3 rfl ct) ?_
  refine wpl_op rfl (Ex_func (fv := []) (cv := [.pointer (some ⟨ps, 0, none⟩), .pointer (some ⟨pi, 0, none⟩), .pointer (some ⟨pw, 0, none⟩), .pointer (some ⟨pt, 0, none⟩)]) rfl rfl) ?_
  refine wpl_call rfl (ExC_func ent31 rfl rfl) (least_ret W 32 [.pointer (some ⟨ps, 0, none⟩), .pointer (some ⟨pi, 0, none⟩), .pointer (some ⟨pw, 0, none⟩), .pointer (some ⟨pt, 0, none⟩)] ent32 w7 (fun d => ∃ x, (SI i h s (fun q => ap h q i) d W ((16384 / i : Nat) : Int) (((16384 + i - 1) / i : Nat) : Int)).Feas x) (fun d => ¬ (SI i h s (fun q => ap h q i) d W ((16384 / i : Nat) : Int) (((16384 + i - 1) / i : Nat) : Int)).Okay) (fun _ _ _ => True) (fun d hn ⟨x, hx⟩ => hn (hx.okay (SI_fine hk hkb hs hio))) hWb (fun a b hab hbm ⟨x, hx⟩ => ⟨x, SI_mono hab (Nat.le_refl _) hx⟩) (fun _ _ _ _ _ _ => trivial)
    (fun n hn w' hw' => (try32_ret i hx (ps + 1) ps (pb + 1) pb c1 c0 pi pw pt n W a1 a0 h s (fun q => ap h q i) _ _ w' (m8.later hw') (cell_later hw' c0') (cell_later hw' c1') (cell_later hw' cw) (cell_later hw' ct) hk hkb hs hpp hio (by omega) hposs).mono (fun v w'' hr => ⟨hr.1, by
      rcases hr.tells with h1 | ⟨b, l, c, e, hx, _⟩
      · exact .inl h1
      · exact .inr ⟨b, l, c, e, hx, trivial⟩⟩))) ?_
  rintro v w8 ⟨hb8, hres⟩
  obtain ⟨d, bv, rfl, hdW, hdmin⟩ : ∃ d bv, v = .tuple #[.int .i64 ((d : Nat) : Int), bv] ∧ d ≤ W ∧ ∀ m, m < d → ¬ ∃ x, (SI i h s (fun q => ap h q i) m W ((16384 / i : Nat) : Int) (((16384 + i - 1) / i : Nat) : Int)).Feas x := by
    rcases hres with ⟨e, h1⟩ | ⟨d, b, l, c, h1, e, _, _, h2⟩
    · exact ⟨W, _, e, Nat.le_refl _, fun m hm ⟨x, hx⟩ => h1 ((SI_mono (Nat.le_of_lt hm) (Nat.le_refl _) hx).okay (SI_fine hk hkb hs hio))⟩
    · exact ⟨d, _, e, h1, h2⟩
  have hdP : (∃ x, (SI i h s (fun q => ap h q i) d W ((16384 / i : Nat) : Int) (((16384 + i - 1) / i : Nat) : Int)).Feas x) ∨ d = W := by
    rcases hres with ⟨e, h1⟩ | ⟨d', b, l, c, h1, e, h3, _, _⟩
    · refine .inr ?_
      have e2 := congrArg (fun v => match v with | Value.tuple a => a[0]? | _ => none) e
      have e3 : Value.int .i64 ((d : Nat) : Int) = Value.int .i64 ((W : Nat) : Int) := Option.some.inj e2
      injection e3 with _ e4
      omega
    · have e1 : d = d' := by
        have e2 := congrArg (fun v => match v with | Value.tuple a => a[0]? | _ => none) e
        have e3 : Value.int .i64 ((d : Nat) : Int) = Value.int .i64 ((d' : Nat) : Int) := Option.some.inj e2
        injection e3 with _ e4
        omega
      subst e1
      exact .inl h3
  clear hres
  refine wpl_op rfl (Ex_move (by conv => lhs; whnf)) ?_
  refine wpl_op rfl (Ex_extract rfl rfl) ?_
  refine wpl_op rfl (Ex_extract rfl rfl) ?_
  refine wpl_op rfl (Ex_alloc zero3) ?_
  refine wpl_op rfl (Ex_store one3 rfl (by conv => lhs; whnf) rfl (cell_at (heap_new _ _) rfl) (frozen_at (heap_new _ _))) ?_
  refine wpl_op rfl (Ex_assign (by conv => lhs; whnf)) ?_
  refine wpl_nil (hK _ _ ?_)
  clear hK K
  have kf : Keep [w8.heap.size] w8 ((w8.alloc (.cells (.int .i64 0 : Value).cells 3)).setCell ⟨w8.heap.size, 0, none⟩ (.int .i64 (d : Int))) := (Keep.alloc _ _ _).trans (Keep.setCell _ (by simp) _)
  refine wp_gen (fun w9 => Below w8.heap.size w8 w9 ∧ w9.cell? ⟨w8.heap.size, 0, none⟩ = some (.int .i64 (d : Int))) ⟨kf.below (Nat.le_refl _) (fun q hq => by rw [show q = w8.heap.size by simpa using hq]; exact Nat.le_refl _), one_at w8 _ _ 3 rfl⟩ (fun w9 hg => ?_)
  clear kf
  obtain ⟨hb9, cd⟩ := hg
  have hb79 := hb8.trans (hb9.mono hb8.size)
  replace m8 := m8.later hb79
  replace c0' := cell_later hb79 c0'
  replace c1' := cell_later hb79 c1'
  replace cw := cell_later hb79 cw
  replace ct := cell_later hb79 ct
  replace hb4 := hb4.trans (hb79.mono hb4.size)
  generalize w8.heap.size = pd at cd
  clear hb8 hb9 hb79
  refine wp_region_seq (fun K hK => ?_)
  refine wpl_op rfl (Ex_load one3 rfl ct) ?_
  refine wpl_op rfl (Ex_func (fv := []) (cv := [.pointer (some ⟨ps, 0, none⟩), .pointer (some ⟨pi, 0, none⟩), .pointer (some ⟨pw, 0, none⟩), .pointer (some ⟨pd, 0, none⟩)]) rfl rfl) ?_
  refine wpl_call rfl (ExC_func ent31 rfl rfl) (least_ret W 33 [.pointer (some ⟨ps, 0, none⟩), .pointer (some ⟨pi, 0, none⟩), .pointer (some ⟨pw, 0, none⟩), .pointer (some ⟨pd, 0, none⟩)] ent33 w9 (fun most => ∃ x, (SI i h s (fun q => ap h q i) d most ((16384 / i : Nat) : Int) (((16384 + i - 1) / i : Nat) : Int)).Feas x) (fun most => ¬ (SI i h s (fun q => ap h q i) d most ((16384 / i : Nat) : Int) (((16384 + i - 1) / i : Nat) : Int)).Okay) (fun most v w' => Ans (SI i h s (fun q => ap h q i) d most ((16384 / i : Nat) : Int) (((16384 + i - 1) / i : Nat) : Int)) w0 v w') (fun n hn ⟨x, hx⟩ => hn (hx.okay (SI_fine hk hkb hs hio))) hWb (fun a b hab hbm ⟨x, hx⟩ => ⟨x, SI_mono (Nat.le_refl _) hab hx⟩) (fun _ _ _ _ hA hb => hA.later hb)
    (fun n hn w' hw' => (try33_ret i hx (ps + 1) ps (pb + 1) pb c1 c0 pi pw pd n d a1 a0 h s (fun q => ap h q i) _ _ w' (m8.later hw') (cell_later hw' c0') (cell_later hw' c1') (cell_later hw' cw) (cell_later hw' cd) hk hkb hs hpp hio (by omega) hposs).mono (fun v w'' hr => ⟨hr.1, by
      rcases hr.tells with h1 | ⟨b, l, c, e, hx, hA⟩
      · exact .inl h1
      · exact .inr ⟨b, l, c, e, hx, hA.from (Nat.le_trans hb4.size hw'.size)⟩⟩))) ?_
  rintro v w10 ⟨hb10, hres⟩
  obtain ⟨n, bv2, rfl, hfin⟩ : ∃ (n : Nat) (bv2 : Value), v = .tuple #[.int .i64 (n : Int), bv2] ∧ SpRes i h s W w0 bv2 w10 := by
    have hbb : Below w0.heap.size w0 w10 := hb4.trans (hb10.mono hb4.size)
    rcases hres with ⟨e, h1⟩ | ⟨n, b, l, c, h1, e, _, hA, _⟩
    · refine ⟨W, _, e, hbb, .inl ⟨rfl, ?_⟩⟩
      rcases hdP with h2 | h2
      · obtain ⟨x, hx⟩ := h2
        exact absurd (hx.okay (SI_fine hk hkb hs hio)) h1
      · rw [h2] at h1; exact h1
    · exact ⟨n, _, e, hbb, .inr ⟨d, n, hdW, h1, hA, hdmin⟩⟩
  clear hres hb10
  refine wpl_op rfl (Ex_move (by conv => lhs; whnf)) ?_
  refine wpl_op rfl (Ex_extract rfl rfl) ?_
  refine wpl_op rfl (Ex_extract rfl rfl) ?_
  refine wpl_op rfl (Ex_assign (by conv => lhs; whnf)) ?_
  refine wpl_op rfl (Ex_assign (by conv => lhs; whnf)) ?_
  refine wpl_nil (hK _ _ ?_)
  clear hK K
  refine wp_region_seq (fun K hK => ?_)
  refine wpl_op rfl (Ex_move (by conv => lhs; whnf)) ?_
  refine wpl_op rfl (Ex_assign (by conv => lhs; whnf)) ?_
  refine wpl_nil (hK _ _ ?_)
  clear hK K
  refine wp_ret ?_
  repeat (first | refine out_block ?_ | refine out_then ?_)
  refine ret_tmp Try.results24 hfin
end Go.Proofs.Qxb6613837a.Sp
