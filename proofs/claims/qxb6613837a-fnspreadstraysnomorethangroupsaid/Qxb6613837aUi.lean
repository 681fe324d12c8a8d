import Derived.Test.Qxb6613837aUh
namespace Go.Proofs.Qxb6613837a.Sp
open Go.Fr Go.RowKit Go.Sp

theorem SpRes.from {k : Nat} {h : Nat → ByteArray} {s : Nat → Nat} {W : Nat} {w0 w1 : World} {v : Value} {w' : World} (r : SpRes k h s W w1 v w') (hb : Below w0.heap.size w0 w1) : SpRes k h s W w0 v w' := by
  obtain ⟨h1, h2⟩ := r
  refine ⟨hb.trans (h1.mono hb.size), ?_⟩
  rcases h2 with h2 | ⟨d, most, e1, e2, hA, e3⟩
  · exact .inl h2
  · exact .inr ⟨d, most, e1, e2, hA.from hb.size, e3⟩
/-- What grouped asks transport. -/
def GI (k : Nat) (h : Nat → ByteArray) : Inst := ⟨k, fun _ => 1, wlnk h, fun _ _ => 0, fun _ _ => 1, 1, 1⟩
theorem GI_fine {k : Nat} {h : Nat → ByteArray} (hk : 0 < k) (hkb : k ≤ 256) : (GI k h).Fine :=
  ⟨hk, hkb, fun _ _ => ⟨by show (0 : Int) ≤ 1; omega, by show (1 : Int) ≤ _; omega⟩, fun _ _ _ _ _ => by show (0 : Int) ≤ 0 ∧ (0 : Int) ≤ 1000000 ∧ (0 : Int) ≤ 1 ∧ (1 : Int) ≤ 1000000; omega, by show (0 : Int) ≤ 1 ∧ (1 : Int) ≤ 1 ∧ (1 : Int) ≤ 1000000; omega⟩
theorem GI_01 {k : Nat} {h : Nat → ByteArray} {x : Nat → Nat → Int} (hx : (GI k h).Feas x) {i j : Nat} (hi : i < k) (hj : j < k) : x i j = 0 ∨ x i j = 1 := by
  by_cases hl : wlnk h i j = true
  · have h1 := hx.link i j hi hj hl
    have h2 : (0 : Int) ≤ x i j ∧ x i j ≤ 1 := h1
    omega
  · exact .inl (hx.none i j hi hj hl)
/-- The shares while grouped turns pairs into amounts. -/
def gx (x : Nat → Nat → Int) (s : Nat → Nat) (i j : Nat) : Nat → Nat → Int := fun a b => if a < i ∨ (a = i ∧ b < j) then x a b * (s a : Int) else x a b
theorem gx_next (x : Nat → Nat → Int) (s : Nat → Nat) (k i a b : Nat) (hb : b < k) : gx x s i k a b = gx x s (i + 1) 0 a b := by
  unfold gx
  by_cases h : a < i ∨ (a = i ∧ b < k)
  · rw [if_pos h, if_pos (by omega)]
  · rw [if_neg h, if_neg (by omega)]
/-- What grouped gives. -/
def GRes (k : Nat) (h : Nat → ByteArray) (s : Nat → Nat) (w0 : World) (v : Value) (w' : World) : Prop :=
  Below w0.heap.size w0 w' ∧ ((v = .slice none 0 0 ∧ ¬ (GI k h).Okay) ∨ ∃ gX xb x, v = sl gX k ∧ Sq w' k gX xb (fun i j => x i j * (s i : Int)) k ∧ (GI k h).Feas x)
theorem Sq.congr {w : World} {k gX n : Nat} {xb : Nat → Nat} {x y : Nat → Nat → Int} (h : Sq w k gX xb x n) (he : ∀ a b, a < n → b < k → x a b = y a b) : Sq w k gX xb y n :=
  ⟨h.top, fun q hq => (h.row q hq).congr (fun b hb => by rw [he q b hq hb])⟩
theorem Sq.put {w : World} {k gX : Nat} {xb : Nat → Nat} {x y : Nat → Nat → Int} (h : Sq w k gX xb x k) (h1 : ∀ q, q < k → gX < xb q) (h2 : ∀ p q, p < q → q < k → xb p < xb q) {i j : Nat} (hi : i < k) (hj : j < k) (he : ∀ a b, a < k → b < k → ¬ (a = i ∧ b = j) → y a b = x a b) : Sq (w.setCell ⟨xb i, j, none⟩ (.int .i64 (y i j))) k gX xb y k := by
  refine ⟨h.top.other (by have := h1 i hi; omega) _, fun q hq => ?_⟩
  by_cases e : q = i
  · subst e
    refine (h.row q hq).set hj (fun b hb => ?_)
    by_cases e2 : b = j
    · exact .inl ⟨e2, by rw [e2]⟩
    · exact .inr ⟨e2, hb, by rw [he q b hq hb (fun e => e2 e.2)]⟩
  · refine ((h.row q hq).other ?_ _).congr (fun b hb => by rw [he q b hq hb (fun e' => e e'.1)])
    by_cases hlt : q < i
    · have := h2 q i hlt hi; omega
    · have := h2 i q (by omega) hq; omega


theorem zzspread_ret (k c0 c1 : Nat) (a0 a1 : Option Addr) (h : Nat → ByteArray) (s : Nat → Nat) (W : Nat) (w0 : World) (hst : StrsAt w0 a1 k h) (his : IntsAt w0 a0 k (fun i => (s i : Int)))
    (hk : 0 < k) (hkb : k ≤ 256) (hs : ∀ q, q < k → s q ≤ 1000000) (hW : mxs (fun i => (s i : Int)) k = (W : Int)) (hWb : W ≤ 1000000) :
    Ret Try.prog 17 #[.slice a0 k c0, .slice a1 k c1] w0 (SpRes k h s W w0) := by
  refine Ret.of_body (vs := [.slice a0 k c0, .slice a1 k c1]) Try.func17 rfl Try.ntmps17 rfl ?_
  refine wp_region_seq (fun K hK => ?_)
  refine wpl_op rfl (Ex_box (by conv => lhs; whnf)) ?_
  refine wpl_op rfl (Ex_assign (by conv => lhs; whnf)) ?_
  refine wpl_nil (hK _ _ ?_)
  clear hK K
  refine wp_gen (fun w1 => Below w0.heap.size w0 w1 ∧ w1.cell? ⟨w0.heap.size, 0, none⟩ = some (.slice a1 k c1)) ⟨(Below.refl _ _).alloc (Nat.le_refl _) _, cell_at (heap_new w0 _) rfl⟩ (fun w1 hg1 => ?_)
  obtain ⟨hb1, ch1⟩ := hg1
  refine wp_region_seq (fun K hK => ?_)
  refine wpl_op rfl (Ex_move (by conv => lhs; whnf)) ?_
  refine wpl_op rfl (Ex_func (fv := []) (cv := [.pointer (some ⟨w0.heap.size, 0, none⟩)]) rfl rfl) ?_
  refine wpl_call rfl (ExC_func ent24 rfl rfl) (spread_ret k w0.heap.size c0 c1 a0 a1 h s W w1 ch1 (hst.below hb1) (his.below hb1) hk hkb hs hW hWb) ?_
  rintro v w2 hres
  refine wpl_op rfl (Ex_assign (by conv => lhs; whnf)) ?_
  refine wpl_nil (hK _ _ ?_)
  clear hK K
  refine wp_ret ?_
  repeat (first | refine out_block ?_ | refine out_then ?_)
  refine ret_tmp Try.results17 (hres.from hb1)

theorem one_ret (hx pa : Nat) (a1 : Option Addr) (k c1 i j : Nat) (h : Nat → ByteArray) (w : World) (hb : w.cell? ⟨hx, 0, none⟩ = some (.slice a1 k c1)) (hs : StrsAt w a1 k h) (ca : w.cell? ⟨pa, 0, none⟩ = some (.func (.func 22) #[] #[.pointer (some ⟨hx, 0, none⟩)])) (hi : i < k) (hj : j < k) :
    Ret Try.prog 27 #[.int .i64 i, .int .i64 j, .pointer (some ⟨pa, 0, none⟩)] w fun v w' => v = .tuple #[.agg #[.int .i64 0, .int .i64 1], .bool (wlnk h i j)] ∧ Below w.heap.size w w' := by
  refine Ret.of_body (vs := [.int .i64 i, .int .i64 j, .pointer (some ⟨pa, 0, none⟩)]) Try.func27 rfl Try.ntmps27 rfl ?_
  refine wp_region_seq (fun K hK => ?_)
  refine wpl_op rfl (Ex_alloc zero41) ?_
  refine wpl_op rfl (Ex_assign (by conv => lhs; whnf)) ?_
  refine wpl_nil (hK _ _ ?_)
  clear hK K
  have g1 : Below w.heap.size w (w.alloc (.cells (Value.agg #[.int .i64 0, .int .i64 0]).cells 41)) := (Below.refl _ _).alloc (Nat.le_refl _) _
  refine wp_gen (fun w1 => Below w.heap.size w w1 ∧ w1.heap[w.heap.size]? = some (.cells #[.int .i64 0, .int .i64 0] 41 (0, 0))) ⟨g1, heap_new w _⟩ (fun w1 hg1 => ?_)
  clear g1
  obtain ⟨hb1, hr1⟩ := hg1
  have hrl := lt_of_heap hr1
  generalize hrb : w.heap.size = rb at *
  refine wp_region_seq (fun K hK => ?_)
  refine wpl_op rfl (Ex_build (pv := [(0, .int .i64 0), (1, .int .i64 1)]) rfl (bld41 _ _ _)) ?_
  refine wpl_op rfl (Ex_load one37 rfl (cell_later (show Below w.heap.size w w1 by rw [hrb]; exact hb1) ca)) ?_
  refine wpl_op rfl (Ex_move (by conv => lhs; whnf)) ?_
  refine wpl_op rfl (Ex_move (by conv => lhs; whnf)) ?_
  refine wpl_call rfl (ExC_closure (cap := [.pointer (some ⟨hx, 0, none⟩)]) ent22 rfl rfl) (apart22_ret hx a1 k c1 i j h _ (cell_later (show Below w.heap.size w w1 by rw [hrb]; exact hb1) hb) (hs.below (show Below w.heap.size w w1 by rw [hrb]; exact hb1)) hi hj) ?_
  rintro v w2 ⟨rfl, hb2⟩
  have hr2 : w2.heap[rb]? = some (.cells #[.int .i64 0, .int .i64 0] 41 (0, 0)) := by rw [hb2.block rb hrl]; exact hr1
  refine wpl_op rfl (Ex_storeagg (cs := [.int .i64 0, .int .i64 1]) agg41 rfl rfl rfl rfl hr2 (by decide)) ?_
  refine wpl_op rfl (Ex_assign (by conv => lhs; whnf)) ?_
  refine wpl_nil (hK _ _ ?_)
  clear hK K
  have hr4 := setRow_heap w2 rb _ (#[Value.int .i64 0, Value.int .i64 0].toList.take 0 ++ [Value.int .i64 0, Value.int .i64 1] ++ #[Value.int .i64 0, Value.int .i64 0].toList.drop (0 + 2)).toArray 41 (0, 0) hr2
  refine wp_ret ?_
  repeat (first | refine out_block ?_ | refine out_then ?_)
  refine ret_cell (cs := [.int .i64 0, .int .i64 1]) Try.results27 agg41 rfl rfl (fun q v hv => by rw [Nat.zero_add]; exact cell_at hr4 (by simpa using hv)) ⟨rfl, below_setRow (hb1.trans (hb2.mono (by omega))) (Nat.le_refl _) _⟩

theorem grouped_ret (k hx c0 c1 : Nat) (a0 a1 : Option Addr) (h : Nat → ByteArray) (s : Nat → Nat) (w0 : World) (hb : w0.cell? ⟨hx, 0, none⟩ = some (.slice a1 k c1)) (hst : StrsAt w0 a1 k h) (his : IntsAt w0 a0 k (fun i => (s i : Int)))
    (hk : 0 < k) (hkb : k ≤ 256) (hs : ∀ q, q < k → s q ≤ 1000000) :
    Ret Try.prog 21 #[.slice a0 k c0, .func (.func 22) #[] #[.pointer (some ⟨hx, 0, none⟩)]] w0 (GRes k h s w0) := by
  refine Ret.of_body (vs := [.slice a0 k c0, .func (.func 22) #[] #[.pointer (some ⟨hx, 0, none⟩)]]) Try.func21 rfl Try.ntmps21 rfl ?_
  obtain ⟨b0, o0, rfl, hc⟩ := his.get hk
  refine wp_region_seq (fun K hK => ?_)
  refine wpl_op rfl (Ex_box (by conv => lhs; whnf)) ?_
  refine wpl_op rfl (Ex_assign (by conv => lhs; whnf)) ?_
  refine wpl_nil (hK _ _ ?_)
  clear hK K
  refine wp_gen (fun w1 => Below w0.heap.size w0 w1 ∧ w1.cell? ⟨w0.heap.size, 0, none⟩ = some (.func (.func 22) #[] #[.pointer (some ⟨hx, 0, none⟩)])) ⟨(Below.refl _ _).alloc (Nat.le_refl _) _, cell_at (heap_new w0 _) rfl⟩ (fun w1 hg1 => ?_)
  obtain ⟨hb1, ca1⟩ := hg1
  have hpa1 : w0.heap.size < w1.heap.size := World.block_lt_of_cell? w1 _ ca1
  refine wp_region_seq (fun K hK => ?_)
  refine wpl_op rfl (Ex_move (by conv => lhs; whnf)) ?_
  refine wpl_op rfl (Ex_len Try.underlying22 rfl) ?_
  refine wpl_op rfl (Ex_mk Try.underlying22 info3 rfl rfl (by omega) (by omega)) ?_
  refine wpl_op rfl (Ex_assign (by conv => lhs; whnf)) ?_
  refine wpl_nil (hK _ _ ?_)
  clear hK K
  have g2 : Below w1.heap.size w1 (w1.alloc (zrow k)) := (Below.refl _ _).alloc (Nat.le_refl _) _
  refine wp_gen (fun w2 => Below w1.heap.size w1 w2 ∧ Own w2 w1.heap.size 3 k k (fun _ => .int .i64 0)) ⟨g2, own_zrow w1 k⟩ (fun w2 hg2 => ?_)
  clear g2
  obtain ⟨hb2, ho2⟩ := hg2
  have ca2 := cell_later hb2 ca1
  have hb02 : Below w0.heap.size w0 w2 := hb1.trans (hb2.mono hb1.size)
  clear ca1 hb1 hb2
  generalize hpa : w0.heap.size = pa at ca2 hpa1
  generalize w1.heap.size = po at ho2 hpa1
  refine wp_seq_k (fun K1 hK1 => ?_)
  refine wp_region_seq (fun K hK => ?_)
  refine wpl_op rfl (Ex_move (by conv => lhs; whnf)) ?_
  refine wpl_op rfl (Ex_len Try.underlying22 rfl) ?_
  refine wpl_op rfl (Ex_move (by conv => lhs; whnf)) ?_
  refine wpl_nil (hK _ _ ?_)
  clear hK K
  refine wp_block ?_
  refine wp_loop_st (fun i : Nat => [(0, .slice (some ⟨b0, o0, none⟩) k c0), (3, .pointer (some ⟨pa, 0, none⟩)), (5, .slice (some ⟨po, 0, none⟩) k k), (15, .int .i64 (k : Int)), (16, .int .i64 (i : Int))]) (fun i w => Below w0.heap.size w0 w ∧ w.cell? ⟨pa, 0, none⟩ = some (.func (.func 22) #[] #[.pointer (some ⟨hx, 0, none⟩)]) ∧ Own w po 3 k k (fun q => .int .i64 (if q < i then 1 else 0)) ∧ i ≤ k) (fun i => k - i) 0 ⟨rfl, rfl, rfl, rfl, rfl, trivial⟩ ⟨hb02, ca2, ho2.congr (fun q _ => by rw [if_neg (by omega)]), by omega⟩ ?_
  clear hb02 ca2 ho2
  rintro i uu w3 ⟨hb3, ca3, ho3, hi⟩ R hR
  by_cases hlt : i < k
  · skip
    refine wp_region_seq (fun K hK => ?_)
    refine wpl_op rfl (Ex_lss rfl rfl (decide_eq_true (by omega))) ?_
    refine wpl_nil (hK _ _ ?_)
    clear hK K
    refine wp_seq_k (fun KK hKK => ?_)
    refine wp_if_true rfl ?_
    refine wp_skip (hKK _ _ ?_)
    clear hKK KK
    refine wp_seq_k (fun K' hK' => ?_)
    refine wp_block ?_
    refine wp_region_seq (fun K hK => ?_)
    refine wpl_op rfl (Ex_move (by conv => lhs; whnf)) ?_
    refine wpl_op rfl (Ex_assign (by conv => lhs; whnf)) ?_
    refine wpl_nil (hK _ _ ?_)
    clear hK K
    refine wp_region_last ?_
    refine wpl_op rfl (Ex_move (by conv => lhs; whnf)) ?_
    refine wpl_op rfl (Ex_move (by conv => lhs; whnf)) ?_
    refine wpl_op rfl (Ex_index1 Try.underlying22 size_22 rfl rfl hlt) ?_
    refine wpl_op rfl (Ex_store one3 rfl (by conv => lhs; whnf) rfl (ho3.c0 hlt) ho3.open_) ?_
    refine wpl_nil ?_
    refine hK' _ _ ?_
    refine wp_region_last ?_
    refine wpl_op rfl (Ex_inc rfl rfl (by omega)) ?_
    refine wpl_op rfl (Ex_move (by conv => lhs; whnf)) ?_
    refine wpl_nil ?_
    have kk : Keep [po] w3 (w3.setCell ⟨po, 0 + i, none⟩ (.int .i64 1)) := Keep.setCell w3 (by simp) _
    refine hR _ _ _ (i + 1) ⟨rfl, rfl, rfl, rfl, rfl, trivial⟩ ⟨hb3.trans (kk.below hb3.size (fun q hq => by rw [show q = po by simpa using hq]; omega)), kk.cell ca3 (by simp; omega), ?_, hlt⟩ (by omega)
    rw [Nat.zero_add]
    refine ho3.set hlt (fun q hq => ?_)
    by_cases e : q = i
    · exact .inl ⟨e, by rw [if_pos (by omega)]⟩
    · refine .inr ⟨e, hq, ?_⟩
      by_cases e2 : q < i
      · rw [if_pos e2, if_pos (by omega)]
      · rw [if_neg e2, if_neg (by omega)]
  have hie : i = k := by omega
  subst hie
  refine wp_region_seq (fun K hK => ?_)
  refine wpl_op rfl (Ex_lss rfl rfl (decide_eq_false (by omega))) ?_
  refine wpl_nil (hK _ _ ?_)
  clear hK K
  refine wp_seq_k (fun KK hKK => ?_)
  refine wp_if_false rfl ?_
  refine wp_exit ?_
  clear hKK
  refine hK1 _ _ ?_
  clear hR R hK1 K1 hlt
  have hones : IntsAt w3 (some ⟨po, 0, none⟩) (GI i h).k (GI i h).s := IntsAt.of_own (ho3.congr (fun q hq => by rw [if_pos hq]; rfl))
  clear ho3
  refine wp_region_seq (fun K hK => ?_)
  refine wpl_op rfl (Ex_move (by conv => lhs; whnf)) ?_
  refine wpl_op rfl (Ex_build (pv := [(0, .int .i64 1), (1, .int .i64 1)]) rfl (bld41 _ _ _)) ?_
  refine wpl_op rfl (Ex_func (fv := []) (cv := [.pointer (some ⟨pa, 0, none⟩)]) rfl rfl) ?_
  refine wpl_call rfl (ExC_func ent26 rfl rfl) (transport_ret (GI i h) (GI_fine hk hkb) (some ⟨po, 0, none⟩) i 27 [.pointer (some ⟨pa, 0, none⟩)] ent27 w3 hones (fun a b ha hb' w' hw' => one_ret hx pa a1 i c1 a b h w' (cell_later (hb3.trans (hw'.mono hb3.size)) hb) (hst.below (hb3.trans (hw'.mono hb3.size))) (cell_later hw' ca3) ha hb')) ?_
  rintro v w4 hres
  refine wpl_op rfl (Ex_assign (by conv => lhs; whnf)) ?_
  refine wpl_nil (hK _ _ ?_)
  clear hK K
  have hb4 : Below w0.heap.size w0 w4 := hb3.trans (hres.1.mono hb3.size)
  have hsz3 := hb3.size
  rcases hres.tells with ⟨rfl, hno⟩ | ⟨bb, ll, cc, e, _, gX, xb, x, e1, hq, hgX, h1, h2, hf⟩
  · clear hres
    refine wp_seq_k (fun K1 hK1 => ?_)
    refine wp_region_seq (fun K hK => ?_)
    refine wpl_op rfl (Ex_move (by conv => lhs; whnf)) ?_
    refine wpl_op rfl (Ex_len Try.underlying27 rfl) ?_
    refine wpl_op rfl (Ex_move (by conv => lhs; whnf)) ?_
    refine wpl_nil (hK _ _ ?_)
    clear hK K
    refine wp_block ?_
    refine wp_loop_st (fun _ : Unit => [(7, .slice none 0 0), (28, .int .i64 0), (29, .int .i64 0)]) (fun _ w' => w' = w4) (fun _ => 0) () ⟨rfl, rfl, rfl, trivial⟩ rfl ?_
    rintro _ uu5 w5 rfl R hR
    refine wp_region_seq (fun K hK => ?_)
    refine wpl_op rfl (Ex_lss rfl rfl (decide_eq_false (by omega))) ?_
    refine wpl_nil (hK _ _ ?_)
    clear hK K
    refine wp_seq_k (fun KK hKK => ?_)
    refine wp_if_false rfl ?_
    refine wp_exit ?_
    clear hKK
    refine hK1 _ _ ?_
    refine wp_region_seq (fun K hK => ?_)
    refine wpl_op rfl (Ex_move (by conv => lhs; whnf)) ?_
    refine wpl_op rfl (Ex_assign (by conv => lhs; whnf)) ?_
    refine wpl_nil (hK _ _ ?_)
    clear hK K
    refine wp_ret ?_
    repeat (first | refine out_block ?_ | refine out_then ?_)
    refine ret_tmp Try.results21 ⟨hb4, .inl ⟨rfl, hno⟩⟩
  subst e1
  have hq : Sq w4 i gX xb (gx x s 0 0) i := Sq.congr hq (fun a b _ _ => by unfold gx; rw [if_neg (by omega)])
  have h1 : ∀ q, q < i → gX < xb q := h1
  have h2 : ∀ p q, p < q → q < i → xb p < xb q := h2
  clear hres e
  refine wp_norm [(0, .slice (some ⟨b0, o0, none⟩) i c0), (7, .slice (some ⟨gX, 0, none⟩) i i)] ⟨rfl, rfl, trivial⟩ (fun u9 => ?_)
  refine wp_seq_k (fun K1 hK1 => ?_)
  refine wp_region_seq (fun K hK => ?_)
  refine wpl_op rfl (Ex_move (by conv => lhs; whnf)) ?_
  refine wpl_op rfl (Ex_len Try.underlying27 rfl) ?_
  refine wpl_op rfl (Ex_move (by conv => lhs; whnf)) ?_
  refine wpl_nil (hK _ _ ?_)
  clear hK K
  refine wp_block ?_
  refine wp_loop_st (fun q : Nat => [(0, .slice (some ⟨b0, o0, none⟩) i c0), (7, .slice (some ⟨gX, 0, none⟩) i i), (27, .slice (some ⟨gX, 0, none⟩) i i), (28, .int .i64 (i : Int)), (29, .int .i64 (q : Int))]) (fun q w => Below w0.heap.size w0 w ∧ Sq w i gX xb (gx x s q 0) i ∧ q ≤ i) (fun q => i - q) 0 ⟨rfl, rfl, rfl, rfl, rfl, trivial⟩ ⟨hb4, hq, by omega⟩ ?_
  clear hb4 hq
  rintro a uu3 w5 ⟨hb5, hq5, ha⟩ R hR
  by_cases hlt : a < i
  · skip
    refine wp_region_seq (fun K hK => ?_)
    refine wpl_op rfl (Ex_lss rfl rfl (decide_eq_true (by omega))) ?_
    refine wpl_nil (hK _ _ ?_)
    clear hK K
    refine wp_seq_k (fun KK hKK => ?_)
    refine wp_if_true rfl ?_
    refine wp_skip (hKK _ _ ?_)
    clear hKK KK
    refine wp_seq_k (fun K' hK' => ?_)
    refine wp_block ?_
    refine wp_region_seq (fun K hK => ?_)
    refine wpl_op rfl (Ex_move (by conv => lhs; whnf)) ?_
    refine wpl_op rfl (Ex_index1 Try.underlying27 size_27 rfl rfl hlt) ?_
    refine wpl_op rfl (Ex_load one22 rfl (hq5.top.c0 hlt)) ?_
    refine wpl_op rfl (Ex_assign (by conv => lhs; whnf)) ?_
    refine wpl_op rfl (Ex_assign (by conv => lhs; whnf)) ?_
    refine wpl_nil (hK _ _ ?_)
    clear hK K
    refine wp_region_seq (fun K hK => ?_)
    refine wpl_op rfl (Ex_move (by conv => lhs; whnf)) ?_
    refine wpl_op rfl (Ex_len Try.underlying22 rfl) ?_
    refine wpl_op rfl (Ex_move (by conv => lhs; whnf)) ?_
    refine wpl_nil (hK _ _ ?_)
    clear hK K
    refine wp_block ?_
    refine wp_loop_st (fun q : Nat => [(0, .slice (some ⟨b0, o0, none⟩) i c0), (7, .slice (some ⟨gX, 0, none⟩) i i), (27, .slice (some ⟨gX, 0, none⟩) i i), (28, .int .i64 (i : Int)), (29, .int .i64 (a : Int)), (8, .int .i64 (a : Int)), (9, sl (xb a) i), (35, .int .i64 (i : Int)), (36, .int .i64 (q : Int))]) (fun q w => Below w0.heap.size w0 w ∧ Sq w i gX xb (gx x s a q) i ∧ q ≤ i) (fun q => i - q) 0 ⟨rfl, rfl, rfl, rfl, rfl, rfl, rfl, rfl, rfl, trivial⟩ ⟨hb5, hq5, by omega⟩ ?_
    clear hb5 hq5
    rintro b uu4 w6 ⟨hb6, hq6, hbi⟩ R2 hR2
    by_cases hbt : b < i
    · have hcx : w6.cell? ⟨xb a, 0 + b, none⟩ = some (.int .i64 (x a b)) := by
        have := (hq6.row a hlt).c0 hbt
        rw [show gx x s a b a b = x a b by unfold gx; rw [if_neg (by omega)]] at this
        exact this
      have hcs : w6.cell? ⟨b0, o0 + a, none⟩ = some (.int .i64 (s a : Int)) := cell_later hb6 (hc a hlt)
      have hx01 := GI_01 hf hlt hbt
      have hsa := hs a hlt
      have hm : 0 ≤ x a b * (s a : Int) ∧ x a b * (s a : Int) ≤ 1000000 := by
        rcases hx01 with e | e <;> rw [e] <;> omega
      refine wp_region_seq (fun K hK => ?_)
      refine wpl_op rfl (Ex_lss rfl rfl (decide_eq_true (by omega))) ?_
      refine wpl_nil (hK _ _ ?_)
      clear hK K
      refine wp_seq_k (fun KK hKK => ?_)
      refine wp_if_true rfl ?_
      refine wp_skip (hKK _ _ ?_)
      clear hKK KK
      refine wp_seq_k (fun K2 hK2 => ?_)
      refine wp_block ?_
      refine wp_region_seq (fun K hK => ?_)
      refine wpl_op rfl (Ex_move (by conv => lhs; whnf)) ?_
      refine wpl_op rfl (Ex_assign (by conv => lhs; whnf)) ?_
      refine wpl_nil (hK _ _ ?_)
      clear hK K
      refine wp_draw_last (by kernel_rfl) (fun w' => w'.cell? ⟨xb a, 0 + b, none⟩ = some (.int .i64 (x a b)) ∧ w'.cell? ⟨b0, o0 + a, none⟩ = some (.int .i64 (s a : Int))) (fun q => Nat.beq q 10) 11 rfl ?_
      have hS : w6.drew.cell? ⟨xb a, 0 + b, none⟩ = some (.int .i64 (x a b)) ∧ w6.drew.cell? ⟨b0, o0 + a, none⟩ = some (.int .i64 (s a : Int)) := ⟨hcx, hcs⟩
      refine wpd_pure 0 (by kernel_rfl) rfl (fun w => Ex_move (by conv => lhs; whnf)) (by intro h; cases h) ?_
      refine wpd_pure 1 (by kernel_rfl) rfl (fun w => Ex_move (by conv => lhs; whnf)) (by intro h; cases h) ?_
      refine wpd_pure 2 (by kernel_rfl) rfl (fun w => Ex_index1 Try.underlying22 size_22 rfl rfl hbt) (by intro h; cases h) ?_
      refine wpd_take 3 (by kernel_rfl) rfl hS (fun w hw => Ex_load one3 rfl hw.1) (by intro h; cases h) ?_
      refine wpd_pure 4 (by kernel_rfl) rfl (fun w => Ex_move (by conv => lhs; whnf)) (by intro h; cases h) ?_
      refine wpd_pure 5 (by kernel_rfl) rfl (fun w => Ex_move (by conv => lhs; whnf)) (by intro h; cases h) ?_
      refine wpd_pure 6 (by kernel_rfl) rfl (fun w => Ex_index1 Try.underlying22 size_22 rfl rfl hlt) (by intro h; cases h) ?_
      refine wpd_take 7 (by kernel_rfl) rfl hS (fun w hw => Ex_load one3 rfl hw.2) (by intro h; cases h) ?_
      refine wpd_pure 8 (by kernel_rfl) rfl (fun w => Ex_mul rfl rfl (by omega) (by omega)) (by intro h; cases h) ?_
      refine wpd_pure 9 (by kernel_rfl) rfl (fun w => Ex_index1 Try.underlying22 size_22 rfl rfl hbt) (by intro h; cases h) ?_
      refine wpd_one 10 (by kernel_rfl) rfl (Ex_store one3 rfl (by conv => lhs; whnf) rfl hS.1 (hq6.row a hlt).open_) (by intro _ h; cases h) ?_
      refine wpd_nil (by kernel_rfl) ?_
      refine hK2 _ _ ?_
      refine wp_region_last ?_
      refine wpl_op rfl (Ex_inc rfl rfl (by omega)) ?_
      refine wpl_op rfl (Ex_move (by conv => lhs; whnf)) ?_
      refine wpl_nil ?_
      have hb6' : Below w0.heap.size w0 w6.drew := ⟨hb6.os, hb6.tape, hb6.output, hb6.size, hb6.block⟩
      have hq6' : Sq w6.drew i gX xb (gx x s a b) i := ⟨hq6.top, hq6.row⟩
      have hne : ∀ a' b', a' < i → b' < i → ¬ (a' = a ∧ b' = b) → gx x s a (b + 1) a' b' = gx x s a b a' b' := fun a' b' _ _ hn => by
        unfold gx
        by_cases e : a' < a ∨ (a' = a ∧ b' < b)
        · rw [if_pos e, if_pos (by omega)]
        · rw [if_neg e, if_neg (by omega)]
      have hq7 := hq6'.put h1 h2 hlt hbt hne
      rw [show gx x s a (b + 1) a b = x a b * (s a : Int) by unfold gx; rw [if_pos (by omega)]] at hq7
      have kk : Keep [xb a] w6.drew (w6.drew.setCell ⟨xb a, 0 + b, none⟩ (.int .i64 (x a b * (s a : Int)))) := Keep.setCell _ (by simp) _
      have hga := h1 a hlt
      refine hR2 _ _ _ (b + 1) ⟨rfl, rfl, rfl, rfl, rfl, rfl, rfl, rfl, rfl, trivial⟩ ⟨hb6'.trans (kk.below hb6'.size (fun q hq => by rw [show q = xb a by simpa using hq]; omega)), ?_, hbt⟩ (by omega)
      rw [Nat.zero_add]
      exact hq7
    · have hbe : b = i := by omega
      subst hbe
      refine wp_region_seq (fun K hK => ?_)
      refine wpl_op rfl (Ex_lss rfl rfl (decide_eq_false (by omega))) ?_
      refine wpl_nil (hK _ _ ?_)
      clear hK K
      refine wp_seq_k (fun KK hKK => ?_)
      refine wp_if_false rfl ?_
      refine wp_exit ?_
      clear hKK
      refine hK' _ _ ?_
      refine wp_region_last ?_
      refine wpl_op rfl (Ex_inc rfl rfl (by omega)) ?_
      refine wpl_op rfl (Ex_move (by conv => lhs; whnf)) ?_
      refine wpl_nil ?_
      exact hR _ _ _ (a + 1) ⟨rfl, rfl, rfl, rfl, rfl, trivial⟩ ⟨hb6, hq6.congr (fun p q _ hq => gx_next x s _ a p q hq), hlt⟩ (by omega)
  have hae : a = i := by omega
  subst hae
  refine wp_region_seq (fun K hK => ?_)
  refine wpl_op rfl (Ex_lss rfl rfl (decide_eq_false (by omega))) ?_
  refine wpl_nil (hK _ _ ?_)
  clear hK K
  refine wp_seq_k (fun KK hKK => ?_)
  refine wp_if_false rfl ?_
  refine wp_exit ?_
  clear hKK
  refine hK1 _ _ ?_
  refine wp_region_seq (fun K hK => ?_)
  refine wpl_op rfl (Ex_move (by conv => lhs; whnf)) ?_
  refine wpl_op rfl (Ex_assign (by conv => lhs; whnf)) ?_
  refine wpl_nil (hK _ _ ?_)
  clear hK K
  refine wp_ret ?_
  repeat (first | refine out_block ?_ | refine out_then ?_)
  refine ret_tmp Try.results21 ⟨hb5, .inr ⟨gX, xb, x, rfl, hq5.congr (fun p q hp _ => by unfold gx; rw [if_pos (.inl hp)]), hf⟩⟩

theorem GRes.from {k : Nat} {h : Nat → ByteArray} {s : Nat → Nat} {w0 w1 : World} {v : Value} {w' : World} (r : GRes k h s w1 v w') (hb : Below w0.heap.size w0 w1) : GRes k h s w0 v w' := ⟨hb.trans (r.1.mono hb.size), r.2⟩

theorem zzgrouped_ret (k c0 c1 : Nat) (a0 a1 : Option Addr) (h : Nat → ByteArray) (s : Nat → Nat) (w0 : World) (hst : StrsAt w0 a1 k h) (his : IntsAt w0 a0 k (fun i => (s i : Int)))
    (hk : 0 < k) (hkb : k ≤ 256) (hs : ∀ q, q < k → s q ≤ 1000000) :
    Ret Try.prog 10 #[.slice a0 k c0, .slice a1 k c1] w0 (GRes k h s w0) := by
  refine Ret.of_body (vs := [.slice a0 k c0, .slice a1 k c1]) Try.func10 rfl Try.ntmps10 rfl ?_
  refine wp_region_seq (fun K hK => ?_)
  refine wpl_op rfl (Ex_box (by conv => lhs; whnf)) ?_
  refine wpl_op rfl (Ex_assign (by conv => lhs; whnf)) ?_
  refine wpl_nil (hK _ _ ?_)
  clear hK K
  refine wp_gen (fun w1 => Below w0.heap.size w0 w1 ∧ w1.cell? ⟨w0.heap.size, 0, none⟩ = some (.slice a1 k c1)) ⟨(Below.refl _ _).alloc (Nat.le_refl _) _, cell_at (heap_new w0 _) rfl⟩ (fun w1 hg1 => ?_)
  obtain ⟨hb1, ch1⟩ := hg1
  refine wp_region_seq (fun K hK => ?_)
  refine wpl_op rfl (Ex_move (by conv => lhs; whnf)) ?_
  refine wpl_op rfl (Ex_func (fv := []) (cv := [.pointer (some ⟨w0.heap.size, 0, none⟩)]) rfl rfl) ?_
  refine wpl_call rfl (ExC_func ent21 rfl rfl) (grouped_ret k w0.heap.size c0 c1 a0 a1 h s w1 ch1 (hst.below hb1) (his.below hb1) hk hkb hs) ?_
  rintro v w2 hres
  refine wpl_op rfl (Ex_assign (by conv => lhs; whnf)) ?_
  refine wpl_nil (hK _ _ ?_)
  clear hK K
  refine wp_ret ?_
  repeat (first | refine out_block ?_ | refine out_then ?_)
  refine ret_tmp Try.results10 (hres.from hb1)
end Go.Proofs.Qxb6613837a.Sp
