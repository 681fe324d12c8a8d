import Derived.Test.Qxb6613881aOAc
namespace Go.Proofs.Qxb6613881a.OA
open Go.Fr Go.RowKit

/-! ### One kind more, that asks for nothing -/
def ins (z : Nat → Int) (c : Nat) (y : Int) (i : Nat) : Int := if i < c then z i else if i = c then y else z (i - 1)
theorem ins_lt {z : Nat → Int} {c : Nat} {y : Int} {i : Nat} (h : i < c) : ins z c y i = z i := by simp [ins, h]
theorem ins_at {z : Nat → Int} {c : Nat} {y : Int} : ins z c y c = y := by simp [ins]
theorem ins_gt {z : Nat → Int} {c : Nat} {y : Int} {i : Nat} (h : c ≤ i) : ins z c y (i + 1) = z i := by
  have h1 : ¬ i + 1 < c := by omega
  have h2 : ¬ i + 1 = c := by omega
  simp [ins, h1, h2]
theorem posL_congr (z z' : Nat → Int) : ∀ n, (∀ i, i < n → z i = z' i) → posL z n = posL z' n
  | 0, _ => rfl
  | n + 1, h => by
    have ih := posL_congr z z' n (fun i hi => h i (by omega))
    simp [posL, ih, h n (by omega)]
theorem ins_head (z : Nat → Int) (c : Nat) (y : Int) (hy : y ≤ 0) : posL (ins z c y) (c + 1) = posL z c := by
  rw [posL_no (by rw [ins_at]; omega)]
  exact posL_congr _ _ c (fun i hi => ins_lt hi)
theorem ins_shift (z : Nat → Int) (c : Nat) (y : Int) : (fun i => ins z c y (i + (c + 1))) = fun i => z (i + c) := by
  funext i
  rw [show i + (c + 1) = (i + c) + 1 by omega]
  exact ins_gt (by omega)
theorem cnt_ins (z : Nat → Int) (c d : Nat) (y : Int) (hy : y ≤ 0) : cnt (ins z c y) (c + d + 1) = cnt z (c + d) := by
  have hc : cnt (ins z c y) (c + 1) = cnt z c := by rw [← posL_len, ins_head z c y hy, posL_len]
  rw [show c + d + 1 = (c + 1) + d by omega, cnt_split (ins z c y) (c + 1) d, cnt_split z c d, ins_shift, hc]
theorem kd_ins (z : Nat → Int) (c d : Nat) (y : Int) (hy : y ≤ 0) (i : Nat) (h : i < cnt z (c + d)) :
    (kd z (c + d) i < c ∧ kd (ins z c y) (c + d + 1) i = kd z (c + d) i ∧ ins z c y (kd z (c + d) i) = z (kd z (c + d) i)) ∨
    (c ≤ kd z (c + d) i ∧ kd (ins z c y) (c + d + 1) i = kd z (c + d) i + 1 ∧ ins z c y (kd z (c + d) i + 1) = z (kd z (c + d) i)) := by
  have hs := cnt_split z c d
  have hc : cnt (ins z c y) (c + 1) = cnt z c := by rw [← posL_len, ins_head z c y hy, posL_len]
  rw [show c + d + 1 = (c + 1) + d by omega]
  by_cases hi : i < cnt z c
  · left
    have h1 := kd_head z c d i hi
    have h2 := kd_head (ins z c y) (c + 1) d i (by omega)
    have h3 : kd (ins z c y) (c + 1) i = kd z c i := by unfold kd; rw [ins_head z c y hy]
    have h4 := (kd_lt hi).1
    rw [h1, h2, h3]
    exact ⟨h4, rfl, ins_lt h4⟩
  · right
    obtain ⟨j, rfl⟩ : ∃ j, i = cnt z c + j := ⟨i - cnt z c, by omega⟩
    have h1 := kd_tail z c d j (by omega)
    have h2 := kd_tail (ins z c y) (c + 1) d j (by rw [ins_shift]; omega)
    rw [ins_shift, hc] at h2
    rw [h1, h2]
    exact ⟨by omega, by omega, by rw [ins_gt (by omega)]⟩
/-- The numbers 0 .. n-1 of z, as they lie in a row. -/
def iv (z : Nat → Int) (n : Nat) : List Value := (List.range n).map (fun i => .int .i64 (z i))
theorem iv_snoc (z : Nat → Int) (n : Nat) : iv z n ++ [.int .i64 (z n)] = iv z (n + 1) := by simp [iv, List.range_succ]
theorem ints_of_owns {w : World} {base : Nat} {v : Value} {n : Nat} {z : Nat → Int} (h : w.ownsRow base 3 1 v n (iv z n)) : ∃ a c, v = .slice a n c ∧ n ≤ c ∧ IntsAt w a n z := by
  rcases h.2 with ⟨rfl, rfl⟩ | ⟨g, cap, cur, rfl, _, hg, hc, _, hs, ht⟩
  · exact ⟨none, 0, rfl, Nat.le_refl _, .inl rfl⟩
  · refine ⟨_, cap, rfl, hc, .inr ⟨g, 0, rfl, fun i hi => ?_⟩⟩
    have h1 : (iv z n)[i]? = some (.int .i64 (z i)) := by simp [iv, hi]
    rw [← ht, List.getElem?_take] at h1
    rw [Nat.zero_add]
    split at h1
    · exact cell_at hg (by simpa using h1)
    · cases h1
theorem bsl3 (k : Int) (w : World) : (Instr.buildSlice 22 1 #[(0, .int .i64 k)]).run Try.prog w = .ok (.slice (some ⟨w.heap.size, 0, none⟩) 1 1) (w.alloc (.cells #[.int .i64 k] 3)) := by
  simp [go_sem]
theorem Ex_mk0 {P : Program} {ρ : Operand → Value} {ty : TypeId} {w : World} {x y : Operand} {t e : TypeId} {z : Value} {size bytes n base : Nat} (hu : P.underlying t = some (.slice e)) (hi : (P.info? e).map (fun i => (i.zero, i.size, i.bytes)) = some (some z, size, bytes)) (hx : ρ x = .int .i64 0) (hy : ρ y = .int .i64 (n : Int))
    (hb : bytes * n ≤ 281474976710656) (hn : n ≤ maxLen) (hbase : base ≤ w.heap.size) : ∃ v w', Ex P ρ (.makeSlice t x y) ty w v w' ∧ w'.ownsRow base e size v 0 [] ∧ w.grownBy w' none := by
  obtain ⟨i, h1, h2, h3, h4⟩ := info_parts hi
  subst h4
  obtain ⟨w', hr, ho, hg⟩ := run_make_own (P := P) w base t e i z size hu h1 h2 h3 .i64 .i64 n hb hn hbase
  exact ⟨_, w', ex_val fun o ho _ => by simp [execOp, ho, hx, hy, hr, Result.andThen], ho, hg⟩


theorem rest4b (a1 aL : Option Addr) (cut d c1 cL : Nat) (z : Nat → Int) (y : Int) (hy : y ≤ 0) (w0 w : World) (hb0 : Below w0.heap.size w0 w) (h0 : IntsAt w a1 (cut + d) z) (hL : IntsAt w aL (cut + d + 1) (ins z cut y)) (hn : cut + d ≤ 65536) (u : Nat → Value) :
    Code.wp Try.prog (codeAt [1, 1, 1, 1] (codeAt [1, 1, 1, 1, 1, 1] (Try.f4.body.getD .skip))) (post Try.prog Try.f4 fun v w' => v = .bool true ∧ Below w0.heap.size w0 w') (fr 278 u [(0, .slice a1 (cut + d : Nat) c1), (1, .int .i64 cut), (8, .slice aL (cut + d + 1 : Nat) cL)]) w := by
  conv => arg 2; whnf
  have hcl := cnt_le z (cut + d)
  have hci := cnt_ins z cut d y hy
  refine wp_region_seq (fun K hK => ?_)
  refine wpl_op rfl (Ex_move (by conv => lhs; whnf)) ?_
  refine wpl_op rfl (Ex_len Try.underlying22 rfl) ?_
  refine wpl_op rfl (Ex_inc rfl rfl (by omega)) ?_
  refine wpl_call rfl (ExC_func ent8 rfl rfl) (newView_ret (cut + d + 1) w (by omega)) ?_
  rintro v w1 ⟨gv, p, rfl, hv, hb1⟩
  refine wpl_op rfl (Ex_assign (by conv => lhs; whnf)) ?_
  refine wpl_nil (hK _ _ ?_)
  clear hK K
  replace h0 := h0.below hb1
  replace hL := hL.below hb1
  refine wp_region_seq (fun K hK => ?_)
  refine wpl_op rfl (Ex_move (by conv => lhs; whnf)) ?_
  refine wpl_op rfl (Ex_move (by conv => lhs; whnf)) ?_
  refine wpl_call rfl (ExC_func ent9 rfl rfl) (zOpen_ret gv (cut + d + 1) p a1 (cut + d) c1 z w1 hv h0 (by omega) (by omega)) ?_
  rintro v w2 ⟨aA, cA, rfl, hA, hb2⟩
  refine wpl_op rfl (Ex_assign (by conv => lhs; whnf)) ?_
  refine wpl_nil (hK _ _ ?_)
  clear hK K
  replace h0 := h0.below hb2
  replace hL := hL.below hb2
  replace hv := hv.later hb2
  refine wp_region_seq (fun K hK => ?_)
  refine wpl_op rfl (Ex_move (by conv => lhs; whnf)) ?_
  refine wpl_op rfl (Ex_move (by conv => lhs; whnf)) ?_
  refine wpl_call rfl (ExC_func ent9 rfl rfl) (zOpen_ret gv (cut + d + 1) p aL (cut + d + 1) cL (ins z cut y) w2 hv hL (by omega) (by omega)) ?_
  rintro v w3 ⟨aB, cB, rfl, hB, hb3⟩
  refine wpl_op rfl (Ex_assign (by conv => lhs; whnf)) ?_
  refine wpl_nil (hK _ _ ?_)
  clear hK K
  replace h0 := h0.below hb3
  replace hv := hv.later hb3
  replace hA := hA.later hb3
  rw [hci]
  have hb04 : Below w0.heap.size w0 w3 := ((hb0.trans (hb1.mono hb0.size)).trans (hb2.mono (Nat.le_trans hb0.size hb1.size))).trans (hb3.mono (Nat.le_trans (Nat.le_trans hb0.size hb1.size) hb2.size))
  clear hb0 hb1 hb2 hb3 hL
  refine wp_seq_k (fun KK hKK => ?_)
  refine wp_sq_seq (fun K hK => ?_)
  refine wpq_op (fun w hw => Ex_move (by conv => lhs; whnf)) ?_
  refine wpq_op (fun w hw => Ex_len Try.underlying26 rfl) ?_
  refine wpq_op (fun w hw => Ex_move (by conv => lhs; whnf)) ?_
  refine wpq_call (fun w => ExC_func ent10 rfl rfl) (fun w hw => count_b a1 (cut + d) c1 z w (h0.below hw) (by omega)) ?_
  refine wpq_op (fun w hw => Ex_neq rfl rfl (ne_f rfl)) ?_
  refine wpq_op (fun w hw => Ex_move (by conv => lhs; whnf)) ?_
  refine wpq_opg (by exact rfl) (by exact rfl) (fun w hw => Ex_move (by conv => lhs; whnf)) ?_
  refine wpq_opg (by exact rfl) (by exact rfl) (fun w hw => Ex_len Try.underlying26 rfl) ?_
  refine wpq_opg (by exact rfl) (by exact rfl) (fun w hw => Ex_move (by conv => lhs; whnf)) ?_
  refine wpq_opg (by exact rfl) (by exact rfl) (fun w hw => Ex_len Try.underlying26 rfl) ?_
  refine wpq_opg (by exact rfl) (by exact rfl) (fun w hw => Ex_neq rfl rfl (ne_f rfl)) ?_
  refine wpq_op (fun w hw => Ex_pick rfl (by conv => lhs; whnf)) ?_
  refine wpq_nil (fun w5 hw5 => hK _ _ ?_)
  clear hK K
  refine wp_if_false rfl ?_
  refine wp_skip (hKK _ _ ?_)
  clear hKK KK
  replace hA := hA.later hw5
  replace hB := hB.later hw5
  replace hv := hv.later hw5
  replace h0 := h0.below hw5
  have hb := hb04.trans (hw5.mono hb04.size)
  clear hb04 hw5
  refine wp_region_seq (fun K hK => ?_)
  refine wpl_op rfl (Ex_assign (by conv => lhs; whnf)) ?_
  refine wpl_nil (hK _ _ ?_)
  clear hK K
  refine wp_seq_k (fun K1 hK1 => ?_)
  refine wp_region_seq (fun K hK => ?_)
  refine wpl_op rfl (Ex_assign (by conv => lhs; whnf)) ?_
  refine wpl_nil (hK _ _ ?_)
  clear hK K
  refine wp_block ?_
  refine wp_loop_st (fun i : Nat => [(0, .slice a1 (cut + d : Nat) c1), (1, .int .i64 cut), (11, .pointer (some ⟨gv, 0, none⟩)), (12, .slice aA (cnt z (cut + d)) cA), (13, .slice aB (cnt z (cut + d)) cB), (14, .int .i64 (prv z (cut + d) i)), (15, .int .i64 (i : Int))])
    (fun i w' => Below w5.heap.size w5 w' ∧ i ≤ cnt z (cut + d)) (fun i => cnt z (cut + d) - i) 0 ⟨rfl, rfl, rfl, rfl, rfl, rfl, rfl, trivial⟩ ⟨Below.refl _ _, Nat.zero_le _⟩ ?_
  rintro i u w6 ⟨hb6, hi⟩ R hR
  by_cases hlt : i < cnt z (cut + d)
  · have hltB : i < cnt (ins z cut y) (cut + d + 1) := by omega
    obtain ⟨gA, rfl, hAc⟩ := (hA.later hb6).get hlt
    obtain ⟨gB, rfl, hBc⟩ := (hB.later hb6).get hltB
    obtain ⟨hk1, hk2⟩ := kd_lt hlt
    have hprv := prv_lt z (cut + d) i hlt
    have hnext : prv z (cut + d) (i + 1) = (kd z (cut + d) i : Int) := rfl
    obtain ⟨b0, o0, rfl, hz0⟩ := (h0.below hb6).get hk1
    have hai := hAc i hlt
    have hbi := hBc i hltB
    have hzk := hz0 _ hk1
    have hv6 := hv.later hb6
    have hins := kd_ins z cut d y hy i hlt
    generalize kd z (cut + d) i = k at *
    generalize prv z (cut + d) i = pk at *
    refine wp_seq_k (fun KK hKK => ?_)
    refine wp_region_seq (fun K hK => ?_)
    refine wpl_op rfl (Ex_move (by conv => lhs; whnf)) ?_
    refine wpl_op rfl (Ex_move (by conv => lhs; whnf)) ?_
    refine wpl_op rfl (Ex_len Try.underlying26 rfl) ?_
    refine wpl_op rfl (Ex_lss rfl rfl (decide_eq_true (by omega))) ?_
    refine wpl_nil (hK _ _ ?_)
    clear hK K
    refine wp_if_true rfl ?_
    refine wp_skip (hKK _ _ ?_)
    clear hKK KK
    refine wp_seq_k (fun K' hK' => ?_)
    refine wp_block ?_
    refine wp_sq_seq (fun K hK => ?_)
    refine wpq_op (fun w hw => Ex_move (by conv => lhs; whnf)) ?_
    refine wpq_op (fun w hw => Ex_move (by conv => lhs; whnf)) ?_
    refine wpq_op (fun w hw => Ex_index Try.underlying26 size_26 rfl rfl hlt) ?_
    refine wpq_op (fun w hw => Ex_loadagg (cs := amt (p k) (z k) (k : Int) (decide (0 < i))) agg33 rfl rfl (fun j u hu => cell_later hw (hai j u hu))) ?_
    refine wpq_call (fun w => ExC_func ent11 rfl rfl) (fun w hw => kind_ret _ _ _ _ w) ?_
    refine wpq_op (fun w hw => Ex_assign (by conv => lhs; whnf)) ?_
    refine wpq_nil (fun w7 hw7 => hK _ _ ?_)
    clear hK K
    replace hai := fun j u hu => cell_later hw7 (hai j u hu)
    replace hbi := fun j u hu => cell_later hw7 (hbi j u hu)
    replace hzk := cell_later hw7 hzk
    replace hv6 := hv6.later hw7
    replace hb6 := hb6.trans (hw7.mono hb6.size)
    clear hw7
    refine wp_seq_k (fun KK hKK => ?_)
    refine wp_region_seq (fun K hK => ?_)
    refine wpl_op rfl (Ex_move (by conv => lhs; whnf)) ?_
    refine wpl_op rfl (Ex_move (by conv => lhs; whnf)) ?_
    refine wpl_op rfl (Ex_leq rfl rfl (decide_eq_false (by omega))) ?_
    refine wpl_op rfl (Ex_move (by conv => lhs; whnf)) ?_
    refine wpl_opg (by exact rfl) (by exact rfl) (Ex_move (by conv => lhs; whnf)) ?_
    refine wpl_opg (by exact rfl) (by exact rfl) (Ex_move (by conv => lhs; whnf)) ?_
    refine wpl_opg (by exact rfl) (by exact rfl) (Ex_len Try.underlying22 rfl) ?_
    refine wpl_opg (by exact rfl) (by exact rfl) (Ex_geq rfl rfl (decide_eq_false (by omega))) ?_
    refine wpl_op rfl (Ex_pick rfl (by conv => lhs; whnf)) ?_
    refine wpl_nil (hK _ _ ?_)
    clear hK K
    refine wp_if_false rfl ?_
    refine wp_skip (hKK _ _ ?_)
    clear hKK KK
    refine wp_region_seq (fun K hK => ?_)
    refine wpl_op rfl (Ex_move (by conv => lhs; whnf)) ?_
    refine wpl_op rfl (Ex_assign (by conv => lhs; whnf)) ?_
    refine wpl_nil (hK _ _ ?_)
    clear hK K
    refine wp_region_seq (fun K hK => ?_)
    refine wpl_op rfl (Ex_move (by conv => lhs; whnf)) ?_
    refine wpl_op rfl (Ex_assign (by conv => lhs; whnf)) ?_
    refine wpl_nil (hK _ _ ?_)
    clear hK K
    rcases hins with ⟨hside, hkd, hzi⟩ | ⟨hside, hkd, hzi⟩
    · rw [hkd, hzi] at hbi
      refine wp_seq_k (fun KK hKK => ?_)
      refine wp_region_seq (fun K hK => ?_)
      refine wpl_op rfl (Ex_move (by conv => lhs; whnf)) ?_
      refine wpl_op rfl (Ex_move (by conv => lhs; whnf)) ?_
      refine wpl_op rfl (Ex_geq rfl rfl (decide_eq_false (by omega))) ?_
      refine wpl_nil (hK _ _ ?_)
      clear hK K
      refine wp_if_false rfl ?_
      refine wp_skip (hKK _ _ ?_)
      clear hKK KK
      refine wp_seq_k (fun KK hKK => ?_)
      refine wp_quiet_seq (by kernel_rfl) (by kernel_rfl) (fun K hK => ?_)
      refine wpq_op (fun w hw => Ex_move (by conv => lhs; whnf)) ?_
      refine wpq_op (fun w hw => Ex_move (by conv => lhs; whnf)) ?_
      refine wpq_op (fun w hw => Ex_index1 Try.underlying22 size_22 rfl rfl hk1) ?_
      refine wpq_op (fun w hw => Ex_load one3 rfl (cell_later hw (hzk))) ?_
      refine wpq_op (fun w hw => Ex_leq rfl rfl (decide_eq_false (by omega))) ?_
      refine wpq_op (fun w hw => Ex_move (by conv => lhs; whnf)) ?_
      refine wpq_opg (by exact rfl) (by exact rfl) (fun w hw => Ex_move (by conv => lhs; whnf)) ?_
      refine wpq_opg (by exact rfl) (by exact rfl) (fun w hw => Ex_move (by conv => lhs; whnf)) ?_
      refine wpq_opg (by exact rfl) (by exact rfl) (fun w hw => Ex_index Try.underlying26 size_26 rfl rfl hlt) ?_
      refine wpq_opg (by exact rfl) (by exact rfl) (fun w hw => Ex_loadagg (cs := amt (p k) (z k) (k : Int) (decide (0 < i))) agg33 rfl rfl (fun j u hu => cell_later hw (hai j u hu))) ?_
      refine wpq_callg (by exact rfl) (by exact rfl) (fun w => ExC_func ent12 rfl rfl) (fun w hw => want_ret _ _ _ _ w) ?_
      refine wpq_opg (by exact rfl) (by exact rfl) (fun w hw => Ex_move (by conv => lhs; whnf)) ?_
      refine wpq_opg (by exact rfl) (by exact rfl) (fun w hw => Ex_move (by conv => lhs; whnf)) ?_
      refine wpq_opg (by exact rfl) (by exact rfl) (fun w hw => Ex_index1 Try.underlying22 size_22 rfl rfl hk1) ?_
      refine wpq_opg (by exact rfl) (by exact rfl) (fun w hw => Ex_load one3 rfl (cell_later hw (hzk))) ?_
      refine wpq_opg (by exact rfl) (by exact rfl) (fun w hw => Ex_neq rfl rfl (ne_f (by first | rfl | omega))) ?_
      refine wpq_op (fun w hw => Ex_pick rfl (by conv => lhs; whnf)) ?_
      refine wpq_op (fun w hw => Ex_move (by conv => lhs; whnf)) ?_
      refine wpq_opg (by exact rfl) (by exact rfl) (fun w hw => Ex_move (by conv => lhs; whnf)) ?_
      refine wpq_opg (by exact rfl) (by exact rfl) (fun w hw => Ex_move (by conv => lhs; whnf)) ?_
      refine wpq_opg (by exact rfl) (by exact rfl) (fun w hw => Ex_index Try.underlying26 size_26 rfl rfl hlt) ?_
      refine wpq_opg (by exact rfl) (by exact rfl) (fun w hw => Ex_loadagg (cs := amt (p k) (z k) (k : Int) (decide (0 < i))) agg33 rfl rfl (fun j u hu => cell_later hw (hbi j u hu))) ?_
      refine wpq_callg (by exact rfl) (by exact rfl) (fun w => ExC_func ent12 rfl rfl) (fun w hw => want_ret _ _ _ _ w) ?_
      refine wpq_opg (by exact rfl) (by exact rfl) (fun w hw => Ex_move (by conv => lhs; whnf)) ?_
      refine wpq_opg (by exact rfl) (by exact rfl) (fun w hw => Ex_move (by conv => lhs; whnf)) ?_
      refine wpq_opg (by exact rfl) (by exact rfl) (fun w hw => Ex_index1 Try.underlying22 size_22 rfl rfl hk1) ?_
      refine wpq_opg (by exact rfl) (by exact rfl) (fun w hw => Ex_load one3 rfl (cell_later hw (hzk))) ?_
      refine wpq_opg (by exact rfl) (by exact rfl) (fun w hw => Ex_neq rfl rfl (ne_f (by first | rfl | omega))) ?_
      refine wpq_op (fun w hw => Ex_pick rfl (by conv => lhs; whnf)) ?_
      refine wpq_nil (fun w8 hw8 => hK _ _ ?_)
      clear hK K
      refine wp_if_false rfl ?_
      refine wp_skip (hKK _ _ ?_)
      clear hKK KK
      replace hai := fun j u hu => cell_later hw8 (hai j u hu)
      replace hbi := fun j u hu => cell_later hw8 (hbi j u hu)
      replace hzk := cell_later hw8 hzk
      replace hv6 := hv6.later hw8
      replace hb6 := hb6.trans (hw8.mono hb6.size)
      clear hw8
      refine wp_seq_k (fun KK hKK => ?_)
      refine wp_sq_seq (fun K hK => ?_)
      refine wpq_op (fun w hw => Ex_move (by conv => lhs; whnf)) ?_
      refine wpq_op (fun w hw => Ex_move (by conv => lhs; whnf)) ?_
      refine wpq_op (fun w hw => Ex_index Try.underlying26 size_26 rfl rfl hlt) ?_
      refine wpq_op (fun w hw => Ex_loadagg (cs := amt (p k) (z k) (k : Int) (decide (0 < i))) agg33 rfl rfl (fun j u hu => cell_later hw (hbi j u hu))) ?_
      refine wpq_call (fun w => ExC_func ent11 rfl rfl) (fun w hw => kind_ret _ _ _ _ w) ?_
      refine wpq_op (fun w hw => Ex_move (by conv => lhs; whnf)) ?_
      refine wpq_op (fun w hw => Ex_neq rfl rfl (ne_f (by first | rfl | omega))) ?_
      refine wpq_nil (fun w9 hw9 => hK _ _ ?_)
      clear hK K
      refine wp_if_false rfl ?_
      refine wp_skip (hKK _ _ ?_)
      clear hKK KK
      replace hai := fun j u hu => cell_later hw9 (hai j u hu)
      replace hbi := fun j u hu => cell_later hw9 (hbi j u hu)
      replace hzk := cell_later hw9 hzk
      replace hv6 := hv6.later hw9
      replace hb6 := hb6.trans (hw9.mono hb6.size)
      clear hw9
      refine wp_seq_k (fun KK hKK => ?_)
      refine wp_sq_seq (fun K hK => ?_)
      refine wpq_op (fun w hw => Ex_move (by conv => lhs; whnf)) ?_
      refine wpq_op (fun w hw => Ex_move (by conv => lhs; whnf)) ?_
      refine wpq_op (fun w hw => Ex_index Try.underlying26 size_26 rfl rfl hlt) ?_
      refine wpq_op (fun w hw => Ex_loadagg (cs := amt (p k) (z k) (k : Int) (decide (0 < i))) agg33 rfl rfl (fun j u hu => cell_later hw (hai j u hu))) ?_
      refine wpq_call (fun w => ExC_func ent13 rfl rfl) (fun w hw => units_ret _ _ _ _ w) ?_
      refine wpq_op (fun w hw => Ex_move (by conv => lhs; whnf)) ?_
      refine wpq_op (fun w hw => Ex_move (by conv => lhs; whnf)) ?_
      refine wpq_call (fun w => ExC_func ent14 rfl rfl) (fun w hw => tally_b gv (cut + d + 1) _ p w (hv6.later hw) (by omega)) ?_
      refine wpq_op (fun w hw => Ex_neqp_same Try.underlying30 size62 rfl rfl) ?_
      refine wpq_op (fun w hw => Ex_move (by conv => lhs; whnf)) ?_
      refine wpq_opg (by exact rfl) (by exact rfl) (fun w hw => Ex_move (by conv => lhs; whnf)) ?_
      refine wpq_opg (by exact rfl) (by exact rfl) (fun w hw => Ex_move (by conv => lhs; whnf)) ?_
      refine wpq_opg (by exact rfl) (by exact rfl) (fun w hw => Ex_index Try.underlying26 size_26 rfl rfl hlt) ?_
      refine wpq_opg (by exact rfl) (by exact rfl) (fun w hw => Ex_loadagg (cs := amt (p k) (z k) (k : Int) (decide (0 < i))) agg33 rfl rfl (fun j u hu => cell_later hw (hbi j u hu))) ?_
      refine wpq_callg (by exact rfl) (by exact rfl) (fun w => ExC_func ent13 rfl rfl) (fun w hw => units_ret _ _ _ _ w) ?_
      refine wpq_opg (by exact rfl) (by exact rfl) (fun w hw => Ex_move (by conv => lhs; whnf)) ?_
      refine wpq_opg (by exact rfl) (by exact rfl) (fun w hw => Ex_move (by conv => lhs; whnf)) ?_
      refine wpq_callg (by exact rfl) (by exact rfl) (fun w => ExC_func ent14 rfl rfl) (fun w hw => tally_b gv (cut + d + 1) _ p w (hv6.later hw) (by omega)) ?_
      refine wpq_opg (by exact rfl) (by exact rfl) (fun w hw => Ex_neqp_same Try.underlying30 size62 rfl rfl) ?_
      refine wpq_op (fun w hw => Ex_pick rfl (by conv => lhs; whnf)) ?_
      refine wpq_nil (fun w10 hw10 => hK _ _ ?_)
      clear hK K
      refine wp_if_false rfl ?_
      refine wp_skip (hKK _ _ ?_)
      clear hKK KK
      replace hai := fun j u hu => cell_later hw10 (hai j u hu)
      replace hbi := fun j u hu => cell_later hw10 (hbi j u hu)
      replace hzk := cell_later hw10 hzk
      replace hv6 := hv6.later hw10
      replace hb6 := hb6.trans (hw10.mono hb6.size)
      clear hw10
      refine wp_norm [(0, .slice (some ⟨b0, o0, none⟩) (cut + d : Nat) c1), (1, .int .i64 cut), (11, .pointer (some ⟨gv, 0, none⟩)), (12, .slice (some ⟨gA, 0, none⟩) (cnt z (cut + d)) cA), (13, .slice (some ⟨gB, 0, none⟩) (cnt z (cut + d)) cB), (14, .int .i64 (k : Int)), (15, .int .i64 (i : Int)), (16, .int .i64 (k : Int))] ⟨rfl, rfl, rfl, rfl, rfl, rfl, rfl, rfl, trivial⟩ (fun u => ?_)
      refine wp_seq_k (fun KK hKK => ?_)
      refine wp_sq_seq (fun K hK => ?_)
      refine wpq_op (fun w hw => Ex_move (by conv => lhs; whnf)) ?_
      refine wpq_op (fun w hw => Ex_move (by conv => lhs; whnf)) ?_
      refine wpq_op (fun w hw => Ex_index Try.underlying26 size_26 rfl rfl hlt) ?_
      refine wpq_op (fun w hw => Ex_loadagg (cs := amt (p k) (z k) (k : Int) (decide (0 < i))) agg33 rfl rfl (fun j u hu => cell_later hw (hai j u hu))) ?_
      refine wpq_call (fun w => ExC_func ent15 rfl rfl) (fun w hw => linked_ret _ _ _ _ w) ?_
      refine wpq_op (fun w hw => Ex_move (by conv => lhs; whnf)) ?_
      refine wpq_op (fun w hw => Ex_gtr rfl rfl (show decide ((0 : Int) < (i : Int)) = decide (0 < i) from by simp)) ?_
      refine wpq_op (fun w hw => Ex_neqb Try.underlying4 rfl rfl (bne_ff _)) ?_
      refine wpq_op (fun w hw => Ex_move (by conv => lhs; whnf)) ?_
      refine wpq_opg (by exact rfl) (by exact rfl) (fun w hw => Ex_move (by conv => lhs; whnf)) ?_
      refine wpq_opg (by exact rfl) (by exact rfl) (fun w hw => Ex_move (by conv => lhs; whnf)) ?_
      refine wpq_opg (by exact rfl) (by exact rfl) (fun w hw => Ex_index Try.underlying26 size_26 rfl rfl hlt) ?_
      refine wpq_opg (by exact rfl) (by exact rfl) (fun w hw => Ex_loadagg (cs := amt (p k) (z k) (k : Int) (decide (0 < i))) agg33 rfl rfl (fun j u hu => cell_later hw (hbi j u hu))) ?_
      refine wpq_callg (by exact rfl) (by exact rfl) (fun w => ExC_func ent15 rfl rfl) (fun w hw => linked_ret _ _ _ _ w) ?_
      refine wpq_opg (by exact rfl) (by exact rfl) (fun w hw => Ex_move (by conv => lhs; whnf)) ?_
      refine wpq_opg (by exact rfl) (by exact rfl) (fun w hw => Ex_gtr rfl rfl (show decide ((0 : Int) < (i : Int)) = decide (0 < i) from by simp)) ?_
      refine wpq_opg (by exact rfl) (by exact rfl) (fun w hw => Ex_neqb Try.underlying4 rfl rfl (bne_ff _)) ?_
      refine wpq_op (fun w hw => Ex_pick rfl (by conv => lhs; whnf)) ?_
      refine wpq_nil (fun w11 hw11 => hK _ _ ?_)
      clear hK K
      refine wp_if_false rfl ?_
      refine wp_skip (hKK _ _ ?_)
      clear hKK KK
      replace hai := fun j u hu => cell_later hw11 (hai j u hu)
      replace hbi := fun j u hu => cell_later hw11 (hbi j u hu)
      replace hzk := cell_later hw11 hzk
      replace hv6 := hv6.later hw11
      replace hb6 := hb6.trans (hw11.mono hb6.size)
      clear hw11
      refine wp_seq_k (fun KK hKK => ?_)
      refine wp_sq_seq (fun K hK => ?_)
      refine wpq_op (fun w hw => Ex_move (by conv => lhs; whnf)) ?_
      refine wpq_op (fun w hw => Ex_move (by conv => lhs; whnf)) ?_
      refine wpq_op (fun w hw => Ex_index Try.underlying26 size_26 rfl rfl hlt) ?_
      refine wpq_op (fun w hw => Ex_loadagg (cs := amt (p k) (z k) (k : Int) (decide (0 < i))) agg33 rfl rfl (fun j u hu => cell_later hw (hai j u hu))) ?_
      refine wpq_call (fun w => ExC_func ent16 rfl rfl) (fun w hw => reused_ret _ _ _ _ w) ?_
      refine wpq_op (fun w hw => Ex_neqnil Try.underlying22 rfl rfl rfl) ?_
      refine wpq_op (fun w hw => Ex_move (by conv => lhs; whnf)) ?_
      refine wpq_opg (by exact rfl) (by exact rfl) (fun w hw => Ex_move (by conv => lhs; whnf)) ?_
      refine wpq_opg (by exact rfl) (by exact rfl) (fun w hw => Ex_move (by conv => lhs; whnf)) ?_
      refine wpq_opg (by exact rfl) (by exact rfl) (fun w hw => Ex_index Try.underlying26 size_26 rfl rfl hlt) ?_
      refine wpq_opg (by exact rfl) (by exact rfl) (fun w hw => Ex_loadagg (cs := amt (p k) (z k) (k : Int) (decide (0 < i))) agg33 rfl rfl (fun j u hu => cell_later hw (hai j u hu))) ?_
      refine wpq_callg (by exact rfl) (by exact rfl) (fun w => ExC_func ent17 rfl rfl) (fun w hw => among_ret _ _ _ _ w) ?_
      refine wpq_opg (by exact rfl) (by exact rfl) (fun w hw => Ex_neqnil Try.underlying22 rfl rfl rfl) ?_
      refine wpq_op (fun w hw => Ex_pick rfl (by conv => lhs; whnf)) ?_
      refine wpq_op (fun w hw => Ex_move (by conv => lhs; whnf)) ?_
      refine wpq_opg (by exact rfl) (by exact rfl) (fun w hw => Ex_move (by conv => lhs; whnf)) ?_
      refine wpq_opg (by exact rfl) (by exact rfl) (fun w hw => Ex_move (by conv => lhs; whnf)) ?_
      refine wpq_opg (by exact rfl) (by exact rfl) (fun w hw => Ex_index Try.underlying26 size_26 rfl rfl hlt) ?_
      refine wpq_opg (by exact rfl) (by exact rfl) (fun w hw => Ex_loadagg (cs := amt (p k) (z k) (k : Int) (decide (0 < i))) agg33 rfl rfl (fun j u hu => cell_later hw (hai j u hu))) ?_
      refine wpq_callg (by exact rfl) (by exact rfl) (fun w => ExC_func ent18 rfl rfl) (fun w hw => groups_ret _ _ _ _ w) ?_
      refine wpq_opg (by exact rfl) (by exact rfl) (fun w hw => Ex_neqp_nil Try.underlying24 rfl rfl) ?_
      refine wpq_op (fun w hw => Ex_pick rfl (by conv => lhs; whnf)) ?_
      refine wpq_op (fun w hw => Ex_move (by conv => lhs; whnf)) ?_
      refine wpq_opg (by exact rfl) (by exact rfl) (fun w hw => Ex_move (by conv => lhs; whnf)) ?_
      refine wpq_opg (by exact rfl) (by exact rfl) (fun w hw => Ex_move (by conv => lhs; whnf)) ?_
      refine wpq_opg (by exact rfl) (by exact rfl) (fun w hw => Ex_index Try.underlying26 size_26 rfl rfl hlt) ?_
      refine wpq_opg (by exact rfl) (by exact rfl) (fun w hw => Ex_loadagg (cs := amt (p k) (z k) (k : Int) (decide (0 < i))) agg33 rfl rfl (fun j u hu => cell_later hw (hai j u hu))) ?_
      refine wpq_callg (by exact rfl) (by exact rfl) (fun w => ExC_func ent19 rfl rfl) (fun w hw => fewest_ret _ _ _ _ w) ?_
      refine wpq_opg (by exact rfl) (by exact rfl) (fun w hw => Ex_neq rfl rfl (ne_f (by first | rfl | omega))) ?_
      refine wpq_op (fun w hw => Ex_pick rfl (by conv => lhs; whnf)) ?_
      refine wpq_op (fun w hw => Ex_move (by conv => lhs; whnf)) ?_
      refine wpq_opg (by exact rfl) (by exact rfl) (fun w hw => Ex_move (by conv => lhs; whnf)) ?_
      refine wpq_opg (by exact rfl) (by exact rfl) (fun w hw => Ex_move (by conv => lhs; whnf)) ?_
      refine wpq_opg (by exact rfl) (by exact rfl) (fun w hw => Ex_index Try.underlying26 size_26 rfl rfl hlt) ?_
      refine wpq_opg (by exact rfl) (by exact rfl) (fun w hw => Ex_loadagg (cs := amt (p k) (z k) (k : Int) (decide (0 < i))) agg33 rfl rfl (fun j u hu => cell_later hw (hai j u hu))) ?_
      refine wpq_callg (by exact rfl) (by exact rfl) (fun w => ExC_func ent20 rfl rfl) (fun w hw => sockets_ret _ _ _ _ w) ?_
      refine wpq_opg (by exact rfl) (by exact rfl) (fun w hw => Ex_neqp_nil Try.underlying31 rfl rfl) ?_
      refine wpq_op (fun w hw => Ex_pick rfl (by conv => lhs; whnf)) ?_
      refine wpq_nil (fun w12 hw12 => hK _ _ ?_)
      clear hK K
      refine wp_if_false rfl ?_
      refine wp_skip (hKK _ _ ?_)
      clear hKK KK
      replace hai := fun j u hu => cell_later hw12 (hai j u hu)
      replace hbi := fun j u hu => cell_later hw12 (hbi j u hu)
      replace hzk := cell_later hw12 hzk
      replace hv6 := hv6.later hw12
      replace hb6 := hb6.trans (hw12.mono hb6.size)
      clear hw12
      refine wp_sq_seq (fun K hK => ?_)
      refine wpq_op (fun w hw => Ex_move (by conv => lhs; whnf)) ?_
      refine wpq_op (fun w hw => Ex_move (by conv => lhs; whnf)) ?_
      refine wpq_op (fun w hw => Ex_index Try.underlying26 size_26 rfl rfl hlt) ?_
      refine wpq_op (fun w hw => Ex_loadagg (cs := amt (p k) (z k) (k : Int) (decide (0 < i))) agg33 rfl rfl (fun j u hu => cell_later hw (hbi j u hu))) ?_
      refine wpq_call (fun w => ExC_func ent16 rfl rfl) (fun w hw => reused_ret _ _ _ _ w) ?_
      refine wpq_op (fun w hw => Ex_neqnil Try.underlying22 rfl rfl rfl) ?_
      refine wpq_op (fun w hw => Ex_move (by conv => lhs; whnf)) ?_
      refine wpq_opg (by exact rfl) (by exact rfl) (fun w hw => Ex_move (by conv => lhs; whnf)) ?_
      refine wpq_opg (by exact rfl) (by exact rfl) (fun w hw => Ex_move (by conv => lhs; whnf)) ?_
      refine wpq_opg (by exact rfl) (by exact rfl) (fun w hw => Ex_index Try.underlying26 size_26 rfl rfl hlt) ?_
      refine wpq_opg (by exact rfl) (by exact rfl) (fun w hw => Ex_loadagg (cs := amt (p k) (z k) (k : Int) (decide (0 < i))) agg33 rfl rfl (fun j u hu => cell_later hw (hbi j u hu))) ?_
      refine wpq_callg (by exact rfl) (by exact rfl) (fun w => ExC_func ent17 rfl rfl) (fun w hw => among_ret _ _ _ _ w) ?_
      refine wpq_opg (by exact rfl) (by exact rfl) (fun w hw => Ex_neqnil Try.underlying22 rfl rfl rfl) ?_
      refine wpq_op (fun w hw => Ex_pick rfl (by conv => lhs; whnf)) ?_
      refine wpq_op (fun w hw => Ex_move (by conv => lhs; whnf)) ?_
      refine wpq_opg (by exact rfl) (by exact rfl) (fun w hw => Ex_move (by conv => lhs; whnf)) ?_
      refine wpq_opg (by exact rfl) (by exact rfl) (fun w hw => Ex_move (by conv => lhs; whnf)) ?_
      refine wpq_opg (by exact rfl) (by exact rfl) (fun w hw => Ex_index Try.underlying26 size_26 rfl rfl hlt) ?_
      refine wpq_opg (by exact rfl) (by exact rfl) (fun w hw => Ex_loadagg (cs := amt (p k) (z k) (k : Int) (decide (0 < i))) agg33 rfl rfl (fun j u hu => cell_later hw (hbi j u hu))) ?_
      refine wpq_callg (by exact rfl) (by exact rfl) (fun w => ExC_func ent18 rfl rfl) (fun w hw => groups_ret _ _ _ _ w) ?_
      refine wpq_opg (by exact rfl) (by exact rfl) (fun w hw => Ex_neqp_nil Try.underlying24 rfl rfl) ?_
      refine wpq_op (fun w hw => Ex_pick rfl (by conv => lhs; whnf)) ?_
      refine wpq_op (fun w hw => Ex_move (by conv => lhs; whnf)) ?_
      refine wpq_opg (by exact rfl) (by exact rfl) (fun w hw => Ex_move (by conv => lhs; whnf)) ?_
      refine wpq_opg (by exact rfl) (by exact rfl) (fun w hw => Ex_move (by conv => lhs; whnf)) ?_
      refine wpq_opg (by exact rfl) (by exact rfl) (fun w hw => Ex_index Try.underlying26 size_26 rfl rfl hlt) ?_
      refine wpq_opg (by exact rfl) (by exact rfl) (fun w hw => Ex_loadagg (cs := amt (p k) (z k) (k : Int) (decide (0 < i))) agg33 rfl rfl (fun j u hu => cell_later hw (hbi j u hu))) ?_
      refine wpq_callg (by exact rfl) (by exact rfl) (fun w => ExC_func ent19 rfl rfl) (fun w hw => fewest_ret _ _ _ _ w) ?_
      refine wpq_opg (by exact rfl) (by exact rfl) (fun w hw => Ex_neq rfl rfl (ne_f (by first | rfl | omega))) ?_
      refine wpq_op (fun w hw => Ex_pick rfl (by conv => lhs; whnf)) ?_
      refine wpq_op (fun w hw => Ex_move (by conv => lhs; whnf)) ?_
      refine wpq_opg (by exact rfl) (by exact rfl) (fun w hw => Ex_move (by conv => lhs; whnf)) ?_
      refine wpq_opg (by exact rfl) (by exact rfl) (fun w hw => Ex_move (by conv => lhs; whnf)) ?_
      refine wpq_opg (by exact rfl) (by exact rfl) (fun w hw => Ex_index Try.underlying26 size_26 rfl rfl hlt) ?_
      refine wpq_opg (by exact rfl) (by exact rfl) (fun w hw => Ex_loadagg (cs := amt (p k) (z k) (k : Int) (decide (0 < i))) agg33 rfl rfl (fun j u hu => cell_later hw (hbi j u hu))) ?_
      refine wpq_callg (by exact rfl) (by exact rfl) (fun w => ExC_func ent20 rfl rfl) (fun w hw => sockets_ret _ _ _ _ w) ?_
      refine wpq_opg (by exact rfl) (by exact rfl) (fun w hw => Ex_neqp_nil Try.underlying31 rfl rfl) ?_
      refine wpq_op (fun w hw => Ex_pick rfl (by conv => lhs; whnf)) ?_
      refine wpq_nil (fun w13 hw13 => hK _ _ ?_)
      clear hK K
      refine wp_if_false rfl ?_
      refine wp_skip ?_
      replace hai := fun j u hu => cell_later hw13 (hai j u hu)
      replace hbi := fun j u hu => cell_later hw13 (hbi j u hu)
      replace hzk := cell_later hw13 hzk
      replace hv6 := hv6.later hw13
      replace hb6 := hb6.trans (hw13.mono hb6.size)
      clear hw13
      refine hK' _ _ ?_
      refine wp_region_last ?_
      refine wpl_op rfl (Ex_move (by conv => lhs; whnf)) ?_
      refine wpl_op rfl (Ex_inc rfl rfl (by omega)) ?_
      refine wpl_op rfl (Ex_assign (by conv => lhs; whnf)) ?_
      refine wpl_nil ?_
      exact hR _ _ _ (i + 1) ⟨rfl, rfl, rfl, rfl, rfl, (congrArg (Value.int .i64) hnext).symm, rfl, trivial⟩ ⟨hb6, by omega⟩ (by omega)
    · rw [hkd, hzi] at hbi
      refine wp_seq_k (fun KK hKK => ?_)
      refine wp_region_seq (fun K hK => ?_)
      refine wpl_op rfl (Ex_move (by conv => lhs; whnf)) ?_
      refine wpl_op rfl (Ex_move (by conv => lhs; whnf)) ?_
      refine wpl_op rfl (Ex_geq rfl rfl (decide_eq_true (by omega))) ?_
      refine wpl_nil (hK _ _ ?_)
      clear hK K
      refine wp_if_true rfl ?_
      refine wp_region_last ?_
      refine wpl_op rfl (Ex_move (by conv => lhs; whnf)) ?_
      refine wpl_op rfl (Ex_inc rfl rfl (by omega)) ?_
      refine wpl_op rfl (Ex_assign (by conv => lhs; whnf)) ?_
      refine wpl_nil ?_
      refine hKK _ _ ?_
      clear hKK KK
      refine wp_seq_k (fun KK hKK => ?_)
      refine wp_quiet_seq (by kernel_rfl) (by kernel_rfl) (fun K hK => ?_)
      refine wpq_op (fun w hw => Ex_move (by conv => lhs; whnf)) ?_
      refine wpq_op (fun w hw => Ex_move (by conv => lhs; whnf)) ?_
      refine wpq_op (fun w hw => Ex_index1 Try.underlying22 size_22 rfl rfl hk1) ?_
      refine wpq_op (fun w hw => Ex_load one3 rfl (cell_later hw (hzk))) ?_
      refine wpq_op (fun w hw => Ex_leq rfl rfl (decide_eq_false (by omega))) ?_
      refine wpq_op (fun w hw => Ex_move (by conv => lhs; whnf)) ?_
      refine wpq_opg (by exact rfl) (by exact rfl) (fun w hw => Ex_move (by conv => lhs; whnf)) ?_
      refine wpq_opg (by exact rfl) (by exact rfl) (fun w hw => Ex_move (by conv => lhs; whnf)) ?_
      refine wpq_opg (by exact rfl) (by exact rfl) (fun w hw => Ex_index Try.underlying26 size_26 rfl rfl hlt) ?_
      refine wpq_opg (by exact rfl) (by exact rfl) (fun w hw => Ex_loadagg (cs := amt (p k) (z k) (k : Int) (decide (0 < i))) agg33 rfl rfl (fun j u hu => cell_later hw (hai j u hu))) ?_
      refine wpq_callg (by exact rfl) (by exact rfl) (fun w => ExC_func ent12 rfl rfl) (fun w hw => want_ret _ _ _ _ w) ?_
      refine wpq_opg (by exact rfl) (by exact rfl) (fun w hw => Ex_move (by conv => lhs; whnf)) ?_
      refine wpq_opg (by exact rfl) (by exact rfl) (fun w hw => Ex_move (by conv => lhs; whnf)) ?_
      refine wpq_opg (by exact rfl) (by exact rfl) (fun w hw => Ex_index1 Try.underlying22 size_22 rfl rfl hk1) ?_
      refine wpq_opg (by exact rfl) (by exact rfl) (fun w hw => Ex_load one3 rfl (cell_later hw (hzk))) ?_
      refine wpq_opg (by exact rfl) (by exact rfl) (fun w hw => Ex_neq rfl rfl (ne_f (by first | rfl | omega))) ?_
      refine wpq_op (fun w hw => Ex_pick rfl (by conv => lhs; whnf)) ?_
      refine wpq_op (fun w hw => Ex_move (by conv => lhs; whnf)) ?_
      refine wpq_opg (by exact rfl) (by exact rfl) (fun w hw => Ex_move (by conv => lhs; whnf)) ?_
      refine wpq_opg (by exact rfl) (by exact rfl) (fun w hw => Ex_move (by conv => lhs; whnf)) ?_
      refine wpq_opg (by exact rfl) (by exact rfl) (fun w hw => Ex_index Try.underlying26 size_26 rfl rfl hlt) ?_
      refine wpq_opg (by exact rfl) (by exact rfl) (fun w hw => Ex_loadagg (cs := amt (p (k + 1)) (z k) ((k + 1 : Nat) : Int) (decide (0 < i))) agg33 rfl rfl (fun j u hu => cell_later hw (hbi j u hu))) ?_
      refine wpq_callg (by exact rfl) (by exact rfl) (fun w => ExC_func ent12 rfl rfl) (fun w hw => want_ret _ _ _ _ w) ?_
      refine wpq_opg (by exact rfl) (by exact rfl) (fun w hw => Ex_move (by conv => lhs; whnf)) ?_
      refine wpq_opg (by exact rfl) (by exact rfl) (fun w hw => Ex_move (by conv => lhs; whnf)) ?_
      refine wpq_opg (by exact rfl) (by exact rfl) (fun w hw => Ex_index1 Try.underlying22 size_22 rfl rfl hk1) ?_
      refine wpq_opg (by exact rfl) (by exact rfl) (fun w hw => Ex_load one3 rfl (cell_later hw (hzk))) ?_
      refine wpq_opg (by exact rfl) (by exact rfl) (fun w hw => Ex_neq rfl rfl (ne_f (by first | rfl | omega))) ?_
      refine wpq_op (fun w hw => Ex_pick rfl (by conv => lhs; whnf)) ?_
      refine wpq_nil (fun w8 hw8 => hK _ _ ?_)
      clear hK K
      refine wp_if_false rfl ?_
      refine wp_skip (hKK _ _ ?_)
      clear hKK KK
      replace hai := fun j u hu => cell_later hw8 (hai j u hu)
      replace hbi := fun j u hu => cell_later hw8 (hbi j u hu)
      replace hzk := cell_later hw8 hzk
      replace hv6 := hv6.later hw8
      replace hb6 := hb6.trans (hw8.mono hb6.size)
      clear hw8
      refine wp_seq_k (fun KK hKK => ?_)
      refine wp_sq_seq (fun K hK => ?_)
      refine wpq_op (fun w hw => Ex_move (by conv => lhs; whnf)) ?_
      refine wpq_op (fun w hw => Ex_move (by conv => lhs; whnf)) ?_
      refine wpq_op (fun w hw => Ex_index Try.underlying26 size_26 rfl rfl hlt) ?_
      refine wpq_op (fun w hw => Ex_loadagg (cs := amt (p (k + 1)) (z k) ((k + 1 : Nat) : Int) (decide (0 < i))) agg33 rfl rfl (fun j u hu => cell_later hw (hbi j u hu))) ?_
      refine wpq_call (fun w => ExC_func ent11 rfl rfl) (fun w hw => kind_ret _ _ _ _ w) ?_
      refine wpq_op (fun w hw => Ex_move (by conv => lhs; whnf)) ?_
      refine wpq_op (fun w hw => Ex_neq rfl rfl (ne_f (by first | rfl | omega))) ?_
      refine wpq_nil (fun w9 hw9 => hK _ _ ?_)
      clear hK K
      refine wp_if_false rfl ?_
      refine wp_skip (hKK _ _ ?_)
      clear hKK KK
      replace hai := fun j u hu => cell_later hw9 (hai j u hu)
      replace hbi := fun j u hu => cell_later hw9 (hbi j u hu)
      replace hzk := cell_later hw9 hzk
      replace hv6 := hv6.later hw9
      replace hb6 := hb6.trans (hw9.mono hb6.size)
      clear hw9
      refine wp_seq_k (fun KK hKK => ?_)
      refine wp_sq_seq (fun K hK => ?_)
      refine wpq_op (fun w hw => Ex_move (by conv => lhs; whnf)) ?_
      refine wpq_op (fun w hw => Ex_move (by conv => lhs; whnf)) ?_
      refine wpq_op (fun w hw => Ex_index Try.underlying26 size_26 rfl rfl hlt) ?_
      refine wpq_op (fun w hw => Ex_loadagg (cs := amt (p k) (z k) (k : Int) (decide (0 < i))) agg33 rfl rfl (fun j u hu => cell_later hw (hai j u hu))) ?_
      refine wpq_call (fun w => ExC_func ent13 rfl rfl) (fun w hw => units_ret _ _ _ _ w) ?_
      refine wpq_op (fun w hw => Ex_move (by conv => lhs; whnf)) ?_
      refine wpq_op (fun w hw => Ex_move (by conv => lhs; whnf)) ?_
      refine wpq_call (fun w => ExC_func ent14 rfl rfl) (fun w hw => tally_b gv (cut + d + 1) _ p w (hv6.later hw) (by omega)) ?_
      refine wpq_op (fun w hw => Ex_neqp_same Try.underlying30 size62 rfl rfl) ?_
      refine wpq_op (fun w hw => Ex_move (by conv => lhs; whnf)) ?_
      refine wpq_opg (by exact rfl) (by exact rfl) (fun w hw => Ex_move (by conv => lhs; whnf)) ?_
      refine wpq_opg (by exact rfl) (by exact rfl) (fun w hw => Ex_move (by conv => lhs; whnf)) ?_
      refine wpq_opg (by exact rfl) (by exact rfl) (fun w hw => Ex_index Try.underlying26 size_26 rfl rfl hlt) ?_
      refine wpq_opg (by exact rfl) (by exact rfl) (fun w hw => Ex_loadagg (cs := amt (p (k + 1)) (z k) ((k + 1 : Nat) : Int) (decide (0 < i))) agg33 rfl rfl (fun j u hu => cell_later hw (hbi j u hu))) ?_
      refine wpq_callg (by exact rfl) (by exact rfl) (fun w => ExC_func ent13 rfl rfl) (fun w hw => units_ret _ _ _ _ w) ?_
      refine wpq_opg (by exact rfl) (by exact rfl) (fun w hw => Ex_move (by conv => lhs; whnf)) ?_
      refine wpq_opg (by exact rfl) (by exact rfl) (fun w hw => Ex_move (by conv => lhs; whnf)) ?_
      refine wpq_callg (by exact rfl) (by exact rfl) (fun w => ExC_func ent14 rfl rfl) (fun w hw => tally_b gv (cut + d + 1) _ p w (hv6.later hw) (by omega)) ?_
      refine wpq_opg (by exact rfl) (by exact rfl) (fun w hw => Ex_neqp_same Try.underlying30 size62 rfl rfl) ?_
      refine wpq_op (fun w hw => Ex_pick rfl (by conv => lhs; whnf)) ?_
      refine wpq_nil (fun w10 hw10 => hK _ _ ?_)
      clear hK K
      refine wp_if_false rfl ?_
      refine wp_skip (hKK _ _ ?_)
      clear hKK KK
      replace hai := fun j u hu => cell_later hw10 (hai j u hu)
      replace hbi := fun j u hu => cell_later hw10 (hbi j u hu)
      replace hzk := cell_later hw10 hzk
      replace hv6 := hv6.later hw10
      replace hb6 := hb6.trans (hw10.mono hb6.size)
      clear hw10
      refine wp_norm [(0, .slice (some ⟨b0, o0, none⟩) (cut + d : Nat) c1), (1, .int .i64 cut), (11, .pointer (some ⟨gv, 0, none⟩)), (12, .slice (some ⟨gA, 0, none⟩) (cnt z (cut + d)) cA), (13, .slice (some ⟨gB, 0, none⟩) (cnt z (cut + d)) cB), (14, .int .i64 (k : Int)), (15, .int .i64 (i : Int)), (16, .int .i64 (k : Int))] ⟨rfl, rfl, rfl, rfl, rfl, rfl, rfl, rfl, trivial⟩ (fun u => ?_)
      refine wp_seq_k (fun KK hKK => ?_)
      refine wp_sq_seq (fun K hK => ?_)
      refine wpq_op (fun w hw => Ex_move (by conv => lhs; whnf)) ?_
      refine wpq_op (fun w hw => Ex_move (by conv => lhs; whnf)) ?_
      refine wpq_op (fun w hw => Ex_index Try.underlying26 size_26 rfl rfl hlt) ?_
      refine wpq_op (fun w hw => Ex_loadagg (cs := amt (p k) (z k) (k : Int) (decide (0 < i))) agg33 rfl rfl (fun j u hu => cell_later hw (hai j u hu))) ?_
      refine wpq_call (fun w => ExC_func ent15 rfl rfl) (fun w hw => linked_ret _ _ _ _ w) ?_
      refine wpq_op (fun w hw => Ex_move (by conv => lhs; whnf)) ?_
      refine wpq_op (fun w hw => Ex_gtr rfl rfl (show decide ((0 : Int) < (i : Int)) = decide (0 < i) from by simp)) ?_
      refine wpq_op (fun w hw => Ex_neqb Try.underlying4 rfl rfl (bne_ff _)) ?_
      refine wpq_op (fun w hw => Ex_move (by conv => lhs; whnf)) ?_
      refine wpq_opg (by exact rfl) (by exact rfl) (fun w hw => Ex_move (by conv => lhs; whnf)) ?_
      refine wpq_opg (by exact rfl) (by exact rfl) (fun w hw => Ex_move (by conv => lhs; whnf)) ?_
      refine wpq_opg (by exact rfl) (by exact rfl) (fun w hw => Ex_index Try.underlying26 size_26 rfl rfl hlt) ?_
      refine wpq_opg (by exact rfl) (by exact rfl) (fun w hw => Ex_loadagg (cs := amt (p (k + 1)) (z k) ((k + 1 : Nat) : Int) (decide (0 < i))) agg33 rfl rfl (fun j u hu => cell_later hw (hbi j u hu))) ?_
      refine wpq_callg (by exact rfl) (by exact rfl) (fun w => ExC_func ent15 rfl rfl) (fun w hw => linked_ret _ _ _ _ w) ?_
      refine wpq_opg (by exact rfl) (by exact rfl) (fun w hw => Ex_move (by conv => lhs; whnf)) ?_
      refine wpq_opg (by exact rfl) (by exact rfl) (fun w hw => Ex_gtr rfl rfl (show decide ((0 : Int) < (i : Int)) = decide (0 < i) from by simp)) ?_
      refine wpq_opg (by exact rfl) (by exact rfl) (fun w hw => Ex_neqb Try.underlying4 rfl rfl (bne_ff _)) ?_
      refine wpq_op (fun w hw => Ex_pick rfl (by conv => lhs; whnf)) ?_
      refine wpq_nil (fun w11 hw11 => hK _ _ ?_)
      clear hK K
      refine wp_if_false rfl ?_
      refine wp_skip (hKK _ _ ?_)
      clear hKK KK
      replace hai := fun j u hu => cell_later hw11 (hai j u hu)
      replace hbi := fun j u hu => cell_later hw11 (hbi j u hu)
      replace hzk := cell_later hw11 hzk
      replace hv6 := hv6.later hw11
      replace hb6 := hb6.trans (hw11.mono hb6.size)
      clear hw11
      refine wp_seq_k (fun KK hKK => ?_)
      refine wp_sq_seq (fun K hK => ?_)
      refine wpq_op (fun w hw => Ex_move (by conv => lhs; whnf)) ?_
      refine wpq_op (fun w hw => Ex_move (by conv => lhs; whnf)) ?_
      refine wpq_op (fun w hw => Ex_index Try.underlying26 size_26 rfl rfl hlt) ?_
      refine wpq_op (fun w hw => Ex_loadagg (cs := amt (p k) (z k) (k : Int) (decide (0 < i))) agg33 rfl rfl (fun j u hu => cell_later hw (hai j u hu))) ?_
      refine wpq_call (fun w => ExC_func ent16 rfl rfl) (fun w hw => reused_ret _ _ _ _ w) ?_
      refine wpq_op (fun w hw => Ex_neqnil Try.underlying22 rfl rfl rfl) ?_
      refine wpq_op (fun w hw => Ex_move (by conv => lhs; whnf)) ?_
      refine wpq_opg (by exact rfl) (by exact rfl) (fun w hw => Ex_move (by conv => lhs; whnf)) ?_
      refine wpq_opg (by exact rfl) (by exact rfl) (fun w hw => Ex_move (by conv => lhs; whnf)) ?_
      refine wpq_opg (by exact rfl) (by exact rfl) (fun w hw => Ex_index Try.underlying26 size_26 rfl rfl hlt) ?_
      refine wpq_opg (by exact rfl) (by exact rfl) (fun w hw => Ex_loadagg (cs := amt (p k) (z k) (k : Int) (decide (0 < i))) agg33 rfl rfl (fun j u hu => cell_later hw (hai j u hu))) ?_
      refine wpq_callg (by exact rfl) (by exact rfl) (fun w => ExC_func ent17 rfl rfl) (fun w hw => among_ret _ _ _ _ w) ?_
      refine wpq_opg (by exact rfl) (by exact rfl) (fun w hw => Ex_neqnil Try.underlying22 rfl rfl rfl) ?_
      refine wpq_op (fun w hw => Ex_pick rfl (by conv => lhs; whnf)) ?_
      refine wpq_op (fun w hw => Ex_move (by conv => lhs; whnf)) ?_
      refine wpq_opg (by exact rfl) (by exact rfl) (fun w hw => Ex_move (by conv => lhs; whnf)) ?_
      refine wpq_opg (by exact rfl) (by exact rfl) (fun w hw => Ex_move (by conv => lhs; whnf)) ?_
      refine wpq_opg (by exact rfl) (by exact rfl) (fun w hw => Ex_index Try.underlying26 size_26 rfl rfl hlt) ?_
      refine wpq_opg (by exact rfl) (by exact rfl) (fun w hw => Ex_loadagg (cs := amt (p k) (z k) (k : Int) (decide (0 < i))) agg33 rfl rfl (fun j u hu => cell_later hw (hai j u hu))) ?_
      refine wpq_callg (by exact rfl) (by exact rfl) (fun w => ExC_func ent18 rfl rfl) (fun w hw => groups_ret _ _ _ _ w) ?_
      refine wpq_opg (by exact rfl) (by exact rfl) (fun w hw => Ex_neqp_nil Try.underlying24 rfl rfl) ?_
      refine wpq_op (fun w hw => Ex_pick rfl (by conv => lhs; whnf)) ?_
      refine wpq_op (fun w hw => Ex_move (by conv => lhs; whnf)) ?_
      refine wpq_opg (by exact rfl) (by exact rfl) (fun w hw => Ex_move (by conv => lhs; whnf)) ?_
      refine wpq_opg (by exact rfl) (by exact rfl) (fun w hw => Ex_move (by conv => lhs; whnf)) ?_
      refine wpq_opg (by exact rfl) (by exact rfl) (fun w hw => Ex_index Try.underlying26 size_26 rfl rfl hlt) ?_
      refine wpq_opg (by exact rfl) (by exact rfl) (fun w hw => Ex_loadagg (cs := amt (p k) (z k) (k : Int) (decide (0 < i))) agg33 rfl rfl (fun j u hu => cell_later hw (hai j u hu))) ?_
      refine wpq_callg (by exact rfl) (by exact rfl) (fun w => ExC_func ent19 rfl rfl) (fun w hw => fewest_ret _ _ _ _ w) ?_
      refine wpq_opg (by exact rfl) (by exact rfl) (fun w hw => Ex_neq rfl rfl (ne_f (by first | rfl | omega))) ?_
      refine wpq_op (fun w hw => Ex_pick rfl (by conv => lhs; whnf)) ?_
      refine wpq_op (fun w hw => Ex_move (by conv => lhs; whnf)) ?_
      refine wpq_opg (by exact rfl) (by exact rfl) (fun w hw => Ex_move (by conv => lhs; whnf)) ?_
      refine wpq_opg (by exact rfl) (by exact rfl) (fun w hw => Ex_move (by conv => lhs; whnf)) ?_
      refine wpq_opg (by exact rfl) (by exact rfl) (fun w hw => Ex_index Try.underlying26 size_26 rfl rfl hlt) ?_
      refine wpq_opg (by exact rfl) (by exact rfl) (fun w hw => Ex_loadagg (cs := amt (p k) (z k) (k : Int) (decide (0 < i))) agg33 rfl rfl (fun j u hu => cell_later hw (hai j u hu))) ?_
      refine wpq_callg (by exact rfl) (by exact rfl) (fun w => ExC_func ent20 rfl rfl) (fun w hw => sockets_ret _ _ _ _ w) ?_
      refine wpq_opg (by exact rfl) (by exact rfl) (fun w hw => Ex_neqp_nil Try.underlying31 rfl rfl) ?_
      refine wpq_op (fun w hw => Ex_pick rfl (by conv => lhs; whnf)) ?_
      refine wpq_nil (fun w12 hw12 => hK _ _ ?_)
      clear hK K
      refine wp_if_false rfl ?_
      refine wp_skip (hKK _ _ ?_)
      clear hKK KK
      replace hai := fun j u hu => cell_later hw12 (hai j u hu)
      replace hbi := fun j u hu => cell_later hw12 (hbi j u hu)
      replace hzk := cell_later hw12 hzk
      replace hv6 := hv6.later hw12
      replace hb6 := hb6.trans (hw12.mono hb6.size)
      clear hw12
      refine wp_sq_seq (fun K hK => ?_)
      refine wpq_op (fun w hw => Ex_move (by conv => lhs; whnf)) ?_
      refine wpq_op (fun w hw => Ex_move (by conv => lhs; whnf)) ?_
      refine wpq_op (fun w hw => Ex_index Try.underlying26 size_26 rfl rfl hlt) ?_
      refine wpq_op (fun w hw => Ex_loadagg (cs := amt (p (k + 1)) (z k) ((k + 1 : Nat) : Int) (decide (0 < i))) agg33 rfl rfl (fun j u hu => cell_later hw (hbi j u hu))) ?_
      refine wpq_call (fun w => ExC_func ent16 rfl rfl) (fun w hw => reused_ret _ _ _ _ w) ?_
      refine wpq_op (fun w hw => Ex_neqnil Try.underlying22 rfl rfl rfl) ?_
      refine wpq_op (fun w hw => Ex_move (by conv => lhs; whnf)) ?_
      refine wpq_opg (by exact rfl) (by exact rfl) (fun w hw => Ex_move (by conv => lhs; whnf)) ?_
      refine wpq_opg (by exact rfl) (by exact rfl) (fun w hw => Ex_move (by conv => lhs; whnf)) ?_
      refine wpq_opg (by exact rfl) (by exact rfl) (fun w hw => Ex_index Try.underlying26 size_26 rfl rfl hlt) ?_
      refine wpq_opg (by exact rfl) (by exact rfl) (fun w hw => Ex_loadagg (cs := amt (p (k + 1)) (z k) ((k + 1 : Nat) : Int) (decide (0 < i))) agg33 rfl rfl (fun j u hu => cell_later hw (hbi j u hu))) ?_
      refine wpq_callg (by exact rfl) (by exact rfl) (fun w => ExC_func ent17 rfl rfl) (fun w hw => among_ret _ _ _ _ w) ?_
      refine wpq_opg (by exact rfl) (by exact rfl) (fun w hw => Ex_neqnil Try.underlying22 rfl rfl rfl) ?_
      refine wpq_op (fun w hw => Ex_pick rfl (by conv => lhs; whnf)) ?_
      refine wpq_op (fun w hw => Ex_move (by conv => lhs; whnf)) ?_
      refine wpq_opg (by exact rfl) (by exact rfl) (fun w hw => Ex_move (by conv => lhs; whnf)) ?_
      refine wpq_opg (by exact rfl) (by exact rfl) (fun w hw => Ex_move (by conv => lhs; whnf)) ?_
      refine wpq_opg (by exact rfl) (by exact rfl) (fun w hw => Ex_index Try.underlying26 size_26 rfl rfl hlt) ?_
      refine wpq_opg (by exact rfl) (by exact rfl) (fun w hw => Ex_loadagg (cs := amt (p (k + 1)) (z k) ((k + 1 : Nat) : Int) (decide (0 < i))) agg33 rfl rfl (fun j u hu => cell_later hw (hbi j u hu))) ?_
      refine wpq_callg (by exact rfl) (by exact rfl) (fun w => ExC_func ent18 rfl rfl) (fun w hw => groups_ret _ _ _ _ w) ?_
      refine wpq_opg (by exact rfl) (by exact rfl) (fun w hw => Ex_neqp_nil Try.underlying24 rfl rfl) ?_
      refine wpq_op (fun w hw => Ex_pick rfl (by conv => lhs; whnf)) ?_
      refine wpq_op (fun w hw => Ex_move (by conv => lhs; whnf)) ?_
      refine wpq_opg (by exact rfl) (by exact rfl) (fun w hw => Ex_move (by conv => lhs; whnf)) ?_
      refine wpq_opg (by exact rfl) (by exact rfl) (fun w hw => Ex_move (by conv => lhs; whnf)) ?_
      refine wpq_opg (by exact rfl) (by exact rfl) (fun w hw => Ex_index Try.underlying26 size_26 rfl rfl hlt) ?_
      refine wpq_opg (by exact rfl) (by exact rfl) (fun w hw => Ex_loadagg (cs := amt (p (k + 1)) (z k) ((k + 1 : Nat) : Int) (decide (0 < i))) agg33 rfl rfl (fun j u hu => cell_later hw (hbi j u hu))) ?_
      refine wpq_callg (by exact rfl) (by exact rfl) (fun w => ExC_func ent19 rfl rfl) (fun w hw => fewest_ret _ _ _ _ w) ?_
      refine wpq_opg (by exact rfl) (by exact rfl) (fun w hw => Ex_neq rfl rfl (ne_f (by first | rfl | omega))) ?_
      refine wpq_op (fun w hw => Ex_pick rfl (by conv => lhs; whnf)) ?_
      refine wpq_op (fun w hw => Ex_move (by conv => lhs; whnf)) ?_
      refine wpq_opg (by exact rfl) (by exact rfl) (fun w hw => Ex_move (by conv => lhs; whnf)) ?_
      refine wpq_opg (by exact rfl) (by exact rfl) (fun w hw => Ex_move (by conv => lhs; whnf)) ?_
      refine wpq_opg (by exact rfl) (by exact rfl) (fun w hw => Ex_index Try.underlying26 size_26 rfl rfl hlt) ?_
      refine wpq_opg (by exact rfl) (by exact rfl) (fun w hw => Ex_loadagg (cs := amt (p (k + 1)) (z k) ((k + 1 : Nat) : Int) (decide (0 < i))) agg33 rfl rfl (fun j u hu => cell_later hw (hbi j u hu))) ?_
      refine wpq_callg (by exact rfl) (by exact rfl) (fun w => ExC_func ent20 rfl rfl) (fun w hw => sockets_ret _ _ _ _ w) ?_
      refine wpq_opg (by exact rfl) (by exact rfl) (fun w hw => Ex_neqp_nil Try.underlying31 rfl rfl) ?_
      refine wpq_op (fun w hw => Ex_pick rfl (by conv => lhs; whnf)) ?_
      refine wpq_nil (fun w13 hw13 => hK _ _ ?_)
      clear hK K
      refine wp_if_false rfl ?_
      refine wp_skip ?_
      replace hai := fun j u hu => cell_later hw13 (hai j u hu)
      replace hbi := fun j u hu => cell_later hw13 (hbi j u hu)
      replace hzk := cell_later hw13 hzk
      replace hv6 := hv6.later hw13
      replace hb6 := hb6.trans (hw13.mono hb6.size)
      clear hw13
      refine hK' _ _ ?_
      refine wp_region_last ?_
      refine wpl_op rfl (Ex_move (by conv => lhs; whnf)) ?_
      refine wpl_op rfl (Ex_inc rfl rfl (by omega)) ?_
      refine wpl_op rfl (Ex_assign (by conv => lhs; whnf)) ?_
      refine wpl_nil ?_
      exact hR _ _ _ (i + 1) ⟨rfl, rfl, rfl, rfl, rfl, (congrArg (Value.int .i64) hnext).symm, rfl, trivial⟩ ⟨hb6, by omega⟩ (by omega)
  · skip
    refine wp_seq_k (fun KK hKK => ?_)
    refine wp_region_seq (fun K hK => ?_)
    refine wpl_op rfl (Ex_move (by conv => lhs; whnf)) ?_
    refine wpl_op rfl (Ex_move (by conv => lhs; whnf)) ?_
    refine wpl_op rfl (Ex_len Try.underlying26 rfl) ?_
    refine wpl_op rfl (Ex_lss rfl rfl (decide_eq_false (by omega))) ?_
    refine wpl_nil (hK _ _ ?_)
    clear hK K
    refine wp_if_false rfl ?_
    refine wp_exit ?_
    clear hKK
    refine hK1 _ _ ?_
    refine wp_region_seq (fun K hK => ?_)
    refine wpl_op rfl (Ex_assign (by conv => lhs; whnf)) ?_
    refine wpl_nil (hK _ _ ?_)
    clear hK K
    refine wp_ret ?_
    repeat (first | refine out_block ?_ | refine out_then ?_)
    refine ret_tmp Try.results4 ⟨rfl, hb.trans (hb6.mono hb.size)⟩

theorem rest4 (a1 : Option Addr) (cut d c1 : Nat) (z : Nat → Int) (y : Int) (hy : y ≤ 0) (w0 w : World) (hb0 : Below w0.heap.size w0 w) (h0 : IntsAt w a1 (cut + d) z) (hn : cut + d ≤ 65536) (u : Nat → Value) :
    Code.wp Try.prog (codeAt [1, 1, 1, 1, 1, 1] (Try.f4.body.getD .skip)) (post Try.prog Try.f4 fun v w' => v = .bool true ∧ Below w0.heap.size w0 w') (fr 278 u [(0, .slice a1 (cut + d : Nat) c1), (1, .int .i64 cut), (2, .int .i64 y)]) w := by
  conv => arg 2; whnf
  refine wp_region_seq (fun K hK => ?_)
  refine wpl_op rfl (Ex_move (by conv => lhs; whnf)) ?_
  refine wpl_op rfl (Ex_len Try.underlying22 rfl) ?_
  refine wpl_op rfl (Ex_inc rfl rfl (by omega)) ?_
  refine wpl_exop rfl (Ex_mk0 (n := cut + d + 1) (base := w.heap.size) Try.underlying22 info3 rfl rfl (by omega) (by unfold maxLen; omega) (Nat.le_refl _)) ?_
  rintro v0 w2 ⟨hown, hgr⟩
  refine wpl_op rfl (Ex_assign (by conv => lhs; whnf)) ?_
  refine wpl_nil (hK _ _ ?_)
  clear hK K
  have hb : Below w.heap.size w w2 := (Below.refl _ _).grown hgr (Nat.le_refl _) (by intro k hk; cases hk)
  clear hgr
  refine wp_seq_k (fun K1 hK1 => ?_)
  refine wp_region_seq (fun K hK => ?_)
  refine wpl_op rfl (Ex_assign (by conv => lhs; whnf)) ?_
  refine wpl_nil (hK _ _ ?_)
  clear hK K
  refine wp_block ?_
  refine wp_loop_st (fun s : Nat × Value => [(0, .slice a1 (cut + d : Nat) c1), (1, .int .i64 cut), (2, .int .i64 y), (8, s.2), (9, .int .i64 (s.1 : Int))])
    (fun s w' => s.1 ≤ cut ∧ Below w.heap.size w w' ∧ w'.ownsRow w.heap.size 3 1 s.2 s.1 (iv (ins z cut y) s.1)) (fun s => cut - s.1) (0, v0) ⟨rfl, rfl, rfl, rfl, rfl, trivial⟩ ⟨Nat.zero_le _, hb, hown⟩ ?_
  clear hb hown w2 v0
  rintro ⟨i, v0⟩ u w2 ⟨hi, hb, hown⟩ R hR
  dsimp only at hi hown
  by_cases hltc : i < cut
  · have hlt : i < cut + d := by omega
    have hdec : ((i, v0).1 : Int) = (i : Int) := rfl
    obtain ⟨b0, o0, rfl, hc0⟩ := h0.get hlt
    have hcz := cell_later hb (hc0 i hlt)
    refine wp_seq_k (fun KK hKK => ?_)
    refine wp_region_seq (fun K hK => ?_)
    refine wpl_op rfl (Ex_move (by conv => lhs; whnf)) ?_
    refine wpl_op rfl (Ex_move (by conv => lhs; whnf)) ?_
    refine wpl_op rfl (Ex_lss rfl rfl (decide_eq_true (by dsimp only; omega))) ?_
    refine wpl_nil (hK _ _ ?_)
    clear hK K
    refine wp_if_true rfl ?_
    refine wp_skip (hKK _ _ ?_)
    clear hKK KK
    refine wp_seq_k (fun K' hK' => ?_)
    refine wp_block ?_
    refine wp_region_last ?_
    refine wpl_op rfl (Ex_move (by conv => lhs; whnf)) ?_
    refine wpl_op rfl (Ex_move (by conv => lhs; whnf)) ?_
    refine wpl_op rfl (Ex_move (by conv => lhs; whnf)) ?_
    refine wpl_op rfl (Ex_index1 Try.underlying22 size_22 rfl rfl hlt) ?_
    refine wpl_op rfl (Ex_load one3 rfl hcz) ?_
    refine wpl_op rfl (Ex_bsl (pv := [(0, .int .i64 (z i))]) rfl (bsl3 _ _)) ?_
    refine wpl_exop rfl (Ex_append (n := i) (m := 1) (c := 1) (base := w.heap.size) (ad := ⟨w2.heap.size, 0, none⟩) (news := [.int .i64 (z i)]) Try.underlying22 info3 rfl (by decide) rfl (hown.alloc _) rfl rfl
        (fun j x hx => by rw [Addr.add_lit, Nat.zero_add]; exact cell_at (heap_new w2 _) (by simpa using hx)) rfl (by unfold maxLen; omega) (by omega) (Nat.le_trans hb.size (by simp))) ?_
    rintro v' w3 ⟨hown', hgr⟩
    refine wpl_op rfl (Ex_assign (by conv => lhs; whnf)) ?_
    refine wpl_nil ?_
    replace hb := (hb.alloc hb.size _).grown hgr (Nat.le_trans hb.size (by simp)) (owns_block hown)
    refine hK' _ _ ?_
    refine wp_region_last ?_
    refine wpl_op rfl (Ex_move (by conv => lhs; whnf)) ?_
    refine wpl_op rfl (Ex_inc rfl rfl (by dsimp only; omega)) ?_
    refine wpl_op rfl (Ex_assign (by conv => lhs; whnf)) ?_
    refine wpl_nil ?_
    rw [← ins_lt (z := z) (y := y) hltc, iv_snoc] at hown'
    exact hR _ _ _ (i + 1, v') ⟨rfl, rfl, rfl, rfl, rfl, trivial⟩ ⟨by dsimp only at *; omega, hb, hown'⟩ (by dsimp only at *; omega)
  · have hi' : i = cut := by omega
    subst hi'
    refine wp_seq_k (fun KK hKK => ?_)
    refine wp_region_seq (fun K hK => ?_)
    refine wpl_op rfl (Ex_move (by conv => lhs; whnf)) ?_
    refine wpl_op rfl (Ex_move (by conv => lhs; whnf)) ?_
    refine wpl_op rfl (Ex_lss rfl rfl (decide_eq_false (by dsimp only; omega))) ?_
    refine wpl_nil (hK _ _ ?_)
    clear hK K
    refine wp_if_false rfl ?_
    refine wp_exit ?_
    clear hKK
    refine hK1 _ _ ?_
    clear hR hK1
    refine wp_region_seq (fun K hK => ?_)
    refine wpl_op rfl (Ex_move (by conv => lhs; whnf)) ?_
    refine wpl_op rfl (Ex_move (by conv => lhs; whnf)) ?_
    refine wpl_op rfl (Ex_bsl (pv := [(0, .int .i64 (y))]) rfl (bsl3 _ _)) ?_
    refine wpl_exop rfl (Ex_append (n := i) (m := 1) (c := 1) (base := w.heap.size) (ad := ⟨w2.heap.size, 0, none⟩) (news := [.int .i64 (y)]) Try.underlying22 info3 rfl (by decide) rfl (hown.alloc _) rfl rfl
        (fun j x hx => by rw [Addr.add_lit, Nat.zero_add]; exact cell_at (heap_new w2 _) (by simpa using hx)) rfl (by unfold maxLen; omega) (by omega) (Nat.le_trans hb.size (by simp))) ?_
    rintro v' w3 ⟨hown', hgr⟩
    refine wpl_op rfl (Ex_assign (by conv => lhs; whnf)) ?_
    refine wpl_nil (hK _ _ ?_)
    clear hK K
    replace hb := (hb.alloc hb.size _).grown hgr (Nat.le_trans hb.size (by simp)) (owns_block hown)
    replace hown : w3.ownsRow w.heap.size 3 1 v' (i + 1) (iv (ins z i y) (i + 1)) := by rw [← iv_snoc, ins_at]; exact hown'
    clear hown' hgr
    refine wp_seq_k (fun K1 hK1 => ?_)
    refine wp_region_seq (fun K hK => ?_)
    refine wpl_op rfl (Ex_move (by conv => lhs; whnf)) ?_
    refine wpl_op rfl (Ex_assign (by conv => lhs; whnf)) ?_
    refine wpl_nil (hK _ _ ?_)
    clear hK K
    refine wp_block ?_
    refine wp_loop_st (fun s : Nat × Value => [(0, .slice a1 (i + d : Nat) c1), (1, .int .i64 i), (2, .int .i64 y), (8, s.2), (10, .int .i64 (s.1 : Int))])
      (fun s w' => i ≤ s.1 ∧ s.1 ≤ i + d ∧ Below w.heap.size w w' ∧ w'.ownsRow w.heap.size 3 1 s.2 (s.1 + 1) (iv (ins z i y) (s.1 + 1))) (fun s => i + d - s.1) (i, v') ⟨rfl, rfl, rfl, rfl, rfl, trivial⟩ ⟨Nat.le_refl _, Nat.le_add_right _ _, hb, hown⟩ ?_
    clear hb hown
    rintro ⟨j, v1⟩ u w2 ⟨hij, hj, hb, hown⟩ R hR
    dsimp only at hij hj hown
    by_cases hlt : j < i + d
    · obtain ⟨b0, o0, rfl, hc0⟩ := h0.get hlt
      have hcz := cell_later hb (hc0 j hlt)
      refine wp_seq_k (fun KK hKK => ?_)
      refine wp_region_seq (fun K hK => ?_)
      refine wpl_op rfl (Ex_move (by conv => lhs; whnf)) ?_
      refine wpl_op rfl (Ex_move (by conv => lhs; whnf)) ?_
      refine wpl_op rfl (Ex_len Try.underlying22 rfl) ?_
      refine wpl_op rfl (Ex_lss rfl rfl (decide_eq_true (by dsimp only; omega))) ?_
      refine wpl_nil (hK _ _ ?_)
      clear hK K
      refine wp_if_true rfl ?_
      refine wp_skip (hKK _ _ ?_)
      clear hKK KK
      refine wp_seq_k (fun K' hK' => ?_)
      refine wp_block ?_
      refine wp_region_last ?_
      refine wpl_op rfl (Ex_move (by conv => lhs; whnf)) ?_
      refine wpl_op rfl (Ex_move (by conv => lhs; whnf)) ?_
      refine wpl_op rfl (Ex_move (by conv => lhs; whnf)) ?_
      refine wpl_op rfl (Ex_index1 Try.underlying22 size_22 rfl rfl hlt) ?_
      refine wpl_op rfl (Ex_load one3 rfl hcz) ?_
      refine wpl_op rfl (Ex_bsl (pv := [(0, .int .i64 (z j))]) rfl (bsl3 _ _)) ?_
      refine wpl_exop rfl (Ex_append (n := j + 1) (m := 1) (c := 1) (base := w.heap.size) (ad := ⟨w2.heap.size, 0, none⟩) (news := [.int .i64 (z j)]) Try.underlying22 info3 rfl (by decide) rfl (hown.alloc _) rfl rfl
        (fun j x hx => by rw [Addr.add_lit, Nat.zero_add]; exact cell_at (heap_new w2 _) (by simpa using hx)) rfl (by unfold maxLen; omega) (by omega) (Nat.le_trans hb.size (by simp))) ?_
      rintro v' w3 ⟨hown', hgr⟩
      refine wpl_op rfl (Ex_assign (by conv => lhs; whnf)) ?_
      refine wpl_nil ?_
      replace hb := (hb.alloc hb.size _).grown hgr (Nat.le_trans hb.size (by simp)) (owns_block hown)
      refine hK' _ _ ?_
      refine wp_region_last ?_
      refine wpl_op rfl (Ex_move (by conv => lhs; whnf)) ?_
      refine wpl_op rfl (Ex_inc rfl rfl (by dsimp only; omega)) ?_
      refine wpl_op rfl (Ex_assign (by conv => lhs; whnf)) ?_
      refine wpl_nil ?_
      rw [← ins_gt (z := z) (y := y) hij, iv_snoc] at hown'
      exact hR _ _ _ (j + 1, v') ⟨rfl, rfl, rfl, rfl, rfl, trivial⟩ ⟨by dsimp only at *; omega, by dsimp only at *; omega, hb, hown'⟩ (by dsimp only at *; omega)
    · have hj' : j = i + d := by omega
      subst hj'
      refine wp_seq_k (fun KK hKK => ?_)
      refine wp_region_seq (fun K hK => ?_)
      refine wpl_op rfl (Ex_move (by conv => lhs; whnf)) ?_
      refine wpl_op rfl (Ex_move (by conv => lhs; whnf)) ?_
      refine wpl_op rfl (Ex_len Try.underlying22 rfl) ?_
      refine wpl_op rfl (Ex_lss rfl rfl (decide_eq_false (by dsimp only; omega))) ?_
      refine wpl_nil (hK _ _ ?_)
      clear hK K
      refine wp_if_false rfl ?_
      refine wp_exit ?_
      clear hKK
      refine hK1 _ _ ?_
      clear hR hK1
      obtain ⟨aL, cL, rfl, _, hL⟩ := ints_of_owns hown
      refine wp_norm [(0, .slice a1 (i + d : Nat) c1), (1, .int .i64 i), (8, .slice aL (i + d + 1 : Nat) cL)] ⟨rfl, rfl, rfl, trivial⟩ (fun u => ?_)
      exact rest4b a1 aL i d c1 cL z y hy w0 w2 (hb0.trans (hb.mono hb0.size)) (h0.below hb) hL hn u

theorem walk4 (a0 : Option Addr) (n c0 : Nat) (x y : Int) (z : Nat → Int) (w : World) (h0 : IntsAt w a0 n z) (hnil : a0 = none → n = 0) (hcap : n ≤ c0) :
    Ret Try.prog 4 #[.slice a0 n c0, .int .i64 x, .int .i64 y] w fun v w' => v = .bool true ∧ Below w.heap.size w w' := by
  refine Ret.of_body (vs := [.slice a0 n c0, .int .i64 x, .int .i64 y]) Try.func4 rfl Try.ntmps4 rfl ?_
  refine wp_region_seq (fun K hK => ?_)
  refine wpl_op rfl (Ex_assign (by conv => lhs; whnf)) ?_
  refine wpl_nil (hK _ _ ?_)
  clear hK K
  refine wp_seq_k (fun KK hKK => ?_)
  refine wp_region_seq (fun K hK => ?_)
  refine wpl_op rfl (Ex_move (by conv => lhs; whnf)) ?_
  refine wpl_op rfl (Ex_move (by conv => lhs; whnf)) ?_
  refine wpl_op rfl (Ex_move (by conv => lhs; whnf)) ?_
  refine wpl_call rfl (ExC_func ent21 rfl rfl) (bytes21_ret a0 n c0 x y w) ?_
  rintro v w' ⟨⟨b, rfl⟩, rfl⟩
  refine wpl_op rfl (Ex_not rfl rfl) ?_
  refine wpl_nil (hK _ _ ?_)
  clear hK K
  refine wp_if rfl (fun ht => ?_) (fun hf => ?_)
  · clear hKK
    refine wp_region_seq (fun K hK => ?_)
    refine wpl_op rfl (Ex_assign (by conv => lhs; whnf)) ?_
    refine wpl_nil (hK _ _ ?_)
    clear hK K
    refine wp_ret ?_
    repeat (first | refine out_block ?_ | refine out_then ?_)
    refine ret_tmp Try.results4 ⟨rfl, Below.refl _ _⟩
  refine wp_skip (hKK _ _ ?_)
  clear hKK KK
  refine wp_seq_k (fun KK hKK => ?_)
  refine wp_region_seq (fun K hK => ?_)
  refine wpl_op rfl (Ex_move (by conv => lhs; whnf)) ?_
  refine wpl_op rfl (Ex_len Try.underlying22 rfl) ?_
  refine wpl_op rfl (Ex_gtr rfl rfl rfl) ?_
  refine wpl_nil (hK _ _ ?_)
  clear hK K
  refine wp_if rfl (fun ht => ?_) (fun hf => ?_)
  · clear hKK
    refine wp_region_seq (fun K hK => ?_)
    refine wpl_op rfl (Ex_assign (by conv => lhs; whnf)) ?_
    refine wpl_nil (hK _ _ ?_)
    clear hK K
    refine wp_ret ?_
    repeat (first | refine out_block ?_ | refine out_then ?_)
    refine ret_tmp Try.results4 ⟨rfl, Below.refl _ _⟩
  refine wp_skip (hKK _ _ ?_)
  clear hKK KK
  have hn : n ≤ 65536 := by have := of_decide_eq_false hf; omega
  clear hf
  by_cases g1 : x < 0
  · skip
    refine wp_seq_k (fun KK hKK => ?_)
    refine wp_region_seq (fun K hK => ?_)
    refine wpl_op rfl (Ex_move (by conv => lhs; whnf)) ?_
    refine wpl_op rfl (Ex_lss rfl rfl (decide_eq_true g1)) ?_
    refine wpl_op rfl (Ex_move (by conv => lhs; whnf)) ?_
    refine wpl_pass (by exact rfl) (by exact rfl) ?_
    refine wpl_pass (by exact rfl) (by exact rfl) ?_
    refine wpl_pass (by exact rfl) (by exact rfl) ?_
    refine wpl_pass (by exact rfl) (by exact rfl) ?_
    refine wpl_op rfl (Ex_pick rfl (by conv => lhs; whnf)) ?_
    refine wpl_nil (hK _ _ ?_)
    clear hK K
    refine wp_if_true rfl ?_
    clear hKK
    refine wp_region_seq (fun K hK => ?_)
    refine wpl_op rfl (Ex_assign (by conv => lhs; whnf)) ?_
    refine wpl_nil (hK _ _ ?_)
    clear hK K
    refine wp_ret ?_
    repeat (first | refine out_block ?_ | refine out_then ?_)
    refine ret_tmp Try.results4 ⟨rfl, Below.refl _ _⟩
  by_cases g2 : (n : Int) < x
  · skip
    refine wp_seq_k (fun KK hKK => ?_)
    refine wp_region_seq (fun K hK => ?_)
    refine wpl_op rfl (Ex_move (by conv => lhs; whnf)) ?_
    refine wpl_op rfl (Ex_lss rfl rfl (decide_eq_false g1)) ?_
    refine wpl_op rfl (Ex_move (by conv => lhs; whnf)) ?_
    refine wpl_opg (by exact rfl) (by exact rfl) (Ex_move (by conv => lhs; whnf)) ?_
    refine wpl_opg (by exact rfl) (by exact rfl) (Ex_move (by conv => lhs; whnf)) ?_
    refine wpl_opg (by exact rfl) (by exact rfl) (Ex_len Try.underlying22 rfl) ?_
    refine wpl_opg (by exact rfl) (by exact rfl) (Ex_gtr rfl rfl (decide_eq_true g2)) ?_
    refine wpl_op rfl (Ex_pick rfl (by conv => lhs; whnf)) ?_
    refine wpl_nil (hK _ _ ?_)
    clear hK K
    refine wp_if_true rfl ?_
    clear hKK
    refine wp_region_seq (fun K hK => ?_)
    refine wpl_op rfl (Ex_assign (by conv => lhs; whnf)) ?_
    refine wpl_nil (hK _ _ ?_)
    clear hK K
    refine wp_ret ?_
    repeat (first | refine out_block ?_ | refine out_then ?_)
    refine ret_tmp Try.results4 ⟨rfl, Below.refl _ _⟩
  refine wp_seq_k (fun KK hKK => ?_)
  refine wp_region_seq (fun K hK => ?_)
  refine wpl_op rfl (Ex_move (by conv => lhs; whnf)) ?_
  refine wpl_op rfl (Ex_lss rfl rfl (decide_eq_false g1)) ?_
  refine wpl_op rfl (Ex_move (by conv => lhs; whnf)) ?_
  refine wpl_opg (by exact rfl) (by exact rfl) (Ex_move (by conv => lhs; whnf)) ?_
  refine wpl_opg (by exact rfl) (by exact rfl) (Ex_move (by conv => lhs; whnf)) ?_
  refine wpl_opg (by exact rfl) (by exact rfl) (Ex_len Try.underlying22 rfl) ?_
  refine wpl_opg (by exact rfl) (by exact rfl) (Ex_gtr rfl rfl (decide_eq_false g2)) ?_
  refine wpl_op rfl (Ex_pick rfl (by conv => lhs; whnf)) ?_
  refine wpl_nil (hK _ _ ?_)
  clear hK K
  refine wp_if_false rfl ?_
  refine wp_skip (hKK _ _ ?_)
  clear hKK KK
  by_cases g3 : 0 < y
  · skip
    refine wp_seq_k (fun KK hKK => ?_)
    refine wp_region_seq (fun K hK => ?_)
    refine wpl_op rfl (Ex_move (by conv => lhs; whnf)) ?_
    refine wpl_op rfl (Ex_gtr rfl rfl (decide_eq_true g3)) ?_
    refine wpl_nil (hK _ _ ?_)
    clear hK K
    refine wp_if_true rfl ?_
    clear hKK
    refine wp_region_seq (fun K hK => ?_)
    refine wpl_op rfl (Ex_assign (by conv => lhs; whnf)) ?_
    refine wpl_nil (hK _ _ ?_)
    clear hK K
    refine wp_ret ?_
    repeat (first | refine out_block ?_ | refine out_then ?_)
    refine ret_tmp Try.results4 ⟨rfl, Below.refl _ _⟩
  refine wp_seq_k (fun KK hKK => ?_)
  refine wp_region_seq (fun K hK => ?_)
  refine wpl_op rfl (Ex_move (by conv => lhs; whnf)) ?_
  refine wpl_op rfl (Ex_gtr rfl rfl (decide_eq_false g3)) ?_
  refine wpl_nil (hK _ _ ?_)
  clear hK K
  refine wp_if_false rfl ?_
  refine wp_skip (hKK _ _ ?_)
  clear hKK KK
  have hy : y ≤ 0 := by omega
  obtain ⟨cut, rfl⟩ := Int.eq_ofNat_of_zero_le (show 0 ≤ x by omega)
  obtain ⟨d, rfl⟩ : ∃ d, n = cut + d := ⟨n - cut, by omega⟩
  refine wp_seq_k (fun K1 hK1 => ?_)
  have hrest : ∀ uu ll a1 c1 w1, Below w.heap.size w w1 → IntsAt w1 a1 (cut + d) z → Agree uu ll [(0, .slice a1 (cut + d : Nat) c1), (1, .int .i64 cut), (2, .int .i64 y)] → K1 (fr 278 uu ll) w1 := by
    intro uu ll a1 c1 w1 hb1 h1 hag
    refine hK1 _ _ ?_
    rw [fr_norm _ hag]
    exact rest4 a1 cut d c1 z y hy w w1 hb1 h1 hn _
  cases a0 with
  | none =>
    refine wp_region_seq (fun K hK => ?_)
    refine wpl_op rfl (Ex_move (by conv => lhs; whnf)) ?_
    refine wpl_op rfl (Ex_neqnil Try.underlying22 rfl rfl rfl) ?_
    refine wpl_nil (hK _ _ ?_)
    clear hK K
    refine wp_if_false rfl ?_
    refine wp_skip ?_
    exact hrest _ _ none c0 w (Below.refl _ _) h0 ⟨rfl, rfl, rfl, trivial⟩
  | some a =>
    refine wp_region_seq (fun K hK => ?_)
    refine wpl_op rfl (Ex_move (by conv => lhs; whnf)) ?_
    refine wpl_op rfl (Ex_neqnil Try.underlying22 rfl rfl rfl) ?_
    refine wpl_nil (hK _ _ ?_)
    clear hK K
    refine wp_if_true rfl ?_
    refine wp_region_seq (fun K hK => ?_)
    refine wpl_op rfl (Ex_move (by conv => lhs; whnf)) ?_
    refine wpl_op rfl (Ex_len Try.underlying22 rfl) ?_
    refine wpl_op rfl (Ex_mk Try.underlying22 info3 rfl rfl (by omega) (by omega)) ?_
    refine wpl_op rfl (Ex_assign (by conv => lhs; whnf)) ?_
    refine wpl_nil (hK _ _ ?_)
    clear hK K
    have hbA : Below w.heap.size w (w.alloc (.cells (madeCells (Value.int .i64 0).cells ((cut + d) * 1)) 3)) := (Below.refl _ _).alloc (Nat.le_refl _) _
    have hownA : Own (w.alloc (.cells (madeCells (Value.int .i64 0).cells ((cut + d) * 1)) 3)) w.heap.size 3 (cut + d) 0 (fun _ => .int .i64 0) := by rw [Nat.mul_one]; exact Own.made w _ _ _ _
    have hA := h0.below hbA
    refine wp_region_seq (fun K hK => ?_)
    refine wpl_op rfl (Ex_move (by conv => lhs; whnf)) ?_
    refine wpl_op rfl (Ex_move (by conv => lhs; whnf)) ?_
    refine wpl_exop rfl (copy_i Try.underlying22 isz3 rfl rfl hownA hA hbA (Nat.le_refl _)) ?_
    rintro v w2 ⟨hown2, hb2⟩
    refine wpl_nil (hK _ _ ?_)
    clear hK K
    refine wp_region_last ?_
    refine wpl_op rfl (Ex_move (by conv => lhs; whnf)) ?_
    refine wpl_op rfl (Ex_assign (by conv => lhs; whnf)) ?_
    refine wpl_nil ?_
    exact hrest _ _ _ _ w2 hb2 (IntsAt.of_own hown2) ⟨rfl, rfl, rfl, trivial⟩
end Go.Proofs.Qxb6613881a.OA
