import Derived.Test.Qxb6613837aWa
namespace Go.Proofs.Qxb6613837a.Sp
open Go.Fr Go.RowKit Go.Sp


theorem rest6 (a0 a1 : Option Addr) (k c0 n1 c1 : Nat) (z : Nat → Int) (h : Nat → ByteArray) (w0 w : World) (hb0 : Below w0.heap.size w0 w) (hz : IntsAt w a0 k z) (hh : StrsAt w a1 n1 h) (u : Nat → Value) :
    Code.wp Try.prog (codeAt [1, 1, 1, 1, 1] (Try.f6.body.getD .skip)) (post Try.prog Try.f6 fun v w' => v = .bool true ∧ Below w0.heap.size w0 w') (fr 111 u [(0, .slice a0 k c0), (1, .slice a1 n1 c1)]) w := by
  conv => arg 2; whnf
  refine wp_region_seq (fun K hK => ?_)
  refine wpl_op rfl (Ex_move (by conv => lhs; whnf)) ?_
  refine wpl_op rfl (Ex_len Try.underlying22 rfl) ?_
  refine wpl_op rfl (Ex_assign (by conv => lhs; whnf)) ?_
  refine wpl_nil (hK _ _ ?_)
  clear hK K
  by_cases g1 : k = 0
  · skip
    refine wp_seq_k (fun KK hKK => ?_)
    refine wp_region_seq (fun K hK => ?_)
    refine wpl_op rfl (Ex_move (by conv => lhs; whnf)) ?_
    refine wpl_op rfl (Ex_eql rfl rfl (decide_eq_true (by omega))) ?_
    refine wpl_op rfl (Ex_move (by conv => lhs; whnf)) ?_
    refine wpl_pass (by exact rfl) (by exact rfl) ?_
    refine wpl_pass (by exact rfl) (by exact rfl) ?_
    refine wpl_op rfl (Ex_pick rfl (by conv => lhs; whnf)) ?_
    refine wpl_op rfl (Ex_move (by conv => lhs; whnf)) ?_
    refine wpl_pass (by exact rfl) (by exact rfl) ?_
    refine wpl_pass (by exact rfl) (by exact rfl) ?_
    refine wpl_pass (by exact rfl) (by exact rfl) ?_
    refine wpl_pass (by exact rfl) (by exact rfl) ?_
    refine wpl_op rfl (Ex_pick rfl (by conv => lhs; whnf)) ?_
    refine wpl_nil (hK _ _ ?_)
    clear hK K
    refine wp_if_true rfl ?_
    clear hKK
    refine wp_region_seq (fun K hK => ?_)
    refine wpl_op rfl (Ex_assign (by conv => lhs; whnf)) ?_
    refine wpl_nil (hK _ _ ?_)
    clear hK K
    refine wp_ret ?_
    repeat (first | refine out_block ?_ | refine out_then ?_)
    refine ret_tmp Try.results6 ⟨rfl, hb0⟩
  by_cases g2 : 256 < k
  · skip
    refine wp_seq_k (fun KK hKK => ?_)
    refine wp_region_seq (fun K hK => ?_)
    refine wpl_op rfl (Ex_move (by conv => lhs; whnf)) ?_
    refine wpl_op rfl (Ex_eql rfl rfl (decide_eq_false (by omega))) ?_
    refine wpl_op rfl (Ex_move (by conv => lhs; whnf)) ?_
    refine wpl_opg (by exact rfl) (by exact rfl) (Ex_move (by conv => lhs; whnf)) ?_
    refine wpl_opg (by exact rfl) (by exact rfl) (Ex_gtr rfl rfl (decide_eq_true (by omega))) ?_
    refine wpl_op rfl (Ex_pick rfl (by conv => lhs; whnf)) ?_
    refine wpl_op rfl (Ex_move (by conv => lhs; whnf)) ?_
    refine wpl_pass (by exact rfl) (by exact rfl) ?_
    refine wpl_pass (by exact rfl) (by exact rfl) ?_
    refine wpl_pass (by exact rfl) (by exact rfl) ?_
    refine wpl_pass (by exact rfl) (by exact rfl) ?_
    refine wpl_op rfl (Ex_pick rfl (by conv => lhs; whnf)) ?_
    refine wpl_nil (hK _ _ ?_)
    clear hK K
    refine wp_if_true rfl ?_
    clear hKK
    refine wp_region_seq (fun K hK => ?_)
    refine wpl_op rfl (Ex_assign (by conv => lhs; whnf)) ?_
    refine wpl_nil (hK _ _ ?_)
    clear hK K
    refine wp_ret ?_
    repeat (first | refine out_block ?_ | refine out_then ?_)
    refine ret_tmp Try.results6 ⟨rfl, hb0⟩
  by_cases g3 : n1 = k
  · skip
    subst g3
    refine wp_seq_k (fun KK hKK => ?_)
    refine wp_region_seq (fun K hK => ?_)
    refine wpl_op rfl (Ex_move (by conv => lhs; whnf)) ?_
    refine wpl_op rfl (Ex_eql rfl rfl (decide_eq_false (by omega))) ?_
    refine wpl_op rfl (Ex_move (by conv => lhs; whnf)) ?_
    refine wpl_opg (by exact rfl) (by exact rfl) (Ex_move (by conv => lhs; whnf)) ?_
    refine wpl_opg (by exact rfl) (by exact rfl) (Ex_gtr rfl rfl (decide_eq_false (by omega))) ?_
    refine wpl_op rfl (Ex_pick rfl (by conv => lhs; whnf)) ?_
    refine wpl_op rfl (Ex_move (by conv => lhs; whnf)) ?_
    refine wpl_opg (by exact rfl) (by exact rfl) (Ex_move (by conv => lhs; whnf)) ?_
    refine wpl_opg (by exact rfl) (by exact rfl) (Ex_len Try.underlying23 rfl) ?_
    refine wpl_opg (by exact rfl) (by exact rfl) (Ex_move (by conv => lhs; whnf)) ?_
    refine wpl_opg (by exact rfl) (by exact rfl) (Ex_neq rfl rfl (show (!decide ((n1 : Int) = n1)) = false by simp)) ?_
    refine wpl_op rfl (Ex_pick rfl (by conv => lhs; whnf)) ?_
    refine wpl_nil (hK _ _ ?_)
    clear hK K
    refine wp_if_false rfl ?_
    refine wp_skip (hKK _ _ ?_)
    clear hKK KK
    have hk : 0 < n1 := by omega
    have hkb : n1 ≤ 256 := by omega
    refine wp_seq_k (fun KK hKK => ?_)
    refine wp_region_seq (fun K hK => ?_)
    refine wpl_op rfl (Ex_move (by conv => lhs; whnf)) ?_
    refine wpl_call rfl (ExC_func ent16 rfl rfl) (sums_ret a0 n1 c0 z hkb w hz) ?_
    rintro v w' ⟨⟨b, rfl, hbs⟩, rfl⟩
    refine wpl_op rfl (Ex_not rfl rfl) ?_
    refine wpl_nil (hK _ _ ?_)
    clear hK K
    refine wp_if rfl (fun ht => ?_) (fun hf => ?_)
    · clear hKK
      refine wp_region_seq (fun K hK => ?_)
      refine wpl_op rfl (Ex_assign (by conv => lhs; whnf)) ?_
      refine wpl_nil (hK _ _ ?_)
      clear hK K
      refine wp_ret ?_
      repeat (first | refine out_block ?_ | refine out_then ?_)
      refine ret_tmp Try.results6 ⟨rfl, hb0⟩
    refine wp_skip (hKK _ _ ?_)
    clear hKK KK
    obtain ⟨hz1, hz2⟩ := hbs (by cases b with | true => rfl | false => cases hf)
    obtain ⟨s, W, hzs, hs, htot, hW, hWb, hsW⟩ := supplies hk hz1 hz2
    have his : IntsAt w a0 n1 (fun q => (s q : Int)) := by
      rcases hz with e | ⟨b, o, e, hc⟩
      · exact .inl e
      · exact .inr ⟨b, o, e, fun q hq => by rw [hc q hq, hzs q hq]⟩
    clear hf hbs hz1 hz2 hzs hz
    refine wp_norm [(0, .slice a0 n1 c0), (1, .slice a1 n1 c1), (7, .int .i64 (n1 : Int))] ⟨rfl, rfl, rfl, trivial⟩ (fun u => ?_)
    obtain ⟨hq1, hq2⟩ := quo_le n1 hk
    obtain ⟨b0, o0, rfl, hc⟩ := his.get hk
    refine wp_region_seq (fun K hK => ?_)
    refine wpl_op rfl (Ex_move (by conv => lhs; whnf)) ?_
    refine wpl_op rfl (Ex_quo (m := 16384) rfl rfl hk (by omega)) ?_
    refine wpl_op rfl (Ex_assign (by conv => lhs; whnf)) ?_
    refine wpl_nil (hK _ _ ?_)
    clear hK K
    refine wp_region_seq (fun K hK => ?_)
    refine wpl_op rfl (Ex_move (by conv => lhs; whnf)) ?_
    refine wpl_op rfl (Ex_plus (m := 16384) rfl rfl (by omega)) ?_
    refine wpl_op rfl (Ex_pred (m := 16384 + n1) rfl rfl (by omega) (by omega)) ?_
    refine wpl_op rfl (Ex_move (by conv => lhs; whnf)) ?_
    refine wpl_op rfl (Ex_quo (m := 16384 + n1 - 1) rfl rfl hk (by omega)) ?_
    refine wpl_op rfl (Ex_assign (by conv => lhs; whnf)) ?_
    refine wpl_nil (hK _ _ ?_)
    clear hK K
    refine wp_seq_k (fun K1 hK1 => ?_)
    refine wp_region_seq (fun K hK => ?_)
    refine wpl_op rfl (Ex_assign (by conv => lhs; whnf)) ?_
    refine wpl_nil (hK _ _ ?_)
    clear hK K
    refine wp_block ?_
    refine wp_loop_st (fun i : Nat => [(0, .slice (some ⟨b0, o0, none⟩) n1 c0), (1, .slice a1 n1 c1), (7, .int .i64 (n1 : Int)), (8, .int .i64 ((16384 / n1 : Nat) : Int)), (9, .int .i64 (((16384 + n1 - 1) / n1 : Nat) : Int)), (10, .int .i64 (i : Int))]) (fun i w' => w' = w ∧ i ≤ n1 ∧ ∀ q, q < i → 16384 / n1 ≤ s q ∧ s q ≤ (16384 + n1 - 1) / n1) (fun i => n1 - i) 0 ⟨rfl, rfl, rfl, rfl, rfl, rfl, trivial⟩ ⟨rfl, Nat.zero_le _, fun _ h => by omega⟩ ?_
    rintro i uu w1 ⟨rfl, hi, hbal⟩ R hR
    by_cases hlt : i < n1
    · skip
      refine wp_seq_k (fun KK hKK => ?_)
      refine wp_region_seq (fun K hK => ?_)
      refine wpl_op rfl (Ex_move (by conv => lhs; whnf)) ?_
      refine wpl_op rfl (Ex_move (by conv => lhs; whnf)) ?_
      refine wpl_op rfl (Ex_lss rfl rfl (decide_eq_true (by omega))) ?_
      refine wpl_nil (hK _ _ ?_)
      clear hK K
      refine wp_if_true rfl ?_
      refine wp_skip (hKK _ _ ?_)
      clear hKK KK
      refine wp_seq_k (fun K' hK' => ?_)
      refine wp_block ?_
      by_cases g4 : s i < 16384 / n1
      · skip
        refine wp_region_seq (fun K hK => ?_)
        refine wpl_op rfl (Ex_move (by conv => lhs; whnf)) ?_
        refine wpl_op rfl (Ex_move (by conv => lhs; whnf)) ?_
        refine wpl_op rfl (Ex_index1 Try.underlying22 size_22 rfl rfl hlt) ?_
        refine wpl_op rfl (Ex_load one3 rfl (hc i hlt)) ?_
        refine wpl_op rfl (Ex_move (by conv => lhs; whnf)) ?_
        refine wpl_op rfl (Ex_lss rfl rfl (decide_eq_true (Int.ofNat_lt.2 g4))) ?_
        refine wpl_op rfl (Ex_move (by conv => lhs; whnf)) ?_
        refine wpl_pass (by exact rfl) (by exact rfl) ?_
        refine wpl_pass (by exact rfl) (by exact rfl) ?_
        refine wpl_pass (by exact rfl) (by exact rfl) ?_
        refine wpl_pass (by exact rfl) (by exact rfl) ?_
        refine wpl_pass (by exact rfl) (by exact rfl) ?_
        refine wpl_pass (by exact rfl) (by exact rfl) ?_
        refine wpl_op rfl (Ex_pick rfl (by conv => lhs; whnf)) ?_
        refine wpl_nil (hK _ _ ?_)
        clear hK K
        refine wp_if_true rfl ?_
        refine wp_region_seq (fun K hK => ?_)
        refine wpl_op rfl (Ex_assign (by conv => lhs; whnf)) ?_
        refine wpl_nil (hK _ _ ?_)
        clear hK K
        refine wp_ret ?_
        repeat (first | refine out_block ?_ | refine out_then ?_)
        refine ret_tmp Try.results6 ⟨rfl, hb0⟩
      by_cases g5 : (16384 + n1 - 1) / n1 < s i
      · skip
        refine wp_region_seq (fun K hK => ?_)
        refine wpl_op rfl (Ex_move (by conv => lhs; whnf)) ?_
        refine wpl_op rfl (Ex_move (by conv => lhs; whnf)) ?_
        refine wpl_op rfl (Ex_index1 Try.underlying22 size_22 rfl rfl hlt) ?_
        refine wpl_op rfl (Ex_load one3 rfl (hc i hlt)) ?_
        refine wpl_op rfl (Ex_move (by conv => lhs; whnf)) ?_
        refine wpl_op rfl (Ex_lss rfl rfl (decide_eq_false (fun e => g4 (Int.ofNat_lt.1 e)))) ?_
        refine wpl_op rfl (Ex_move (by conv => lhs; whnf)) ?_
        refine wpl_opg (by exact rfl) (by exact rfl) (Ex_move (by conv => lhs; whnf)) ?_
        refine wpl_opg (by exact rfl) (by exact rfl) (Ex_move (by conv => lhs; whnf)) ?_
        refine wpl_opg (by exact rfl) (by exact rfl) (Ex_index1 Try.underlying22 size_22 rfl rfl hlt) ?_
        refine wpl_opg (by exact rfl) (by exact rfl) (Ex_load one3 rfl (hc i hlt)) ?_
        refine wpl_opg (by exact rfl) (by exact rfl) (Ex_move (by conv => lhs; whnf)) ?_
        refine wpl_opg (by exact rfl) (by exact rfl) (Ex_gtr rfl rfl (decide_eq_true (Int.ofNat_lt.2 g5))) ?_
        refine wpl_op rfl (Ex_pick rfl (by conv => lhs; whnf)) ?_
        refine wpl_nil (hK _ _ ?_)
        clear hK K
        refine wp_if_true rfl ?_
        refine wp_region_seq (fun K hK => ?_)
        refine wpl_op rfl (Ex_assign (by conv => lhs; whnf)) ?_
        refine wpl_nil (hK _ _ ?_)
        clear hK K
        refine wp_ret ?_
        repeat (first | refine out_block ?_ | refine out_then ?_)
        refine ret_tmp Try.results6 ⟨rfl, hb0⟩
      refine wp_region_seq (fun K hK => ?_)
      refine wpl_op rfl (Ex_move (by conv => lhs; whnf)) ?_
      refine wpl_op rfl (Ex_move (by conv => lhs; whnf)) ?_
      refine wpl_op rfl (Ex_index1 Try.underlying22 size_22 rfl rfl hlt) ?_
      refine wpl_op rfl (Ex_load one3 rfl (hc i hlt)) ?_
      refine wpl_op rfl (Ex_move (by conv => lhs; whnf)) ?_
      refine wpl_op rfl (Ex_lss rfl rfl (decide_eq_false (fun e => g4 (Int.ofNat_lt.1 e)))) ?_
      refine wpl_op rfl (Ex_move (by conv => lhs; whnf)) ?_
      refine wpl_opg (by exact rfl) (by exact rfl) (Ex_move (by conv => lhs; whnf)) ?_
      refine wpl_opg (by exact rfl) (by exact rfl) (Ex_move (by conv => lhs; whnf)) ?_
      refine wpl_opg (by exact rfl) (by exact rfl) (Ex_index1 Try.underlying22 size_22 rfl rfl hlt) ?_
      refine wpl_opg (by exact rfl) (by exact rfl) (Ex_load one3 rfl (hc i hlt)) ?_
      refine wpl_opg (by exact rfl) (by exact rfl) (Ex_move (by conv => lhs; whnf)) ?_
      refine wpl_opg (by exact rfl) (by exact rfl) (Ex_gtr rfl rfl (decide_eq_false (fun e => g5 (Int.ofNat_lt.1 e)))) ?_
      refine wpl_op rfl (Ex_pick rfl (by conv => lhs; whnf)) ?_
      refine wpl_nil (hK _ _ ?_)
      clear hK K
      refine wp_if_false rfl ?_
      refine wp_skip (hK' _ _ ?_)
      refine wp_region_last ?_
      refine wpl_op rfl (Ex_move (by conv => lhs; whnf)) ?_
      refine wpl_op rfl (Ex_inc rfl rfl (by omega)) ?_
      refine wpl_op rfl (Ex_assign (by conv => lhs; whnf)) ?_
      refine wpl_nil ?_
      refine hR _ _ _ (i + 1) ⟨rfl, rfl, rfl, rfl, rfl, rfl, trivial⟩ ⟨rfl, hlt, fun q hq => ?_⟩ (by omega)
      by_cases e : q = i
      · subst e; exact ⟨Nat.le_of_not_lt g4, Nat.le_of_not_lt g5⟩
      · exact hbal q (by omega)
    have hie : i = n1 := by omega
    subst hie
    refine wp_seq_k (fun KK hKK => ?_)
    refine wp_region_seq (fun K hK => ?_)
    refine wpl_op rfl (Ex_move (by conv => lhs; whnf)) ?_
    refine wpl_op rfl (Ex_move (by conv => lhs; whnf)) ?_
    refine wpl_op rfl (Ex_lss rfl rfl (decide_eq_false (by omega))) ?_
    refine wpl_nil (hK _ _ ?_)
    clear hK K
    refine wp_if_false rfl ?_
    refine wp_exit ?_
    clear hKK
    refine hK1 _ _ ?_
    clear hR hK1 K1 R
    refine wp_seq_k (fun KK hKK => ?_)
    refine wp_region_seq (fun K hK => ?_)
    refine wpl_op rfl (Ex_move (by conv => lhs; whnf)) ?_
    refine wpl_call rfl (ExC_func ent11 rfl rfl) (half_ret a1 i c1 h hkb w1 hh) ?_
    rintro v w2 ⟨⟨b, rfl, hbh⟩, hw2⟩
    refine wpl_op rfl (Ex_not rfl rfl) ?_
    refine wpl_nil (hK _ _ ?_)
    clear hK K
    refine wp_if rfl (fun ht => ?_) (fun hf => ?_)
    · clear hKK
      refine wp_region_seq (fun K hK => ?_)
      refine wpl_op rfl (Ex_assign (by conv => lhs; whnf)) ?_
      refine wpl_nil (hK _ _ ?_)
      clear hK K
      refine wp_ret ?_
      repeat (first | refine out_block ?_ | refine out_then ?_)
      refine ret_tmp Try.results6 ⟨rfl, hb0.trans (hw2.mono hb0.size)⟩
    refine wp_skip (hKK _ _ ?_)
    clear hKK KK
    have hhalf := hbh (by cases b with | true => rfl | false => cases hf)
    clear hf hbh
    have hb2 := hb0.trans (hw2.mono hb0.size)
    have hh2 := hh.below hw2
    have his2 := his.below hw2
    have hs6 : ∀ q, q < i → s q ≤ 1000000 := fun q hq => Nat.le_trans (hs q hq) (by omega)
    refine wp_region_seq (fun K hK => ?_)
    refine wpl_op rfl (Ex_move (by conv => lhs; whnf)) ?_
    refine wpl_op rfl (Ex_move (by conv => lhs; whnf)) ?_
    refine wpl_call rfl (ExC_func ent17 rfl rfl) (zzspread_ret i c0 c1 _ a1 h s W w2 hh2 his2 hk hkb hs6 hW (by omega)) ?_
    rintro v w3 hres
    refine wpl_op rfl (Ex_assign (by conv => lhs; whnf)) ?_
    refine wpl_nil (hK _ _ ?_)
    clear hK K
    have hb3 := hb2.trans (hres.1.mono hb2.size)
    have hh3 := hh2.below hres.1
    have his3 := his2.below hres.1
    refine wp_region_seq (fun K hK => ?_)
    refine wpl_op rfl (Ex_move (by conv => lhs; whnf)) ?_
    refine wpl_op rfl (Ex_move (by conv => lhs; whnf)) ?_
    refine wpl_call rfl (ExC_func ent10 rfl rfl) (zzgrouped_ret i c0 c1 _ a1 h s w3 hh3 his3 hk hkb hs6) ?_
    rintro v2 w4 hgr
    refine wpl_op rfl (Ex_assign (by conv => lhs; whnf)) ?_
    refine wpl_nil (hK _ _ ?_)
    clear hK K
    have hb4 := hb3.trans (hgr.1.mono hb3.size)
    have hh4 := hh3.below hgr.1
    have his4 := his3.below hgr.1
    rcases hgr.2 with ⟨_, hno⟩ | ⟨gG, gb, y, rfl, hgq, hgf⟩
    · exact absurd (okay_of_half hk hkb hhalf) hno
    have hy : ∀ a b, a < i → b < i → 0 ≤ y a b * (s a : Int) ∧ y a b * (s a : Int) ≤ 1000000 := fun a b ha hb => by
      have := hs a ha
      rcases GI_01 hgf ha hb with e | e <;> rw [e] <;> omega
    have hfg : (SI i h s (fun q => ap h q i) W W ((16384 / i : Nat) : Int) (((16384 + i - 1) / i : Nat) : Int)).Feas (fun a b => y a b * (s a : Int)) := feas_of_pairs hsW hbal hgf (fun a b ha hb _ => by
      have h1 := hsW a ha
      have h2 : evlo s (fun q => ap h q i) a ≤ s a := Nat.div_le_self _ _
      rcases GI_01 hgf ha hb with e | e <;> rw [e] <;> omega)
    rcases hres.2 with ⟨_, hno⟩ | ⟨d, most, hd, hm, ⟨gX, xb, x, rfl, hq, hgX, hg1, hg2, hf⟩, hmin⟩
    · exact absurd (hfg.okay (SI_fine hk hkb hs6 (ilo_ok i hk))) hno
    have hq4 : Sq w4 i gX xb x i := Sq.later hq hgr.1
    have hx6 : ∀ a b, a < i → b < i → 0 ≤ x a b ∧ x a b ≤ 1000000 := fun a b ha hb => by
      have h1 := feas_nonneg hf ha hb
      have := hs a ha
      omega
    clear hres hgr
    refine wp_seq_k (fun KK hKK => ?_)
    refine wp_sq_seq (fun K hK => ?_)
    refine wpq_op (fun w hw => Ex_move (by conv => lhs; whnf)) ?_
    refine wpq_op (fun w hw => Ex_move (by conv => lhs; whnf)) ?_
    refine wpq_call (fun w => ExC_func ent12 rfl rfl) (fun w hw => (square_ret i gX xb x hkb w (Sq.later hq4 hw)).mono (fun v w' hv => ⟨hv.1, hv.2 ▸ Below.refl _ _⟩)) ?_
    refine wpq_op (fun w hw => Ex_not rfl rfl) ?_
    refine wpq_op (fun w hw => Ex_move (by conv => lhs; whnf)) ?_
    refine wpq_opg (by exact rfl) (by exact rfl) (fun w hw => Ex_move (by conv => lhs; whnf)) ?_
    refine wpq_opg (by exact rfl) (by exact rfl) (fun w hw => Ex_move (by conv => lhs; whnf)) ?_
    refine wpq_callg (by exact rfl) (by exact rfl) (fun w => ExC_func ent12 rfl rfl) (fun w hw => (square_ret i gG gb _ hkb w (Sq.later hgq hw)).mono (fun v w' hv => ⟨hv.1, hv.2 ▸ Below.refl _ _⟩)) ?_
    refine wpq_opg (by exact rfl) (by exact rfl) (fun w hw => Ex_not rfl rfl) ?_
    refine wpq_op (fun w hw => Ex_pick rfl (by conv => lhs; whnf)) ?_
    refine wpq_nil (fun w5 hw5 => hK _ _ ?_)
    clear hK K
    refine wp_if_false rfl ?_
    refine wp_skip (hKK _ _ ?_)
    clear hKK KK
    replace hq4 := Sq.later hq4 hw5
    replace hgq := Sq.later hgq hw5
    replace his4 := his4.below hw5
    replace hh4 := hh4.below hw5
    replace hb4 := hb4.trans (hw5.mono hb4.size)
    refine wp_region_seq (fun K hK => ?_)
    refine wpl_op rfl (Ex_move (by conv => lhs; whnf)) ?_
    refine wpl_op rfl (Ex_move (by conv => lhs; whnf)) ?_
    refine wpl_op rfl (Ex_move (by conv => lhs; whnf)) ?_
    refine wpl_call rfl (ExC_func ent20 rfl rfl) (stray_ret gX xb x _ a1 i c0 c1 h s hk hkb hs6 hx6 _ hq4 his4 hh4) ?_
    rintro v w6 ⟨⟨z1, rfl, hz1⟩, hw6⟩
    refine wpl_op rfl (Ex_move (by conv => lhs; whnf)) ?_
    refine wpl_op rfl (Ex_move (by conv => lhs; whnf)) ?_
    refine wpl_op rfl (Ex_move (by conv => lhs; whnf)) ?_
    refine wpl_call rfl (ExC_func ent20 rfl rfl) (stray_ret gG gb _ _ a1 i c0 c1 h s hk hkb hs6 hy _ (Sq.later hgq hw6) (his4.below hw6) (hh4.below hw6)) ?_
    rintro v w7 ⟨⟨z2, rfl, hz2⟩, hw7⟩
    refine wpl_op rfl (Ex_leq rfl rfl (decide_eq_true (by
      have h1 := stray_le hf hz1
      have h3 := hz2.pos
      have hdz : d ≤ z2.toNat := by
        false_or_by_contra
        exact hmin z2.toNat (by omega) ⟨_, feas_of_pairs hsW hbal hgf (fun a b ha hb hl => by have := hz2.over a b (.inl ha) ha hb hl; omega)⟩
      omega))) ?_
    refine wpl_op rfl (Ex_assign (by conv => lhs; whnf)) ?_
    refine wpl_nil (hK _ _ ?_)
    clear hK K
    refine wp_ret ?_
    repeat (first | refine out_block ?_ | refine out_then ?_)
    refine ret_tmp Try.results6 ⟨rfl, (hb4.trans (hw6.mono hb4.size)).trans (hw7.mono (Nat.le_trans hb4.size hw6.size))⟩
  · skip
    refine wp_seq_k (fun KK hKK => ?_)
    refine wp_region_seq (fun K hK => ?_)
    refine wpl_op rfl (Ex_move (by conv => lhs; whnf)) ?_
    refine wpl_op rfl (Ex_eql rfl rfl (decide_eq_false (by omega))) ?_
    refine wpl_op rfl (Ex_move (by conv => lhs; whnf)) ?_
    refine wpl_opg (by exact rfl) (by exact rfl) (Ex_move (by conv => lhs; whnf)) ?_
    refine wpl_opg (by exact rfl) (by exact rfl) (Ex_gtr rfl rfl (decide_eq_false (by omega))) ?_
    refine wpl_op rfl (Ex_pick rfl (by conv => lhs; whnf)) ?_
    refine wpl_op rfl (Ex_move (by conv => lhs; whnf)) ?_
    refine wpl_opg (by exact rfl) (by exact rfl) (Ex_move (by conv => lhs; whnf)) ?_
    refine wpl_opg (by exact rfl) (by exact rfl) (Ex_len Try.underlying23 rfl) ?_
    refine wpl_opg (by exact rfl) (by exact rfl) (Ex_move (by conv => lhs; whnf)) ?_
    refine wpl_opg (by exact rfl) (by exact rfl) (Ex_neq rfl rfl (show (!decide ((n1 : Int) = k)) = true by simp; omega)) ?_
    refine wpl_op rfl (Ex_pick rfl (by conv => lhs; whnf)) ?_
    refine wpl_nil (hK _ _ ?_)
    clear hK K
    refine wp_if_true rfl ?_
    clear hKK
    refine wp_region_seq (fun K hK => ?_)
    refine wpl_op rfl (Ex_assign (by conv => lhs; whnf)) ?_
    refine wpl_nil (hK _ _ ?_)
    clear hK K
    refine wp_ret ?_
    repeat (first | refine out_block ?_ | refine out_then ?_)
    refine ret_tmp Try.results6 ⟨rfl, hb0⟩

theorem walk6 (a0 a1 : Option Addr) (n0 c0 n1 c1 : Nat) (z : Nat → Int) (h : Nat → ByteArray) (w : World) (hz : IntsAt w a0 n0 z) (hh : StrsAt w a1 n1 h) :
    Ret Try.prog 6 #[.slice a0 n0 c0, .slice a1 n1 c1] w fun v w' => v = .bool true ∧ Below w.heap.size w w' := by
  refine Ret.of_body (vs := [.slice a0 n0 c0, .slice a1 n1 c1]) Try.func6 rfl Try.ntmps6 rfl ?_
  refine wp_region_seq (fun K hK => ?_)
  refine wpl_op rfl (Ex_assign (by conv => lhs; whnf)) ?_
  refine wpl_nil (hK _ _ ?_)
  clear hK K
  refine wp_seq_k (fun KK hKK => ?_)
  refine wp_region_seq (fun K hK => ?_)
  refine wpl_op rfl (Ex_move (by conv => lhs; whnf)) ?_
  refine wpl_op rfl (Ex_move (by conv => lhs; whnf)) ?_
  refine wpl_call rfl (ExC_func ent19 rfl rfl) (bytes19_ret a0 a1 n0 c0 n1 c1 h w hh) ?_
  rintro v w' ⟨⟨b, rfl⟩, rfl⟩
  refine wpl_op rfl (Ex_not rfl rfl) ?_
  refine wpl_nil (hK _ _ ?_)
  clear hK K
  refine wp_if rfl (fun ht => ?_) (fun hf => ?_)
  · clear hKK
    refine wp_region_seq (fun K hK => ?_)
    refine wpl_op rfl (Ex_assign (by conv => lhs; whnf)) ?_
    refine wpl_nil (hK _ _ ?_)
    clear hK K
    refine wp_ret ?_
    repeat (first | refine out_block ?_ | refine out_then ?_)
    refine ret_tmp Try.results6 ⟨rfl, Below.refl _ _⟩
  refine wp_skip (hKK _ _ ?_)
  clear hKK KK
  clear hf
  refine wp_seq_k (fun KK hKK => ?_)
  refine wp_region_seq (fun K hK => ?_)
  refine wpl_op rfl (Ex_move (by conv => lhs; whnf)) ?_
  refine wpl_call rfl (ExC_func ent9 rfl rfl) (addInts_ret a0 n0 c0 w) ?_
  rintro v w' ⟨⟨m, rfl, hm, hm2⟩, rfl⟩
  refine wpl_op rfl (Ex_move (by conv => lhs; whnf)) ?_
  refine wpl_call rfl (ExC_func ent8 rfl rfl) (addStrings_ret m hm a1 n1 c1 h w hh) ?_
  rintro v w' ⟨⟨y, rfl, hy⟩, rfl⟩
  refine wpl_op rfl (Ex_gtr rfl rfl rfl) ?_
  refine wpl_nil (hK _ _ ?_)
  clear hK K
  refine wp_if rfl (fun ht => ?_) (fun hf => ?_)
  · clear hKK
    refine wp_region_seq (fun K hK => ?_)
    refine wpl_op rfl (Ex_assign (by conv => lhs; whnf)) ?_
    refine wpl_nil (hK _ _ ?_)
    clear hK K
    refine wp_ret ?_
    repeat (first | refine out_block ?_ | refine out_then ?_)
    refine ret_tmp Try.results6 ⟨rfl, Below.refl _ _⟩
  refine wp_skip (hKK _ _ ?_)
  clear hKK KK
  obtain ⟨hmm, hn1⟩ := hy (by have := of_decide_eq_false hf; omega)
  have hn0 := hm2 hmm
  clear hf hy hm2 hm hmm
  refine wp_seq_k (fun K1 hK1 => ?_)
  have hA : ∀ uu ll a c w1, Below w.heap.size w w1 → IntsAt w1 a n0 z → StrsAt w1 a1 n1 h → Agree uu ll [(0, .slice a n0 c), (1, .slice a1 n1 c1)] → K1 (fr 111 uu ll) w1 := by
    intro uu ll a c w1 hb1 hz1 hh1 hag
    refine hK1 _ _ ?_
    rw [fr_norm _ hag]
    clear hK1 hag
    refine wp_seq_k (fun K2 hK2 => ?_)
    have hB : ∀ uu ll b d w2, Below w.heap.size w w2 → IntsAt w2 a n0 z → StrsAt w2 b n1 h → Agree uu ll [(0, .slice a n0 c), (1, .slice b n1 d)] → K2 (fr 111 uu ll) w2 := by
      intro uu ll b d w2 hb2 hz2 hh2 hag
      refine hK2 _ _ ?_
      rw [fr_norm _ hag]
      exact rest6 a b n0 c n1 d z h w w2 hb2 hz2 hh2 _
    cases a1 with
    | none =>
      refine wp_region_seq (fun K hK => ?_)
      refine wpl_op rfl (Ex_move (by conv => lhs; whnf)) ?_
      refine wpl_op rfl (Ex_neqnil Try.underlying23 rfl rfl rfl) ?_
      refine wpl_nil (hK _ _ ?_)
      clear hK K
      refine wp_if_false rfl ?_
      refine wp_skip ?_
      exact hB _ _ none c1 w1 hb1 hz1 hh1 ⟨rfl, rfl, trivial⟩
    | some ad =>
      refine wp_region_seq (fun K hK => ?_)
      refine wpl_op rfl (Ex_move (by conv => lhs; whnf)) ?_
      refine wpl_op rfl (Ex_neqnil Try.underlying23 rfl rfl rfl) ?_
      refine wpl_nil (hK _ _ ?_)
      clear hK K
      refine wp_if_true rfl ?_
      refine wp_region_seq (fun K hK => ?_)
      refine wpl_op rfl (Ex_move (by conv => lhs; whnf)) ?_
      refine wpl_op rfl (Ex_len Try.underlying23 rfl) ?_
      refine wpl_op rfl (Ex_mk Try.underlying23 info9 rfl rfl (by omega) (by omega)) ?_
      refine wpl_op rfl (Ex_assign (by conv => lhs; whnf)) ?_
      refine wpl_nil (hK _ _ ?_)
      clear hK K
      have hbA : Below w.heap.size w (w1.alloc (.cells (madeCells (Value.string ByteArray.empty).cells (n1 * 1)) 9)) := hb1.alloc hb1.size _
      have hnA : Below w1.heap.size w1 (w1.alloc (.cells (madeCells (Value.string ByteArray.empty).cells (n1 * 1)) 9)) := (Below.refl _ _).alloc (Nat.le_refl _) _
      have hownA : Own (w1.alloc (.cells (madeCells (Value.string ByteArray.empty).cells (n1 * 1)) 9)) w1.heap.size 9 n1 0 (fun _ => .string ByteArray.empty) := by rw [Nat.mul_one]; exact Own.made w1 _ _ _ _
      refine wp_region_seq (fun K hK => ?_)
      refine wpl_op rfl (Ex_move (by conv => lhs; whnf)) ?_
      refine wpl_op rfl (Ex_move (by conv => lhs; whnf)) ?_
      refine wpl_exop rfl (copy_s (w0 := w1) Try.underlying23 isz9 rfl rfl hownA (hh1.below hnA) hnA (Nat.le_refl _)) ?_
      rintro v w2 ⟨hown2, hb2⟩
      refine wpl_nil (hK _ _ ?_)
      clear hK K
      refine wp_region_last ?_
      refine wpl_op rfl (Ex_move (by conv => lhs; whnf)) ?_
      refine wpl_op rfl (Ex_assign (by conv => lhs; whnf)) ?_
      refine wpl_nil ?_
      exact hB _ _ _ _ w2 (hb1.trans (hb2.mono hb1.size)) (hz1.below hb2) (StrsAt.of_own hown2) ⟨rfl, rfl, trivial⟩
  cases a0 with
  | none =>
    refine wp_region_seq (fun K hK => ?_)
    refine wpl_op rfl (Ex_move (by conv => lhs; whnf)) ?_
    refine wpl_op rfl (Ex_neqnil Try.underlying22 rfl rfl rfl) ?_
    refine wpl_nil (hK _ _ ?_)
    clear hK K
    refine wp_if_false rfl ?_
    refine wp_skip ?_
    exact hA _ _ none c0 w (Below.refl _ _) hz hh ⟨rfl, rfl, trivial⟩
  | some ad =>
    refine wp_region_seq (fun K hK => ?_)
    refine wpl_op rfl (Ex_move (by conv => lhs; whnf)) ?_
    refine wpl_op rfl (Ex_neqnil Try.underlying22 rfl rfl rfl) ?_
    refine wpl_nil (hK _ _ ?_)
    clear hK K
    refine wp_if_true rfl ?_
    refine wp_region_seq (fun K hK => ?_)
    refine wpl_op rfl (Ex_move (by conv => lhs; whnf)) ?_
    refine wpl_op rfl (Ex_len Try.underlying22 rfl) ?_
    refine wpl_op rfl (Ex_mk Try.underlying22 info3 rfl rfl (by omega) (by omega)) ?_
    refine wpl_op rfl (Ex_assign (by conv => lhs; whnf)) ?_
    refine wpl_nil (hK _ _ ?_)
    clear hK K
    have hbA : Below w.heap.size w (w.alloc (.cells (madeCells (Value.int .i64 0).cells (n0 * 1)) 3)) := (Below.refl _ _).alloc (Nat.le_refl _) _
    have hownA : Own (w.alloc (.cells (madeCells (Value.int .i64 0).cells (n0 * 1)) 3)) w.heap.size 3 n0 0 (fun _ => .int .i64 0) := by rw [Nat.mul_one]; exact Own.made w _ _ _ _
    refine wp_region_seq (fun K hK => ?_)
    refine wpl_op rfl (Ex_move (by conv => lhs; whnf)) ?_
    refine wpl_op rfl (Ex_move (by conv => lhs; whnf)) ?_
    refine wpl_exop rfl (copy_i Try.underlying22 isz3 rfl rfl hownA (hz.below hbA) hbA (Nat.le_refl _)) ?_
    rintro v w2 ⟨hown2, hb2⟩
    refine wpl_nil (hK _ _ ?_)
    clear hK K
    refine wp_region_last ?_
    refine wpl_op rfl (Ex_move (by conv => lhs; whnf)) ?_
    refine wpl_op rfl (Ex_assign (by conv => lhs; whnf)) ?_
    refine wpl_nil ?_
    exact hA _ _ _ _ w2 hb2 (IntsAt.of_own hown2) (hh.below hb2) ⟨rfl, rfl, trivial⟩
end Go.Proofs.Qxb6613837a.Sp
