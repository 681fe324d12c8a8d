import Derived.Test.Qxb6613837aTc
namespace Go.Proofs.Qxb6613837a.Sp
open Go.Fr Go.RowKit Go.Sp

/-- What transport answers. -/
def TRes (I : Inst) (w0 : World) (v : Value) (w' : World) : Prop :=
  Below w0.heap.size w0 w' ∧
    ((v = .slice none 0 0 ∧ ((∃ i j, i < I.k ∧ j < I.k ∧ I.lnk i j = true ∧ I.hi i j < I.lo i j) ∨ ∃ R, ¬ Hoff I.bs (2 * I.k + 4) R)) ∨
     (∃ gX xb x, v = sl gX I.k ∧ Sq w' I.k gX xb x I.k ∧ w0.heap.size ≤ gX ∧ (∀ q, q < I.k → gX < xb q) ∧ (∀ p q, p < q → q < I.k → xb p < xb q) ∧ I.Feas x))
theorem exs_pos {o u : Nat} {ex : Nat → Int} {n : Nat} (h : 0 < ex n) : exs o u ex (n + 1) = exs o u ex n ++ [⟨o, n, ex n⟩] := by simp [exs, h]
theorem exs_neg {o u : Nat} {ex : Nat → Int} {n : Nat} (h : ex n < 0) : exs o u ex (n + 1) = exs o u ex n ++ [⟨n, u, -ex n⟩] := by simp [exs, h, show ¬ 0 < ex n by omega]
theorem exs_zero {o u : Nat} {ex : Nat → Int} {n : Nat} (h1 : ¬ 0 < ex n) (h2 : ¬ ex n < 0) : exs o u ex (n + 1) = exs o u ex n := by simp [exs, h1, h2]
theorem exs_le {o u : Nat} {ex : Nat → Int} {C : Int} (h : ∀ v, -C ≤ ex v ∧ ex v ≤ C) : ∀ (n : Nat) (x : Arc), x ∈ exs o u ex n → x.c ≤ C
  | 0, x, hx => by cases hx
  | n + 1, x, hx => by
    rcases List.mem_append.1 hx with hx | hx
    · exact exs_le h n x hx
    · have hn := h n
      by_cases hp : 0 < ex n
      · rw [if_pos hp] at hx
        obtain rfl : x = ⟨o, n, ex n⟩ := by simpa using hx
        exact hn.2
      · rw [if_neg hp] at hx
        by_cases hq : ex n < 0
        · rw [if_pos hq] at hx
          obtain rfl : x = ⟨n, u, -ex n⟩ := by simpa using hx
          show -ex n ≤ C; omega
        · rw [if_neg hq] at hx; cases hx
theorem need_pos {ex : Nat → Int} {n : Nat} (h : 0 < ex n) : need ex (n + 1) = need ex n + ex n := by show sm _ n + (if 0 < ex n then ex n else 0) = _; rw [if_pos h]; rfl
theorem need_not {ex : Nat → Int} {n : Nat} (h : ¬ 0 < ex n) : need ex (n + 1) = need ex n := by show sm _ n + (if 0 < ex n then ex n else 0) = _; rw [if_neg h]; show need ex n + 0 = _; omega
theorem need_bound {ex : Nat → Int} {C : Int} (hC : 0 ≤ C) (h : ∀ v, ex v ≤ C) (n : Nat) : 0 ≤ need ex n ∧ need ex n ≤ C * n := by
  constructor
  · exact sm_nonneg (fun v _ => by split <;> omega)
  · rw [← sm_const]; exact sm_le (fun v _ => by have := h v; split <;> omega)


theorem rest3 (I : Inst) (hI : I.Fine) (hok : ∀ i j, i < I.k → j < I.k → I.lnk i j = true → I.lo i j ≤ I.hi i j) (B bx bg gx g go gE gL : Nat) (tE tL : Nat → Nat) (rv : Nat → Value) (w0 w : World) (hb0 : Below w0.heap.size w0 w)
    (hW : w0.heap.size ≤ B ∧ w0.heap.size ≤ g ∧ w0.heap.size ≤ go) (htr : Tr w B bx bg gx g go (2 * I.k + 4) rv (I.bs.map BArc.arc) (exOf I.bs)) (htab : Tabs w (2 * I.k + 4) B I.k gE gL tE tL rv (eixv I) (lowv I) I.k) (hEg : gE ∉ [g, go]) (hLg : gL ∉ [g, go]) (u : Nat → Value) :
    Code.wp Try.prog (codeAt [1, 1, 1, 1, 1, 1, 1, 1, 1, 1, 1, 1] (Try.f26.body.getD .skip)) (post Try.prog Try.f26 (TRes I w0)) (fr 230 u [(7, .int .i64 (I.k : Int)), (10, .int .i64 ((2 * I.k + 2 : Nat) : Int)), (11, .int .i64 ((2 * I.k + 3 : Nat) : Int)), (12, .pointer (some ⟨bg, 0, none⟩)), (13, .pointer (some ⟨bx, 0, none⟩)), (16, sl gE I.k), (17, sl gL I.k)]) w := by
  conv => arg 2; whnf
  have hkb := hI.kb
  have hbl := I.bs_len hI
  have hexb : ∀ v, -1000000000000 ≤ exOf I.bs v ∧ exOf I.bs v ≤ 1000000000000 := fun v => by
    have := ex_bound (fun x hx => I.bs_lo hI x hx) v
    omega
  have hlB : ∀ b, b ∈ [g, go] → b < B := fun b hb => by
    simp at hb
    rcases hb with rfl | rfl
    · exact htr.bld.gB
    · exact htr.bld.goB
  have hlW : ∀ b, b ∈ [g, go] → w0.heap.size ≤ b := fun b hb => by simp at hb; omega
  refine wp_region_seq (fun K hK => ?_)
  refine wpl_op rfl (Ex_assign (by conv => lhs; whnf)) ?_
  refine wpl_nil (hK _ _ ?_)
  clear hK K
  refine wp_seq_k (fun K1 hK1 => ?_)
  refine wp_region_seq (fun K hK => ?_)
  refine wpl_op rfl (Ex_load one22 rfl htr.xb) ?_
  refine wpl_op rfl (Ex_len Try.underlying22 rfl) ?_
  refine wpl_op rfl (Ex_move (by conv => lhs; whnf)) ?_
  refine wpl_nil (hK _ _ ?_)
  clear hK K
  refine wp_block ?_
  refine wp_loop_st (fun q : Nat × (Nat → Value) => [(7, .int .i64 (I.k : Int)), (10, .int .i64 ((2 * I.k + 2 : Nat) : Int)), (11, .int .i64 ((2 * I.k + 3 : Nat) : Int)), (12, .pointer (some ⟨bg, 0, none⟩)), (13, .pointer (some ⟨bx, 0, none⟩)), (16, sl gE I.k), (17, sl gL I.k), (153, .slice (some ⟨gx, 0, none⟩) (2 * I.k + 4) (2 * I.k + 4)), (154, .int .i64 ((2 * I.k + 4 : Nat) : Int)), (23, .int .i64 (need (exOf I.bs) q.1)), (155, .int .i64 (q.1 : Int))])
    (fun q w' => q.1 ≤ 2 * I.k + 4 ∧ Below w0.heap.size w0 w' ∧ Tr w' B bx bg gx g go (2 * I.k + 4) q.2 (I.bs.map BArc.arc ++ exs (2 * I.k + 2) (2 * I.k + 3) (exOf I.bs) q.1) (exOf I.bs) ∧ Tabs w' (2 * I.k + 4) B I.k gE gL tE tL q.2 (eixv I) (lowv I) I.k)
    (fun q => 2 * I.k + 4 - q.1) (0, rv) ⟨rfl, rfl, rfl, rfl, rfl, rfl, rfl, rfl, rfl, rfl, rfl, trivial⟩ ⟨Nat.zero_le _, hb0, by simpa [exs] using htr, htab⟩ ?_
  clear hb0 htr htab
  rintro ⟨v, rv1⟩ uu w1 ⟨hv, hb0, htr, htab⟩ R hR
  dsimp only at hv hb0 htr htab
  have hnb := need_bound (C := 1000000000000) (by omega) (fun q => (hexb q).2) v
  have hxl := exs_len (2 * I.k + 2) (2 * I.k + 3) (exOf I.bs) v
  have hel : (I.bs.map BArc.arc ++ exs (2 * I.k + 2) (2 * I.k + 3) (exOf I.bs) v).length ≤ 80000 := by rw [List.length_append, List.length_map]; omega
  by_cases hlt : v < 2 * I.k + 4
  · have hev := hexb v
    refine wp_region_seq (fun K hK => ?_)
    refine wpl_op rfl (Ex_lss rfl rfl (decide_eq_true (by dsimp only; omega))) ?_
    refine wpl_nil (hK _ _ ?_)
    clear hK K
    refine wp_seq_k (fun K' hK' => ?_)
    refine wp_if_true rfl ?_
    refine wp_skip (hK' _ _ ?_)
    clear hK' K'
    refine wp_seq_k (fun K' hK' => ?_)
    refine wp_block ?_
    refine wp_region_seq (fun K hK => ?_)
    refine wpl_op rfl (Ex_move (by conv => lhs; whnf)) ?_
    refine wpl_op rfl (Ex_index1 Try.underlying22 size_22 rfl rfl hlt) ?_
    refine wpl_op rfl (Ex_load one3 rfl (htr.ex.c0 hlt)) ?_
    refine wpl_op rfl (Ex_assign (by conv => lhs; whnf)) ?_
    refine wpl_op rfl (Ex_assign (by conv => lhs; whnf)) ?_
    refine wpl_nil (hK _ _ ?_)
    clear hK K
    refine wp_block ?_
    by_cases hp : 0 < exOf I.bs v
    · skip
      refine wp_region_seq (fun K hK => ?_)
      refine wpl_op rfl (Ex_move (by conv => lhs; whnf)) ?_
      refine wpl_op rfl (Ex_gtr rfl rfl (decide_eq_true hp)) ?_
      refine wpl_op rfl (Ex_assign (by conv => lhs; whnf)) ?_
      refine wpl_nil (hK _ _ ?_)
      clear hK K
      refine wp_if_true rfl ?_
      refine wp_region_seq (fun K hK => ?_)
      refine wpl_op rfl (Ex_load one48 rfl htr.gb) ?_
      refine wpl_op rfl (Ex_move (by conv => lhs; whnf)) ?_
      refine wpl_op rfl (Ex_move (by conv => lhs; whnf)) ?_
      refine wpl_op rfl (Ex_move (by conv => lhs; whnf)) ?_
      refine wpl_call rfl (ExC_func ent36 rfl rfl) (add_ret B g go (2 * I.k + 4) rv1 _ ⟨2 * I.k + 2, v, exOf I.bs v⟩ (by show 2 * I.k + 2 < _; omega) hlt (by omega) _ htr.bld) ?_
      rintro r w2 ⟨rfl, rv2, hbld, hkept⟩
      refine wpl_nil (hK _ _ ?_)
      clear hK K
      rw [List.append_assoc, ← exs_pos hp] at hbld
      refine wp_region_last ?_
      refine wpl_op rfl (Ex_move (by conv => lhs; whnf)) ?_
      refine wpl_op rfl (Ex_move (by conv => lhs; whnf)) ?_
      refine wpl_op rfl (Ex_add rfl rfl (by dsimp only; omega) (by dsimp only; omega)) ?_
      refine wpl_op rfl (Ex_assign (by conv => lhs; whnf)) ?_
      refine wpl_nil ?_
      refine hK' _ _ ?_
      refine wp_region_last ?_
      refine wpl_op rfl (Ex_inc rfl rfl (by dsimp only; omega)) ?_
      refine wpl_op rfl (Ex_move (by conv => lhs; whnf)) ?_
      refine wpl_nil ?_
      exact hR _ _ _ (v + 1, rv2) ⟨rfl, rfl, rfl, rfl, rfl, rfl, rfl, rfl, rfl, (congrArg (Value.int .i64) (need_pos hp)).symm, rfl, trivial⟩ ⟨hlt, hb0.trans (hkept.below htr.bld.fam hW.1 hlW), htr.added hbld hkept, htab.kept hkept htr.bld.fam hEg hLg hlB⟩ (by dsimp only; omega)
    by_cases hq : exOf I.bs v < 0
    · skip
      refine wp_region_seq (fun K hK => ?_)
      refine wpl_op rfl (Ex_move (by conv => lhs; whnf)) ?_
      refine wpl_op rfl (Ex_gtr rfl rfl (decide_eq_false hp)) ?_
      refine wpl_op rfl (Ex_assign (by conv => lhs; whnf)) ?_
      refine wpl_nil (hK _ _ ?_)
      clear hK K
      refine wp_if_false rfl ?_
      refine wp_region_seq (fun K hK => ?_)
      refine wpl_op rfl (Ex_move (by conv => lhs; whnf)) ?_
      refine wpl_op rfl (Ex_lss rfl rfl (decide_eq_true hq)) ?_
      refine wpl_op rfl (Ex_assign (by conv => lhs; whnf)) ?_
      refine wpl_nil (hK _ _ ?_)
      clear hK K
      refine wp_if_true rfl ?_
      refine wp_region_last ?_
      refine wpl_op rfl (Ex_load one48 rfl htr.gb) ?_
      refine wpl_op rfl (Ex_move (by conv => lhs; whnf)) ?_
      refine wpl_op rfl (Ex_move (by conv => lhs; whnf)) ?_
      refine wpl_op rfl (Ex_move (by conv => lhs; whnf)) ?_
      refine wpl_op rfl (Ex_neg rfl (by dsimp only; omega) (by dsimp only; omega)) ?_
      refine wpl_call rfl (ExC_func ent36 rfl rfl) (add_ret B g go (2 * I.k + 4) rv1 _ ⟨v, 2 * I.k + 3, -exOf I.bs v⟩ hlt (by show 2 * I.k + 3 < _; omega) (by omega) _ htr.bld) ?_
      rintro r w2 ⟨rfl, rv2, hbld, hkept⟩
      refine wpl_nil ?_
      rw [List.append_assoc, ← exs_neg hq] at hbld
      refine hK' _ _ ?_
      refine wp_region_last ?_
      refine wpl_op rfl (Ex_inc rfl rfl (by dsimp only; omega)) ?_
      refine wpl_op rfl (Ex_move (by conv => lhs; whnf)) ?_
      refine wpl_nil ?_
      exact hR _ _ _ (v + 1, rv2) ⟨rfl, rfl, rfl, rfl, rfl, rfl, rfl, rfl, rfl, (congrArg (Value.int .i64) (need_not hp)).symm, rfl, trivial⟩ ⟨hlt, hb0.trans (hkept.below htr.bld.fam hW.1 hlW), htr.added hbld hkept, htab.kept hkept htr.bld.fam hEg hLg hlB⟩ (by dsimp only; omega)
    · skip
      refine wp_region_seq (fun K hK => ?_)
      refine wpl_op rfl (Ex_move (by conv => lhs; whnf)) ?_
      refine wpl_op rfl (Ex_gtr rfl rfl (decide_eq_false hp)) ?_
      refine wpl_op rfl (Ex_assign (by conv => lhs; whnf)) ?_
      refine wpl_nil (hK _ _ ?_)
      clear hK K
      refine wp_if_false rfl ?_
      refine wp_region_seq (fun K hK => ?_)
      refine wpl_op rfl (Ex_move (by conv => lhs; whnf)) ?_
      refine wpl_op rfl (Ex_lss rfl rfl (decide_eq_false hq)) ?_
      refine wpl_op rfl (Ex_assign (by conv => lhs; whnf)) ?_
      refine wpl_nil (hK _ _ ?_)
      clear hK K
      refine wp_if_false rfl ?_
      refine wp_skip ?_
      refine hK' _ _ ?_
      refine wp_region_last ?_
      refine wpl_op rfl (Ex_inc rfl rfl (by dsimp only; omega)) ?_
      refine wpl_op rfl (Ex_move (by conv => lhs; whnf)) ?_
      refine wpl_nil ?_
      exact hR _ _ _ (v + 1, rv1) ⟨rfl, rfl, rfl, rfl, rfl, rfl, rfl, rfl, rfl, (congrArg (Value.int .i64) (need_not hp)).symm, rfl, trivial⟩ ⟨hlt, hb0, by rw [exs_zero hp hq]; exact htr, htab⟩ (by dsimp only; omega)
  · have hve : v = 2 * I.k + 4 := by omega
    subst hve
    refine wp_region_seq (fun K hK => ?_)
    refine wpl_op rfl (Ex_lss rfl rfl (decide_eq_false (by dsimp only; omega))) ?_
    refine wpl_nil (hK _ _ ?_)
    clear hK K
    refine wp_seq_k (fun K' hK' => ?_)
    refine wp_if_false rfl ?_
    refine wp_exit ?_
    refine hK1 _ _ ?_
    clear hK1 hR
    generalize hes : I.bs.map BArc.arc ++ exs (2 * I.k + 2) (2 * I.k + 3) (exOf I.bs) (2 * I.k + 4) = es at *
    have hbsV : ∀ x ∈ I.bs, x.a < 2 * I.k + 4 ∧ x.b < 2 * I.k + 4 := fun x hx => by have := I.bs_lt x hx; omega
    have hmem : ∀ x ∈ es, (x.a < 2 * I.k + 4 ∧ x.b < 2 * I.k + 4) ∧ 0 ≤ x.c ∧ x.c ≤ 1000000000000 := by
      intro x hx
      rw [← hes] at hx
      rcases List.mem_append.1 hx with hx | hx
      · obtain ⟨y, hy, rfl⟩ := List.mem_map.1 hx
        have := I.bs_cap hI hok y hy
        exact ⟨hbsV y hy, by show 0 ≤ y.hi - y.lo; omega, by show y.hi - y.lo ≤ _; omega⟩
      · have h1 := exs_mem _ _ _ _ _ hx
        have h2 := exs_le (fun q => ⟨by have := (hexb q).1; omega, (hexb q).2⟩) _ x hx
        exact ⟨by rcases h1.2 with ⟨a, b⟩ | ⟨a, b⟩ <;> omega, h1.1, h2⟩
    have hne : es ≠ [] := by
      rw [← hes]
      unfold Inst.bs
      simp
    have hlen : es.length ≤ 80000 := hel
    have hwf := grOf_wf (V := 2 * I.k + 4) (es := es) (by omega) (by omega) (fun x hx => (hmem x hx).1)
    have hSb := S0_bound (V := 2 * I.k + 4) (es := es) (C := 1000000000000) (fun x hx => (hmem x hx).2) (2 * I.k + 2)
    obtain ⟨L, hLG, hLg', hnet, hown⟩ := htr.bld.net hne
    have hokk := ok0 (V := 2 * I.k + 4) (es := es) (fun x hx => (hmem x hx).2.1)
    have hcc : ∀ e, e < (grOf (2 * I.k + 4) es).M → cOf es e ≤ 1000000000000 := by
      intro e he
      obtain ⟨i, x, hx, hi⟩ := edge_of (es := es) he
      have := (hmem x (List.mem_of_getElem? hx)).2.2
      obtain ⟨c1, c2⟩ := c_even hx
      rcases hi with rfl | rfl
      · rw [c1]; exact this
      · rw [c2]; exact this
    have hMp : 0 < L.G.M := by rw [hLG]; show 0 < 2 * es.length; have := List.length_pos_iff.2 hne; omega
    have hgrB : B ≤ L.gr := ((htr.bld.fam.own _ (by omega)).lt _ hown).1
    have hgb := htr.gb
    rw [← hLg'] at hgb
    refine wp_seq_k (fun KK hKK => ?_)
    refine wp_region_seq (fun K hK => ?_)
    refine wpl_op rfl (Ex_load one48 rfl hgb) ?_
    refine wpl_op rfl (Ex_move (by conv => lhs; whnf)) ?_
    refine wpl_op rfl (Ex_move (by conv => lhs; whnf)) ?_
    refine wpl_call rfl (ExC_func ent37 rfl rfl) (maxFlow_ret L (by rw [hLG]; exact hwf) (2 * I.k + 2) (2 * I.k + 3) (cOf es) (r0Of es) (by rw [hLG]; show 2 * I.k + 2 < 2 * I.k + 4; omega) (by rw [hLG]; show 2 * I.k + 3 < 2 * I.k + 4; omega) (by omega) hMp (by rw [hLG]; exact hcc) (by rw [hLG]; omega) (by rw [hLG]; exact hokk) _ hnet) ?_
    rintro v2 w2 ⟨F, r, lv, rfl, hF0, hnet2, hkeep2, hflow, hbfs, hlvt⟩
    rw [hLG] at hflow hbfs
    have hb2 : Below w0.heap.size w0 w2 := hb0.trans (hkeep2.below hb0.size (fun k hk => by rw [show k = L.gr by simpa using hk]; omega))
    by_cases hFn : F < need (exOf I.bs) (2 * I.k + 4)
    · skip
      refine wpl_op rfl (Ex_move (by conv => lhs; whnf)) ?_
      refine wpl_op rfl (Ex_lss rfl rfl (decide_eq_true hFn)) ?_
      refine wpl_nil (hK _ _ ?_)
      clear hK K
      refine wp_if_true rfl ?_
      clear hKK
      refine wp_region_seq (fun K hK => ?_)
      refine wpl_op rfl (Ex_assign (by conv => lhs; whnf)) ?_
      refine wpl_nil (hK _ _ ?_)
      clear hK K
      refine wp_ret ?_
      repeat (first | refine out_block ?_ | refine out_then ?_)
      refine ret_tmp Try.results26 ⟨hb2, .inl ⟨rfl, .inr ⟨_, hoff_of_cut (o := 2 * I.k + 2) (u := 2 * I.k + 3) hbsV (by omega) (by omega) (by rw [hes]; exact hwf) (by rw [hes]; exact hflow) (by rw [hes]; exact hbfs) hlvt hFn⟩⟩⟩
    · skip
      refine wpl_op rfl (Ex_move (by conv => lhs; whnf)) ?_
      refine wpl_op rfl (Ex_lss rfl rfl (decide_eq_false hFn)) ?_
      refine wpl_nil (hK _ _ ?_)
      clear hK K
      refine wp_if_false rfl ?_
      refine wp_skip (hKK _ _ ?_)
      clear hKK KK
      have hoff : ∀ q, 2 * I.k + 2 ≤ q → ∀ x ∈ I.bs, x.a ≠ q ∧ x.b ≠ q := fun q hq x hx => by have := I.bs_lt x hx; omega
      obtain ⟨hcirc, hfl⟩ := circ_of_flow hbsV (hoff (2 * I.k + 2) (by omega)) (hoff (2 * I.k + 3) (by omega)) (by omega) (by rw [hes]; exact hflow) (by omega)
      have hfeas := I.feas_of_circ (fun i => (match I.bs[i]? with | some x => x.lo | none => 0) + fl r i) (fun i x hx => by
        have := hfl i x hx
        rw [hx]; dsimp only; omega) (fun v hv => by
        rw [← hcirc v (by omega) (by omega) (by omega)]
        refine lsm_congr (fun j x hx => ?_)
        rw [Nat.zero_add, hx])
      have hshare : ∀ i j, i < I.k → j < I.k → (if I.lnk i j then (match I.bs[I.pos i j]? with | some x => x.lo | none => 0) + fl r (I.pos i j) else 0) = share I r i j := fun i j hi hj => by
        unfold share
        by_cases hl : I.lnk i j = true
        · rw [if_pos hl, if_pos hl, I.pos_get hi hj hl]; rfl
        · rw [if_neg hl, if_neg hl]
      have hfeas2 : I.Feas (share I r) := by
        refine ⟨fun i j hi hj hl => ?_, fun i j hi hj hl => ?_, fun i hi => ?_, fun j hj => ?_⟩
        · rw [← hshare i j hi hj]; exact hfeas.link i j hi hj hl
        · rw [← hshare i j hi hj]; exact hfeas.none i j hi hj hl
        · rw [← hfeas.row i hi]; exact sm_congr (fun j hj => (hshare i j hi hj).symm)
        · have := hfeas.col j hj
          rw [sm_congr (fun i hi => hshare i j hi hj)] at this
          exact this
      have hbne : ∀ b, b < B → b ∉ [L.gr] := fun b hb hm => Nat.lt_irrefl b (by rw [show b = L.gr by simpa using hm] at hb ⊢; omega)
      have hgbc := hkeep2.cell hgb (hbne bg htr.gB)
      have hE2 : Sq w2 I.k gE tE (eixv I) I.k := ⟨htab.e.top.keep hkeep2 (hbne _ htab.eB), fun q hq => (htab.e.row q hq).keep hkeep2 (fun hm => (htab.eo q hq).2 (2 * I.k + 4 + 1) (by omega) (by rw [hown, show tE q = L.gr by simpa using hm]))⟩
      have hL2 : Sq w2 I.k gL tL (lowv I) I.k := ⟨htab.l.top.keep hkeep2 (hbne _ htab.lB), fun q hq => (htab.l.row q hq).keep hkeep2 (fun hm => (htab.lo q hq).2 (2 * I.k + 4 + 1) (by omega) (by rw [hown, show tL q = L.gr by simpa using hm]))⟩
      have hpos : ∀ i j, i < I.k → j < I.k → I.lnk i j = true → 2 * I.pos i j + 1 < L.G.M ∧ 0 ≤ r (2 * I.pos i j + 1) ∧ r (2 * I.pos i j + 1) ≤ 1000000000 := fun i j hi hj hl => by
        have h1 := I.pos_get hi hj hl
        have h2 := (List.getElem?_eq_some_iff.1 h1).1
        have h3 := hfl _ _ h1
        have h4 := hI.l0 i j hi hj hl
        have h5 : I.bs.length ≤ es.length := by rw [← hes, List.length_append, List.length_map]; omega
        unfold fl at h3
        dsimp only at h3
        rw [hLG]
        refine ⟨by show 2 * I.pos i j + 1 < 2 * es.length; omega, h3.1, by omega⟩
      refine wp_norm [(7, .int .i64 (I.k : Int)), (12, .pointer (some ⟨bg, 0, none⟩)), (16, sl gE I.k), (17, sl gL I.k)] ⟨rfl, rfl, rfl, rfl, trivial⟩ (fun u => ?_)
      exact rest4 I hI L (by rw [hLG]; exact hwf.big) r bg gE gL tE tL w0 w2 hb2 hnet2 hgbc hE2 hL2 hpos (TRes I w0) (fun gX xb w' h1 h2 h3 h4 h5 => ⟨h5, .inr ⟨gX, xb, share I r, rfl, h1, h2, h3, h4, hfeas2⟩⟩) u
end Go.Proofs.Qxb6613837a.Sp
