import Derived.Test.Qxb6613837aTe
namespace Go.Proofs.Qxb6613837a.Sp
open Go.Fr Go.RowKit Go.Sp

theorem agg41 : Agg Try.prog 41 2 := ⟨fun w => by simp [go_sem], fun w => by simp [go_sem]⟩
theorem ex_set (bs : List BArc) (u v : Nat) (lo hi : Int) : set1 (set1 (exOf bs) u (exOf bs u - lo)) v (set1 (exOf bs) u (exOf bs u - lo) v + lo) = exOf (bs ++ [⟨u, v, lo, hi⟩]) := by
  funext x
  rw [exOf_snoc]
  unfold set1 ind
  by_cases h1 : x = v
  · subst h1
    by_cases h2 : x = u
    · subst h2; simp
    · simp [h2, Ne.symm h2]
  · by_cases h2 : x = u
    · subst h2; simp [h1, Ne.symm h1]; omega
    · simp [h1, h2, Ne.symm h1, Ne.symm h2]
theorem Tr.step {w : World} {B bx bg gx g go V : Nat} {rv : Nat → Value} {bs : List BArc} {u v : Nat} {lo hi : Int} (h : Tr w B bx bg gx g go V rv (bs.map BArc.arc ++ [⟨u, v, hi - lo⟩]) (set1 (set1 (exOf bs) u (exOf bs u - lo)) v (set1 (exOf bs) u (exOf bs u - lo) v + lo))) :
    Tr w B bx bg gx g go V rv ((bs ++ [(⟨u, v, lo, hi⟩ : BArc)]).map BArc.arc) (exOf (bs ++ [⟨u, v, lo, hi⟩])) := by
  rw [ex_set bs u v lo hi] at h
  rw [List.map_append]
  exact h
theorem ex_small {bs : List BArc} (h : ∀ x ∈ bs, 0 ≤ x.lo ∧ x.lo ≤ 1000000) (hl : bs.length ≤ 100000) : ∀ i, -1000000000000 ≤ exOf bs i ∧ exOf bs i ≤ 1000000000000 := fun i => by
  have := ex_bound h i
  omega
def clo (bx bg : Nat) : Value := .func (.func 35) #[] #[.pointer (some ⟨bx, 0, none⟩), .pointer (some ⟨bg, 0, none⟩)]


theorem rest2 (I : Inst) (hI : I.Fine) (hok : ∀ i j, i < I.k → j < I.k → I.lnk i j = true → I.lo i j ≤ I.hi i j) (B ib bx bg gx g go gE gL : Nat) (tE tL : Nat → Nat) (rv : Nat → Value) (w0 w : World) (hb0 : Below w0.heap.size w0 w)
    (hW : w0.heap.size ≤ B ∧ w0.heap.size ≤ g ∧ w0.heap.size ≤ go ∧ w0.heap.size ≤ gx) (htr : Tr w B bx bg gx g go (2 * I.k + 4) rv ((I.blks I.k).map BArc.arc) (exOf (I.blks I.k))) (htab : Tabs w (2 * I.k + 4) B I.k gE gL tE tL rv (eixv I) (lowv I) I.k)
    (hEg : gE ∉ [g, go, gx]) (hLg : gL ∉ [g, go, gx]) (hi0 : w.cell? ⟨ib, 0, none⟩ = some (.int .i64 I.ilo)) (hi1 : w.cell? ⟨ib, 1, none⟩ = some (.int .i64 I.ihi)) (hib : ib < B) (hibn : ib ∉ [g, go, gx]) (u : Nat → Value) :
    Code.wp Try.prog (codeAt [1, 1, 1, 1, 1, 1, 1, 1, 1, 1] (Try.f26.body.getD .skip)) (post Try.prog Try.f26 (TRes I w0)) (fr 230 u [(4, .pointer (some ⟨ib, 0, none⟩)), (7, .int .i64 (I.k : Int)), (8, .int .i64 ((2 * I.k : Nat) : Int)), (9, .int .i64 ((2 * I.k + 1 : Nat) : Int)), (10, .int .i64 ((2 * I.k + 2 : Nat) : Int)), (11, .int .i64 ((2 * I.k + 3 : Nat) : Int)), (12, .pointer (some ⟨bg, 0, none⟩)), (13, .pointer (some ⟨bx, 0, none⟩)), (14, clo bx bg), (15, .int .i64 I.tot), (16, sl gE I.k), (17, sl gL I.k)]) w := by
  conv => arg 2; whnf
  have hkb := hI.kb
  have hbl := I.bs_len hI
  have hlB : ∀ b, b ∈ [g, go, gx] → b < B := fun b hb => by
    simp at hb
    rcases hb with rfl | rfl | rfl
    · exact htr.bld.gB
    · exact htr.bld.goB
    · exact htr.eB
  have hlW : ∀ b, b ∈ [g, go, gx] → w0.heap.size ≤ b := fun b hb => by simp at hb; omega
  have hsub : ∀ j, j ≤ I.k → ∀ x ∈ I.blks I.k ++ I.snks j, 0 ≤ x.lo ∧ x.lo ≤ 1000000 := fun j hj x hx => by
    rcases List.mem_append.1 hx with hx | hx
    · exact I.bs_lo hI x (by unfold Inst.bs; simp [hx])
    · obtain ⟨q, _, rfl⟩ := I.snks_mem j x hx
      have := hI.i0
      exact ⟨this.1, by show I.ilo ≤ _; omega⟩
  have hllen : (I.blks I.k).length ≤ 70000 := by
    have : (I.blks I.k).length ≤ I.bs.length := by unfold Inst.bs; rw [List.length_append, List.length_append]; omega
    omega
  refine wp_seq_k (fun K1 hK1 => ?_)
  refine wp_region_seq (fun K hK => ?_)
  refine wpl_op rfl (Ex_move (by conv => lhs; whnf)) ?_
  refine wpl_op rfl (Ex_move (by conv => lhs; whnf)) ?_
  refine wpl_nil (hK _ _ ?_)
  clear hK K
  refine wp_block ?_
  refine wp_loop_st (fun q : Nat × (Nat → Value) => [(4, .pointer (some ⟨ib, 0, none⟩)), (7, .int .i64 (I.k : Int)), (8, .int .i64 ((2 * I.k : Nat) : Int)), (9, .int .i64 ((2 * I.k + 1 : Nat) : Int)), (10, .int .i64 ((2 * I.k + 2 : Nat) : Int)), (11, .int .i64 ((2 * I.k + 3 : Nat) : Int)), (12, .pointer (some ⟨bg, 0, none⟩)), (13, .pointer (some ⟨bx, 0, none⟩)), (14, clo bx bg), (15, .int .i64 I.tot), (16, sl gE I.k), (17, sl gL I.k), (136, .int .i64 (I.k : Int)), (137, .int .i64 (q.1 : Int))])
    (fun q w' => q.1 ≤ I.k ∧ Below w0.heap.size w0 w' ∧ Tr w' B bx bg gx g go (2 * I.k + 4) q.2 ((I.blks I.k ++ I.snks q.1).map BArc.arc) (exOf (I.blks I.k ++ I.snks q.1)) ∧ Tabs w' (2 * I.k + 4) B I.k gE gL tE tL q.2 (eixv I) (lowv I) I.k ∧
      w'.cell? ⟨ib, 0, none⟩ = some (.int .i64 I.ilo) ∧ w'.cell? ⟨ib, 1, none⟩ = some (.int .i64 I.ihi))
    (fun q => I.k - q.1) (0, rv) ⟨rfl, rfl, rfl, rfl, rfl, rfl, rfl, rfl, rfl, rfl, rfl, rfl, rfl, rfl, trivial⟩ ⟨Nat.zero_le _, hb0, by simpa [Inst.snks] using htr, htab, hi0, hi1⟩ ?_
  clear hb0 htr htab hi0 hi1
  rintro ⟨j, rv1⟩ uu w1 ⟨hj, hb0, htr, htab, hi0, hi1⟩ R hR
  dsimp only at hj hb0 htr htab
  have hsl := I.snks_len j
  have hel : (I.blks I.k ++ I.snks j).length ≤ 80000 := by rw [List.length_append]; omega
  have hml : ((I.blks I.k ++ I.snks j).map BArc.arc).length = (I.blks I.k ++ I.snks j).length := List.length_map _
  by_cases hlt : j < I.k
  · skip
    refine wp_region_seq (fun K hK => ?_)
    refine wpl_op rfl (Ex_lss rfl rfl (decide_eq_true (by dsimp only; omega))) ?_
    refine wpl_nil (hK _ _ ?_)
    clear hK K
    refine wp_seq_k (fun K' hK' => ?_)
    refine wp_if_true rfl ?_
    refine wp_skip (hK' _ _ ?_)
    clear hK' K'
    refine wp_seq_k (fun K' hK' => ?_)
    refine wp_block ?_
    refine wp_region_seq (fun K hK => ?_)
    refine wpl_op rfl (Ex_move (by conv => lhs; whnf)) ?_
    refine wpl_op rfl (Ex_assign (by conv => lhs; whnf)) ?_
    refine wpl_nil (hK _ _ ?_)
    clear hK K
    refine wp_region_last ?_
    refine wpl_op rfl (Ex_move (by conv => lhs; whnf)) ?_
    refine wpl_op rfl (Ex_move (by conv => lhs; whnf)) ?_
    refine wpl_op rfl (Ex_move (by conv => lhs; whnf)) ?_
    refine wpl_op rfl (Ex_add (m := (I.k : Int)) (n := (j : Int)) rfl rfl (by omega) (by omega)) ?_
    refine wpl_op rfl (Ex_move (by conv => lhs; whnf)) ?_
    refine wpl_op rfl (Ex_loadagg (cs := [.int .i64 I.ilo, .int .i64 I.ihi]) agg41 rfl rfl (fun q v hv => by match q, hv with | 0, hv => (simp at hv; subst hv; exact hi0) | 1, hv => (simp at hv; subst hv; exact hi1))) ?_
    refine wpl_call rfl (ExC_closure (cap := [.pointer (some ⟨bx, 0, none⟩), .pointer (some ⟨bg, 0, none⟩)]) ent35 rfl rfl) (bounded_ret B bx bg gx g go (2 * I.k + 4) rv1 _ _ (I.k + j) (2 * I.k + 1) I.ilo I.ihi (by omega) (by omega) (by omega) (fun i _ => ex_small (hsub j hj) (by omega) i) (by have := hI.i0; omega) (by have := hI.i0; omega) _ htr) ?_
    rintro r w2 ⟨rfl, rv2, htr2, hkept⟩
    refine wpl_nil ?_
    refine hK' _ _ ?_
    refine wp_region_last ?_
    refine wpl_op rfl (Ex_inc rfl rfl (by dsimp only; omega)) ?_
    refine wpl_op rfl (Ex_move (by conv => lhs; whnf)) ?_
    refine wpl_nil ?_
    have hfo := htr.bld.fam.out (.inl hib)
    replace htr2 := htr2.step
    rw [List.append_assoc] at htr2
    exact hR _ _ _ (j + 1, rv2) ⟨rfl, rfl, rfl, rfl, rfl, rfl, rfl, rfl, rfl, rfl, rfl, rfl, rfl, rfl, trivial⟩ ⟨hlt, hb0.trans (hkept.below htr.bld.fam hW.1 hlW), htr2, htab.kept hkept htr.bld.fam hEg hLg hlB, Kept.cell hkept hi0 hibn hfo, Kept.cell hkept hi1 hibn hfo⟩ (by dsimp only; omega)
  · have hje : j = I.k := by omega
    subst hje
    refine wp_region_seq (fun K hK => ?_)
    refine wpl_op rfl (Ex_lss rfl rfl (decide_eq_false (by dsimp only; omega))) ?_
    refine wpl_nil (hK _ _ ?_)
    clear hK K
    refine wp_seq_k (fun K' hK' => ?_)
    refine wp_if_false rfl ?_
    refine wp_exit ?_
    refine hK1 _ _ ?_
    clear hK1 hR
    refine wp_region_seq (fun K hK => ?_)
    refine wpl_op rfl (Ex_load one48 rfl htr.gb) ?_
    refine wpl_op rfl (Ex_move (by conv => lhs; whnf)) ?_
    refine wpl_op rfl (Ex_move (by conv => lhs; whnf)) ?_
    refine wpl_op rfl (Ex_move (by conv => lhs; whnf)) ?_
    refine wpl_call rfl (ExC_func ent36 rfl rfl) (add_ret B g go (2 * I.k + 4) rv1 _ ⟨2 * I.k + 1, 2 * I.k, I.tot⟩ (by show 2 * I.k + 1 < _; omega) (by show 2 * I.k < _; omega) (by omega) _ htr.bld) ?_
    rintro r w2 ⟨rfl, rv2, hbld, hkept⟩
    refine wpl_nil (hK _ _ ?_)
    clear hK K
    have hmap : (I.blks I.k ++ I.snks I.k).map BArc.arc ++ [⟨2 * I.k + 1, 2 * I.k, I.tot⟩] = I.bs.map BArc.arc := by
      unfold Inst.bs
      rw [List.map_append (l₁ := I.blks I.k ++ I.snks I.k)]
      simp [BArc.arc]
    have hexe : exOf (I.blks I.k ++ I.snks I.k) = exOf I.bs := by
      funext x
      unfold Inst.bs
      rw [exOf_snoc]
      unfold ind
      simp
    rw [hmap] at hbld
    have htr2 := htr.added hbld hkept
    rw [hexe] at htr2
    have hEg2 : gE ∉ [g, go] := fun hm => hEg (by simp at hm ⊢; omega)
    have hLg2 : gL ∉ [g, go] := fun hm => hLg (by simp at hm ⊢; omega)
    have hlB2 : ∀ b, b ∈ [g, go] → b < B := fun b hb => hlB b (by simp at hb ⊢; omega)
    have hlW2 : ∀ b, b ∈ [g, go] → w0.heap.size ≤ b := fun b hb => hlW b (by simp at hb ⊢; omega)
    refine wp_norm [(7, .int .i64 (I.k : Int)), (10, .int .i64 ((2 * I.k + 2 : Nat) : Int)), (11, .int .i64 ((2 * I.k + 3 : Nat) : Int)), (12, .pointer (some ⟨bg, 0, none⟩)), (13, .pointer (some ⟨bx, 0, none⟩)), (16, sl gE I.k), (17, sl gL I.k)] ⟨rfl, rfl, rfl, rfl, rfl, rfl, rfl, trivial⟩ (fun u => ?_)
    exact rest3 I hI hok B bx bg gx g go gE gL tE tL rv2 w0 w2 (hb0.trans (hkept.below htr.bld.fam hW.1 hlW2)) ⟨hW.1, hW.2.1, hW.2.2.1⟩ htr2 (htab.kept hkept htr.bld.fam hEg2 hLg2 hlB2) hEg2 hLg2 u
end Go.Proofs.Qxb6613837a.Sp
