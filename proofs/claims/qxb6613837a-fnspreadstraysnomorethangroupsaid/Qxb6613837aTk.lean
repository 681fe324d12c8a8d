import Derived.Test.Qxb6613837aTj
namespace Go.Proofs.Qxb6613837a.Sp
open Go.Fr Go.RowKit Go.Sp

theorem sm_part (f : Nat → Int) (n : Nat) : sm f (n + 1) = sm f n + f n := rfl
theorem span_fresh (w : World) (x y : Int) : Below w.heap.size w ((w.alloc (.cells (Value.agg #[.int .i64 0, .int .i64 0]).cells 41)).setRow w.heap.size ((Value.agg #[.int .i64 0, .int .i64 0]).cells.toList.take 0 ++ [Value.int .i64 x, Value.int .i64 y] ++ (Value.agg #[.int .i64 0, .int .i64 0]).cells.toList.drop (0 + 2)).toArray) ∧
    ((w.alloc (.cells (Value.agg #[.int .i64 0, .int .i64 0]).cells 41)).setRow w.heap.size ((Value.agg #[.int .i64 0, .int .i64 0]).cells.toList.take 0 ++ [Value.int .i64 x, Value.int .i64 y] ++ (Value.agg #[.int .i64 0, .int .i64 0]).cells.toList.drop (0 + 2)).toArray).heap[w.heap.size]? = some (.cells #[.int .i64 x, .int .i64 y] 41 (0, 0)) :=
  ⟨below_setRow ((Below.refl _ _).alloc (Nat.le_refl _) _) (Nat.le_refl _) _, setRow_heap _ _ _ _ 41 (0, 0) (heap_new w _)⟩


theorem rest1 (I : Inst) (hI : I.Fine) (a0 : Option Addr) (c0 : Nat) (fid : FuncId) (cap : List Value) (hent : Enters Try.prog fid) (B ib bx bg gx g go gE gL : Nat) (rv : Nat → Value) (w0 w : World) (hs : IntsAt w0 a0 I.k I.s)
    (hlink : ∀ i j, i < I.k → j < I.k → ∀ w', Below w0.heap.size w0 w' → Ret Try.prog fid ([Value.int .i64 (i : Int), Value.int .i64 (j : Int)] ++ cap).toArray w' fun v w'' => v = .tuple #[.agg #[.int .i64 (I.lo i j), .int .i64 (I.hi i j)], .bool (I.lnk i j)] ∧ Below w'.heap.size w' w'')
    (fx : Fx w0 B ib bx bg gx g go gE gL) (hb0 : Below w0.heap.size w0 w) (htr : Tr w B bx bg gx g go (2 * I.k + 4) rv [] (exOf [])) (hE : Own w gE 22 I.k 0 (fun _ => sl 0 I.k)) (hL : Own w gL 22 I.k 0 (fun _ => sl 0 I.k)) (hi0 : w.cell? ⟨ib, 0, none⟩ = some (.int .i64 I.ilo)) (hi1 : w.cell? ⟨ib, 1, none⟩ = some (.int .i64 I.ihi)) (u : Nat → Value) :
    Code.wp Try.prog (codeAt [1, 1, 1, 1, 1, 1, 1, 1, 1] (Try.f26.body.getD .skip)) (post Try.prog Try.f26 (TRes I w0)) (fr 230 u [(0, .slice a0 I.k c0), (2, .func (.func fid) #[] cap.toArray), (4, .pointer (some ⟨ib, 0, none⟩)), (7, .int .i64 (I.k : Int)), (8, .int .i64 ((2 * I.k : Nat) : Int)), (9, .int .i64 ((2 * I.k + 1 : Nat) : Int)), (10, .int .i64 ((2 * I.k + 2 : Nat) : Int)), (11, .int .i64 ((2 * I.k + 3 : Nat) : Int)), (12, .pointer (some ⟨bg, 0, none⟩)), (13, .pointer (some ⟨bx, 0, none⟩)), (14, clo bx bg), (15, .int .i64 (0)), (16, sl gE I.k), (17, sl gL I.k)]) w := by
  conv => arg 2; whnf
  have hkb := hI.kb
  have hfB := fx.hB
  have hfW := fx.hW
  have hlB : ∀ b, b ∈ [g, go, gx] → b < B := fun b hb => by simp at hb; omega
  have hlW : ∀ b, b ∈ [g, go, gx] → w0.heap.size ≤ b := fun b hb => by simp at hb; omega
  have nE := fx.nE
  have nL := fx.nL
  have nE3 : gE ∉ [g, go, gx] := fun hm => nE (by simp at hm ⊢; omega)
  have nL3 : gL ∉ [g, go, gx] := fun hm => nL (by simp at hm ⊢; omega)
  have hpl : ∀ i j, i < I.k → j ≤ I.k → (I.pre i j).length ≤ 70000 ∧ (I.blks i).length ≤ 70000 := fun i j hi hj => by
    have h1 := I.blks_len i
    have h2 := I.lks_len i j
    have h3 : i * (I.k + 1) ≤ 255 * 257 := Nat.mul_le_mul (by omega) (by omega)
    have h4 := I.pos_eq i j
    unfold Inst.pos at h4
    omega
  have hpo : ∀ i j, i < I.k → j ≤ I.k → ∀ x ∈ I.pre i j, 0 ≤ x.lo ∧ x.lo ≤ 1000000 := fun i j hi hj x hx => by
    unfold Inst.pre at hx
    rcases List.mem_append.1 hx with hx | hx
    · rcases List.mem_append.1 hx with hx | hx
      · obtain ⟨q, hq, rfl | ⟨p, hp, hlk, rfl⟩⟩ := I.blks_mem _ _ hx
        · exact hI.s0 q (by omega)
        · have := hI.l0 q p (by omega) hp hlk; exact ⟨this.1, this.2.1⟩
      · rw [show x = ⟨2 * I.k, i, I.s i, I.s i⟩ by simpa using hx]; exact hI.s0 i hi
    · obtain ⟨q, hq, hlk, rfl⟩ := I.lks_mem _ _ _ hx
      have := hI.l0 i q hi (by omega) hlk; exact ⟨this.1, this.2.1⟩
  have hbo : ∀ i, i < I.k → ∀ x ∈ I.blks i, 0 ≤ x.lo ∧ x.lo ≤ 1000000 := fun i hi x hx => hpo i 0 hi (Nat.zero_le _) x (by unfold Inst.pre; simp [hx])
  refine wp_seq_k (fun K1 hK1 => ?_)
  refine wp_region_seq (fun K hK => ?_)
  refine wpl_op rfl (Ex_move (by conv => lhs; whnf)) ?_
  refine wpl_op rfl (Ex_move (by conv => lhs; whnf)) ?_
  refine wpl_nil (hK _ _ ?_)
  clear hK K
  refine wp_block ?_
  refine wp_loop_st (fun q : Nat × (Nat → Value) × (Nat → Nat) × (Nat → Nat) => [(0, .slice a0 I.k c0), (2, .func (.func fid) #[] cap.toArray), (4, .pointer (some ⟨ib, 0, none⟩)), (7, .int .i64 (I.k : Int)), (8, .int .i64 ((2 * I.k : Nat) : Int)), (9, .int .i64 ((2 * I.k + 1 : Nat) : Int)), (10, .int .i64 ((2 * I.k + 2 : Nat) : Int)), (11, .int .i64 ((2 * I.k + 3 : Nat) : Int)), (12, .pointer (some ⟨bg, 0, none⟩)), (13, .pointer (some ⟨bx, 0, none⟩)), (14, clo bx bg), (15, .int .i64 (sm I.s q.1)), (16, sl gE I.k), (17, sl gL I.k), (56, .int .i64 (I.k : Int)), (57, .int .i64 (q.1 : Int))])
    (fun q w' => q.1 ≤ I.k ∧ Below w0.heap.size w0 w' ∧ Tr w' B bx bg gx g go (2 * I.k + 4) q.2.1 ((I.blks q.1).map BArc.arc) (exOf (I.blks q.1)) ∧ Tabs w' (2 * I.k + 4) B I.k gE gL q.2.2.1 q.2.2.2 q.2.1 (eixv I) (lowv I) q.1 ∧
      w'.cell? ⟨ib, 0, none⟩ = some (.int .i64 I.ilo) ∧ w'.cell? ⟨ib, 1, none⟩ = some (.int .i64 I.ihi) ∧ ∀ p j, p < q.1 → j < I.k → I.lnk p j = true → I.lo p j ≤ I.hi p j)
    (fun q => I.k - q.1) (0, rv, fun _ => 0, fun _ => 0) ⟨rfl, rfl, rfl, rfl, rfl, rfl, rfl, rfl, rfl, rfl, rfl, rfl, rfl, rfl, rfl, rfl, trivial⟩
    ⟨Nat.zero_le _, hb0, htr, ⟨⟨hE, fun q hq => absurd hq (Nat.not_lt_zero _)⟩, ⟨hL, fun q hq => absurd hq (Nat.not_lt_zero _)⟩, hfB.2.2.2.1, hfB.2.2.2.2.1, fun q hq => absurd hq (Nat.not_lt_zero _), fun q hq => absurd hq (Nat.not_lt_zero _)⟩, hi0, hi1, fun p j hp => absurd hp (Nat.not_lt_zero _)⟩ ?_
  clear hb0 htr hE hL hi0 hi1
  rintro ⟨i, rv1, tE, tL⟩ uu w1 ⟨hi, hb0, htr, htab, hi0, hi1, hokp⟩ R hR
  dsimp only at hi hb0 htr htab hokp
  by_cases hlt : i < I.k
  · obtain ⟨b0, o0, rfl, hc0⟩ := hs.get hlt
    have hsi := cell_later hb0 (hc0 i hlt)
    have hsb := hI.s0 i hlt
    have htot : 0 ≤ sm I.s i ∧ sm I.s i ≤ 256000000 := by
      have h1 : 0 ≤ sm I.s i := sm_nonneg (fun q hq => (hI.s0 q (by omega)).1)
      have h2 : sm I.s i ≤ sm (fun _ => 1000000) i := sm_le (fun q hq => (hI.s0 q (by omega)).2)
      rw [sm_const] at h2
      omega
    refine wp_region_seq (fun K hK => ?_)
    refine wpl_op rfl (Ex_lss rfl rfl (decide_eq_true (by dsimp only; omega))) ?_
    refine wpl_nil (hK _ _ ?_)
    clear hK K
    refine wp_seq_k (fun K' hK' => ?_)
    refine wp_if_true rfl ?_
    refine wp_skip (hK' _ _ ?_)
    clear hK' K'
    refine wp_seq_k (fun K' hK' => ?_)
    refine wp_block ?_
    refine wp_region_seq (fun K hK => ?_)
    refine wpl_op rfl (Ex_move (by conv => lhs; whnf)) ?_
    refine wpl_op rfl (Ex_assign (by conv => lhs; whnf)) ?_
    refine wpl_nil (hK _ _ ?_)
    clear hK K
    refine wp_region_seq (fun K hK => ?_)
    refine wpl_op rfl (Ex_move (by conv => lhs; whnf)) ?_
    refine wpl_op rfl (Ex_move (by conv => lhs; whnf)) ?_
    refine wpl_op rfl (Ex_move (by conv => lhs; whnf)) ?_
    refine wpl_op rfl (Ex_index1 Try.underlying22 size_22 rfl rfl hlt) ?_
    refine wpl_op rfl (Ex_load one3 rfl hsi) ?_
    refine wpl_op rfl (Ex_add rfl rfl (by dsimp only; omega) (by dsimp only; omega)) ?_
    refine wpl_op rfl (Ex_assign (by conv => lhs; whnf)) ?_
    refine wpl_nil (hK _ _ ?_)
    clear hK K
    refine wp_draw_seq (by kernel_rfl) (fun w' => w'.cell? ⟨b0, o0 + i, none⟩ = some (.int .i64 (I.s i))) (fun _ => false) 13 rfl (fun K hK => ?_)
    have hS : w1.drew.cell? ⟨b0, o0 + i, none⟩ = some (.int .i64 (I.s i)) := hsi
    refine wpd_pure 0 (by kernel_rfl) rfl (fun w => Ex_move (by conv => lhs; whnf)) (by intro h; cases h) ?_
    refine wpd_pure 1 (by kernel_rfl) rfl (fun w => Ex_move (by conv => lhs; whnf)) (by intro h; cases h) ?_
    refine wpd_pure 2 (by kernel_rfl) rfl (fun w => Ex_move (by conv => lhs; whnf)) (by intro h; cases h) ?_
    refine wpd_pure 3 (by kernel_rfl) rfl (fun w => Ex_move (by conv => lhs; whnf)) (by intro h; cases h) ?_
    refine wpd_pure 4 (by kernel_rfl) rfl (fun w => Ex_move (by conv => lhs; whnf)) (by intro h; cases h) ?_
    refine wpd_pure 5 (by kernel_rfl) rfl (fun w => Ex_index1 Try.underlying22 size_22 rfl rfl hlt) (by intro h; cases h) ?_
    refine wpd_take 6 (by kernel_rfl) rfl hS (fun w hw => Ex_load one3 rfl hw) (by intro h; cases h) ?_
    refine wpd_pure 7 (by kernel_rfl) rfl (fun w => Ex_move (by conv => lhs; whnf)) (by intro h; cases h) ?_
    refine wpd_pure 8 (by kernel_rfl) rfl (fun w => Ex_move (by conv => lhs; whnf)) (by intro h; cases h) ?_
    refine wpd_pure 9 (by kernel_rfl) rfl (fun w => Ex_index1 Try.underlying22 size_22 rfl rfl hlt) (by intro h; cases h) ?_
    refine wpd_take 10 (by kernel_rfl) rfl hS (fun w hw => Ex_load one3 rfl hw) (by intro h; cases h) ?_
    refine wpd_pure 11 (by kernel_rfl) rfl (fun w => Ex_build (pv := [(0, .int .i64 (I.s i)), (1, .int .i64 (I.s i))]) rfl (bld41 _ _ _)) (by intro h; cases h) ?_
    refine wpd_call 12 (by kernel_rfl) rfl (ExC_closure (cap := [.pointer (some ⟨bx, 0, none⟩), .pointer (some ⟨bg, 0, none⟩)]) ent35 rfl rfl) (bounded_ret B bx bg gx g go (2 * I.k + 4) rv1 _ _ (2 * I.k) i (I.s i) (I.s i) (by omega) (by omega) (by rw [List.length_map]; have := (hpl i 0 hlt (Nat.zero_le _)).2; omega) (fun q _ => ex_small (hbo i hlt) (by have := (hpl i 0 hlt (Nat.zero_le _)).2; omega) q) hsb hsb _ htr.drew) ?_
    rintro r w2 ⟨rfl, rv2, htr2, hkept⟩
    replace hkept : Kept (2 * I.k + 4 + 2) [g, go, gx] w1 rv1 w2 rv2 := ⟨hkept.os, hkept.tape, hkept.output, hkept.size, hkept.old⟩
    have hb2 := hb0.trans (hkept.below htr.bld.fam hfW.1 hlW)
    refine ⟨fun _ _ => cell_later hb2 (hc0 i hlt), ?_⟩
    refine wpd_nil (by kernel_rfl) (hK _ _ ?_)
    clear hK K
    replace htr2 := htr2.step
    have hpre0 : I.blks i ++ [⟨2 * I.k, i, I.s i, I.s i⟩] = I.pre i 0 := by unfold Inst.pre; simp [Inst.lks]
    rw [hpre0] at htr2
    have hfo := htr.bld.fam.out (.inl hfB.2.2.2.2.2.1)
    have hi02 := Kept.cell hkept hi0 fx.nI hfo
    have hi12 := Kept.cell hkept hi1 fx.nI hfo
    have htab2 := htab.kept hkept htr.bld.fam nE3 nL3 hlB
    clear hkept htr htab hi0 hi1 hsi hS hfo
    refine wp_draw_seq (by kernel_rfl) (fun _ => True) (fun _ => false) 12 rfl (fun K hK => ?_)
    have hcont : ∀ e l uu ll w', Two w2 w' I.k i gE gL e l tE tL → Agree uu ll [(0, .slice (some ⟨b0, o0, none⟩) I.k c0), (2, .func (.func fid) #[] cap.toArray), (4, .pointer (some ⟨ib, 0, none⟩)), (7, .int .i64 (I.k : Int)), (8, .int .i64 ((2 * I.k : Nat) : Int)), (9, .int .i64 ((2 * I.k + 1 : Nat) : Int)), (10, .int .i64 ((2 * I.k + 2 : Nat) : Int)), (11, .int .i64 ((2 * I.k + 3 : Nat) : Int)), (12, .pointer (some ⟨bg, 0, none⟩)), (13, .pointer (some ⟨bx, 0, none⟩)), (14, clo bx bg), (15, .int .i64 (sm I.s i + I.s i)), (16, sl gE I.k), (17, sl gL I.k), (18, .int .i64 (i : Int)), (56, .int .i64 (I.k : Int)), (57, .int .i64 (i : Int))] → K (fr 230 uu ll) w' := by
      intro e l uu ll w3 htwo hag
      refine hK _ _ ?_
      rw [fr_norm _ hag]
      clear hag
      have hrd := Rd.start fx hb2 htr2 htab2 hi02 hi12 htwo
      generalize Fr.look uu ll = u1
      clear htwo uu ll hK K
      refine wp_region_seq (fun K hK => ?_)
      refine wpl_op rfl (Ex_move (by conv => lhs; whnf)) ?_
      refine wpl_op rfl (Ex_move (by conv => lhs; whnf)) ?_
      refine wpl_nil (hK _ _ ?_)
      clear hK K
      refine wp_block ?_
      refine wp_loop_st (fun q : Nat × (Nat → Value) => [(0, .slice (some ⟨b0, o0, none⟩) I.k c0), (2, .func (.func fid) #[] cap.toArray), (4, .pointer (some ⟨ib, 0, none⟩)), (7, .int .i64 (I.k : Int)), (8, .int .i64 ((2 * I.k : Nat) : Int)), (9, .int .i64 ((2 * I.k + 1 : Nat) : Int)), (10, .int .i64 ((2 * I.k + 2 : Nat) : Int)), (11, .int .i64 ((2 * I.k + 3 : Nat) : Int)), (12, .pointer (some ⟨bg, 0, none⟩)), (13, .pointer (some ⟨bx, 0, none⟩)), (14, clo bx bg), (15, .int .i64 (sm I.s i + I.s i)), (16, sl gE I.k), (17, sl gL I.k), (18, .int .i64 (i : Int)), (56, .int .i64 (I.k : Int)), (57, .int .i64 (i : Int)), (89, .int .i64 (I.k : Int)), (90, .int .i64 (q.1 : Int))])
        (fun q w' => q.1 ≤ I.k ∧ Rd I w0 w' B ib bx bg gx g go gE gL tE tL q.2 i q.1 e l ∧ ∀ j, j < q.1 → I.lnk i j = true → I.lo i j ≤ I.hi i j)
        (fun q => I.k - q.1) (0, rv2) ⟨rfl, rfl, rfl, rfl, rfl, rfl, rfl, rfl, rfl, rfl, rfl, rfl, rfl, rfl, rfl, rfl, rfl, rfl, rfl, trivial⟩ ⟨Nat.zero_le _, hrd, fun j hj => absurd hj (Nat.not_lt_zero _)⟩ ?_
      clear hrd htr2 htab2 hi02 hi12 hb2
      rintro ⟨j, rv3⟩ uu w4 ⟨hj, hrd, hokj⟩ R1 hR1
      dsimp only at hj hrd hokj
      by_cases hjlt : j < I.k
      · skip
        refine wp_region_seq (fun K hK => ?_)
        refine wpl_op rfl (Ex_lss rfl rfl (decide_eq_true (by dsimp only; omega))) ?_
        refine wpl_nil (hK _ _ ?_)
        clear hK K
        refine wp_seq_k (fun K2 hK2 => ?_)
        refine wp_if_true rfl ?_
        refine wp_skip (hK2 _ _ ?_)
        clear hK2 K2
        refine wp_seq_k (fun K2 hK2 => ?_)
        refine wp_block ?_
        refine wp_region_seq (fun K hK => ?_)
        refine wpl_op rfl (Ex_move (by conv => lhs; whnf)) ?_
        refine wpl_op rfl (Ex_assign (by conv => lhs; whnf)) ?_
        refine wpl_nil (hK _ _ ?_)
        clear hK K
        refine wp_region_seq (fun K hK => ?_)
        refine wpl_op rfl (Ex_move (by conv => lhs; whnf)) ?_
        refine wpl_op rfl (Ex_move (by conv => lhs; whnf)) ?_
        refine wpl_op rfl (Ex_move (by conv => lhs; whnf)) ?_
        refine wpl_call rfl (ExC_closure (cap := cap) hent rfl rfl) (hlink i j hlt hjlt _ hrd.bel) ?_
        rintro v5 w5 ⟨rfl, hb5⟩
        replace hrd := hrd.later hb5
        refine wpl_op rfl (Ex_move (by conv => lhs; whnf)) ?_
        refine wpl_op rfl (Ex_extract rfl rfl) ?_
        refine wpl_op rfl (Ex_extract rfl rfl) ?_
        refine wpl_op rfl (Ex_alloc zero41) ?_
        refine wpl_op rfl (Ex_storeagg (cs := [.int .i64 (I.lo i j), .int .i64 (I.hi i j)]) agg41 rfl rfl rfl rfl (heap_new _ _) (by decide)) ?_
        refine wpl_op rfl (Ex_assign (by conv => lhs; whnf)) ?_
        refine wpl_nil (hK _ _ ?_)
        clear hK K
        obtain ⟨hbs, hsb5⟩ := span_fresh w5 (I.lo i j) (I.hi i j)
        refine wp_gen (fun w6 => Rd I w0 w6 B ib bx bg gx g go gE gL tE tL rv3 i j e l ∧ w6.heap[w5.heap.size]? = some (.cells #[.int .i64 (I.lo i j), .int .i64 (I.hi i j)] 41 (0, 0)) ∧ Below w5.heap.size w5 w6) ⟨hrd.later hbs, hsb5, hbs⟩ (fun w6 hg6 => ?_)
        have hsbn : e < w5.heap.size ∧ l < w5.heap.size ∧ gE < w5.heap.size ∧ gL < w5.heap.size ∧ B ≤ w5.heap.size := ⟨hrd.e0.lt, hrd.l0.lt, hrd.oE.lt, hrd.oL.lt, hrd.tr.bld.fam.szB⟩
        have hso : ∀ a, a < 2 * I.k + 4 + 2 → (rv3 a).ownBlock ≠ some w5.heap.size := hrd.tr.bld.fam.out (.inr (Nat.le_refl _))
        clear hrd hbs hsb5
        obtain ⟨hrd, hsb6, _⟩ := hg6
        generalize w5.heap.size = sb at *
        have hc0' : w6.cell? ⟨sb, 0, none⟩ = some (.int .i64 (I.lo i j)) := cell_at hsb6 rfl
        have hc1' : w6.cell? ⟨sb, 1, none⟩ = some (.int .i64 (I.hi i j)) := cell_at hsb6 rfl
        have hcE : w6.cell? ⟨gE, 0 + i, none⟩ = some (sl e I.k) := by have := hrd.oE.c0 (i := i) (by omega); rw [upd_at] at this; exact this
        have hcL : w6.cell? ⟨gL, 0 + i, none⟩ = some (sl l I.k) := by have := hrd.oL.c0 (i := i) (by omega); rw [upd_at] at this; exact this
        refine wp_seq_k (fun KK hKK => ?_)
        refine wp_region_seq (fun K hK => ?_)
        refine wpl_op rfl (Ex_move (by conv => lhs; whnf)) ?_
        refine wpl_op rfl (Ex_not rfl rfl) ?_
        refine wpl_nil (hK _ _ ?_)
        clear hK K
        by_cases hl : I.lnk i j = true
        rotate_left
        · skip
          have hlf : I.lnk i j = false := by simpa using hl
          refine wp_if_true (by rw [hlf]; rfl) ?_
          refine wp_region_seq (fun K hK => ?_)
          refine wpl_op rfl (Ex_move (by conv => lhs; whnf)) ?_
          refine wpl_op rfl (Ex_move (by conv => lhs; whnf)) ?_
          refine wpl_op rfl (Ex_index1 Try.underlying27 size_27 rfl rfl hlt) ?_
          refine wpl_op rfl (Ex_load one22 rfl hcE) ?_
          refine wpl_op rfl (Ex_move (by conv => lhs; whnf)) ?_
          refine wpl_op rfl (Ex_index1 Try.underlying22 size_22 rfl rfl hjlt) ?_
          refine wpl_op rfl (Ex_store one3 rfl (by conv => lhs; whnf) rfl (hrd.e0.c0 hjlt) hrd.e0.open_) ?_
          refine wpl_nil (hK _ _ ?_)
          clear hK K
          refine wp_exit ?_
          clear hKK
          rw [Nat.zero_add]
          refine hK2 _ _ ?_
          refine wp_region_last ?_
          refine wpl_op rfl (Ex_inc rfl rfl (by dsimp only; omega)) ?_
          refine wpl_op rfl (Ex_move (by conv => lhs; whnf)) ?_
          refine wpl_nil ?_
          exact hR1 _ _ _ (j + 1, rv3) ⟨rfl, rfl, rfl, rfl, rfl, rfl, rfl, rfl, rfl, rfl, rfl, rfl, rfl, rfl, rfl, rfl, rfl, rfl, rfl, trivial⟩ ⟨hjlt, hrd.skip fx hjlt hl, all_succ (P := fun q => I.lnk i q = true → I.lo i q ≤ I.hi i q) hokj (fun h => absurd h hl)⟩ (by dsimp only; omega)
        refine wp_if_false (by rw [hl]; rfl) ?_
        refine wp_skip (hKK _ _ ?_)
        clear hKK KK
        have hlb := hI.l0 i j hlt hjlt hl
        by_cases hgt : I.hi i j < I.lo i j
        · skip
          refine wp_seq_k (fun KK hKK => ?_)
          refine wp_region_seq (fun K hK => ?_)
          refine wpl_op rfl (Ex_field fld41_0 rfl) ?_
          refine wpl_op rfl (Ex_load one3 rfl hc0') ?_
          refine wpl_op rfl (Ex_field fld41_1 rfl) ?_
          refine wpl_op rfl (Ex_load one3 rfl hc1') ?_
          refine wpl_op rfl (Ex_gtr rfl rfl (decide_eq_true hgt)) ?_
          refine wpl_nil (hK _ _ ?_)
          clear hK K
          refine wp_if_true rfl ?_
          clear hKK
          refine wp_region_seq (fun K hK => ?_)
          refine wpl_op rfl (Ex_assign (by conv => lhs; whnf)) ?_
          refine wpl_nil (hK _ _ ?_)
          clear hK K
          refine wp_ret ?_
          repeat (first | refine out_block ?_ | refine out_then ?_)
          refine ret_tmp Try.results26 ⟨hrd.bel, .inl ⟨rfl, .inl ⟨i, j, hlt, hjlt, hl, hgt⟩⟩⟩
        refine wp_seq_k (fun KK hKK => ?_)
        refine wp_region_seq (fun K hK => ?_)
        refine wpl_op rfl (Ex_field fld41_0 rfl) ?_
        refine wpl_op rfl (Ex_load one3 rfl hc0') ?_
        refine wpl_op rfl (Ex_field fld41_1 rfl) ?_
        refine wpl_op rfl (Ex_load one3 rfl hc1') ?_
        refine wpl_op rfl (Ex_gtr rfl rfl (decide_eq_false hgt)) ?_
        refine wpl_nil (hK _ _ ?_)
        clear hK K
        refine wp_if_false rfl ?_
        refine wp_skip (hKK _ _ ?_)
        clear hKK KK
        refine wp_draw_last (by kernel_rfl) (fun w' => w'.cell? ⟨gE, 0 + i, none⟩ = some (sl e I.k) ∧ w'.cell? ⟨gL, 0 + i, none⟩ = some (sl l I.k) ∧ w'.cell? ⟨sb, 0, none⟩ = some (.int .i64 (I.lo i j)) ∧ w'.cell? ⟨sb, 1, none⟩ = some (.int .i64 (I.hi i j))) (fun q => Nat.beq q 22) 23 rfl ?_
        have hS : w6.drew.cell? ⟨gE, 0 + i, none⟩ = some (sl e I.k) ∧ w6.drew.cell? ⟨gL, 0 + i, none⟩ = some (sl l I.k) ∧ w6.drew.cell? ⟨sb, 0, none⟩ = some (.int .i64 (I.lo i j)) ∧ w6.drew.cell? ⟨sb, 1, none⟩ = some (.int .i64 (I.hi i j)) := ⟨hcE, hcL, hc0', hc1'⟩
        refine wpd_pure 0 (by kernel_rfl) rfl (fun w => Ex_move (by conv => lhs; whnf)) (by intro h; cases h) ?_
        refine wpd_pure 1 (by kernel_rfl) rfl (fun w => Ex_move (by conv => lhs; whnf)) (by intro h; cases h) ?_
        refine wpd_pure 2 (by kernel_rfl) rfl (fun w => Ex_index1 Try.underlying27 size_27 rfl rfl hlt) (by intro h; cases h) ?_
        refine wpd_take 3 (by kernel_rfl) rfl hS (fun w hw => Ex_load one22 rfl hw.1) (by intro h; cases h) ?_
        refine wpd_pure 4 (by kernel_rfl) rfl (fun w => Ex_move (by conv => lhs; whnf)) (by intro h; cases h) ?_
        refine wpd_pure 5 (by kernel_rfl) rfl (fun w => Ex_move (by conv => lhs; whnf)) (by intro h; cases h) ?_
        refine wpd_pure 6 (by kernel_rfl) rfl (fun w => Ex_move (by conv => lhs; whnf)) (by intro h; cases h) ?_
        refine wpd_pure 7 (by kernel_rfl) rfl (fun w => Ex_index1 Try.underlying27 size_27 rfl rfl hlt) (by intro h; cases h) ?_
        refine wpd_take 8 (by kernel_rfl) rfl hS (fun w hw => Ex_load one22 rfl hw.2.1) (by intro h; cases h) ?_
        refine wpd_pure 9 (by kernel_rfl) rfl (fun w => Ex_move (by conv => lhs; whnf)) (by intro h; cases h) ?_
        refine wpd_pure 10 (by kernel_rfl) rfl (fun w => Ex_move (by conv => lhs; whnf)) (by intro h; cases h) ?_
        refine wpd_pure 11 (by kernel_rfl) rfl (fun w => Ex_move (by conv => lhs; whnf)) (by intro h; cases h) ?_
        refine wpd_pure 12 (by kernel_rfl) rfl (fun w => Ex_move (by conv => lhs; whnf)) (by intro h; cases h) ?_
        refine wpd_pure 13 (by kernel_rfl) rfl (fun w => Ex_move (by conv => lhs; whnf)) (by intro h; cases h) ?_
        refine wpd_pure 14 (by kernel_rfl) rfl (fun w => Ex_add (m := (I.k : Int)) (n := (j : Int)) rfl rfl (by omega) (by omega)) (by intro h; cases h) ?_
        refine wpd_take 15 (by kernel_rfl) rfl hS (fun w hw => Ex_loadagg (cs := [.int .i64 (I.lo i j), .int .i64 (I.hi i j)]) agg41 rfl rfl (fun q v hv => by match q, hv with | 0, hv => (simp at hv; subst hv; exact hw.2.2.1) | 1, hv => (simp at hv; subst hv; exact hw.2.2.2))) (by intro h; cases h) ?_
        refine wpd_pure 17 (by kernel_rfl) rfl (fun w => Ex_field fld41_0 rfl) (by intro h; cases h) ?_
        refine wpd_take 18 (by kernel_rfl) rfl hS (fun w hw => Ex_load one3 rfl hw.2.2.1) (by intro h; cases h) ?_
        refine wpd_call 16 (by kernel_rfl) rfl (ExC_closure (cap := [.pointer (some ⟨bx, 0, none⟩), .pointer (some ⟨bg, 0, none⟩)]) ent35 rfl rfl) (bounded_ret B bx bg gx g go (2 * I.k + 4) rv3 _ _ i (I.k + j) (I.lo i j) (I.hi i j) (by omega) (by omega) (by rw [List.length_map]; have := (hpl i j hlt hj).1; omega) (fun q _ => ex_small (hpo i j hlt hj) (by have := (hpl i j hlt hj).1; omega) q) (by omega) (by omega) _ hrd.tr.drew) ?_
        rintro r w7 ⟨rfl, rv4, htr4, hkept⟩
        replace hkept : Kept (2 * I.k + 4 + 2) [g, go, gx] w6 rv3 w7 rv4 := ⟨hkept.os, hkept.tape, hkept.output, hkept.size, hkept.old⟩
        have hrd2 := hrd.link fx hjlt hl htr4 hkept
        have hf6 := hrd.tr.bld.fam
        have he7 := hrd.e0.kept hkept (fun hm => by have := hlB _ hm; have := hrd.xe.1; omega) hrd.xe.2
        have hl7 := hrd.l0.kept hkept (fun hm => by have := hlB _ hm; have := hrd.xl.1; omega) hrd.xl.2
        have hS7 : w7.cell? ⟨gE, 0 + i, none⟩ = some (sl e I.k) ∧ w7.cell? ⟨gL, 0 + i, none⟩ = some (sl l I.k) ∧ w7.cell? ⟨sb, 0, none⟩ = some (.int .i64 (I.lo i j)) ∧ w7.cell? ⟨sb, 1, none⟩ = some (.int .i64 (I.hi i j)) := ⟨Kept.cell hkept hcE nE3 (hf6.out (.inl hfB.2.2.2.1)), Kept.cell hkept hcL nL3 (hf6.out (.inl hfB.2.2.2.2.1)), Kept.cell hkept hc0' (fun hm => by have := hlB _ hm; omega) hso, Kept.cell hkept hc1' (fun hm => by have := hlB _ hm; omega) hso⟩
        refine ⟨fun _ _ => hS7, ?_⟩
        rw [List.length_map]
        refine wpd_pure 19 (by kernel_rfl) rfl (fun w => Ex_index1 Try.underlying22 size_22 rfl rfl hjlt) (by intro h; cases h) ?_
        refine wpd_one 20 (by kernel_rfl) rfl (Ex_store one3 rfl (by conv => lhs; whnf) rfl (he7.c0 hjlt) he7.open_) (fun _ _ => by have k1 := Keep.setCell w7 (l := [e]) (g := e) (i := j) (by simp) (.int .i64 ((2 * (I.pre i j).length : Nat) : Int)); rw [Nat.zero_add]; have := hrd.xe.1; exact ⟨k1.cell (b := gE) hS7.1 (by simp; omega), k1.cell (b := gL) hS7.2.1 (by simp; omega), k1.cell hS7.2.2.1 (by simp; omega), k1.cell hS7.2.2.2 (by simp; omega)⟩) ?_
        have hl8 := hl7.other (g' := e) (i := 0 + j) (Ne.symm hrd.el) (.int .i64 ((2 * (I.pre i j).length : Nat) : Int))
        refine wpd_pure 21 (by kernel_rfl) rfl (fun w => Ex_index1 Try.underlying22 size_22 rfl rfl hjlt) (by intro h; cases h) ?_
        refine wpd_one 22 (by kernel_rfl) rfl (Ex_store one3 rfl (by conv => lhs; whnf) rfl (hl8.c0 hjlt) hl8.open_) (by intro _ h; cases h) ?_
        refine wpd_nil (by kernel_rfl) ?_
        rw [Nat.zero_add]
        refine hK2 _ _ ?_
        refine wp_region_last ?_
        refine wpl_op rfl (Ex_inc rfl rfl (by dsimp only; omega)) ?_
        refine wpl_op rfl (Ex_move (by conv => lhs; whnf)) ?_
        refine wpl_nil ?_
        exact hR1 _ _ _ (j + 1, rv4) ⟨rfl, rfl, rfl, rfl, rfl, rfl, rfl, rfl, rfl, rfl, rfl, rfl, rfl, rfl, rfl, rfl, rfl, rfl, rfl, trivial⟩ ⟨hjlt, hrd2, all_succ (P := fun q => I.lnk i q = true → I.lo i q ≤ I.hi i q) hokj (fun _ => by omega)⟩ (by dsimp only; omega)
      · have hje : j = I.k := by omega
        subst hje
        refine wp_region_seq (fun K hK => ?_)
        refine wpl_op rfl (Ex_lss rfl rfl (decide_eq_false (by dsimp only; omega))) ?_
        refine wpl_nil (hK _ _ ?_)
        clear hK K
        refine wp_seq_k (fun K2 hK2 => ?_)
        refine wp_if_false rfl ?_
        refine wp_exit ?_
        refine hK' _ _ ?_
        refine wp_region_last ?_
        refine wpl_op rfl (Ex_inc rfl rfl (by omega)) ?_
        refine wpl_op rfl (Ex_move (by conv => lhs; whnf)) ?_
        refine wpl_nil ?_
        refine hR _ _ _ (i + 1, rv3, upd tE i e, upd tL i l) ⟨rfl, rfl, rfl, rfl, rfl, rfl, rfl, rfl, rfl, rfl, rfl, rfl, rfl, rfl, rfl, rfl, trivial⟩ ⟨hlt, hrd.bel, hrd.tr, hrd.fin fx, hrd.i0, hrd.i1, fun p j hp hj hlk => ?_⟩ (by dsimp only; omega)
        by_cases hpi : p = i
        · subst hpi; exact hokj j hj hlk
        · exact hokp p j (by dsimp only at hp; omega) hj hlk
    refine wpd_pure 0 (by kernel_rfl) rfl (fun w => Ex_move (by conv => lhs; whnf)) (by intro h; cases h) ?_
    refine wpd_pure 1 (by kernel_rfl) rfl (fun w => Ex_move (by conv => lhs; whnf)) (by intro h; cases h) ?_
    refine wpd_pure 2 (by kernel_rfl) rfl (fun w => Ex_move (by conv => lhs; whnf)) (by intro h; cases h) ?_
    refine wpd_pure 3 (by kernel_rfl) rfl (fun w => Ex_move (by conv => lhs; whnf)) (by intro h; cases h) ?_
    refine wpd_pure 4 (by kernel_rfl) rfl (fun w => Ex_move (by conv => lhs; whnf)) (by intro h; cases h) ?_
    refine wpd_pure 6 (by kernel_rfl) rfl (fun w => Ex_move (by conv => lhs; whnf)) (by intro h; cases h) ?_
    have oE2 := htab2.e.top
    have oL2 := htab2.l.top
    have hne := fx.nEL
    have hgE2 := oE2.lt
    have hgL2 := oL2.lt
    have ka : Keep [] w2 (w2.drew.alloc (zrow I.k)) := (keep_drew0 [] w2).trans (Keep.alloc [] w2.drew (zrow I.k))
    have kb := ka.trans (Keep.alloc [] (w2.drew.alloc (zrow I.k)) (zrow I.k))
    have ea := oE2.keep ka (by simp)
    have la := oL2.keep ka (by simp)
    have eb := oE2.keep kb (by simp)
    have lb := oL2.keep kb (by simp)
    obtain ⟨oldEa, hoEa⟩ := ea.some hlt
    obtain ⟨oldEb, hoEb⟩ := eb.some hlt
    obtain ⟨oldLb, hoLb⟩ := lb.some hlt
    refine wpd_two 5 7 (by kernel_rfl) (wpd1_op rfl (Ex_mk Try.underlying22 info3 rfl rfl (by omega) (by omega)) (fun h _ => h) ?_) (wpd1_op rfl (Ex_mk Try.underlying22 info3 rfl rfl (by omega) (by omega)) (fun h _ => h) ?_)
    · skip
      refine wpd_pure 8 (by kernel_rfl) rfl (fun w => Ex_index1 Try.underlying27 size_27 rfl rfl hlt) (by intro h; cases h) ?_
      refine wpd_two 7 9 (by kernel_rfl) (wpd1_op rfl (Ex_mk Try.underlying22 info3 rfl rfl (by omega) (by omega)) (fun h _ => h) ?_) (wpd1_op rfl (Ex_store one22 rfl (by conv => lhs; whnf) rfl (by rw [Nat.zero_add]; exact hoEa) ea.open_) (fun h _ => h) ?_)
      · refine wpd_one 9 (by kernel_rfl) rfl (Ex_store one22 rfl (by conv => lhs; whnf) rfl (by rw [Nat.zero_add]; exact hoEb) eb.open_) (fun h _ => h) ?_
        have lc := lb.other (g' := gE) (i := 0 + i) (Ne.symm hne) (sl w2.heap.size I.k)
        obtain ⟨oldLc, hoLc⟩ := lc.some (i := 0 + i) (by omega)
        refine wpd_pure 10 (by kernel_rfl) rfl (fun w => Ex_index1 Try.underlying27 size_27 rfl rfl hlt) (by intro h; cases h) ?_
        refine wpd_one 11 (by kernel_rfl) rfl (Ex_store one22 rfl (by conv => lhs; whnf) rfl hoLc lc.open_) (fun h _ => h) ?_
        refine wpd_nil (by kernel_rfl) ?_
        rw [Nat.zero_add]
        exact hcont _ _ _ _ _ (two_a hlt oE2 oL2 hne) ⟨rfl, rfl, rfl, rfl, rfl, rfl, rfl, rfl, rfl, rfl, rfl, rfl, rfl, rfl, rfl, rfl, rfl, trivial⟩
      · have lc := la.other (g' := gE) (i := 0 + i) (Ne.symm hne) (sl w2.heap.size I.k)
        refine wpd_one 7 (by kernel_rfl) rfl (Ex_mk Try.underlying22 info3 rfl rfl (by omega) (by omega)) (fun h _ => h) ?_
        have ld := lc.keep (Keep.alloc [] _ (zrow I.k)) (by simp)
        obtain ⟨oldLd, hoLd⟩ := ld.some (i := 0 + i) (by omega)
        refine wpd_pure 10 (by kernel_rfl) rfl (fun w => Ex_index1 Try.underlying27 size_27 rfl rfl hlt) (by intro h; cases h) ?_
        refine wpd_one 11 (by kernel_rfl) rfl (Ex_store one22 rfl (by conv => lhs; whnf) rfl hoLd ld.open_) (fun h _ => h) ?_
        refine wpd_nil (by kernel_rfl) ?_
        rw [Nat.zero_add]
        exact hcont _ _ _ _ _ (two_b hlt oE2 oL2 hne) ⟨rfl, rfl, rfl, rfl, rfl, rfl, rfl, rfl, rfl, rfl, rfl, rfl, rfl, rfl, rfl, rfl, rfl, trivial⟩
    · refine wpd_one 5 (by kernel_rfl) rfl (Ex_mk Try.underlying22 info3 rfl rfl (by omega) (by omega)) (fun h _ => h) ?_
      refine wpd_pure 8 (by kernel_rfl) rfl (fun w => Ex_index1 Try.underlying27 size_27 rfl rfl hlt) (by intro h; cases h) ?_
      refine wpd_one 9 (by kernel_rfl) rfl (Ex_store one22 rfl (by conv => lhs; whnf) rfl (by rw [Nat.zero_add]; exact hoEb) eb.open_) (fun h _ => h) ?_
      have lc := lb.other (g' := gE) (i := 0 + i) (Ne.symm hne) (sl (w2.drew.alloc (zrow I.k)).heap.size I.k)
      obtain ⟨oldLc, hoLc⟩ := lc.some (i := 0 + i) (by omega)
      refine wpd_pure 10 (by kernel_rfl) rfl (fun w => Ex_index1 Try.underlying27 size_27 rfl rfl hlt) (by intro h; cases h) ?_
      refine wpd_one 11 (by kernel_rfl) rfl (Ex_store one22 rfl (by conv => lhs; whnf) rfl hoLc lc.open_) (fun h _ => h) ?_
      refine wpd_nil (by kernel_rfl) ?_
      rw [Nat.zero_add]
      exact hcont _ _ _ _ _ (two_c hlt oE2 oL2 hne) ⟨rfl, rfl, rfl, rfl, rfl, rfl, rfl, rfl, rfl, rfl, rfl, rfl, rfl, rfl, rfl, rfl, rfl, trivial⟩
  · have hie : i = I.k := by omega
    subst hie
    refine wp_region_seq (fun K hK => ?_)
    refine wpl_op rfl (Ex_lss rfl rfl (decide_eq_false (by dsimp only; omega))) ?_
    refine wpl_nil (hK _ _ ?_)
    clear hK K
    refine wp_seq_k (fun K' hK' => ?_)
    refine wp_if_false rfl ?_
    refine wp_exit ?_
    refine hK1 _ _ ?_
    clear hK1 hR
    refine wp_norm [(4, .pointer (some ⟨ib, 0, none⟩)), (7, .int .i64 (I.k : Int)), (8, .int .i64 ((2 * I.k : Nat) : Int)), (9, .int .i64 ((2 * I.k + 1 : Nat) : Int)), (10, .int .i64 ((2 * I.k + 2 : Nat) : Int)), (11, .int .i64 ((2 * I.k + 3 : Nat) : Int)), (12, .pointer (some ⟨bg, 0, none⟩)), (13, .pointer (some ⟨bx, 0, none⟩)), (14, clo bx bg), (15, .int .i64 I.tot), (16, sl gE I.k), (17, sl gL I.k)] ⟨rfl, rfl, rfl, rfl, rfl, rfl, rfl, rfl, rfl, rfl, rfl, rfl, trivial⟩ (fun u => ?_)
    exact rest2 I hI hokp B ib bx bg gx g go gE gL tE tL rv1 w0 w1 hb0 ⟨hfW.1, hfW.2.1, hfW.2.2.1, hfW.2.2.2.1⟩ htr htab nE3 nL3 hi0 hi1 hfB.2.2.2.2.2.1 fx.nI u
end Go.Proofs.Qxb6613837a.Sp
