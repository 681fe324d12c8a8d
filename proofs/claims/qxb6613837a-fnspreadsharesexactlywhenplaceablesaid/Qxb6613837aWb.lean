import Derived.Test.Qxb6613837aWa
namespace Go.Proofs.Qxb6613837a.Sp
open Go.Fr Go.RowKit Go.Sp

theorem sm_le_all {f : Nat → Int} {n : Nat} (h : ∀ i, i < n → 0 ≤ f i) : ∀ {m : Nat}, m ≤ n → sm f m ≤ sm f n := by
  induction n with
  | zero => intro m hm; rw [show m = 0 by omega]; exact Int.le_refl _
  | succ n ih =>
    intro m hm
    by_cases e : m = n + 1
    · rw [e]; exact Int.le_refl _
    · have h1 := ih (fun i hi => h i (by omega)) (m := m) (by omega)
      have h2 := h n (by omega)
      show sm f m ≤ sm f n + f n
      omega


theorem checks5 (b0 o0 b1 o1 k c0 c1 gX : Nat) (xb : Nat → Nat) (x : Nat → Nat → Int) (h : Nat → ByteArray) (s : Nat → Nat) (w0 w : World) (hk : 0 < k) (hkb : k ≤ 256) (hb0 : Below w0.heap.size w0 w)
    (hc : ∀ q, q < k → w.cell? ⟨b0, o0 + q, none⟩ = some (.int .i64 (s q : Int))) (hd : ∀ q, q < k → w.cell? ⟨b1, o1 + q, none⟩ = some (.string (h q))) (hq : Sq w k gX xb x k) (hs : ∀ q, q < k → s q ≤ 16384)
    (hx0 : ∀ i j, i < k → j < k → 0 ≤ x i j) (hxh : ∀ i j, i < k → j < k → x i j ≠ 0 → same (h i) (h j) = false) (hrow : ∀ i, i < k → sm (fun j => x i j) k = (s i : Int)) (hcol : ∀ j, j < k → ((16384 / k : Nat) : Int) ≤ sm (fun i => x i j) k ∧ sm (fun i => x i j) k ≤ (((16384 + k - 1) / k : Nat) : Int)) (u : Nat → Value) :
    Code.wp Try.prog (codeAt [1, 1, 1, 1, 1, 1, 1, 1, 1, 1, 1] (Try.f5.body.getD .skip)) (post Try.prog Try.f5 fun v w' => v = .bool true ∧ Below w0.heap.size w0 w') (fr 152 u [(0, .slice (some ⟨b0, o0, none⟩) k c0), (1, .slice (some ⟨b1, o1, none⟩) k c1), (7, .int .i64 (k : Int)), (8, sl gX k)]) w := by
  conv => arg 2; whnf
  obtain ⟨hq1, hq2⟩ := quo_le k hk
  refine wp_region_seq (fun K hK => ?_)
  refine wpl_op rfl (Ex_move (by conv => lhs; whnf)) ?_
  refine wpl_op rfl (Ex_quo (m := 16384) rfl rfl hk (by omega)) ?_
  refine wpl_op rfl (Ex_assign (by conv => lhs; whnf)) ?_
  refine wpl_nil (hK _ _ ?_)
  clear hK K
  refine wp_region_seq (fun K hK => ?_)
  refine wpl_op rfl (Ex_move (by conv => lhs; whnf)) ?_
  refine wpl_op rfl (Ex_plus (m := 16384) rfl rfl (by omega)) ?_
  refine wpl_op rfl (Ex_pred (m := 16384 + k) rfl rfl (by omega) (by omega)) ?_
  refine wpl_op rfl (Ex_move (by conv => lhs; whnf)) ?_
  refine wpl_op rfl (Ex_quo (m := 16384 + k - 1) rfl rfl hk (by omega)) ?_
  refine wpl_op rfl (Ex_assign (by conv => lhs; whnf)) ?_
  refine wpl_nil (hK _ _ ?_)
  clear hK K
  refine wp_seq_k (fun K1 hK1 => ?_)
  refine wp_region_seq (fun K hK => ?_)
  refine wpl_op rfl (Ex_assign (by conv => lhs; whnf)) ?_
  refine wpl_nil (hK _ _ ?_)
  clear hK K
  refine wp_block ?_
  refine wp_loop_st (fun i : Nat => [(0, .slice (some ⟨b0, o0, none⟩) k c0), (1, .slice (some ⟨b1, o1, none⟩) k c1), (7, .int .i64 (k : Int)), (8, sl gX k), (9, .int .i64 ((16384 / k : Nat) : Int)), (10, .int .i64 (((16384 + k - 1) / k : Nat) : Int)), (11, .int .i64 (i : Int))]) (fun i w' => Below w.heap.size w w' ∧ i ≤ k) (fun i => k - i) 0 ⟨rfl, rfl, rfl, rfl, rfl, rfl, rfl, trivial⟩ ⟨Below.refl _ _, Nat.zero_le _⟩ ?_
  rintro i uu w1 ⟨hb1, hi⟩ R hR
  by_cases hlt : i < k
  · skip
    refine wp_seq_k (fun KK hKK => ?_)
    refine wp_region_seq (fun K hK => ?_)
    refine wpl_op rfl (Ex_move (by conv => lhs; whnf)) ?_
    refine wpl_op rfl (Ex_move (by conv => lhs; whnf)) ?_
    refine wpl_op rfl (Ex_lss rfl rfl (decide_eq_true (by omega))) ?_
    refine wpl_nil (hK _ _ ?_)
    clear hK K
    refine wp_if_true rfl ?_
    refine wp_skip (hKK _ _ ?_)
    clear hKK KK
    refine wp_seq_k (fun K' hK' => ?_)
    refine wp_block ?_
    refine wp_region_seq (fun K hK => ?_)
    refine wpl_op rfl (Ex_assign (by conv => lhs; whnf)) ?_
    refine wpl_nil (hK _ _ ?_)
    clear hK K
    refine wp_seq_k (fun K3 hK3 => ?_)
    refine wp_region_seq (fun K hK => ?_)
    refine wpl_op rfl (Ex_assign (by conv => lhs; whnf)) ?_
    refine wpl_nil (hK _ _ ?_)
    clear hK K
    refine wp_block ?_
    refine wp_loop_st (fun j : Nat => [(0, .slice (some ⟨b0, o0, none⟩) k c0), (1, .slice (some ⟨b1, o1, none⟩) k c1), (7, .int .i64 (k : Int)), (8, sl gX k), (9, .int .i64 ((16384 / k : Nat) : Int)), (10, .int .i64 (((16384 + k - 1) / k : Nat) : Int)), (11, .int .i64 (i : Int)), (12, .int .i64 (sm (fun j => x i j) j)), (13, .int .i64 (j : Int))]) (fun j w' => Below w.heap.size w w' ∧ j ≤ k) (fun j => k - j) 0 ⟨rfl, rfl, rfl, rfl, rfl, rfl, rfl, rfl, rfl, trivial⟩ ⟨hb1, Nat.zero_le _⟩ ?_
    clear hb1
    rintro j uu2 w2 ⟨hb2, hj⟩ R2 hR2
    by_cases hjt : j < k
    · have hqr := hq.top.later hb2
      have hqx : w2.cell? ⟨xb i, 0 + j, none⟩ = some (.int .i64 (x i j)) := ((hq.row i hlt).later hb2).c0 hjt
      have hd2 : ∀ q, q < k → w2.cell? ⟨b1, o1 + q, none⟩ = some (.string (h q)) := fun q hq => cell_later hb2 (hd q hq)
      have hxp := hx0 i j hlt hjt
      have hsi := hs i hlt
      have hr1 := sm_le_all (f := fun j => x i j) (n := k) (fun q hq => hx0 i q hlt hq) (m := j + 1) hjt
      have hr2 : 0 ≤ sm (fun j => x i j) j := sm_nonneg (fun q hq => hx0 i q hlt (by omega))
      rw [hrow i hlt] at hr1
      have hr3 : sm (fun j => x i j) (j + 1) = sm (fun j => x i j) j + x i j := rfl
      refine wp_seq_k (fun KK hKK => ?_)
      refine wp_region_seq (fun K hK => ?_)
      refine wpl_op rfl (Ex_move (by conv => lhs; whnf)) ?_
      refine wpl_op rfl (Ex_move (by conv => lhs; whnf)) ?_
      refine wpl_op rfl (Ex_lss rfl rfl (decide_eq_true (by omega))) ?_
      refine wpl_nil (hK _ _ ?_)
      clear hK K
      refine wp_if_true rfl ?_
      refine wp_skip (hKK _ _ ?_)
      clear hKK KK
      refine wp_seq_k (fun K2 hK2 => ?_)
      refine wp_block ?_
      refine wp_region_seq (fun K hK => ?_)
      refine wpl_op rfl (Ex_move (by conv => lhs; whnf)) ?_
      refine wpl_op rfl (Ex_move (by conv => lhs; whnf)) ?_
      refine wpl_op rfl (Ex_index1 Try.underlying27 size_27 rfl rfl hlt) ?_
      refine wpl_op rfl (Ex_load one22 rfl (hqr.c0 hlt)) ?_
      refine wpl_op rfl (Ex_move (by conv => lhs; whnf)) ?_
      refine wpl_op rfl (Ex_index1 Try.underlying22 size_22 rfl rfl hjt) ?_
      refine wpl_op rfl (Ex_load one3 rfl hqx) ?_
      refine wpl_op rfl (Ex_assign (by conv => lhs; whnf)) ?_
      refine wpl_nil (hK _ _ ?_)
      clear hK K
      refine wp_seq_k (fun KK hKK => ?_)
      have hgo : ∀ w3, Below w2.heap.size w2 w3 → ∀ u, KK (fr 152 u [(0, .slice (some ⟨b0, o0, none⟩) k c0), (1, .slice (some ⟨b1, o1, none⟩) k c1), (7, .int .i64 (k : Int)), (8, sl gX k), (9, .int .i64 ((16384 / k : Nat) : Int)), (10, .int .i64 (((16384 + k - 1) / k : Nat) : Int)), (11, .int .i64 (i : Int)), (12, .int .i64 (sm (fun j => x i j) j)), (13, .int .i64 (j : Int)), (14, .int .i64 (x i j))]) w3 := by
        intro w3 hw3 u
        refine hKK _ _ ?_
        clear hKK
        refine wp_region_last ?_
        refine wpl_op rfl (Ex_move (by conv => lhs; whnf)) ?_
        refine wpl_op rfl (Ex_move (by conv => lhs; whnf)) ?_
        refine wpl_op rfl (Ex_add rfl rfl (by omega) (by omega)) ?_
        refine wpl_op rfl (Ex_assign (by conv => lhs; whnf)) ?_
        refine wpl_nil ?_
        refine hK2 _ _ ?_
        refine wp_region_last ?_
        refine wpl_op rfl (Ex_move (by conv => lhs; whnf)) ?_
        refine wpl_op rfl (Ex_inc rfl rfl (by omega)) ?_
        refine wpl_op rfl (Ex_assign (by conv => lhs; whnf)) ?_
        refine wpl_nil ?_
        exact hR2 _ _ _ (j + 1) ⟨rfl, rfl, rfl, rfl, rfl, rfl, rfl, rfl, rfl, trivial⟩ ⟨hb2.trans (hw3.mono hb2.size), hjt⟩ (by omega)
      clear hKK
      by_cases hx : x i j = 0
      · skip
        refine wp_quiet_seq (by kernel_rfl) (by kernel_rfl) (fun K hK => ?_)
        refine wpq_op (fun w hw => Ex_move (by conv => lhs; whnf)) ?_
        refine wpq_op (fun w hw => Ex_lss rfl rfl (decide_eq_false (by omega))) ?_
        refine wpq_op (fun w hw => Ex_move (by conv => lhs; whnf)) ?_
        refine wpq_opg (by exact rfl) (by exact rfl) (fun w hw => Ex_move (by conv => lhs; whnf)) ?_
        refine wpq_opg (by exact rfl) (by exact rfl) (fun w hw => Ex_neq rfl rfl (show (!decide (x i j = 0)) = false by simp [hx])) ?_
        refine wpq_opg (by exact rfl) (by exact rfl) (fun w hw => Ex_move (by conv => lhs; whnf)) ?_
        refine wpq_pass (by exact rfl) (by exact rfl) ?_
        refine wpq_pass (by exact rfl) (by exact rfl) ?_
        refine wpq_pass (by exact rfl) (by exact rfl) ?_
        refine wpq_pass (by exact rfl) (by exact rfl) ?_
        refine wpq_pass (by exact rfl) (by exact rfl) ?_
        refine wpq_pass (by exact rfl) (by exact rfl) ?_
        refine wpq_pass (by exact rfl) (by exact rfl) ?_
        refine wpq_pass (by exact rfl) (by exact rfl) ?_
        refine wpq_pass (by exact rfl) (by exact rfl) ?_
        refine wpq_opg (by exact rfl) (by exact rfl) (fun w hw => Ex_pick rfl (by conv => lhs; whnf)) ?_
        refine wpq_op (fun w hw => Ex_pick rfl (by conv => lhs; whnf)) ?_
        refine wpq_nil (fun w3 hw3 => hK _ _ ?_)
        clear hK K
        refine wp_if_false rfl ?_
        refine wp_skip ?_
        show KK _ _
        rw [fr_norm [(0, .slice (some ⟨b0, o0, none⟩) k c0), (1, .slice (some ⟨b1, o1, none⟩) k c1), (7, .int .i64 (k : Int)), (8, sl gX k), (9, .int .i64 ((16384 / k : Nat) : Int)), (10, .int .i64 (((16384 + k - 1) / k : Nat) : Int)), (11, .int .i64 (i : Int)), (12, .int .i64 (sm (fun j => x i j) j)), (13, .int .i64 (j : Int)), (14, .int .i64 (x i j))] ⟨rfl, rfl, rfl, rfl, rfl, rfl, rfl, rfl, rfl, rfl, trivial⟩]
        exact hgo _ hw3 _
      · have hne := hxh i j hlt hjt hx
        refine wp_quiet_seq (by kernel_rfl) (by kernel_rfl) (fun K hK => ?_)
        refine wpq_op (fun w hw => Ex_move (by conv => lhs; whnf)) ?_
        refine wpq_op (fun w hw => Ex_lss rfl rfl (decide_eq_false (by omega))) ?_
        refine wpq_op (fun w hw => Ex_move (by conv => lhs; whnf)) ?_
        refine wpq_opg (by exact rfl) (by exact rfl) (fun w hw => Ex_move (by conv => lhs; whnf)) ?_
        refine wpq_opg (by exact rfl) (by exact rfl) (fun w hw => Ex_neq rfl rfl (show (!decide (x i j = 0)) = true by simp [hx])) ?_
        refine wpq_opg (by exact rfl) (by exact rfl) (fun w hw => Ex_move (by conv => lhs; whnf)) ?_
        refine wpq_opg (by exact rfl) (by exact rfl) (fun w hw => Ex_move (by conv => lhs; whnf)) ?_
        refine wpq_opg (by exact rfl) (by exact rfl) (fun w hw => Ex_move (by conv => lhs; whnf)) ?_
        refine wpq_opg (by exact rfl) (by exact rfl) (fun w hw => Ex_index1 Try.underlying23 size_23 rfl rfl hlt) ?_
        refine wpq_opg (by exact rfl) (by exact rfl) (fun w hw => Ex_load one9 rfl (cell_later hw (hd2 i hlt))) ?_
        refine wpq_opg (by exact rfl) (by exact rfl) (fun w hw => Ex_move (by conv => lhs; whnf)) ?_
        refine wpq_opg (by exact rfl) (by exact rfl) (fun w hw => Ex_move (by conv => lhs; whnf)) ?_
        refine wpq_opg (by exact rfl) (by exact rfl) (fun w hw => Ex_index1 Try.underlying23 size_23 rfl rfl hjt) ?_
        refine wpq_opg (by exact rfl) (by exact rfl) (fun w hw => Ex_load one9 rfl (cell_later hw (hd2 j hjt))) ?_
        refine wpq_opg (by exact rfl) (by exact rfl) (fun w hw => Ex_eqls rfl rfl hne) ?_
        refine wpq_opg (by exact rfl) (by exact rfl) (fun w hw => Ex_pick rfl (by conv => lhs; whnf)) ?_
        refine wpq_op (fun w hw => Ex_pick rfl (by conv => lhs; whnf)) ?_
        refine wpq_nil (fun w3 hw3 => hK _ _ ?_)
        clear hK K
        refine wp_if_false rfl ?_
        refine wp_skip ?_
        show KK _ _
        rw [fr_norm [(0, .slice (some ⟨b0, o0, none⟩) k c0), (1, .slice (some ⟨b1, o1, none⟩) k c1), (7, .int .i64 (k : Int)), (8, sl gX k), (9, .int .i64 ((16384 / k : Nat) : Int)), (10, .int .i64 (((16384 + k - 1) / k : Nat) : Int)), (11, .int .i64 (i : Int)), (12, .int .i64 (sm (fun j => x i j) j)), (13, .int .i64 (j : Int)), (14, .int .i64 (x i j))] ⟨rfl, rfl, rfl, rfl, rfl, rfl, rfl, rfl, rfl, rfl, trivial⟩]
        exact hgo _ hw3 _
    have hje : j = k := by omega
    subst hje
    refine wp_seq_k (fun KK hKK => ?_)
    refine wp_region_seq (fun K hK => ?_)
    refine wpl_op rfl (Ex_move (by conv => lhs; whnf)) ?_
    refine wpl_op rfl (Ex_move (by conv => lhs; whnf)) ?_
    refine wpl_op rfl (Ex_lss rfl rfl (decide_eq_false (by omega))) ?_
    refine wpl_nil (hK _ _ ?_)
    clear hK K
    refine wp_if_false rfl ?_
    refine wp_exit ?_
    clear hKK
    refine hK3 _ _ ?_
    clear hR2 hK3
    refine wp_region_seq (fun K hK => ?_)
    refine wpl_op rfl (Ex_move (by conv => lhs; whnf)) ?_
    refine wpl_op rfl (Ex_move (by conv => lhs; whnf)) ?_
    refine wpl_op rfl (Ex_move (by conv => lhs; whnf)) ?_
    refine wpl_op rfl (Ex_index1 Try.underlying22 size_22 rfl rfl hlt) ?_
    refine wpl_op rfl (Ex_load one3 rfl (cell_later hb2 (hc i hlt))) ?_
    refine wpl_op rfl (Ex_neq rfl rfl (show (!decide (sm (fun j => x i j) j = (s i : Int))) = false by rw [hrow i hlt]; simp)) ?_
    refine wpl_nil (hK _ _ ?_)
    clear hK K
    refine wp_if_false rfl ?_
    refine wp_skip ?_
    refine hK' _ _ ?_
    refine wp_region_last ?_
    refine wpl_op rfl (Ex_move (by conv => lhs; whnf)) ?_
    refine wpl_op rfl (Ex_inc rfl rfl (by omega)) ?_
    refine wpl_op rfl (Ex_assign (by conv => lhs; whnf)) ?_
    refine wpl_nil ?_
    exact hR _ _ _ (i + 1) ⟨rfl, rfl, rfl, rfl, rfl, rfl, rfl, trivial⟩ ⟨hb2, hlt⟩ (by omega)
  have hie : i = k := by omega
  subst hie
  refine wp_seq_k (fun KK hKK => ?_)
  refine wp_region_seq (fun K hK => ?_)
  refine wpl_op rfl (Ex_move (by conv => lhs; whnf)) ?_
  refine wpl_op rfl (Ex_move (by conv => lhs; whnf)) ?_
  refine wpl_op rfl (Ex_lss rfl rfl (decide_eq_false (by omega))) ?_
  refine wpl_nil (hK _ _ ?_)
  clear hK K
  refine wp_if_false rfl ?_
  refine wp_exit ?_
  clear hKK
  refine hK1 _ _ ?_
  clear hR hK1 K1 R
  replace hq := hq.later hb1
  replace hb0 := hb0.trans (hb1.mono hb0.size)
  clear hb1 hc hd
  refine wp_seq_k (fun K1 hK1 => ?_)
  refine wp_region_seq (fun K hK => ?_)
  refine wpl_op rfl (Ex_assign (by conv => lhs; whnf)) ?_
  refine wpl_nil (hK _ _ ?_)
  clear hK K
  refine wp_block ?_
  refine wp_loop_st (fun j : Nat => [(7, .int .i64 (i : Int)), (8, sl gX i), (9, .int .i64 ((16384 / i : Nat) : Int)), (10, .int .i64 (((16384 + i - 1) / i : Nat) : Int)), (15, .int .i64 (j : Int))]) (fun j w' => w' = w1 ∧ j ≤ i) (fun j => i - j) 0 ⟨rfl, rfl, rfl, rfl, rfl, trivial⟩ ⟨rfl, Nat.zero_le _⟩ ?_
  rintro j uu w2 ⟨rfl, hj⟩ R hR
  by_cases hjt : j < i
  · skip
    refine wp_seq_k (fun KK hKK => ?_)
    refine wp_region_seq (fun K hK => ?_)
    refine wpl_op rfl (Ex_move (by conv => lhs; whnf)) ?_
    refine wpl_op rfl (Ex_move (by conv => lhs; whnf)) ?_
    refine wpl_op rfl (Ex_lss rfl rfl (decide_eq_true (by omega))) ?_
    refine wpl_nil (hK _ _ ?_)
    clear hK K
    refine wp_if_true rfl ?_
    refine wp_skip (hKK _ _ ?_)
    clear hKK KK
    refine wp_seq_k (fun K' hK' => ?_)
    refine wp_block ?_
    refine wp_region_seq (fun K hK => ?_)
    refine wpl_op rfl (Ex_assign (by conv => lhs; whnf)) ?_
    refine wpl_nil (hK _ _ ?_)
    clear hK K
    refine wp_seq_k (fun K3 hK3 => ?_)
    refine wp_region_seq (fun K hK => ?_)
    refine wpl_op rfl (Ex_assign (by conv => lhs; whnf)) ?_
    refine wpl_nil (hK _ _ ?_)
    clear hK K
    refine wp_block ?_
    refine wp_loop_st (fun a : Nat => [(7, .int .i64 (i : Int)), (8, sl gX i), (9, .int .i64 ((16384 / i : Nat) : Int)), (10, .int .i64 (((16384 + i - 1) / i : Nat) : Int)), (15, .int .i64 (j : Int)), (16, .int .i64 (sm (fun a => x a j) a)), (17, .int .i64 (a : Int))]) (fun a w' => w' = w2 ∧ a ≤ i) (fun a => i - a) 0 ⟨rfl, rfl, rfl, rfl, rfl, rfl, rfl, trivial⟩ ⟨rfl, Nat.zero_le _⟩ ?_
    rintro a uu2 w3 ⟨rfl, ha⟩ R2 hR2
    by_cases hat : a < i
    · have hqx : w3.cell? ⟨xb a, 0 + j, none⟩ = some (.int .i64 (x a j)) := (hq.row a hat).c0 hjt
      have hxp := hx0 a j hat hjt
      have hr1 := sm_le_all (f := fun a => x a j) (n := i) (fun q hq => hx0 q j hq hjt) (m := a + 1) hat
      have hr2 : 0 ≤ sm (fun a => x a j) a := sm_nonneg (fun q hq => hx0 q j (by omega) hjt)
      have hcj := (hcol j hjt).2
      have hr3 : sm (fun a => x a j) (a + 1) = sm (fun a => x a j) a + x a j := rfl
      refine wp_seq_k (fun KK hKK => ?_)
      refine wp_region_seq (fun K hK => ?_)
      refine wpl_op rfl (Ex_move (by conv => lhs; whnf)) ?_
      refine wpl_op rfl (Ex_move (by conv => lhs; whnf)) ?_
      refine wpl_op rfl (Ex_lss rfl rfl (decide_eq_true (by omega))) ?_
      refine wpl_nil (hK _ _ ?_)
      clear hK K
      refine wp_if_true rfl ?_
      refine wp_skip (hKK _ _ ?_)
      clear hKK KK
      refine wp_seq_k (fun K2 hK2 => ?_)
      refine wp_block ?_
      refine wp_region_last ?_
      refine wpl_op rfl (Ex_move (by conv => lhs; whnf)) ?_
      refine wpl_op rfl (Ex_move (by conv => lhs; whnf)) ?_
      refine wpl_op rfl (Ex_move (by conv => lhs; whnf)) ?_
      refine wpl_op rfl (Ex_index1 Try.underlying27 size_27 rfl rfl hat) ?_
      refine wpl_op rfl (Ex_load one22 rfl (hq.top.c0 hat)) ?_
      refine wpl_op rfl (Ex_move (by conv => lhs; whnf)) ?_
      refine wpl_op rfl (Ex_index1 Try.underlying22 size_22 rfl rfl hjt) ?_
      refine wpl_op rfl (Ex_load one3 rfl hqx) ?_
      refine wpl_op rfl (Ex_add rfl rfl (by omega) (by omega)) ?_
      refine wpl_op rfl (Ex_assign (by conv => lhs; whnf)) ?_
      refine wpl_nil ?_
      refine hK2 _ _ ?_
      refine wp_region_last ?_
      refine wpl_op rfl (Ex_move (by conv => lhs; whnf)) ?_
      refine wpl_op rfl (Ex_inc rfl rfl (by omega)) ?_
      refine wpl_op rfl (Ex_assign (by conv => lhs; whnf)) ?_
      refine wpl_nil ?_
      exact hR2 _ _ _ (a + 1) ⟨rfl, rfl, rfl, rfl, rfl, rfl, rfl, trivial⟩ ⟨rfl, hat⟩ (by omega)
    have hae : a = i := by omega
    subst hae
    refine wp_seq_k (fun KK hKK => ?_)
    refine wp_region_seq (fun K hK => ?_)
    refine wpl_op rfl (Ex_move (by conv => lhs; whnf)) ?_
    refine wpl_op rfl (Ex_move (by conv => lhs; whnf)) ?_
    refine wpl_op rfl (Ex_lss rfl rfl (decide_eq_false (by omega))) ?_
    refine wpl_nil (hK _ _ ?_)
    clear hK K
    refine wp_if_false rfl ?_
    refine wp_exit ?_
    clear hKK
    refine hK3 _ _ ?_
    clear hR2 hK3
    have hcj := hcol j hjt
    refine wp_region_seq (fun K hK => ?_)
    refine wpl_op rfl (Ex_move (by conv => lhs; whnf)) ?_
    refine wpl_op rfl (Ex_move (by conv => lhs; whnf)) ?_
    refine wpl_op rfl (Ex_lss rfl rfl (decide_eq_false (by omega))) ?_
    refine wpl_op rfl (Ex_move (by conv => lhs; whnf)) ?_
    refine wpl_opg (by exact rfl) (by exact rfl) (Ex_move (by conv => lhs; whnf)) ?_
    refine wpl_opg (by exact rfl) (by exact rfl) (Ex_move (by conv => lhs; whnf)) ?_
    refine wpl_opg (by exact rfl) (by exact rfl) (Ex_gtr rfl rfl (decide_eq_false (by omega))) ?_
    refine wpl_op rfl (Ex_pick rfl (by conv => lhs; whnf)) ?_
    refine wpl_nil (hK _ _ ?_)
    clear hK K
    refine wp_if_false rfl ?_
    refine wp_skip ?_
    refine hK' _ _ ?_
    refine wp_region_last ?_
    refine wpl_op rfl (Ex_move (by conv => lhs; whnf)) ?_
    refine wpl_op rfl (Ex_inc rfl rfl (by omega)) ?_
    refine wpl_op rfl (Ex_assign (by conv => lhs; whnf)) ?_
    refine wpl_nil ?_
    exact hR _ _ _ (j + 1) ⟨rfl, rfl, rfl, rfl, rfl, trivial⟩ ⟨rfl, hjt⟩ (by omega)
  have hje : j = i := by omega
  subst hje
  refine wp_seq_k (fun KK hKK => ?_)
  refine wp_region_seq (fun K hK => ?_)
  refine wpl_op rfl (Ex_move (by conv => lhs; whnf)) ?_
  refine wpl_op rfl (Ex_move (by conv => lhs; whnf)) ?_
  refine wpl_op rfl (Ex_lss rfl rfl (decide_eq_false (by omega))) ?_
  refine wpl_nil (hK _ _ ?_)
  clear hK K
  refine wp_if_false rfl ?_
  refine wp_exit ?_
  clear hKK
  refine hK1 _ _ ?_
  refine wp_region_seq (fun K hK => ?_)
  refine wpl_op rfl (Ex_assign (by conv => lhs; whnf)) ?_
  refine wpl_nil (hK _ _ ?_)
  clear hK K
  refine wp_ret ?_
  repeat (first | refine out_block ?_ | refine out_then ?_)
  refine ret_tmp Try.results5 ⟨rfl, hb0⟩

theorem rest5 (a0 a1 : Option Addr) (k c0 n1 c1 : Nat) (z : Nat → Int) (h : Nat → ByteArray) (w0 w : World) (hb0 : Below w0.heap.size w0 w) (hz : IntsAt w a0 k z) (hh : StrsAt w a1 n1 h) (u : Nat → Value) :
    Code.wp Try.prog (codeAt [1, 1, 1, 1, 1] (Try.f5.body.getD .skip)) (post Try.prog Try.f5 fun v w' => v = .bool true ∧ Below w0.heap.size w0 w') (fr 152 u [(0, .slice a0 k c0), (1, .slice a1 n1 c1)]) w := by
  conv => arg 2; whnf
  refine wp_region_seq (fun K hK => ?_)
  refine wpl_op rfl (Ex_move (by conv => lhs; whnf)) ?_
  refine wpl_op rfl (Ex_len Try.underlying22 rfl) ?_
  refine wpl_op rfl (Ex_assign (by conv => lhs; whnf)) ?_
  refine wpl_nil (hK _ _ ?_)
  clear hK K
  by_cases g1 : k = 0
  · skip
    refine wp_seq_k (fun KK hKK => ?_)
    refine wp_region_seq (fun K hK => ?_)
    refine wpl_op rfl (Ex_move (by conv => lhs; whnf)) ?_
    refine wpl_op rfl (Ex_eql rfl rfl (decide_eq_true (by omega))) ?_
    refine wpl_op rfl (Ex_move (by conv => lhs; whnf)) ?_
    refine wpl_pass (by exact rfl) (by exact rfl) ?_
    refine wpl_pass (by exact rfl) (by exact rfl) ?_
    refine wpl_op rfl (Ex_pick rfl (by conv => lhs; whnf)) ?_
    refine wpl_op rfl (Ex_move (by conv => lhs; whnf)) ?_
    refine wpl_pass (by exact rfl) (by exact rfl) ?_
    refine wpl_pass (by exact rfl) (by exact rfl) ?_
    refine wpl_pass (by exact rfl) (by exact rfl) ?_
    refine wpl_pass (by exact rfl) (by exact rfl) ?_
    refine wpl_op rfl (Ex_pick rfl (by conv => lhs; whnf)) ?_
    refine wpl_nil (hK _ _ ?_)
    clear hK K
    refine wp_if_true rfl ?_
    clear hKK
    refine wp_region_seq (fun K hK => ?_)
    refine wpl_op rfl (Ex_assign (by conv => lhs; whnf)) ?_
    refine wpl_nil (hK _ _ ?_)
    clear hK K
    refine wp_ret ?_
    repeat (first | refine out_block ?_ | refine out_then ?_)
    refine ret_tmp Try.results5 ⟨rfl, hb0⟩
  by_cases g2 : 256 < k
  · skip
    refine wp_seq_k (fun KK hKK => ?_)
    refine wp_region_seq (fun K hK => ?_)
    refine wpl_op rfl (Ex_move (by conv => lhs; whnf)) ?_
    refine wpl_op rfl (Ex_eql rfl rfl (decide_eq_false (by omega))) ?_
    refine wpl_op rfl (Ex_move (by conv => lhs; whnf)) ?_
    refine wpl_opg (by exact rfl) (by exact rfl) (Ex_move (by conv => lhs; whnf)) ?_
    refine wpl_opg (by exact rfl) (by exact rfl) (Ex_gtr rfl rfl (decide_eq_true (by omega))) ?_
    refine wpl_op rfl (Ex_pick rfl (by conv => lhs; whnf)) ?_
    refine wpl_op rfl (Ex_move (by conv => lhs; whnf)) ?_
    refine wpl_pass (by exact rfl) (by exact rfl) ?_
    refine wpl_pass (by exact rfl) (by exact rfl) ?_
    refine wpl_pass (by exact rfl) (by exact rfl) ?_
    refine wpl_pass (by exact rfl) (by exact rfl) ?_
    refine wpl_op rfl (Ex_pick rfl (by conv => lhs; whnf)) ?_
    refine wpl_nil (hK _ _ ?_)
    clear hK K
    refine wp_if_true rfl ?_
    clear hKK
    refine wp_region_seq (fun K hK => ?_)
    refine wpl_op rfl (Ex_assign (by conv => lhs; whnf)) ?_
    refine wpl_nil (hK _ _ ?_)
    clear hK K
    refine wp_ret ?_
    repeat (first | refine out_block ?_ | refine out_then ?_)
    refine ret_tmp Try.results5 ⟨rfl, hb0⟩
  by_cases g3 : n1 = k
  · skip
    subst g3
    refine wp_seq_k (fun KK hKK => ?_)
    refine wp_region_seq (fun K hK => ?_)
    refine wpl_op rfl (Ex_move (by conv => lhs; whnf)) ?_
    refine wpl_op rfl (Ex_eql rfl rfl (decide_eq_false (by omega))) ?_
    refine wpl_op rfl (Ex_move (by conv => lhs; whnf)) ?_
    refine wpl_opg (by exact rfl) (by exact rfl) (Ex_move (by conv => lhs; whnf)) ?_
    refine wpl_opg (by exact rfl) (by exact rfl) (Ex_gtr rfl rfl (decide_eq_false (by omega))) ?_
    refine wpl_op rfl (Ex_pick rfl (by conv => lhs; whnf)) ?_
    refine wpl_op rfl (Ex_move (by conv => lhs; whnf)) ?_
    refine wpl_opg (by exact rfl) (by exact rfl) (Ex_move (by conv => lhs; whnf)) ?_
    refine wpl_opg (by exact rfl) (by exact rfl) (Ex_len Try.underlying23 rfl) ?_
    refine wpl_opg (by exact rfl) (by exact rfl) (Ex_move (by conv => lhs; whnf)) ?_
    refine wpl_opg (by exact rfl) (by exact rfl) (Ex_neq rfl rfl (show (!decide ((n1 : Int) = n1)) = false by simp)) ?_
    refine wpl_op rfl (Ex_pick rfl (by conv => lhs; whnf)) ?_
    refine wpl_nil (hK _ _ ?_)
    clear hK K
    refine wp_if_false rfl ?_
    refine wp_skip (hKK _ _ ?_)
    clear hKK KK
    have hk : 0 < n1 := by omega
    have hkb : n1 ≤ 256 := by omega
    refine wp_seq_k (fun KK hKK => ?_)
    refine wp_region_seq (fun K hK => ?_)
    refine wpl_op rfl (Ex_move (by conv => lhs; whnf)) ?_
    refine wpl_call rfl (ExC_func ent16 rfl rfl) (sums_ret a0 n1 c0 z hkb w hz) ?_
    rintro v w' ⟨⟨b, rfl, hbs⟩, rfl⟩
    refine wpl_op rfl (Ex_not rfl rfl) ?_
    refine wpl_nil (hK _ _ ?_)
    clear hK K
    refine wp_if rfl (fun ht => ?_) (fun hf => ?_)
    · clear hKK
      refine wp_region_seq (fun K hK => ?_)
      refine wpl_op rfl (Ex_assign (by conv => lhs; whnf)) ?_
      refine wpl_nil (hK _ _ ?_)
      clear hK K
      refine wp_ret ?_
      repeat (first | refine out_block ?_ | refine out_then ?_)
      refine ret_tmp Try.results5 ⟨rfl, hb0⟩
    refine wp_skip (hKK _ _ ?_)
    clear hKK KK
    obtain ⟨hz1, hz2⟩ := hbs (by cases b with | true => rfl | false => cases hf)
    obtain ⟨s, W, hzs, hs, htot, hW, hWb, hsW⟩ := supplies hk hz1 hz2
    have his : IntsAt w a0 n1 (fun q => (s q : Int)) := by
      rcases hz with e | ⟨b, o, e, hc⟩
      · exact .inl e
      · exact .inr ⟨b, o, e, fun q hq => by rw [hc q hq, hzs q hq]⟩
    clear hf hbs hz1 hz2 hzs hz
    refine wp_norm [(0, .slice a0 n1 c0), (1, .slice a1 n1 c1), (7, .int .i64 (n1 : Int))] ⟨rfl, rfl, rfl, trivial⟩ (fun u => ?_)
    have hS : ∀ i, i < n1 → ss h s i n1 ≤ 16384 := fun i _ => by have := ss_le h s i n1; omega
    refine wp_region_seq (fun K hK => ?_)
    refine wpl_op rfl (Ex_move (by conv => lhs; whnf)) ?_
    refine wpl_op rfl (Ex_move (by conv => lhs; whnf)) ?_
    refine wpl_call rfl (ExC_func ent17 rfl rfl) (zzspread_ret n1 c0 c1 a0 a1 h s W w hh his hk hkb (fun q hq => Nat.le_trans (hs q hq) (by omega)) hW (by omega)) ?_
    rintro v w2 hres
    refine wpl_op rfl (Ex_assign (by conv => lhs; whnf)) ?_
    refine wpl_nil (hK _ _ ?_)
    clear hK K
    have hb2 := hb0.trans (hres.1.mono hb0.size)
    have hh2 := hh.below hres.1
    have his2 := his.below hres.1
    have hfe := feasible_ret a0 a1 n1 c0 c1 h s hk hkb hS w2 his2 hh2
    rcases hres.2 with ⟨rfl, hno⟩ | ⟨d, most, hd, hm, ⟨gX, xb, x, rfl, hq, hgX, hg1, hg2, hf⟩, hmin⟩
    · clear hres
      refine wp_seq_k (fun KK hKK => ?_)
      refine wp_region_seq (fun K hK => ?_)
      refine wpl_op rfl (Ex_move (by conv => lhs; whnf)) ?_
      refine wpl_op rfl (Ex_move (by conv => lhs; whnf)) ?_
      refine wpl_call rfl (ExC_func ent18 rfl rfl) (hfe) ?_
      rintro v w3 ⟨⟨b, rfl, hbg⟩, hw3⟩
      refine wpl_op rfl (Ex_not rfl rfl) ?_
      refine wpl_nil (hK _ _ ?_)
      clear hK K
      refine wp_if rfl (fun ht => ?_) (fun hf => ?_)
      · clear hKK
        refine wp_region_seq (fun K hK => ?_)
        refine wpl_op rfl (Ex_move (by conv => lhs; whnf)) ?_
        refine wpl_op rfl (Ex_eqlnil Try.underlying27 rfl rfl rfl) ?_
        refine wpl_op rfl (Ex_assign (by conv => lhs; whnf)) ?_
        refine wpl_nil (hK _ _ ?_)
        clear hK K
        refine wp_ret ?_
        repeat (first | refine out_block ?_ | refine out_then ?_)
        refine ret_tmp Try.results5 ⟨rfl, hb2.trans (hw3.mono hb2.size)⟩
      refine wp_skip (hKK _ _ ?_)
      clear hKK KK
      exact absurd (okay_of_gale hk hkb hsW (by omega) htot (hbg.1 (by cases b with | true => rfl | false => cases hf))) hno
    · have hgale := gale_of_feas htot hf
      clear hres
      refine wp_seq_k (fun KK hKK => ?_)
      refine wp_region_seq (fun K hK => ?_)
      refine wpl_op rfl (Ex_move (by conv => lhs; whnf)) ?_
      refine wpl_op rfl (Ex_move (by conv => lhs; whnf)) ?_
      refine wpl_call rfl (ExC_func ent18 rfl rfl) (hfe) ?_
      rintro v w3 ⟨⟨b, rfl, hbg⟩, hw3⟩
      obtain rfl : b = true := hbg.2 hgale
      refine wpl_op rfl (Ex_not rfl rfl) ?_
      refine wpl_nil (hK _ _ ?_)
      clear hK K
      refine wp_if_false rfl ?_
      refine wp_skip (hKK _ _ ?_)
      clear hKK KK
      have hq3 : Sq w3 n1 gX xb x n1 := Sq.later hq hw3
      have hb3 := hb2.trans (hw3.mono hb2.size)
      refine wp_seq_k (fun KK hKK => ?_)
      refine wp_region_seq (fun K hK => ?_)
      refine wpl_op rfl (Ex_move (by conv => lhs; whnf)) ?_
      refine wpl_op rfl (Ex_move (by conv => lhs; whnf)) ?_
      refine wpl_call rfl (ExC_func ent12 rfl rfl) (square_ret n1 gX xb x hkb w3 hq3) ?_
      rintro v w4 ⟨rfl, rfl⟩
      refine wpl_op rfl (Ex_not rfl rfl) ?_
      refine wpl_nil (hK _ _ ?_)
      clear hK K
      refine wp_if_false rfl ?_
      refine wp_skip (hKK _ _ ?_)
      clear hKK KK
      obtain ⟨b0, o0, rfl, hc⟩ := (his2.below hw3).get hk
      obtain ⟨b1, o1, rfl, hd⟩ := (hh2.below hw3).get hk
      refine wp_norm [(0, .slice (some ⟨b0, o0, none⟩) n1 c0), (1, .slice (some ⟨b1, o1, none⟩) n1 c1), (7, .int .i64 (n1 : Int)), (8, sl gX n1)] ⟨rfl, rfl, rfl, rfl, trivial⟩ (fun u => ?_)
      refine checks5 b0 o0 b1 o1 n1 c0 c1 gX xb x h s w0 w3 hk hkb hb3 hc hd hq3 hs (fun i j hi hj => (feas_nonneg hf hi hj).1) (fun i j hi hj hne => ?_) hf.row hf.col u
      cases e : same (h i) (h j) with
      | false => rfl
      | true => exact absurd ((feas_nonneg hf hi hj).2.2.2 (by unfold wlnk; rw [e]; exact Bool.false_ne_true)) hne
  · skip
    refine wp_seq_k (fun KK hKK => ?_)
    refine wp_region_seq (fun K hK => ?_)
    refine wpl_op rfl (Ex_move (by conv => lhs; whnf)) ?_
    refine wpl_op rfl (Ex_eql rfl rfl (decide_eq_false (by omega))) ?_
    refine wpl_op rfl (Ex_move (by conv => lhs; whnf)) ?_
    refine wpl_opg (by exact rfl) (by exact rfl) (Ex_move (by conv => lhs; whnf)) ?_
    refine wpl_opg (by exact rfl) (by exact rfl) (Ex_gtr rfl rfl (decide_eq_false (by omega))) ?_
    refine wpl_op rfl (Ex_pick rfl (by conv => lhs; whnf)) ?_
    refine wpl_op rfl (Ex_move (by conv => lhs; whnf)) ?_
    refine wpl_opg (by exact rfl) (by exact rfl) (Ex_move (by conv => lhs; whnf)) ?_
    refine wpl_opg (by exact rfl) (by exact rfl) (Ex_len Try.underlying23 rfl) ?_
    refine wpl_opg (by exact rfl) (by exact rfl) (Ex_move (by conv => lhs; whnf)) ?_
    refine wpl_opg (by exact rfl) (by exact rfl) (Ex_neq rfl rfl (show (!decide ((n1 : Int) = k)) = true by simp; omega)) ?_
    refine wpl_op rfl (Ex_pick rfl (by conv => lhs; whnf)) ?_
    refine wpl_nil (hK _ _ ?_)
    clear hK K
    refine wp_if_true rfl ?_
    clear hKK
    refine wp_region_seq (fun K hK => ?_)
    refine wpl_op rfl (Ex_assign (by conv => lhs; whnf)) ?_
    refine wpl_nil (hK _ _ ?_)
    clear hK K
    refine wp_ret ?_
    repeat (first | refine out_block ?_ | refine out_then ?_)
    refine ret_tmp Try.results5 ⟨rfl, hb0⟩

theorem walk5 (a0 a1 : Option Addr) (n0 c0 n1 c1 : Nat) (z : Nat → Int) (h : Nat → ByteArray) (w : World) (hz : IntsAt w a0 n0 z) (hh : StrsAt w a1 n1 h) :
    Ret Try.prog 5 #[.slice a0 n0 c0, .slice a1 n1 c1] w fun v w' => v = .bool true ∧ Below w.heap.size w w' := by
  refine Ret.of_body (vs := [.slice a0 n0 c0, .slice a1 n1 c1]) Try.func5 rfl Try.ntmps5 rfl ?_
  refine wp_region_seq (fun K hK => ?_)
  refine wpl_op rfl (Ex_assign (by conv => lhs; whnf)) ?_
  refine wpl_nil (hK _ _ ?_)
  clear hK K
  refine wp_seq_k (fun KK hKK => ?_)
  refine wp_region_seq (fun K hK => ?_)
  refine wpl_op rfl (Ex_move (by conv => lhs; whnf)) ?_
  refine wpl_op rfl (Ex_move (by conv => lhs; whnf)) ?_
  refine wpl_call rfl (ExC_func ent15 rfl rfl) (bytes15_ret a0 a1 n0 c0 n1 c1 h w hh) ?_
  rintro v w' ⟨⟨b, rfl⟩, rfl⟩
  refine wpl_op rfl (Ex_not rfl rfl) ?_
  refine wpl_nil (hK _ _ ?_)
  clear hK K
  refine wp_if rfl (fun ht => ?_) (fun hf => ?_)
  · clear hKK
    refine wp_region_seq (fun K hK => ?_)
    refine wpl_op rfl (Ex_assign (by conv => lhs; whnf)) ?_
    refine wpl_nil (hK _ _ ?_)
    clear hK K
    refine wp_ret ?_
    repeat (first | refine out_block ?_ | refine out_then ?_)
    refine ret_tmp Try.results5 ⟨rfl, Below.refl _ _⟩
  refine wp_skip (hKK _ _ ?_)
  clear hKK KK
  clear hf
  refine wp_seq_k (fun KK hKK => ?_)
  refine wp_region_seq (fun K hK => ?_)
  refine wpl_op rfl (Ex_move (by conv => lhs; whnf)) ?_
  refine wpl_call rfl (ExC_func ent9 rfl rfl) (addInts_ret a0 n0 c0 w) ?_
  rintro v w' ⟨⟨m, rfl, hm, hm2⟩, rfl⟩
  refine wpl_op rfl (Ex_move (by conv => lhs; whnf)) ?_
  refine wpl_call rfl (ExC_func ent8 rfl rfl) (addStrings_ret m hm a1 n1 c1 h w hh) ?_
  rintro v w' ⟨⟨y, rfl, hy⟩, rfl⟩
  refine wpl_op rfl (Ex_gtr rfl rfl rfl) ?_
  refine wpl_nil (hK _ _ ?_)
  clear hK K
  refine wp_if rfl (fun ht => ?_) (fun hf => ?_)
  · clear hKK
    refine wp_region_seq (fun K hK => ?_)
    refine wpl_op rfl (Ex_assign (by conv => lhs; whnf)) ?_
    refine wpl_nil (hK _ _ ?_)
    clear hK K
    refine wp_ret ?_
    repeat (first | refine out_block ?_ | refine out_then ?_)
    refine ret_tmp Try.results5 ⟨rfl, Below.refl _ _⟩
  refine wp_skip (hKK _ _ ?_)
  clear hKK KK
  obtain ⟨hmm, hn1⟩ := hy (by have := of_decide_eq_false hf; omega)
  have hn0 := hm2 hmm
  clear hf hy hm2 hm hmm
  refine wp_seq_k (fun K1 hK1 => ?_)
  have hA : ∀ uu ll a c w1, Below w.heap.size w w1 → IntsAt w1 a n0 z → StrsAt w1 a1 n1 h → Agree uu ll [(0, .slice a n0 c), (1, .slice a1 n1 c1)] → K1 (fr 152 uu ll) w1 := by
    intro uu ll a c w1 hb1 hz1 hh1 hag
    refine hK1 _ _ ?_
    rw [fr_norm _ hag]
    clear hK1 hag
    refine wp_seq_k (fun K2 hK2 => ?_)
    have hB : ∀ uu ll b d w2, Below w.heap.size w w2 → IntsAt w2 a n0 z → StrsAt w2 b n1 h → Agree uu ll [(0, .slice a n0 c), (1, .slice b n1 d)] → K2 (fr 152 uu ll) w2 := by
      intro uu ll b d w2 hb2 hz2 hh2 hag
      refine hK2 _ _ ?_
      rw [fr_norm _ hag]
      exact rest5 a b n0 c n1 d z h w w2 hb2 hz2 hh2 _
    cases a1 with
    | none =>
      refine wp_region_seq (fun K hK => ?_)
      refine wpl_op rfl (Ex_move (by conv => lhs; whnf)) ?_
      refine wpl_op rfl (Ex_neqnil Try.underlying23 rfl rfl rfl) ?_
      refine wpl_nil (hK _ _ ?_)
      clear hK K
      refine wp_if_false rfl ?_
      refine wp_skip ?_
      exact hB _ _ none c1 w1 hb1 hz1 hh1 ⟨rfl, rfl, trivial⟩
    | some ad =>
      refine wp_region_seq (fun K hK => ?_)
      refine wpl_op rfl (Ex_move (by conv => lhs; whnf)) ?_
      refine wpl_op rfl (Ex_neqnil Try.underlying23 rfl rfl rfl) ?_
      refine wpl_nil (hK _ _ ?_)
      clear hK K
      refine wp_if_true rfl ?_
      refine wp_region_seq (fun K hK => ?_)
      refine wpl_op rfl (Ex_move (by conv => lhs; whnf)) ?_
      refine wpl_op rfl (Ex_len Try.underlying23 rfl) ?_
      refine wpl_op rfl (Ex_mk Try.underlying23 info9 rfl rfl (by omega) (by omega)) ?_
      refine wpl_op rfl (Ex_assign (by conv => lhs; whnf)) ?_
      refine wpl_nil (hK _ _ ?_)
      clear hK K
      have hbA : Below w.heap.size w (w1.alloc (.cells (madeCells (Value.string ByteArray.empty).cells (n1 * 1)) 9)) := hb1.alloc hb1.size _
      have hnA : Below w1.heap.size w1 (w1.alloc (.cells (madeCells (Value.string ByteArray.empty).cells (n1 * 1)) 9)) := (Below.refl _ _).alloc (Nat.le_refl _) _
      have hownA : Own (w1.alloc (.cells (madeCells (Value.string ByteArray.empty).cells (n1 * 1)) 9)) w1.heap.size 9 n1 0 (fun _ => .string ByteArray.empty) := by rw [Nat.mul_one]; exact Own.made w1 _ _ _ _
      refine wp_region_seq (fun K hK => ?_)
      refine wpl_op rfl (Ex_move (by conv => lhs; whnf)) ?_
      refine wpl_op rfl (Ex_move (by conv => lhs; whnf)) ?_
      refine wpl_exop rfl (copy_s (w0 := w1) Try.underlying23 isz9 rfl rfl hownA (hh1.below hnA) hnA (Nat.le_refl _)) ?_
      rintro v w2 ⟨hown2, hb2⟩
      refine wpl_nil (hK _ _ ?_)
      clear hK K
      refine wp_region_last ?_
      refine wpl_op rfl (Ex_move (by conv => lhs; whnf)) ?_
      refine wpl_op rfl (Ex_assign (by conv => lhs; whnf)) ?_
      refine wpl_nil ?_
      exact hB _ _ _ _ w2 (hb1.trans (hb2.mono hb1.size)) (hz1.below hb2) (StrsAt.of_own hown2) ⟨rfl, rfl, trivial⟩
  cases a0 with
  | none =>
    refine wp_region_seq (fun K hK => ?_)
    refine wpl_op rfl (Ex_move (by conv => lhs; whnf)) ?_
    refine wpl_op rfl (Ex_neqnil Try.underlying22 rfl rfl rfl) ?_
    refine wpl_nil (hK _ _ ?_)
    clear hK K
    refine wp_if_false rfl ?_
    refine wp_skip ?_
    exact hA _ _ none c0 w (Below.refl _ _) hz hh ⟨rfl, rfl, trivial⟩
  | some ad =>
    refine wp_region_seq (fun K hK => ?_)
    refine wpl_op rfl (Ex_move (by conv => lhs; whnf)) ?_
    refine wpl_op rfl (Ex_neqnil Try.underlying22 rfl rfl rfl) ?_
    refine wpl_nil (hK _ _ ?_)
    clear hK K
    refine wp_if_true rfl ?_
    refine wp_region_seq (fun K hK => ?_)
    refine wpl_op rfl (Ex_move (by conv => lhs; whnf)) ?_
    refine wpl_op rfl (Ex_len Try.underlying22 rfl) ?_
    refine wpl_op rfl (Ex_mk Try.underlying22 info3 rfl rfl (by omega) (by omega)) ?_
    refine wpl_op rfl (Ex_assign (by conv => lhs; whnf)) ?_
    refine wpl_nil (hK _ _ ?_)
    clear hK K
    have hbA : Below w.heap.size w (w.alloc (.cells (madeCells (Value.int .i64 0).cells (n0 * 1)) 3)) := (Below.refl _ _).alloc (Nat.le_refl _) _
    have hownA : Own (w.alloc (.cells (madeCells (Value.int .i64 0).cells (n0 * 1)) 3)) w.heap.size 3 n0 0 (fun _ => .int .i64 0) := by rw [Nat.mul_one]; exact Own.made w _ _ _ _
    refine wp_region_seq (fun K hK => ?_)
    refine wpl_op rfl (Ex_move (by conv => lhs; whnf)) ?_
    refine wpl_op rfl (Ex_move (by conv => lhs; whnf)) ?_
    refine wpl_exop rfl (copy_i Try.underlying22 isz3 rfl rfl hownA (hz.below hbA) hbA (Nat.le_refl _)) ?_
    rintro v w2 ⟨hown2, hb2⟩
    refine wpl_nil (hK _ _ ?_)
    clear hK K
    refine wp_region_last ?_
    refine wpl_op rfl (Ex_move (by conv => lhs; whnf)) ?_
    refine wpl_op rfl (Ex_assign (by conv => lhs; whnf)) ?_
    refine wpl_nil ?_
    exact hA _ _ _ _ w2 hb2 (IntsAt.of_own hown2) (hh.below hb2) ⟨rfl, rfl, trivial⟩
end Go.Proofs.Qxb6613837a.Sp
