import Derived.Test.Qxb6613837aTl
namespace Go.Proofs.Qxb6613837a.Sp
open Go.Fr Go.RowKit Go.Sp

theorem Ex_quo {P : Program} {ρ : Operand → Value} {ty t t' : TypeId} {w : World} {x y : Operand} {m d : Nat} (hx : ρ x = .int .i64 (m : Int)) (hy : ρ y = .int .i64 (d : Int)) (hd : 0 < d) (hm : m ≤ 1000000000) : Ex P ρ (.binOp .quo t x y t') ty w (.int .i64 ((m / d : Nat) : Int)) w := ex_val fun o ho _ => by
  have hle : m / d ≤ m := Nat.div_le_self m d
  have h : IntKind.i64.wrap ((m : Int) / (d : Int)) = (m : Int) / (d : Int) := by
    rw [← Int.natCast_ediv]
    generalize m / d = q at hle ⊢
    rw [IntKind.wrap_i64]; omega
  have hz : ¬ d = 0 := by omega
  simp [execOp, ho, hx, hy, go_sem, Op.intDiv, h, hz]


theorem least_ret (most : Nat) (fid : FuncId) (cap : List Value) (hent : Enters Try.prog fid) (w0 : World) (P N : Nat → Prop) (Φ : Nat → Value → World → Prop) (hN : ∀ n, N n → ¬ P n) (hm : most ≤ 1000000) (hmono : ∀ a b, a ≤ b → b ≤ most → P a → P b)
    (hst : ∀ n v w w', Φ n v w → Below w.heap.size w w' → Φ n v w')
    (htry : ∀ n, n ≤ most → ∀ w', Below w0.heap.size w0 w' → Ret Try.prog fid ([Value.int .i64 (n : Int)] ++ cap).toArray w' fun v w'' => Below w'.heap.size w' w'' ∧ ((v = .slice none 0 0 ∧ N n) ∨ (∃ b l c, v = .slice (some b) l c ∧ P n ∧ Φ n v w''))) :
    Ret Try.prog 31 #[.int .i64 most, .func (.func fid) #[] cap.toArray] w0 fun v w' => Below w0.heap.size w0 w' ∧ ((v = .tuple #[.int .i64 most, .slice none 0 0] ∧ N most) ∨ (∃ d b l c, d ≤ most ∧ v = .tuple #[.int .i64 (d : Int), .slice (some b) l c] ∧ P d ∧ Φ d (.slice (some b) l c) w' ∧ ∀ m, m < d → ¬ P m)) := by
  refine Ret.of_body (vs := [.int .i64 most, .func (.func fid) #[] cap.toArray]) Try.func31 rfl Try.ntmps31 rfl ?_
  refine wp_region_seq (fun K hK => ?_)
  refine wpl_op rfl (Ex_assign (by conv => lhs; whnf)) ?_
  refine wpl_op rfl (Ex_assign (by conv => lhs; whnf)) ?_
  refine wpl_nil (hK _ _ ?_)
  clear hK K
  refine wp_region_seq (fun K hK => ?_)
  refine wpl_op rfl (Ex_move (by conv => lhs; whnf)) ?_
  refine wpl_op rfl (Ex_move (by conv => lhs; whnf)) ?_
  refine wpl_call rfl (ExC_closure (cap := cap) hent rfl rfl) (htry most (Nat.le_refl _) _ (Below.refl _ _)) ?_
  rintro v w1 ⟨hb1, hv⟩
  refine wpl_op rfl (Ex_assign (by conv => lhs; whnf)) ?_
  refine wpl_nil (hK _ _ ?_)
  clear hK K
  refine wp_region_seq (fun K hK => ?_)
  refine wpl_op rfl (Ex_move (by conv => lhs; whnf)) ?_
  refine wpl_op rfl (Ex_assign (by conv => lhs; whnf)) ?_
  refine wpl_op rfl (Ex_assign (by conv => lhs; whnf)) ?_
  refine wpl_nil (hK _ _ ?_)
  clear hK K
  refine wp_seq_k (fun K1 hK1 => ?_)
  rcases hv with ⟨rfl, hnp⟩ | ⟨b, l, c, rfl, hp, hphi⟩
  · refine wp_block ?_
    refine wp_loop_st (fun _ : Unit => [(6, .slice none 0 0), (8, .int .i64 (most : Int))]) (fun _ w' => w' = w1) (fun _ => 0) () ⟨rfl, rfl, trivial⟩ rfl ?_
    rintro _ uu w2 rfl R hR
    refine wp_seq_k (fun KK hKK => ?_)
    refine wp_region_seq (fun K hK => ?_)
    refine wpl_op rfl (Ex_move (by conv => lhs; whnf)) ?_
    refine wpl_op rfl (Ex_neqnil Try.underlying27 rfl rfl rfl) ?_
    refine wpl_op rfl (Ex_move (by conv => lhs; whnf)) ?_
    refine wpl_pass (by exact rfl) (by exact rfl) ?_
    refine wpl_pass (by exact rfl) (by exact rfl) ?_
    refine wpl_pass (by exact rfl) (by exact rfl) ?_
    refine wpl_op rfl (Ex_pick rfl (by conv => lhs; whnf)) ?_
    refine wpl_nil (hK _ _ ?_)
    clear hK K
    refine wp_if_false rfl ?_
    refine wp_exit ?_
    clear hKK
    refine hK1 _ _ ?_
    refine wp_region_seq (fun K hK => ?_)
    refine wpl_op rfl (Ex_move (by conv => lhs; whnf)) ?_
    refine wpl_op rfl (Ex_move (by conv => lhs; whnf)) ?_
    refine wpl_op rfl (Ex_assign (by conv => lhs; whnf)) ?_
    refine wpl_op rfl (Ex_assign (by conv => lhs; whnf)) ?_
    refine wpl_nil (hK _ _ ?_)
    clear hK K
    refine wp_ret ?_
    repeat (first | refine out_block ?_ | refine out_then ?_)
    refine ret_tmp2 Try.results31 ⟨hb1, .inl ⟨rfl, hnp⟩⟩
  · refine wp_block ?_
    refine wp_loop_st (fun q : Nat × Nat × Value => [(1, .func (.func fid) #[] cap.toArray), (6, q.2.2), (7, .int .i64 (q.1 : Int)), (8, .int .i64 (q.2.1 : Int))])
      (fun q w' => Below w0.heap.size w0 w' ∧ q.2.1 ≤ most ∧ q.1 ≤ q.2.1 ∧ (∃ b l c, q.2.2 = .slice (some b) l c) ∧ P q.2.1 ∧ Φ q.2.1 q.2.2 w' ∧ ∀ m, m < q.1 → ¬ P m)
      (fun q => q.2.1 - q.1) (0, most, .slice (some b) l c) ⟨rfl, rfl, rfl, rfl, trivial⟩ ⟨hb1, Nat.le_refl _, Nat.zero_le _, ⟨b, l, c, rfl⟩, hp, hphi, fun m hm => absurd hm (Nat.not_lt_zero _)⟩ ?_
    clear hb1 hp hphi
    rintro ⟨lo, hi, best⟩ uu w2 ⟨hb2, hhi, hle, ⟨b, l, c, rfl⟩, hp, hphi, hlow⟩ R hR
    dsimp only at hhi hle hp hphi hlow
    by_cases hlt : lo < hi
    · have hmid : lo ≤ (lo + hi) / 2 ∧ (lo + hi) / 2 < hi := by omega
      refine wp_seq_k (fun KK hKK => ?_)
      refine wp_region_seq (fun K hK => ?_)
      refine wpl_op rfl (Ex_move (by conv => lhs; whnf)) ?_
      refine wpl_op rfl (Ex_neqnil Try.underlying27 rfl rfl rfl) ?_
      refine wpl_op rfl (Ex_move (by conv => lhs; whnf)) ?_
      refine wpl_opg (by exact rfl) (by exact rfl) (Ex_move (by conv => lhs; whnf)) ?_
      refine wpl_opg (by exact rfl) (by exact rfl) (Ex_move (by conv => lhs; whnf)) ?_
      refine wpl_opg (by exact rfl) (by exact rfl) (Ex_lss rfl rfl (decide_eq_true (by dsimp only; omega))) ?_
      refine wpl_op rfl (Ex_pick rfl (by conv => lhs; whnf)) ?_
      refine wpl_nil (hK _ _ ?_)
      clear hK K
      refine wp_if_true rfl ?_
      refine wp_skip (hKK _ _ ?_)
      clear hKK KK
      refine wp_block ?_
      refine wp_region_seq (fun K hK => ?_)
      refine wpl_op rfl (Ex_move (by conv => lhs; whnf)) ?_
      refine wpl_op rfl (Ex_move (by conv => lhs; whnf)) ?_
      refine wpl_op rfl (Ex_plus (m := lo) (n := hi) rfl rfl (by omega)) ?_
      refine wpl_op rfl (Ex_quo (d := 2) rfl rfl (by omega) (by omega)) ?_
      refine wpl_op rfl (Ex_assign (by conv => lhs; whnf)) ?_
      refine wpl_nil (hK _ _ ?_)
      clear hK K
      refine wp_region_seq (fun K hK => ?_)
      refine wpl_op rfl (Ex_move (by conv => lhs; whnf)) ?_
      refine wpl_op rfl (Ex_move (by conv => lhs; whnf)) ?_
      refine wpl_call rfl (ExC_closure (cap := cap) hent rfl rfl) (htry ((lo + hi) / 2) (by omega) _ hb2) ?_
      rintro v w3 ⟨hb3, hv⟩
      refine wpl_op rfl (Ex_assign (by conv => lhs; whnf)) ?_
      refine wpl_nil (hK _ _ ?_)
      clear hK K
      rcases hv with ⟨rfl, hnp⟩ | ⟨b', l', c', rfl, hp', hphi'⟩
      · skip
        refine wp_region_seq (fun K hK => ?_)
        refine wpl_op rfl (Ex_move (by conv => lhs; whnf)) ?_
        refine wpl_op rfl (Ex_neqnil Try.underlying27 rfl rfl rfl) ?_
        refine wpl_nil (hK _ _ ?_)
        clear hK K
        refine wp_if_false rfl ?_
        refine wp_region_last ?_
        refine wpl_op rfl (Ex_move (by conv => lhs; whnf)) ?_
        refine wpl_op rfl (Ex_inc rfl rfl (by omega)) ?_
        refine wpl_op rfl (Ex_assign (by conv => lhs; whnf)) ?_
        refine wpl_nil ?_
        exact hR _ _ _ ((lo + hi) / 2 + 1, hi, .slice (some b) l c) ⟨rfl, rfl, rfl, rfl, trivial⟩ ⟨hb2.trans (hb3.mono hb2.size), hhi, by dsimp only; omega, ⟨b, l, c, rfl⟩, hp, hst _ _ _ _ hphi hb3, fun m hm => fun hpm => hN _ hnp (hmono m _ (by dsimp only at hm; omega) (by omega) hpm)⟩ (by dsimp only; omega)
      · skip
        refine wp_region_seq (fun K hK => ?_)
        refine wpl_op rfl (Ex_move (by conv => lhs; whnf)) ?_
        refine wpl_op rfl (Ex_neqnil Try.underlying27 rfl rfl rfl) ?_
        refine wpl_nil (hK _ _ ?_)
        clear hK K
        refine wp_if_true rfl ?_
        refine wp_region_last ?_
        refine wpl_op rfl (Ex_move (by conv => lhs; whnf)) ?_
        refine wpl_op rfl (Ex_move (by conv => lhs; whnf)) ?_
        refine wpl_op rfl (Ex_assign (by conv => lhs; whnf)) ?_
        refine wpl_op rfl (Ex_assign (by conv => lhs; whnf)) ?_
        refine wpl_nil ?_
        exact hR _ _ _ (lo, (lo + hi) / 2, .slice (some b') l' c') ⟨rfl, rfl, rfl, rfl, trivial⟩ ⟨hb2.trans (hb3.mono hb2.size), by dsimp only; omega, by dsimp only; omega, ⟨b', l', c', rfl⟩, hp', hphi', hlow⟩ (by dsimp only; omega)
    · have hle2 : lo = hi := by omega
      subst hle2
      refine wp_seq_k (fun KK hKK => ?_)
      refine wp_region_seq (fun K hK => ?_)
      refine wpl_op rfl (Ex_move (by conv => lhs; whnf)) ?_
      refine wpl_op rfl (Ex_neqnil Try.underlying27 rfl rfl rfl) ?_
      refine wpl_op rfl (Ex_move (by conv => lhs; whnf)) ?_
      refine wpl_opg (by exact rfl) (by exact rfl) (Ex_move (by conv => lhs; whnf)) ?_
      refine wpl_opg (by exact rfl) (by exact rfl) (Ex_move (by conv => lhs; whnf)) ?_
      refine wpl_opg (by exact rfl) (by exact rfl) (Ex_lss rfl rfl (decide_eq_false (by dsimp only; omega))) ?_
      refine wpl_op rfl (Ex_pick rfl (by conv => lhs; whnf)) ?_
      refine wpl_nil (hK _ _ ?_)
      clear hK K
      refine wp_if_false rfl ?_
      refine wp_exit ?_
      clear hKK
      refine hK1 _ _ ?_
      refine wp_region_seq (fun K hK => ?_)
      refine wpl_op rfl (Ex_move (by conv => lhs; whnf)) ?_
      refine wpl_op rfl (Ex_move (by conv => lhs; whnf)) ?_
      refine wpl_op rfl (Ex_assign (by conv => lhs; whnf)) ?_
      refine wpl_op rfl (Ex_assign (by conv => lhs; whnf)) ?_
      refine wpl_nil (hK _ _ ?_)
      clear hK K
      refine wp_ret ?_
      repeat (first | refine out_block ?_ | refine out_then ?_)
      refine ret_tmp2 Try.results31 ⟨hb2, .inr ⟨lo, b, l, c, hhi, rfl, hp, hphi, hlow⟩⟩
end Go.Proofs.Qxb6613837a.Sp
