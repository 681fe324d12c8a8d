import Derived.Test.Qxb6613837aUi
namespace Go.Proofs.Qxb6613837a.Sp
open Go.Fr Go.RowKit Go.Sp

theorem Ex_minus {P : Program} {ρ : Operand → Value} {ty t t' : TypeId} {w : World} {x y : Operand} {m n : Nat} (hx : ρ x = .int .i64 (m : Int)) (hy : ρ y = .int .i64 (n : Int)) (h0 : n ≤ m) (h : m ≤ 1000000000) : Ex P ρ (.binOp .sub t x y t') ty w (.int .i64 ((m - n : Nat) : Int)) w := by
  have := Ex_sub (P := P) (ρ := ρ) (ty := ty) (t := t) (t' := t') (w := w) hx hy (by omega) (by omega)
  rw [show ((m - n : Nat) : Int) = (m : Int) - n by omega]; exact this
theorem Ex_times {P : Program} {ρ : Operand → Value} {ty t t' : TypeId} {w : World} {x y : Operand} {m n : Nat} (hx : ρ x = .int .i64 (m : Int)) (hy : ρ y = .int .i64 (n : Int)) (h : m * n ≤ 1000000000) : Ex P ρ (.binOp .mul t x y t') ty w (.int .i64 ((m * n : Nat) : Int)) w := by
  have e : ((m * n : Nat) : Int) = (m : Int) * n := Int.natCast_mul m n
  have := Ex_mul (P := P) (ρ := ρ) (ty := ty) (t := t) (t' := t') (w := w) hx hy (by rw [← e]; omega) (by rw [← e]; omega)
  rw [e]; exact this
theorem zz_drew (w : World) : Below w.heap.size w w.drew := ⟨rfl, rfl, rfl, Nat.le_refl _, fun _ _ => rfl⟩


theorem bytes15_ret (a0 a1 : Option Addr) (n0 c0 n1 c1 : Nat) (h : Nat → ByteArray) (w : World) (hs : StrsAt w a1 n1 h) :
    Ret Try.prog 15 #[.slice a0 n0 c0, .slice a1 n1 c1] w fun v w' => (∃ b, v = .bool b) ∧ w = w' := by
  refine Ret.of_body (vs := [.slice a0 n0 c0, .slice a1 n1 c1]) Try.func15 rfl Try.ntmps15 rfl ?_
  refine wp_region_seq (fun K hK => ?_)
  refine wpl_op rfl (Ex_assign (by conv => lhs; whnf)) ?_
  refine wpl_nil (hK _ _ ?_)
  clear hK K
  refine wp_region_seq (fun K hK => ?_)
  refine wpl_op rfl (Ex_assign (by conv => lhs; whnf)) ?_
  refine wpl_nil (hK _ _ ?_)
  clear hK K
  refine wp_seq_k (fun KK hKK => ?_)
  refine wp_region_seq (fun K hK => ?_)
  refine wpl_op rfl (Ex_move (by conv => lhs; whnf)) ?_
  refine wpl_op rfl (Ex_len Try.underlying22 rfl) ?_
  refine wpl_op rfl (Ex_gtr rfl rfl rfl) ?_
  refine wpl_nil (hK _ _ ?_)
  clear hK K
  refine wp_if rfl (fun ht => ?_) (fun hf => ?_)
  · clear hKK
    refine wp_region_seq (fun K hK => ?_)
    refine wpl_op rfl (Ex_assign (by conv => lhs; whnf)) ?_
    refine wpl_nil (hK _ _ ?_)
    clear hK K
    refine wp_ret ?_
    repeat (first | refine out_block ?_ | refine out_then ?_)
    refine ret_tmp Try.results15 ⟨⟨_, rfl⟩, rfl⟩
  refine wp_skip (hKK _ _ ?_)
  clear hKK KK
  refine wp_region_seq (fun K hK => ?_)
  refine wpl_op rfl (Ex_move (by conv => lhs; whnf)) ?_
  refine wpl_op rfl (Ex_move (by conv => lhs; whnf)) ?_
  refine wpl_op rfl (Ex_len Try.underlying22 rfl) ?_
  refine wpl_op rfl (Ex_addw rfl rfl) ?_
  refine wpl_op rfl (Ex_assign (by conv => lhs; whnf)) ?_
  refine wpl_nil (hK _ _ ?_)
  clear hK K
  refine wp_seq_k (fun KK hKK => ?_)
  refine wp_region_seq (fun K hK => ?_)
  refine wpl_op rfl (Ex_move (by conv => lhs; whnf)) ?_
  refine wpl_op rfl (Ex_gtr rfl rfl rfl) ?_
  refine wpl_nil (hK _ _ ?_)
  clear hK K
  refine wp_if rfl (fun ht => ?_) (fun hf => ?_)
  · clear hKK
    refine wp_region_seq (fun K hK => ?_)
    refine wpl_op rfl (Ex_assign (by conv => lhs; whnf)) ?_
    refine wpl_nil (hK _ _ ?_)
    clear hK K
    refine wp_ret ?_
    repeat (first | refine out_block ?_ | refine out_then ?_)
    refine ret_tmp Try.results15 ⟨⟨_, rfl⟩, rfl⟩
  refine wp_skip (hKK _ _ ?_)
  clear hKK KK
  clear hf
  refine wp_seq_k (fun KK hKK => ?_)
  refine wp_region_seq (fun K hK => ?_)
  refine wpl_op rfl (Ex_move (by conv => lhs; whnf)) ?_
  refine wpl_op rfl (Ex_len Try.underlying23 rfl) ?_
  refine wpl_op rfl (Ex_gtr rfl rfl rfl) ?_
  refine wpl_nil (hK _ _ ?_)
  clear hK K
  refine wp_if rfl (fun ht => ?_) (fun hf => ?_)
  · clear hKK
    refine wp_region_seq (fun K hK => ?_)
    refine wpl_op rfl (Ex_assign (by conv => lhs; whnf)) ?_
    refine wpl_nil (hK _ _ ?_)
    clear hK K
    refine wp_ret ?_
    repeat (first | refine out_block ?_ | refine out_then ?_)
    refine ret_tmp Try.results15 ⟨⟨_, rfl⟩, rfl⟩
  refine wp_skip (hKK _ _ ?_)
  clear hKK KK
  have hn1 : n1 ≤ 1048576 := by have := of_decide_eq_false hf; omega
  refine wp_region_seq (fun K hK => ?_)
  refine wpl_op rfl (Ex_move (by conv => lhs; whnf)) ?_
  refine wpl_op rfl (Ex_move (by conv => lhs; whnf)) ?_
  refine wpl_op rfl (Ex_len Try.underlying23 rfl) ?_
  refine wpl_op rfl (Ex_addw rfl rfl) ?_
  refine wpl_op rfl (Ex_assign (by conv => lhs; whnf)) ?_
  refine wpl_nil (hK _ _ ?_)
  clear hK K
  refine wp_seq_k (fun KK hKK => ?_)
  refine wp_region_seq (fun K hK => ?_)
  refine wpl_op rfl (Ex_move (by conv => lhs; whnf)) ?_
  refine wpl_op rfl (Ex_gtr rfl rfl rfl) ?_
  refine wpl_nil (hK _ _ ?_)
  clear hK K
  refine wp_if rfl (fun ht => ?_) (fun hf => ?_)
  · clear hKK
    refine wp_region_seq (fun K hK => ?_)
    refine wpl_op rfl (Ex_assign (by conv => lhs; whnf)) ?_
    refine wpl_nil (hK _ _ ?_)
    clear hK K
    refine wp_ret ?_
    repeat (first | refine out_block ?_ | refine out_then ?_)
    refine ret_tmp Try.results15 ⟨⟨_, rfl⟩, rfl⟩
  refine wp_skip (hKK _ _ ?_)
  clear hKK KK
  refine wp_seq_k (fun K1 hK1 => ?_)
  refine wp_region_seq (fun K hK => ?_)
  refine wpl_op rfl (Ex_assign (by conv => lhs; whnf)) ?_
  refine wpl_nil (hK _ _ ?_)
  clear hK K
  refine wp_block ?_
  refine wp_loop_st (fun q : Nat × Int => [(1, .slice a1 n1 c1), (5, .int .i64 q.2), (6, .int .i64 (q.1 : Int))]) (fun q w' => w' = w ∧ q.1 ≤ n1) (fun q => n1 - q.1) (0, _) ⟨rfl, rfl, rfl, trivial⟩ ⟨rfl, Nat.zero_le _⟩ ?_
  rintro ⟨i, z⟩ uu w1 ⟨rfl, hi⟩ R hR
  dsimp only at hi hR ⊢
  by_cases hlt : i < n1
  · obtain ⟨b0, o0, rfl, hc⟩ := hs.get hlt
    refine wp_seq_k (fun KK hKK => ?_)
    refine wp_region_seq (fun K hK => ?_)
    refine wpl_op rfl (Ex_move (by conv => lhs; whnf)) ?_
    refine wpl_op rfl (Ex_move (by conv => lhs; whnf)) ?_
    refine wpl_op rfl (Ex_len Try.underlying23 rfl) ?_
    refine wpl_op rfl (Ex_lss rfl rfl (decide_eq_true (by omega))) ?_
    refine wpl_nil (hK _ _ ?_)
    clear hK K
    refine wp_if_true rfl ?_
    refine wp_skip (hKK _ _ ?_)
    clear hKK KK
    refine wp_seq_k (fun K' hK' => ?_)
    refine wp_block ?_
    refine wp_seq_k (fun KK hKK => ?_)
    refine wp_region_seq (fun K hK => ?_)
    refine wpl_op rfl (Ex_move (by conv => lhs; whnf)) ?_
    refine wpl_op rfl (Ex_move (by conv => lhs; whnf)) ?_
    refine wpl_op rfl (Ex_index1 Try.underlying23 size_23 rfl rfl hlt) ?_
    refine wpl_op rfl (Ex_load one9 rfl (hc i hlt)) ?_
    refine wpl_op rfl (Ex_lens Try.underlying9 rfl) ?_
    refine wpl_op rfl (Ex_gtr rfl rfl rfl) ?_
    refine wpl_nil (hK _ _ ?_)
    clear hK K
    refine wp_if rfl (fun ht => ?_) (fun hf => ?_)
    · clear hKK
      refine wp_region_seq (fun K hK => ?_)
      refine wpl_op rfl (Ex_assign (by conv => lhs; whnf)) ?_
      refine wpl_nil (hK _ _ ?_)
      clear hK K
      refine wp_ret ?_
      repeat (first | refine out_block ?_ | refine out_then ?_)
      refine ret_tmp Try.results15 ⟨⟨_, rfl⟩, rfl⟩
    refine wp_skip (hKK _ _ ?_)
    clear hKK KK
    refine wp_region_seq (fun K hK => ?_)
    refine wpl_op rfl (Ex_move (by conv => lhs; whnf)) ?_
    refine wpl_op rfl (Ex_move (by conv => lhs; whnf)) ?_
    refine wpl_op rfl (Ex_move (by conv => lhs; whnf)) ?_
    refine wpl_op rfl (Ex_index1 Try.underlying23 size_23 rfl rfl hlt) ?_
    refine wpl_op rfl (Ex_load one9 rfl (hc i hlt)) ?_
    refine wpl_op rfl (Ex_lens Try.underlying9 rfl) ?_
    refine wpl_op rfl (Ex_addw rfl rfl) ?_
    refine wpl_op rfl (Ex_assign (by conv => lhs; whnf)) ?_
    refine wpl_nil (hK _ _ ?_)
    clear hK K
    refine wp_region_seq (fun K hK => ?_)
    refine wpl_op rfl (Ex_move (by conv => lhs; whnf)) ?_
    refine wpl_op rfl (Ex_gtr rfl rfl rfl) ?_
    refine wpl_nil (hK _ _ ?_)
    clear hK K
    refine wp_if rfl (fun ht => ?_) (fun hf => ?_)
    · skip
      refine wp_region_seq (fun K hK => ?_)
      refine wpl_op rfl (Ex_assign (by conv => lhs; whnf)) ?_
      refine wpl_nil (hK _ _ ?_)
      clear hK K
      refine wp_ret ?_
      repeat (first | refine out_block ?_ | refine out_then ?_)
      refine ret_tmp Try.results15 ⟨⟨_, rfl⟩, rfl⟩
    refine wp_skip (hK' _ _ ?_)
    refine wp_region_last ?_
    refine wpl_op rfl (Ex_move (by conv => lhs; whnf)) ?_
    refine wpl_op rfl (Ex_inc rfl rfl (by omega)) ?_
    refine wpl_op rfl (Ex_assign (by conv => lhs; whnf)) ?_
    refine wpl_nil ?_
    exact hR _ _ _ (i + 1, _) ⟨rfl, rfl, rfl, trivial⟩ ⟨rfl, hlt⟩ (by dsimp only; omega)
  · have hie : i = n1 := by omega
    subst hie
    refine wp_seq_k (fun KK hKK => ?_)
    refine wp_region_seq (fun K hK => ?_)
    refine wpl_op rfl (Ex_move (by conv => lhs; whnf)) ?_
    refine wpl_op rfl (Ex_move (by conv => lhs; whnf)) ?_
    refine wpl_op rfl (Ex_len Try.underlying23 rfl) ?_
    refine wpl_op rfl (Ex_lss rfl rfl (decide_eq_false (by omega))) ?_
    refine wpl_nil (hK _ _ ?_)
    clear hK K
    refine wp_if_false rfl ?_
    refine wp_exit ?_
    clear hKK
    refine hK1 _ _ ?_
    refine wp_region_seq (fun K hK => ?_)
    refine wpl_op rfl (Ex_assign (by conv => lhs; whnf)) ?_
    refine wpl_nil (hK _ _ ?_)
    clear hK K
    refine wp_ret ?_
    repeat (first | refine out_block ?_ | refine out_then ?_)
    refine ret_tmp Try.results15 ⟨⟨_, rfl⟩, rfl⟩

theorem bytes19_ret (a0 a1 : Option Addr) (n0 c0 n1 c1 : Nat) (h : Nat → ByteArray) (w : World) (hs : StrsAt w a1 n1 h) :
    Ret Try.prog 19 #[.slice a0 n0 c0, .slice a1 n1 c1] w fun v w' => (∃ b, v = .bool b) ∧ w = w' := by
  refine Ret.of_body (vs := [.slice a0 n0 c0, .slice a1 n1 c1]) Try.func19 rfl Try.ntmps19 rfl ?_
  refine wp_region_seq (fun K hK => ?_)
  refine wpl_op rfl (Ex_assign (by conv => lhs; whnf)) ?_
  refine wpl_nil (hK _ _ ?_)
  clear hK K
  refine wp_region_seq (fun K hK => ?_)
  refine wpl_op rfl (Ex_assign (by conv => lhs; whnf)) ?_
  refine wpl_nil (hK _ _ ?_)
  clear hK K
  refine wp_seq_k (fun KK hKK => ?_)
  refine wp_region_seq (fun K hK => ?_)
  refine wpl_op rfl (Ex_move (by conv => lhs; whnf)) ?_
  refine wpl_op rfl (Ex_len Try.underlying22 rfl) ?_
  refine wpl_op rfl (Ex_gtr rfl rfl rfl) ?_
  refine wpl_nil (hK _ _ ?_)
  clear hK K
  refine wp_if rfl (fun ht => ?_) (fun hf => ?_)
  · clear hKK
    refine wp_region_seq (fun K hK => ?_)
    refine wpl_op rfl (Ex_assign (by conv => lhs; whnf)) ?_
    refine wpl_nil (hK _ _ ?_)
    clear hK K
    refine wp_ret ?_
    repeat (first | refine out_block ?_ | refine out_then ?_)
    refine ret_tmp Try.results19 ⟨⟨_, rfl⟩, rfl⟩
  refine wp_skip (hKK _ _ ?_)
  clear hKK KK
  refine wp_region_seq (fun K hK => ?_)
  refine wpl_op rfl (Ex_move (by conv => lhs; whnf)) ?_
  refine wpl_op rfl (Ex_move (by conv => lhs; whnf)) ?_
  refine wpl_op rfl (Ex_len Try.underlying22 rfl) ?_
  refine wpl_op rfl (Ex_addw rfl rfl) ?_
  refine wpl_op rfl (Ex_assign (by conv => lhs; whnf)) ?_
  refine wpl_nil (hK _ _ ?_)
  clear hK K
  refine wp_seq_k (fun KK hKK => ?_)
  refine wp_region_seq (fun K hK => ?_)
  refine wpl_op rfl (Ex_move (by conv => lhs; whnf)) ?_
  refine wpl_op rfl (Ex_gtr rfl rfl rfl) ?_
  refine wpl_nil (hK _ _ ?_)
  clear hK K
  refine wp_if rfl (fun ht => ?_) (fun hf => ?_)
  · clear hKK
    refine wp_region_seq (fun K hK => ?_)
    refine wpl_op rfl (Ex_assign (by conv => lhs; whnf)) ?_
    refine wpl_nil (hK _ _ ?_)
    clear hK K
    refine wp_ret ?_
    repeat (first | refine out_block ?_ | refine out_then ?_)
    refine ret_tmp Try.results19 ⟨⟨_, rfl⟩, rfl⟩
  refine wp_skip (hKK _ _ ?_)
  clear hKK KK
  clear hf
  refine wp_seq_k (fun KK hKK => ?_)
  refine wp_region_seq (fun K hK => ?_)
  refine wpl_op rfl (Ex_move (by conv => lhs; whnf)) ?_
  refine wpl_op rfl (Ex_len Try.underlying23 rfl) ?_
  refine wpl_op rfl (Ex_gtr rfl rfl rfl) ?_
  refine wpl_nil (hK _ _ ?_)
  clear hK K
  refine wp_if rfl (fun ht => ?_) (fun hf => ?_)
  · clear hKK
    refine wp_region_seq (fun K hK => ?_)
    refine wpl_op rfl (Ex_assign (by conv => lhs; whnf)) ?_
    refine wpl_nil (hK _ _ ?_)
    clear hK K
    refine wp_ret ?_
    repeat (first | refine out_block ?_ | refine out_then ?_)
    refine ret_tmp Try.results19 ⟨⟨_, rfl⟩, rfl⟩
  refine wp_skip (hKK _ _ ?_)
  clear hKK KK
  have hn1 : n1 ≤ 1048576 := by have := of_decide_eq_false hf; omega
  refine wp_region_seq (fun K hK => ?_)
  refine wpl_op rfl (Ex_move (by conv => lhs; whnf)) ?_
  refine wpl_op rfl (Ex_move (by conv => lhs; whnf)) ?_
  refine wpl_op rfl (Ex_len Try.underlying23 rfl) ?_
  refine wpl_op rfl (Ex_addw rfl rfl) ?_
  refine wpl_op rfl (Ex_assign (by conv => lhs; whnf)) ?_
  refine wpl_nil (hK _ _ ?_)
  clear hK K
  refine wp_seq_k (fun KK hKK => ?_)
  refine wp_region_seq (fun K hK => ?_)
  refine wpl_op rfl (Ex_move (by conv => lhs; whnf)) ?_
  refine wpl_op rfl (Ex_gtr rfl rfl rfl) ?_
  refine wpl_nil (hK _ _ ?_)
  clear hK K
  refine wp_if rfl (fun ht => ?_) (fun hf => ?_)
  · clear hKK
    refine wp_region_seq (fun K hK => ?_)
    refine wpl_op rfl (Ex_assign (by conv => lhs; whnf)) ?_
    refine wpl_nil (hK _ _ ?_)
    clear hK K
    refine wp_ret ?_
    repeat (first | refine out_block ?_ | refine out_then ?_)
    refine ret_tmp Try.results19 ⟨⟨_, rfl⟩, rfl⟩
  refine wp_skip (hKK _ _ ?_)
  clear hKK KK
  refine wp_seq_k (fun K1 hK1 => ?_)
  refine wp_region_seq (fun K hK => ?_)
  refine wpl_op rfl (Ex_assign (by conv => lhs; whnf)) ?_
  refine wpl_nil (hK _ _ ?_)
  clear hK K
  refine wp_block ?_
  refine wp_loop_st (fun q : Nat × Int => [(1, .slice a1 n1 c1), (5, .int .i64 q.2), (6, .int .i64 (q.1 : Int))]) (fun q w' => w' = w ∧ q.1 ≤ n1) (fun q => n1 - q.1) (0, _) ⟨rfl, rfl, rfl, trivial⟩ ⟨rfl, Nat.zero_le _⟩ ?_
  rintro ⟨i, z⟩ uu w1 ⟨rfl, hi⟩ R hR
  dsimp only at hi hR ⊢
  by_cases hlt : i < n1
  · obtain ⟨b0, o0, rfl, hc⟩ := hs.get hlt
    refine wp_seq_k (fun KK hKK => ?_)
    refine wp_region_seq (fun K hK => ?_)
    refine wpl_op rfl (Ex_move (by conv => lhs; whnf)) ?_
    refine wpl_op rfl (Ex_move (by conv => lhs; whnf)) ?_
    refine wpl_op rfl (Ex_len Try.underlying23 rfl) ?_
    refine wpl_op rfl (Ex_lss rfl rfl (decide_eq_true (by omega))) ?_
    refine wpl_nil (hK _ _ ?_)
    clear hK K
    refine wp_if_true rfl ?_
    refine wp_skip (hKK _ _ ?_)
    clear hKK KK
    refine wp_seq_k (fun K' hK' => ?_)
    refine wp_block ?_
    refine wp_seq_k (fun KK hKK => ?_)
    refine wp_region_seq (fun K hK => ?_)
    refine wpl_op rfl (Ex_move (by conv => lhs; whnf)) ?_
    refine wpl_op rfl (Ex_move (by conv => lhs; whnf)) ?_
    refine wpl_op rfl (Ex_index1 Try.underlying23 size_23 rfl rfl hlt) ?_
    refine wpl_op rfl (Ex_load one9 rfl (hc i hlt)) ?_
    refine wpl_op rfl (Ex_lens Try.underlying9 rfl) ?_
    refine wpl_op rfl (Ex_gtr rfl rfl rfl) ?_
    refine wpl_nil (hK _ _ ?_)
    clear hK K
    refine wp_if rfl (fun ht => ?_) (fun hf => ?_)
    · clear hKK
      refine wp_region_seq (fun K hK => ?_)
      refine wpl_op rfl (Ex_assign (by conv => lhs; whnf)) ?_
      refine wpl_nil (hK _ _ ?_)
      clear hK K
      refine wp_ret ?_
      repeat (first | refine out_block ?_ | refine out_then ?_)
      refine ret_tmp Try.results19 ⟨⟨_, rfl⟩, rfl⟩
    refine wp_skip (hKK _ _ ?_)
    clear hKK KK
    refine wp_region_seq (fun K hK => ?_)
    refine wpl_op rfl (Ex_move (by conv => lhs; whnf)) ?_
    refine wpl_op rfl (Ex_move (by conv => lhs; whnf)) ?_
    refine wpl_op rfl (Ex_move (by conv => lhs; whnf)) ?_
    refine wpl_op rfl (Ex_index1 Try.underlying23 size_23 rfl rfl hlt) ?_
    refine wpl_op rfl (Ex_load one9 rfl (hc i hlt)) ?_
    refine wpl_op rfl (Ex_lens Try.underlying9 rfl) ?_
    refine wpl_op rfl (Ex_addw rfl rfl) ?_
    refine wpl_op rfl (Ex_assign (by conv => lhs; whnf)) ?_
    refine wpl_nil (hK _ _ ?_)
    clear hK K
    refine wp_region_seq (fun K hK => ?_)
    refine wpl_op rfl (Ex_move (by conv => lhs; whnf)) ?_
    refine wpl_op rfl (Ex_gtr rfl rfl rfl) ?_
    refine wpl_nil (hK _ _ ?_)
    clear hK K
    refine wp_if rfl (fun ht => ?_) (fun hf => ?_)
    · skip
      refine wp_region_seq (fun K hK => ?_)
      refine wpl_op rfl (Ex_assign (by conv => lhs; whnf)) ?_
      refine wpl_nil (hK _ _ ?_)
      clear hK K
      refine wp_ret ?_
      repeat (first | refine out_block ?_ | refine out_then ?_)
      refine ret_tmp Try.results19 ⟨⟨_, rfl⟩, rfl⟩
    refine wp_skip (hK' _ _ ?_)
    refine wp_region_last ?_
    refine wpl_op rfl (Ex_move (by conv => lhs; whnf)) ?_
    refine wpl_op rfl (Ex_inc rfl rfl (by omega)) ?_
    refine wpl_op rfl (Ex_assign (by conv => lhs; whnf)) ?_
    refine wpl_nil ?_
    exact hR _ _ _ (i + 1, _) ⟨rfl, rfl, rfl, trivial⟩ ⟨rfl, hlt⟩ (by dsimp only; omega)
  · have hie : i = n1 := by omega
    subst hie
    refine wp_seq_k (fun KK hKK => ?_)
    refine wp_region_seq (fun K hK => ?_)
    refine wpl_op rfl (Ex_move (by conv => lhs; whnf)) ?_
    refine wpl_op rfl (Ex_move (by conv => lhs; whnf)) ?_
    refine wpl_op rfl (Ex_len Try.underlying23 rfl) ?_
    refine wpl_op rfl (Ex_lss rfl rfl (decide_eq_false (by omega))) ?_
    refine wpl_nil (hK _ _ ?_)
    clear hK K
    refine wp_if_false rfl ?_
    refine wp_exit ?_
    clear hKK
    refine hK1 _ _ ?_
    refine wp_region_seq (fun K hK => ?_)
    refine wpl_op rfl (Ex_assign (by conv => lhs; whnf)) ?_
    refine wpl_nil (hK _ _ ?_)
    clear hK K
    refine wp_ret ?_
    repeat (first | refine out_block ?_ | refine out_then ?_)
    refine ret_tmp Try.results19 ⟨⟨_, rfl⟩, rfl⟩

theorem addInts_ret (a0 : Option Addr) (n0 c0 : Nat) (w : World) :
    Ret Try.prog 9 #[.int .i64 0, .slice a0 n0 c0] w fun v w' => (∃ m : Nat, v = .int .i64 (m : Int) ∧ m ≤ 1048577 ∧ (m ≤ 1048576 → n0 ≤ 131072)) ∧ w = w' := by
  refine Ret.of_body (vs := [.int .i64 0, .slice a0 n0 c0]) Try.func9 rfl Try.ntmps9 rfl ?_
  refine wp_region_seq (fun K hK => ?_)
  refine wpl_op rfl (Ex_assign (by conv => lhs; whnf)) ?_
  refine wpl_nil (hK _ _ ?_)
  clear hK K
  refine wp_seq_k (fun KK hKK => ?_)
  refine wp_region_seq (fun K hK => ?_)
  refine wpl_op rfl (Ex_move (by conv => lhs; whnf)) ?_
  refine wpl_op rfl (Ex_gtr rfl rfl (show decide ((1048576 : Int) < 0) = false from rfl)) ?_
  refine wpl_op rfl (Ex_move (by conv => lhs; whnf)) ?_
  refine wpl_opg (by exact rfl) (by exact rfl) (Ex_move (by conv => lhs; whnf)) ?_
  refine wpl_opg (by exact rfl) (by exact rfl) (Ex_len Try.underlying22 rfl) ?_
  refine wpl_opg (by exact rfl) (by exact rfl) (Ex_move (by conv => lhs; whnf)) ?_
  refine wpl_opg (by exact rfl) (by exact rfl) (Ex_minus (m := 1048576) (n := 0) rfl rfl (by omega) (by omega)) ?_
  refine wpl_opg (by exact rfl) (by exact rfl) (Ex_quo (d := 8) rfl rfl (by omega) (by omega)) ?_
  refine wpl_opg (by exact rfl) (by exact rfl) (Ex_gtr rfl rfl rfl) ?_
  refine wpl_op rfl (Ex_pick rfl (by conv => lhs; whnf)) ?_
  refine wpl_nil (hK _ _ ?_)
  clear hK K
  refine wp_if rfl (fun ht => ?_) (fun hf => ?_)
  · clear hKK
    refine wp_region_seq (fun K hK => ?_)
    refine wpl_op rfl (Ex_assign (by conv => lhs; whnf)) ?_
    refine wpl_nil (hK _ _ ?_)
    clear hK K
    refine wp_ret ?_
    repeat (first | refine out_block ?_ | refine out_then ?_)
    refine ret_tmp Try.results9 ⟨⟨1048577, rfl, Nat.le_refl _, fun h => absurd h (by omega)⟩, rfl⟩
  refine wp_skip (hKK _ _ ?_)
  clear hKK KK
  have hn : n0 ≤ 131072 := by have := of_decide_eq_false hf; omega
  refine wp_region_seq (fun K hK => ?_)
  refine wpl_op rfl (Ex_move (by conv => lhs; whnf)) ?_
  refine wpl_op rfl (Ex_move (by conv => lhs; whnf)) ?_
  refine wpl_op rfl (Ex_len Try.underlying22 rfl) ?_
  refine wpl_op rfl (Ex_times (m := 8) rfl rfl (by omega)) ?_
  refine wpl_op rfl (Ex_plus (m := 0) rfl rfl (by omega)) ?_
  refine wpl_op rfl (Ex_assign (by conv => lhs; whnf)) ?_
  refine wpl_nil (hK _ _ ?_)
  clear hK K
  refine wp_ret ?_
  repeat (first | refine out_block ?_ | refine out_then ?_)
  refine ret_tmp Try.results9 ⟨⟨_, rfl, by omega, fun _ => hn⟩, rfl⟩

theorem addStrings_ret (m : Nat) (hm : m ≤ 1048577) (a1 : Option Addr) (n1 c1 : Nat) (h : Nat → ByteArray) (w : World) (hs : StrsAt w a1 n1 h) :
    Ret Try.prog 8 #[.int .i64 (m : Int), .slice a1 n1 c1] w fun v w' => (∃ z : Int, v = .int .i64 z ∧ (z ≤ 1048576 → m ≤ 1048576 ∧ n1 ≤ 65536)) ∧ w = w' := by
  refine Ret.of_body (vs := [.int .i64 (m : Int), .slice a1 n1 c1]) Try.func8 rfl Try.ntmps8 rfl ?_
  refine wp_region_seq (fun K hK => ?_)
  refine wpl_op rfl (Ex_assign (by conv => lhs; whnf)) ?_
  refine wpl_nil (hK _ _ ?_)
  clear hK K
  by_cases hm1 : 1048576 < m
  · skip
    refine wp_seq_k (fun KK hKK => ?_)
    refine wp_region_seq (fun K hK => ?_)
    refine wpl_op rfl (Ex_move (by conv => lhs; whnf)) ?_
    refine wpl_op rfl (Ex_gtr rfl rfl (decide_eq_true (by omega))) ?_
    refine wpl_op rfl (Ex_move (by conv => lhs; whnf)) ?_
    refine wpl_pass (by exact rfl) (by exact rfl) ?_
    refine wpl_pass (by exact rfl) (by exact rfl) ?_
    refine wpl_pass (by exact rfl) (by exact rfl) ?_
    refine wpl_pass (by exact rfl) (by exact rfl) ?_
    refine wpl_pass (by exact rfl) (by exact rfl) ?_
    refine wpl_pass (by exact rfl) (by exact rfl) ?_
    refine wpl_op rfl (Ex_pick rfl (by conv => lhs; whnf)) ?_
    refine wpl_nil (hK _ _ ?_)
    clear hK K
    refine wp_if_true rfl ?_
    clear hKK
    refine wp_region_seq (fun K hK => ?_)
    refine wpl_op rfl (Ex_assign (by conv => lhs; whnf)) ?_
    refine wpl_nil (hK _ _ ?_)
    clear hK K
    refine wp_ret ?_
    repeat (first | refine out_block ?_ | refine out_then ?_)
    refine ret_tmp Try.results8 ⟨⟨(1048577 : Int), rfl, fun h => absurd h (by omega)⟩, rfl⟩
  refine wp_seq_k (fun KK hKK => ?_)
  refine wp_region_seq (fun K hK => ?_)
  refine wpl_op rfl (Ex_move (by conv => lhs; whnf)) ?_
  refine wpl_op rfl (Ex_gtr rfl rfl (decide_eq_false (by omega))) ?_
  refine wpl_op rfl (Ex_move (by conv => lhs; whnf)) ?_
  refine wpl_opg (by exact rfl) (by exact rfl) (Ex_move (by conv => lhs; whnf)) ?_
  refine wpl_opg (by exact rfl) (by exact rfl) (Ex_len Try.underlying23 rfl) ?_
  refine wpl_opg (by exact rfl) (by exact rfl) (Ex_move (by conv => lhs; whnf)) ?_
  refine wpl_opg (by exact rfl) (by exact rfl) (Ex_minus (m := 1048576) rfl rfl (by omega) (by omega)) ?_
  refine wpl_opg (by exact rfl) (by exact rfl) (Ex_quo (d := 16) rfl rfl (by omega) (by omega)) ?_
  refine wpl_opg (by exact rfl) (by exact rfl) (Ex_gtr rfl rfl rfl) ?_
  refine wpl_op rfl (Ex_pick rfl (by conv => lhs; whnf)) ?_
  refine wpl_nil (hK _ _ ?_)
  clear hK K
  refine wp_if rfl (fun ht => ?_) (fun hf => ?_)
  · clear hKK
    refine wp_region_seq (fun K hK => ?_)
    refine wpl_op rfl (Ex_assign (by conv => lhs; whnf)) ?_
    refine wpl_nil (hK _ _ ?_)
    clear hK K
    refine wp_ret ?_
    repeat (first | refine out_block ?_ | refine out_then ?_)
    refine ret_tmp Try.results8 ⟨⟨(1048577 : Int), rfl, fun h => absurd h (by omega)⟩, rfl⟩
  refine wp_skip (hKK _ _ ?_)
  clear hKK KK
  have hn : m + 16 * n1 ≤ 1048576 := by have := of_decide_eq_false hf; omega
  refine wp_region_seq (fun K hK => ?_)
  refine wpl_op rfl (Ex_move (by conv => lhs; whnf)) ?_
  refine wpl_op rfl (Ex_move (by conv => lhs; whnf)) ?_
  refine wpl_op rfl (Ex_len Try.underlying23 rfl) ?_
  refine wpl_op rfl (Ex_times (m := 16) rfl rfl (by omega)) ?_
  refine wpl_op rfl (Ex_plus rfl rfl (by omega)) ?_
  refine wpl_op rfl (Ex_assign (by conv => lhs; whnf)) ?_
  refine wpl_nil (hK _ _ ?_)
  clear hK K
  refine wp_seq_k (fun K1 hK1 => ?_)
  refine wp_region_seq (fun K hK => ?_)
  refine wpl_op rfl (Ex_assign (by conv => lhs; whnf)) ?_
  refine wpl_nil (hK _ _ ?_)
  clear hK K
  refine wp_block ?_
  refine wp_loop_st (fun q : Nat × Nat => [(0, .int .i64 (q.2 : Int)), (1, .slice a1 n1 c1), (5, .int .i64 (q.1 : Int))]) (fun q w' => w' = w ∧ q.1 ≤ n1 ∧ q.2 ≤ 1048576) (fun q => n1 - q.1) (0, _) ⟨rfl, rfl, rfl, trivial⟩ ⟨rfl, Nat.zero_le _, hn⟩ ?_
  rintro ⟨i, z⟩ uu w1 ⟨rfl, hi, hz⟩ R hR
  dsimp only at hi hz hR ⊢
  by_cases hlt : i < n1
  · obtain ⟨b0, o0, rfl, hc⟩ := hs.get hlt
    refine wp_seq_k (fun KK hKK => ?_)
    refine wp_region_seq (fun K hK => ?_)
    refine wpl_op rfl (Ex_move (by conv => lhs; whnf)) ?_
    refine wpl_op rfl (Ex_move (by conv => lhs; whnf)) ?_
    refine wpl_op rfl (Ex_len Try.underlying23 rfl) ?_
    refine wpl_op rfl (Ex_lss rfl rfl (decide_eq_true (by omega))) ?_
    refine wpl_nil (hK _ _ ?_)
    clear hK K
    refine wp_if_true rfl ?_
    refine wp_skip (hKK _ _ ?_)
    clear hKK KK
    refine wp_seq_k (fun K' hK' => ?_)
    refine wp_block ?_
    refine wp_seq_k (fun KK hKK => ?_)
    refine wp_region_seq (fun K hK => ?_)
    refine wpl_op rfl (Ex_move (by conv => lhs; whnf)) ?_
    refine wpl_op rfl (Ex_move (by conv => lhs; whnf)) ?_
    refine wpl_op rfl (Ex_index1 Try.underlying23 size_23 rfl rfl hlt) ?_
    refine wpl_op rfl (Ex_load one9 rfl (hc i hlt)) ?_
    refine wpl_op rfl (Ex_lens Try.underlying9 rfl) ?_
    refine wpl_op rfl (Ex_move (by conv => lhs; whnf)) ?_
    refine wpl_op rfl (Ex_sub rfl rfl (by omega) (by omega)) ?_
    refine wpl_op rfl (Ex_gtr rfl rfl rfl) ?_
    refine wpl_nil (hK _ _ ?_)
    clear hK K
    refine wp_if rfl (fun ht => ?_) (fun hf => ?_)
    · clear hKK
      refine wp_region_seq (fun K hK => ?_)
      refine wpl_op rfl (Ex_assign (by conv => lhs; whnf)) ?_
      refine wpl_nil (hK _ _ ?_)
      clear hK K
      refine wp_ret ?_
      repeat (first | refine out_block ?_ | refine out_then ?_)
      refine ret_tmp Try.results8 ⟨⟨(1048577 : Int), rfl, fun h => absurd h (by omega)⟩, rfl⟩
    refine wp_skip (hKK _ _ ?_)
    clear hKK KK
    have hzi : z + (h i).size ≤ 1048576 := by have := of_decide_eq_false hf; omega
    refine wp_region_last ?_
    refine wpl_op rfl (Ex_move (by conv => lhs; whnf)) ?_
    refine wpl_op rfl (Ex_move (by conv => lhs; whnf)) ?_
    refine wpl_op rfl (Ex_move (by conv => lhs; whnf)) ?_
    refine wpl_op rfl (Ex_index1 Try.underlying23 size_23 rfl rfl hlt) ?_
    refine wpl_op rfl (Ex_load one9 rfl (hc i hlt)) ?_
    refine wpl_op rfl (Ex_lens Try.underlying9 rfl) ?_
    refine wpl_op rfl (Ex_plus rfl rfl (by omega)) ?_
    refine wpl_op rfl (Ex_assign (by conv => lhs; whnf)) ?_
    refine wpl_nil ?_
    refine hK' _ _ ?_
    refine wp_region_last ?_
    refine wpl_op rfl (Ex_move (by conv => lhs; whnf)) ?_
    refine wpl_op rfl (Ex_inc rfl rfl (by omega)) ?_
    refine wpl_op rfl (Ex_assign (by conv => lhs; whnf)) ?_
    refine wpl_nil ?_
    exact hR _ _ _ (i + 1, _) ⟨rfl, rfl, rfl, trivial⟩ ⟨rfl, hlt, hzi⟩ (by dsimp only; omega)
  · have hie : i = n1 := by omega
    subst hie
    refine wp_seq_k (fun KK hKK => ?_)
    refine wp_region_seq (fun K hK => ?_)
    refine wpl_op rfl (Ex_move (by conv => lhs; whnf)) ?_
    refine wpl_op rfl (Ex_move (by conv => lhs; whnf)) ?_
    refine wpl_op rfl (Ex_len Try.underlying23 rfl) ?_
    refine wpl_op rfl (Ex_lss rfl rfl (decide_eq_false (by omega))) ?_
    refine wpl_nil (hK _ _ ?_)
    clear hK K
    refine wp_if_false rfl ?_
    refine wp_exit ?_
    clear hKK
    refine hK1 _ _ ?_
    refine wp_region_seq (fun K hK => ?_)
    refine wpl_op rfl (Ex_move (by conv => lhs; whnf)) ?_
    refine wpl_op rfl (Ex_assign (by conv => lhs; whnf)) ?_
    refine wpl_nil (hK _ _ ?_)
    clear hK K
    refine wp_ret ?_
    repeat (first | refine out_block ?_ | refine out_then ?_)
    refine ret_tmp Try.results8 ⟨⟨_, rfl, fun _ => ⟨by omega, by omega⟩⟩, rfl⟩

theorem sums_ret (a0 : Option Addr) (k c0 : Nat) (z : Nat → Int) (hk : k ≤ 256) (w : World) (hs : IntsAt w a0 k z) :
    Ret Try.prog 16 #[.slice a0 k c0] w fun v w' => (∃ b, v = .bool b ∧ (b = true → (∀ i, i < k → 0 ≤ z i ∧ z i ≤ 16384) ∧ sm z k = 16384)) ∧ w = w' := by
  refine Ret.of_body (vs := [.slice a0 k c0]) Try.func16 rfl Try.ntmps16 rfl ?_
  refine wp_region_seq (fun K hK => ?_)
  refine wpl_op rfl (Ex_assign (by conv => lhs; whnf)) ?_
  refine wpl_nil (hK _ _ ?_)
  clear hK K
  refine wp_region_seq (fun K hK => ?_)
  refine wpl_op rfl (Ex_assign (by conv => lhs; whnf)) ?_
  refine wpl_nil (hK _ _ ?_)
  clear hK K
  refine wp_seq_k (fun K1 hK1 => ?_)
  refine wp_region_seq (fun K hK => ?_)
  refine wpl_op rfl (Ex_assign (by conv => lhs; whnf)) ?_
  refine wpl_nil (hK _ _ ?_)
  clear hK K
  refine wp_block ?_
  refine wp_loop_st (fun i : Nat => [(0, .slice a0 k c0), (3, .int .i64 (sm z i)), (4, .int .i64 (i : Int))]) (fun i w' => w' = w ∧ i ≤ k ∧ (∀ q, q < i → 0 ≤ z q ∧ z q ≤ 16384) ∧ 0 ≤ sm z i ∧ sm z i ≤ 16384 * (i : Int)) (fun i => k - i) 0 ⟨rfl, rfl, rfl, trivial⟩ ⟨rfl, Nat.zero_le _, fun _ h => by omega, Int.le_refl _, Int.le_refl _⟩ ?_
  rintro i uu w1 ⟨rfl, hi, hz, hs0, hs1⟩ R hR
  by_cases hlt : i < k
  · obtain ⟨b0, o0, rfl, hc⟩ := hs.get hlt
    refine wp_seq_k (fun KK hKK => ?_)
    refine wp_region_seq (fun K hK => ?_)
    refine wpl_op rfl (Ex_move (by conv => lhs; whnf)) ?_
    refine wpl_op rfl (Ex_move (by conv => lhs; whnf)) ?_
    refine wpl_op rfl (Ex_len Try.underlying22 rfl) ?_
    refine wpl_op rfl (Ex_lss rfl rfl (decide_eq_true (by omega))) ?_
    refine wpl_nil (hK _ _ ?_)
    clear hK K
    refine wp_if_true rfl ?_
    refine wp_skip (hKK _ _ ?_)
    clear hKK KK
    refine wp_seq_k (fun K' hK' => ?_)
    refine wp_block ?_
    by_cases hneg : z i < 0
    · skip
      refine wp_seq_k (fun KK hKK => ?_)
      refine wp_region_seq (fun K hK => ?_)
      refine wpl_op rfl (Ex_move (by conv => lhs; whnf)) ?_
      refine wpl_op rfl (Ex_move (by conv => lhs; whnf)) ?_
      refine wpl_op rfl (Ex_index1 Try.underlying22 size_22 rfl rfl hlt) ?_
      refine wpl_op rfl (Ex_load one3 rfl (hc i hlt)) ?_
      refine wpl_op rfl (Ex_lss rfl rfl (decide_eq_true hneg)) ?_
      refine wpl_op rfl (Ex_move (by conv => lhs; whnf)) ?_
      refine wpl_pass (by exact rfl) (by exact rfl) ?_
      refine wpl_pass (by exact rfl) (by exact rfl) ?_
      refine wpl_pass (by exact rfl) (by exact rfl) ?_
      refine wpl_pass (by exact rfl) (by exact rfl) ?_
      refine wpl_pass (by exact rfl) (by exact rfl) ?_
      refine wpl_op rfl (Ex_pick rfl (by conv => lhs; whnf)) ?_
      refine wpl_nil (hK _ _ ?_)
      clear hK K
      refine wp_if_true rfl ?_
      clear hKK
      refine wp_region_seq (fun K hK => ?_)
      refine wpl_op rfl (Ex_assign (by conv => lhs; whnf)) ?_
      refine wpl_nil (hK _ _ ?_)
      clear hK K
      refine wp_ret ?_
      repeat (first | refine out_block ?_ | refine out_then ?_)
      refine ret_tmp Try.results16 ⟨⟨false, rfl, fun e => by cases e⟩, rfl⟩
    refine wp_seq_k (fun KK hKK => ?_)
    refine wp_region_seq (fun K hK => ?_)
    refine wpl_op rfl (Ex_move (by conv => lhs; whnf)) ?_
    refine wpl_op rfl (Ex_move (by conv => lhs; whnf)) ?_
    refine wpl_op rfl (Ex_index1 Try.underlying22 size_22 rfl rfl hlt) ?_
    refine wpl_op rfl (Ex_load one3 rfl (hc i hlt)) ?_
    refine wpl_op rfl (Ex_lss rfl rfl (decide_eq_false hneg)) ?_
    refine wpl_op rfl (Ex_move (by conv => lhs; whnf)) ?_
    refine wpl_opg (by exact rfl) (by exact rfl) (Ex_move (by conv => lhs; whnf)) ?_
    refine wpl_opg (by exact rfl) (by exact rfl) (Ex_move (by conv => lhs; whnf)) ?_
    refine wpl_opg (by exact rfl) (by exact rfl) (Ex_index1 Try.underlying22 size_22 rfl rfl hlt) ?_
    refine wpl_opg (by exact rfl) (by exact rfl) (Ex_load one3 rfl (hc i hlt)) ?_
    refine wpl_opg (by exact rfl) (by exact rfl) (Ex_gtr rfl rfl rfl) ?_
    refine wpl_op rfl (Ex_pick rfl (by conv => lhs; whnf)) ?_
    refine wpl_nil (hK _ _ ?_)
    clear hK K
    refine wp_if rfl (fun ht => ?_) (fun hf => ?_)
    · clear hKK
      refine wp_region_seq (fun K hK => ?_)
      refine wpl_op rfl (Ex_assign (by conv => lhs; whnf)) ?_
      refine wpl_nil (hK _ _ ?_)
      clear hK K
      refine wp_ret ?_
      repeat (first | refine out_block ?_ | refine out_then ?_)
      refine ret_tmp Try.results16 ⟨⟨false, rfl, fun e => by cases e⟩, rfl⟩
    refine wp_skip (hKK _ _ ?_)
    clear hKK KK
    have hzi : z i ≤ 16384 := by have := of_decide_eq_false hf; omega
    refine wp_region_last ?_
    refine wpl_op rfl (Ex_move (by conv => lhs; whnf)) ?_
    refine wpl_op rfl (Ex_move (by conv => lhs; whnf)) ?_
    refine wpl_op rfl (Ex_move (by conv => lhs; whnf)) ?_
    refine wpl_op rfl (Ex_index1 Try.underlying22 size_22 rfl rfl hlt) ?_
    refine wpl_op rfl (Ex_load one3 rfl (hc i hlt)) ?_
    refine wpl_op rfl (Ex_add rfl rfl (by omega) (by omega)) ?_
    refine wpl_op rfl (Ex_assign (by conv => lhs; whnf)) ?_
    refine wpl_nil ?_
    refine hK' _ _ ?_
    refine wp_region_last ?_
    refine wpl_op rfl (Ex_move (by conv => lhs; whnf)) ?_
    refine wpl_op rfl (Ex_inc rfl rfl (by omega)) ?_
    refine wpl_op rfl (Ex_assign (by conv => lhs; whnf)) ?_
    refine wpl_nil ?_
    refine hR _ _ _ (i + 1) ⟨rfl, rfl, rfl, trivial⟩ ⟨rfl, hlt, fun q hq => ?_, ?_, ?_⟩ (by omega)
    · by_cases e : q = i
      · subst e; omega
      · exact hz q (by omega)
    · show 0 ≤ sm z i + z i; omega
    · show sm z i + z i ≤ _; omega
  · have hie : i = k := by omega
    subst hie
    refine wp_seq_k (fun KK hKK => ?_)
    refine wp_region_seq (fun K hK => ?_)
    refine wpl_op rfl (Ex_move (by conv => lhs; whnf)) ?_
    refine wpl_op rfl (Ex_move (by conv => lhs; whnf)) ?_
    refine wpl_op rfl (Ex_len Try.underlying22 rfl) ?_
    refine wpl_op rfl (Ex_lss rfl rfl (decide_eq_false (by omega))) ?_
    refine wpl_nil (hK _ _ ?_)
    clear hK K
    refine wp_if_false rfl ?_
    refine wp_exit ?_
    clear hKK
    refine hK1 _ _ ?_
    refine wp_region_seq (fun K hK => ?_)
    refine wpl_op rfl (Ex_move (by conv => lhs; whnf)) ?_
    refine wpl_op rfl (Ex_eql rfl rfl rfl) ?_
    refine wpl_op rfl (Ex_assign (by conv => lhs; whnf)) ?_
    refine wpl_nil (hK _ _ ?_)
    clear hK K
    refine wp_ret ?_
    repeat (first | refine out_block ?_ | refine out_then ?_)
    refine ret_tmp Try.results16 ⟨⟨_, rfl, fun e => ⟨hz, of_decide_eq_true e⟩⟩, rfl⟩

/-- How many of the first n are on the host of i. -/
def sh (h : Nat → ByteArray) (i : Nat) : Nat → Nat
  | 0 => 0
  | n + 1 => sh h i n + if same (h n) (h i) then 1 else 0
theorem sh_le (h : Nat → ByteArray) (i : Nat) : ∀ n, sh h i n ≤ n
  | 0 => Nat.le_refl _
  | n + 1 => by have := sh_le h i n; show sh h i n + _ ≤ _; split <;> omega
theorem sameHost_ret (a1 : Option Addr) (k c1 i : Nat) (h : Nat → ByteArray) (hk : k ≤ 256) (hi : i < k) (w : World) (hs : StrsAt w a1 k h) :
    Ret Try.prog 23 #[.slice a1 k c1, .int .i64 (i : Int)] w fun v w' => v = .int .i64 (sh h i k : Int) ∧ Below w.heap.size w w' := by
  refine Ret.of_body (vs := [.slice a1 k c1, .int .i64 (i : Int)]) Try.func23 rfl Try.ntmps23 rfl ?_
  obtain ⟨b0, o0, rfl, hc⟩ := hs.get hi
  refine wp_region_seq (fun K hK => ?_)
  refine wpl_op rfl (Ex_assign (by conv => lhs; whnf)) ?_
  refine wpl_nil (hK _ _ ?_)
  clear hK K
  refine wp_region_seq (fun K hK => ?_)
  refine wpl_op rfl (Ex_assign (by conv => lhs; whnf)) ?_
  refine wpl_nil (hK _ _ ?_)
  clear hK K
  refine wp_seq_k (fun K1 hK1 => ?_)
  refine wp_region_seq (fun K hK => ?_)
  refine wpl_op rfl (Ex_assign (by conv => lhs; whnf)) ?_
  refine wpl_nil (hK _ _ ?_)
  clear hK K
  refine wp_block ?_
  refine wp_loop_st (fun j : Nat => [(0, .slice (some ⟨b0, o0, none⟩) k c1), (1, .int .i64 (i : Int)), (5, .int .i64 (sh h i j : Int)), (6, .int .i64 (j : Int))]) (fun j w' => Below w.heap.size w w' ∧ j ≤ k) (fun j => k - j) 0 ⟨rfl, rfl, rfl, rfl, trivial⟩ ⟨Below.refl _ _, Nat.zero_le _⟩ ?_
  rintro j uu w1 ⟨hb1, hj⟩ R hR
  have hc1 : ∀ q, q < k → w1.cell? ⟨b0, o0 + q, none⟩ = some (.string (h q)) := fun q hq => cell_later hb1 (hc q hq)
  by_cases hlt : j < k
  · skip
    refine wp_seq_k (fun KK hKK => ?_)
    refine wp_region_seq (fun K hK => ?_)
    refine wpl_op rfl (Ex_move (by conv => lhs; whnf)) ?_
    refine wpl_op rfl (Ex_move (by conv => lhs; whnf)) ?_
    refine wpl_op rfl (Ex_len Try.underlying23 rfl) ?_
    refine wpl_op rfl (Ex_lss rfl rfl (decide_eq_true (by omega))) ?_
    refine wpl_nil (hK _ _ ?_)
    clear hK K
    refine wp_if_true rfl ?_
    refine wp_skip (hKK _ _ ?_)
    clear hKK KK
    refine wp_seq_k (fun K' hK' => ?_)
    refine wp_block ?_
    refine wp_quiet_seq (by kernel_rfl) (by kernel_rfl) (fun K hK => ?_)
    refine wpq_op (fun w hw => Ex_move (by conv => lhs; whnf)) ?_
    refine wpq_op (fun w hw => Ex_move (by conv => lhs; whnf)) ?_
    refine wpq_op (fun w hw => Ex_index1 Try.underlying23 size_23 rfl rfl hlt) ?_
    refine wpq_op (fun w hw => Ex_load one9 rfl (cell_later hw (hc1 j hlt))) ?_
    refine wpq_op (fun w hw => Ex_move (by conv => lhs; whnf)) ?_
    refine wpq_op (fun w hw => Ex_move (by conv => lhs; whnf)) ?_
    refine wpq_op (fun w hw => Ex_index1 Try.underlying23 size_23 rfl rfl hi) ?_
    refine wpq_op (fun w hw => Ex_load one9 rfl (cell_later hw (hc1 i hi))) ?_
    refine wpq_op (fun w hw => Ex_eqls rfl rfl rfl) ?_
    refine wpq_nil (fun w2 hw2 => hK _ _ ?_)
    clear hK K
    have hb2 := hb1.trans (hw2.mono hb1.size)
    have hsl := sh_le h i j
    refine wp_if rfl (fun ht => ?_) (fun hf => ?_)
    · skip
      refine wp_region_last ?_
      refine wpl_op rfl (Ex_move (by conv => lhs; whnf)) ?_
      refine wpl_op rfl (Ex_inc rfl rfl (by omega)) ?_
      refine wpl_op rfl (Ex_assign (by conv => lhs; whnf)) ?_
      refine wpl_nil ?_
      refine hK' _ _ ?_
      refine wp_region_last ?_
      refine wpl_op rfl (Ex_move (by conv => lhs; whnf)) ?_
      refine wpl_op rfl (Ex_inc rfl rfl (by omega)) ?_
      refine wpl_op rfl (Ex_assign (by conv => lhs; whnf)) ?_
      refine wpl_nil ?_
      exact hR _ _ _ (j + 1) ⟨rfl, rfl, by show _ = Value.int .i64 ((sh h i j + _ : Nat) : Int); rw [if_pos ht]; rfl, rfl, trivial⟩ ⟨hb2, hlt⟩ (by omega)
    · refine wp_skip ?_
      refine hK' _ _ ?_
      refine wp_region_last ?_
      refine wpl_op rfl (Ex_move (by conv => lhs; whnf)) ?_
      refine wpl_op rfl (Ex_inc rfl rfl (by omega)) ?_
      refine wpl_op rfl (Ex_assign (by conv => lhs; whnf)) ?_
      refine wpl_nil ?_
      exact hR _ _ _ (j + 1) ⟨rfl, rfl, by show _ = Value.int .i64 ((sh h i j + _ : Nat) : Int); rw [if_neg (by rw [hf]; exact Bool.false_ne_true)]; rfl, rfl, trivial⟩ ⟨hb2, hlt⟩ (by omega)
  · have hje : j = k := by omega
    subst hje
    refine wp_seq_k (fun KK hKK => ?_)
    refine wp_region_seq (fun K hK => ?_)
    refine wpl_op rfl (Ex_move (by conv => lhs; whnf)) ?_
    refine wpl_op rfl (Ex_move (by conv => lhs; whnf)) ?_
    refine wpl_op rfl (Ex_len Try.underlying23 rfl) ?_
    refine wpl_op rfl (Ex_lss rfl rfl (decide_eq_false (by omega))) ?_
    refine wpl_nil (hK _ _ ?_)
    clear hK K
    refine wp_if_false rfl ?_
    refine wp_exit ?_
    clear hKK
    refine hK1 _ _ ?_
    refine wp_region_seq (fun K hK => ?_)
    refine wpl_op rfl (Ex_move (by conv => lhs; whnf)) ?_
    refine wpl_op rfl (Ex_assign (by conv => lhs; whnf)) ?_
    refine wpl_nil (hK _ _ ?_)
    clear hK K
    refine wp_ret ?_
    repeat (first | refine out_block ?_ | refine out_then ?_)
    refine ret_tmp Try.results23 ⟨rfl, hb1⟩

/-- No one of the first n is on the host of i. -/
abbrev fo (h : Nat → ByteArray) (i n : Nat) : Prop := ∀ j, j < n → same (h j) (h i) = false
theorem firstOf_ret (a1 : Option Addr) (k c1 i : Nat) (h : Nat → ByteArray) (hk : k ≤ 256) (hi : i < k) (w : World) (hs : StrsAt w a1 k h) :
    Ret Try.prog 13 #[.slice a1 k c1, .int .i64 (i : Int)] w fun v w' => (∃ b, v = .bool b ∧ (b = true ↔ fo h i i)) ∧ Below w.heap.size w w' := by
  refine Ret.of_body (vs := [.slice a1 k c1, .int .i64 (i : Int)]) Try.func13 rfl Try.ntmps13 rfl ?_
  obtain ⟨b0, o0, rfl, hc⟩ := hs.get hi
  refine wp_region_seq (fun K hK => ?_)
  refine wpl_op rfl (Ex_assign (by conv => lhs; whnf)) ?_
  refine wpl_nil (hK _ _ ?_)
  clear hK K
  refine wp_seq_k (fun K1 hK1 => ?_)
  refine wp_region_seq (fun K hK => ?_)
  refine wpl_op rfl (Ex_assign (by conv => lhs; whnf)) ?_
  refine wpl_nil (hK _ _ ?_)
  clear hK K
  refine wp_block ?_
  refine wp_loop_st (fun j : Nat => [(0, .slice (some ⟨b0, o0, none⟩) k c1), (1, .int .i64 (i : Int)), (5, .int .i64 (j : Int))]) (fun j w' => Below w.heap.size w w' ∧ j ≤ i ∧ fo h i j) (fun j => i - j) 0 ⟨rfl, rfl, rfl, trivial⟩ ⟨Below.refl _ _, Nat.zero_le _, fun _ h => by omega⟩ ?_
  rintro j uu w1 ⟨hb1, hj, hfo⟩ R hR
  have hc1 : ∀ q, q < k → w1.cell? ⟨b0, o0 + q, none⟩ = some (.string (h q)) := fun q hq => cell_later hb1 (hc q hq)
  by_cases hlt : j < i
  · have hjk : j < k := by omega
    refine wp_seq_k (fun KK hKK => ?_)
    refine wp_region_seq (fun K hK => ?_)
    refine wpl_op rfl (Ex_move (by conv => lhs; whnf)) ?_
    refine wpl_op rfl (Ex_move (by conv => lhs; whnf)) ?_
    refine wpl_op rfl (Ex_lss rfl rfl (decide_eq_true (by omega))) ?_
    refine wpl_nil (hK _ _ ?_)
    clear hK K
    refine wp_if_true rfl ?_
    refine wp_skip (hKK _ _ ?_)
    clear hKK KK
    refine wp_seq_k (fun K' hK' => ?_)
    refine wp_block ?_
    refine wp_quiet_seq (by kernel_rfl) (by kernel_rfl) (fun K hK => ?_)
    refine wpq_op (fun w hw => Ex_move (by conv => lhs; whnf)) ?_
    refine wpq_op (fun w hw => Ex_move (by conv => lhs; whnf)) ?_
    refine wpq_op (fun w hw => Ex_index1 Try.underlying23 size_23 rfl rfl hjk) ?_
    refine wpq_op (fun w hw => Ex_load one9 rfl (cell_later hw (hc1 j hjk))) ?_
    refine wpq_op (fun w hw => Ex_move (by conv => lhs; whnf)) ?_
    refine wpq_op (fun w hw => Ex_move (by conv => lhs; whnf)) ?_
    refine wpq_op (fun w hw => Ex_index1 Try.underlying23 size_23 rfl rfl hi) ?_
    refine wpq_op (fun w hw => Ex_load one9 rfl (cell_later hw (hc1 i hi))) ?_
    refine wpq_op (fun w hw => Ex_eqls rfl rfl rfl) ?_
    refine wpq_nil (fun w2 hw2 => hK _ _ ?_)
    clear hK K
    have hb2 := hb1.trans (hw2.mono hb1.size)
    refine wp_if rfl (fun ht => ?_) (fun hf => ?_)
    · skip
      refine wp_region_seq (fun K hK => ?_)
      refine wpl_op rfl (Ex_assign (by conv => lhs; whnf)) ?_
      refine wpl_nil (hK _ _ ?_)
      clear hK K
      refine wp_ret ?_
      repeat (first | refine out_block ?_ | refine out_then ?_)
      refine ret_tmp Try.results13 ⟨⟨false, rfl, ⟨fun e => (by cases e), fun e => by rw [e j hlt] at ht; cases ht⟩⟩, hb2⟩
    refine wp_skip (hK' _ _ ?_)
    refine wp_region_last ?_
    refine wpl_op rfl (Ex_move (by conv => lhs; whnf)) ?_
    refine wpl_op rfl (Ex_inc rfl rfl (by omega)) ?_
    refine wpl_op rfl (Ex_assign (by conv => lhs; whnf)) ?_
    refine wpl_nil ?_
    refine hR _ _ _ (j + 1) ⟨rfl, rfl, rfl, trivial⟩ ⟨hb2, hlt, fun q hq => ?_⟩ (by omega)
    by_cases e : q = j
    · rw [e]; exact hf
    · exact hfo q (by omega)
  · have hje : j = i := by omega
    subst hje
    refine wp_seq_k (fun KK hKK => ?_)
    refine wp_region_seq (fun K hK => ?_)
    refine wpl_op rfl (Ex_move (by conv => lhs; whnf)) ?_
    refine wpl_op rfl (Ex_move (by conv => lhs; whnf)) ?_
    refine wpl_op rfl (Ex_lss rfl rfl (decide_eq_false (by omega))) ?_
    refine wpl_nil (hK _ _ ?_)
    clear hK K
    refine wp_if_false rfl ?_
    refine wp_exit ?_
    clear hKK
    refine hK1 _ _ ?_
    refine wp_region_seq (fun K hK => ?_)
    refine wpl_op rfl (Ex_assign (by conv => lhs; whnf)) ?_
    refine wpl_nil (hK _ _ ?_)
    clear hK K
    refine wp_ret ?_
    repeat (first | refine out_block ?_ | refine out_then ?_)
    refine ret_tmp Try.results13 ⟨⟨true, rfl, ⟨fun _ => hfo, fun _ => rfl⟩⟩, hb1⟩

theorem half_ret (a1 : Option Addr) (k c1 : Nat) (h : Nat → ByteArray) (hk : k ≤ 256) (w : World) (hs : StrsAt w a1 k h) :
    Ret Try.prog 11 #[.slice a1 k c1] w fun v w' => (∃ b, v = .bool b ∧ (b = true → ∀ i, i < k → 2 * sh h i k ≤ k)) ∧ Below w.heap.size w w' := by
  refine Ret.of_body (vs := [.slice a1 k c1]) Try.func11 rfl Try.ntmps11 rfl ?_
  refine wp_region_seq (fun K hK => ?_)
  refine wpl_op rfl (Ex_assign (by conv => lhs; whnf)) ?_
  refine wpl_nil (hK _ _ ?_)
  clear hK K
  refine wp_seq_k (fun K1 hK1 => ?_)
  refine wp_region_seq (fun K hK => ?_)
  refine wpl_op rfl (Ex_assign (by conv => lhs; whnf)) ?_
  refine wpl_nil (hK _ _ ?_)
  clear hK K
  refine wp_block ?_
  refine wp_loop_st (fun i : Nat => [(0, .slice a1 k c1), (3, .int .i64 (i : Int))]) (fun i w' => Below w.heap.size w w' ∧ i ≤ k ∧ ∀ q, q < i → 2 * sh h q k ≤ k) (fun i => k - i) 0 ⟨rfl, rfl, trivial⟩ ⟨Below.refl _ _, Nat.zero_le _, fun _ h => by omega⟩ ?_
  rintro i uu w1 ⟨hb1, hi, hq1⟩ R hR
  by_cases hlt : i < k
  · have hsl := sh_le h i k
    refine wp_seq_k (fun KK hKK => ?_)
    refine wp_region_seq (fun K hK => ?_)
    refine wpl_op rfl (Ex_move (by conv => lhs; whnf)) ?_
    refine wpl_op rfl (Ex_move (by conv => lhs; whnf)) ?_
    refine wpl_op rfl (Ex_len Try.underlying23 rfl) ?_
    refine wpl_op rfl (Ex_lss rfl rfl (decide_eq_true (by omega))) ?_
    refine wpl_nil (hK _ _ ?_)
    clear hK K
    refine wp_if_true rfl ?_
    refine wp_skip (hKK _ _ ?_)
    clear hKK KK
    refine wp_seq_k (fun K' hK' => ?_)
    refine wp_block ?_
    refine wp_region_seq (fun K hK => ?_)
    refine wpl_op rfl (Ex_move (by conv => lhs; whnf)) ?_
    refine wpl_op rfl (Ex_move (by conv => lhs; whnf)) ?_
    refine wpl_call rfl (ExC_func ent23 rfl rfl) (sameHost_ret a1 k c1 i h hk hlt _ (hs.below hb1)) ?_
    rintro v w2 ⟨rfl, hw2⟩
    refine wpl_op rfl (Ex_two rfl rfl (by omega)) ?_
    refine wpl_op rfl (Ex_move (by conv => lhs; whnf)) ?_
    refine wpl_op rfl (Ex_len Try.underlying23 rfl) ?_
    refine wpl_op rfl (Ex_gtr rfl rfl rfl) ?_
    refine wpl_nil (hK _ _ ?_)
    clear hK K
    have hb2 := hb1.trans (hw2.mono hb1.size)
    refine wp_if rfl (fun ht => ?_) (fun hf => ?_)
    · skip
      refine wp_region_seq (fun K hK => ?_)
      refine wpl_op rfl (Ex_assign (by conv => lhs; whnf)) ?_
      refine wpl_nil (hK _ _ ?_)
      clear hK K
      refine wp_ret ?_
      repeat (first | refine out_block ?_ | refine out_then ?_)
      refine ret_tmp Try.results11 ⟨⟨false, rfl, fun e => (by cases e)⟩, hb2⟩
    refine wp_skip (hK' _ _ ?_)
    refine wp_region_last ?_
    refine wpl_op rfl (Ex_move (by conv => lhs; whnf)) ?_
    refine wpl_op rfl (Ex_inc rfl rfl (by omega)) ?_
    refine wpl_op rfl (Ex_assign (by conv => lhs; whnf)) ?_
    refine wpl_nil ?_
    refine hR _ _ _ (i + 1) ⟨rfl, rfl, trivial⟩ ⟨hb2, hlt, fun q hq => ?_⟩ (by omega)
    by_cases e : q = i
    · rw [e]; have := of_decide_eq_false hf; omega
    · exact hq1 q (by omega)
  · have hie : i = k := by omega
    subst hie
    refine wp_seq_k (fun KK hKK => ?_)
    refine wp_region_seq (fun K hK => ?_)
    refine wpl_op rfl (Ex_move (by conv => lhs; whnf)) ?_
    refine wpl_op rfl (Ex_move (by conv => lhs; whnf)) ?_
    refine wpl_op rfl (Ex_len Try.underlying23 rfl) ?_
    refine wpl_op rfl (Ex_lss rfl rfl (decide_eq_false (by omega))) ?_
    refine wpl_nil (hK _ _ ?_)
    clear hK K
    refine wp_if_false rfl ?_
    refine wp_exit ?_
    clear hKK
    refine hK1 _ _ ?_
    refine wp_region_seq (fun K hK => ?_)
    refine wpl_op rfl (Ex_assign (by conv => lhs; whnf)) ?_
    refine wpl_nil (hK _ _ ?_)
    clear hK K
    refine wp_ret ?_
    repeat (first | refine out_block ?_ | refine out_then ?_)
    refine ret_tmp Try.results11 ⟨⟨true, rfl, fun _ => hq1⟩, hb1⟩

theorem square_nil (k : Nat) (w : World) : Ret Try.prog 12 #[.slice none 0 0, .int .i64 (k : Int)] w fun v w' => v = .bool false ∧ w = w' := by
  refine Ret.of_body (vs := [.slice none 0 0, .int .i64 (k : Int)]) Try.func12 rfl Try.ntmps12 rfl ?_
  refine wp_region_seq (fun K hK => ?_)
  refine wpl_op rfl (Ex_assign (by conv => lhs; whnf)) ?_
  refine wpl_nil (hK _ _ ?_)
  clear hK K
  refine wp_seq_k (fun KK hKK => ?_)
  refine wp_region_seq (fun K hK => ?_)
  refine wpl_op rfl (Ex_move (by conv => lhs; whnf)) ?_
  refine wpl_op rfl (Ex_eqlnil Try.underlying27 rfl rfl rfl) ?_
  refine wpl_op rfl (Ex_move (by conv => lhs; whnf)) ?_
  refine wpl_pass (by exact rfl) (by exact rfl) ?_
  refine wpl_pass (by exact rfl) (by exact rfl) ?_
  refine wpl_pass (by exact rfl) (by exact rfl) ?_
  refine wpl_pass (by exact rfl) (by exact rfl) ?_
  refine wpl_op rfl (Ex_pick rfl (by conv => lhs; whnf)) ?_
  refine wpl_nil (hK _ _ ?_)
  clear hK K
  refine wp_if_true rfl ?_
  clear hKK
  refine wp_region_seq (fun K hK => ?_)
  refine wpl_op rfl (Ex_assign (by conv => lhs; whnf)) ?_
  refine wpl_nil (hK _ _ ?_)
  clear hK K
  refine wp_ret ?_
  repeat (first | refine out_block ?_ | refine out_then ?_)
  refine ret_tmp Try.results12 ⟨rfl, rfl⟩

theorem square_ret (k gX : Nat) (xb : Nat → Nat) (x : Nat → Nat → Int) (hkb : k ≤ 256) (w : World) (hq : Sq w k gX xb x k) : Ret Try.prog 12 #[sl gX k, .int .i64 (k : Int)] w fun v w' => v = .bool true ∧ w = w' := by
  refine Ret.of_body (vs := [sl gX k, .int .i64 (k : Int)]) Try.func12 rfl Try.ntmps12 rfl ?_
  refine wp_region_seq (fun K hK => ?_)
  refine wpl_op rfl (Ex_assign (by conv => lhs; whnf)) ?_
  refine wpl_nil (hK _ _ ?_)
  clear hK K
  refine wp_seq_k (fun KK hKK => ?_)
  refine wp_region_seq (fun K hK => ?_)
  refine wpl_op rfl (Ex_move (by conv => lhs; whnf)) ?_
  refine wpl_op rfl (Ex_eqlnil Try.underlying27 rfl rfl rfl) ?_
  refine wpl_op rfl (Ex_move (by conv => lhs; whnf)) ?_
  refine wpl_opg (by exact rfl) (by exact rfl) (Ex_move (by conv => lhs; whnf)) ?_
  refine wpl_opg (by exact rfl) (by exact rfl) (Ex_len Try.underlying27 rfl) ?_
  refine wpl_opg (by exact rfl) (by exact rfl) (Ex_move (by conv => lhs; whnf)) ?_
  refine wpl_opg (by exact rfl) (by exact rfl) (Ex_neq rfl rfl (show (!decide ((k : Int) = k)) = false by simp)) ?_
  refine wpl_op rfl (Ex_pick rfl (by conv => lhs; whnf)) ?_
  refine wpl_nil (hK _ _ ?_)
  clear hK K
  refine wp_if_false rfl ?_
  refine wp_skip (hKK _ _ ?_)
  clear hKK KK
  refine wp_seq_k (fun K1 hK1 => ?_)
  refine wp_region_seq (fun K hK => ?_)
  refine wpl_op rfl (Ex_assign (by conv => lhs; whnf)) ?_
  refine wpl_nil (hK _ _ ?_)
  clear hK K
  refine wp_block ?_
  refine wp_loop_st (fun i : Nat => [(0, sl gX k), (1, .int .i64 (k : Int)), (5, .int .i64 (i : Int))]) (fun i w' => w' = w ∧ i ≤ k) (fun i => k - i) 0 ⟨rfl, rfl, rfl, trivial⟩ ⟨rfl, Nat.zero_le _⟩ ?_
  rintro i uu w1 ⟨rfl, hi⟩ R hR
  by_cases hlt : i < k
  · skip
    refine wp_seq_k (fun KK hKK => ?_)
    refine wp_region_seq (fun K hK => ?_)
    refine wpl_op rfl (Ex_move (by conv => lhs; whnf)) ?_
    refine wpl_op rfl (Ex_move (by conv => lhs; whnf)) ?_
    refine wpl_op rfl (Ex_lss rfl rfl (decide_eq_true (by omega))) ?_
    refine wpl_nil (hK _ _ ?_)
    clear hK K
    refine wp_if_true rfl ?_
    refine wp_skip (hKK _ _ ?_)
    clear hKK KK
    refine wp_seq_k (fun K' hK' => ?_)
    refine wp_block ?_
    refine wp_region_seq (fun K hK => ?_)
    refine wpl_op rfl (Ex_move (by conv => lhs; whnf)) ?_
    refine wpl_op rfl (Ex_move (by conv => lhs; whnf)) ?_
    refine wpl_op rfl (Ex_index1 Try.underlying27 size_27 rfl rfl hlt) ?_
    refine wpl_op rfl (Ex_load one22 rfl (hq.top.c0 hlt)) ?_
    refine wpl_op rfl (Ex_len Try.underlying22 rfl) ?_
    refine wpl_op rfl (Ex_move (by conv => lhs; whnf)) ?_
    refine wpl_op rfl (Ex_neq rfl rfl (show (!decide ((k : Int) = k)) = false by simp)) ?_
    refine wpl_nil (hK _ _ ?_)
    clear hK K
    refine wp_if_false rfl ?_
    refine wp_skip (hK' _ _ ?_)
    refine wp_region_last ?_
    refine wpl_op rfl (Ex_move (by conv => lhs; whnf)) ?_
    refine wpl_op rfl (Ex_inc rfl rfl (by omega)) ?_
    refine wpl_op rfl (Ex_assign (by conv => lhs; whnf)) ?_
    refine wpl_nil ?_
    exact hR _ _ _ (i + 1) ⟨rfl, rfl, rfl, trivial⟩ ⟨rfl, hlt⟩ (by omega)
  · have hie : i = k := by omega
    subst hie
    refine wp_seq_k (fun KK hKK => ?_)
    refine wp_region_seq (fun K hK => ?_)
    refine wpl_op rfl (Ex_move (by conv => lhs; whnf)) ?_
    refine wpl_op rfl (Ex_move (by conv => lhs; whnf)) ?_
    refine wpl_op rfl (Ex_lss rfl rfl (decide_eq_false (by omega))) ?_
    refine wpl_nil (hK _ _ ?_)
    clear hK K
    refine wp_if_false rfl ?_
    refine wp_exit ?_
    clear hKK
    refine hK1 _ _ ?_
    refine wp_region_seq (fun K hK => ?_)
    refine wpl_op rfl (Ex_assign (by conv => lhs; whnf)) ?_
    refine wpl_nil (hK _ _ ?_)
    clear hK K
    refine wp_ret ?_
    repeat (first | refine out_block ?_ | refine out_then ?_)
    refine ret_tmp Try.results12 ⟨rfl, rfl⟩
end Go.Proofs.Qxb6613837a.Sp
