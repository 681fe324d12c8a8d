import Derived.Test.Qxb6614022aRows
import Derived.Test.Qxb6614022aMem
namespace Go.Proofs.Qxb6614022a.Swap
open Go.Fr Go.RowKit

theorem one3 : One Try.prog 3 := ⟨fun w => by simp [go_sem], fun w => by simp [go_sem]⟩
theorem size_24 : ∀ w, (sizeOf 3).run Try.prog w = .ok 1 w := one3.2
theorem size_67 : ∀ w, (sizeOf 3).run Try.prog w = .ok 1 w := one3.2
theorem info3 : (Try.prog.info? 3).map (fun i => (i.zero, i.size, i.bytes)) = some (some (.int .i64 0), 1, 8) := by kernel_rfl
theorem ent23 : Enters Try.prog 23 := enters Try.func23 (by rfl) rfl
theorem ent24 : Enters Try.prog 24 := enters Try.func24 (by rfl) rfl
theorem ent25 : Enters Try.prog 25 := enters Try.func25 (by rfl) rfl
theorem ent32 : Enters Try.prog 32 := enters Try.func32 (by rfl) rfl

theorem bytes_ret (a0 : Option Addr) (n0 c0 : Nat) (w : World) :
    Ret Try.prog 23 #[.slice a0 n0 c0] w fun v w' => (∃ b, v = .bool b) ∧ w = w' := by
  refine Ret.of_body (vs := [.slice a0 n0 c0]) Try.func23 rfl Try.ntmps23 rfl ?_
  refine wp_region_seq (fun K hK => ?_)
  refine wpl_op rfl (Ex_assign (by conv => lhs; whnf)) ?_
  refine wpl_nil (hK _ _ ?_)
  clear hK K
  refine wp_region_seq (fun K hK => ?_)
  refine wpl_op rfl (Ex_assign (by conv => lhs; whnf)) ?_
  refine wpl_nil (hK _ _ ?_)
  clear hK K
  refine wp_seq_k (fun KK hKK => ?_)
  refine wp_region_seq (fun K hK => ?_)
  refine wpl_op rfl (Ex_move (by conv => lhs; whnf)) ?_
  refine wpl_op rfl (Ex_len Try.underlying24 rfl) ?_
  refine wpl_op rfl (Ex_gtr rfl rfl rfl) ?_
  refine wpl_nil (hK _ _ ?_)
  clear hK K
  refine wp_if rfl (fun ht => ?_) (fun hf => ?_)
  · clear hKK
    refine wp_region_seq (fun K hK => ?_)
    refine wpl_op rfl (Ex_assign (by conv => lhs; whnf)) ?_
    refine wpl_nil (hK _ _ ?_)
    clear hK K
    refine wp_ret ?_
    repeat (first | refine out_block ?_ | refine out_then ?_)
    refine ret_tmp Try.results23 ⟨⟨_, rfl⟩, rfl⟩
  refine wp_skip (hKK _ _ ?_)
  clear hKK KK
  refine wp_region_seq (fun K hK => ?_)
  refine wpl_op rfl (Ex_move (by conv => lhs; whnf)) ?_
  refine wpl_op rfl (Ex_move (by conv => lhs; whnf)) ?_
  refine wpl_op rfl (Ex_len Try.underlying24 rfl) ?_
  refine wpl_op rfl (Ex_addw rfl rfl) ?_
  refine wpl_op rfl (Ex_assign (by conv => lhs; whnf)) ?_
  refine wpl_nil (hK _ _ ?_)
  clear hK K
  refine wp_seq_k (fun KK hKK => ?_)
  refine wp_region_seq (fun K hK => ?_)
  refine wpl_op rfl (Ex_move (by conv => lhs; whnf)) ?_
  refine wpl_op rfl (Ex_gtr rfl rfl rfl) ?_
  refine wpl_nil (hK _ _ ?_)
  clear hK K
  refine wp_if rfl (fun ht => ?_) (fun hf => ?_)
  · clear hKK
    refine wp_region_seq (fun K hK => ?_)
    refine wpl_op rfl (Ex_assign (by conv => lhs; whnf)) ?_
    refine wpl_nil (hK _ _ ?_)
    clear hK K
    refine wp_ret ?_
    repeat (first | refine out_block ?_ | refine out_then ?_)
    refine ret_tmp Try.results23 ⟨⟨_, rfl⟩, rfl⟩
  refine wp_skip (hKK _ _ ?_)
  clear hKK KK
  refine wp_region_seq (fun K hK => ?_)
  refine wpl_op rfl (Ex_assign (by conv => lhs; whnf)) ?_
  refine wpl_nil (hK _ _ ?_)
  clear hK K
  refine wp_ret ?_
  repeat (first | refine out_block ?_ | refine out_then ?_)
  refine ret_tmp Try.results23 ⟨⟨_, rfl⟩, rfl⟩

theorem clone_ret (a0 : Option Addr) (n c0 : Nat) (z : Nat → Int) (w : World) (h0 : IntsAt w a0 n z) (hn : n ≤ 1000000) :
    Ret Try.prog 24 #[.slice a0 n c0] w fun v w' => (a0 = none ∧ v = .slice none 0 0 ∧ w' = w) ∨
      (a0 ≠ none ∧ v = .slice (some ⟨w.heap.size, 0, none⟩) n n ∧ Own w' w.heap.size 3 n n (fun i => .int .i64 (z i)) ∧ Below w.heap.size w w') := by
  refine Ret.of_body (vs := [.slice a0 n c0]) Try.func24 rfl Try.ntmps24 rfl ?_
  refine wp_region_seq (fun K hK => ?_)
  refine wpl_op rfl (Ex_assign (by conv => lhs; whnf)) ?_
  refine wpl_nil (hK _ _ ?_)
  clear hK K
  cases a0 with
  | none =>
    refine wp_seq_k (fun KK hKK => ?_)
    refine wp_region_seq (fun K hK => ?_)
    refine wpl_op rfl (Ex_move (by conv => lhs; whnf)) ?_
    refine wpl_op rfl (Ex_eqlnil Try.underlying24 rfl rfl rfl) ?_
    refine wpl_nil (hK _ _ ?_)
    clear hK K
    refine wp_if_true rfl ?_
    clear hKK
    refine wp_region_seq (fun K hK => ?_)
    refine wpl_op rfl (Ex_assign (by conv => lhs; whnf)) ?_
    refine wpl_nil (hK _ _ ?_)
    clear hK K
    refine wp_ret ?_
    repeat (first | refine out_block ?_ | refine out_then ?_)
    refine ret_tmp Try.results24 (.inl ⟨rfl, rfl, rfl⟩)
  | some a =>
    refine wp_seq_k (fun KK hKK => ?_)
    refine wp_region_seq (fun K hK => ?_)
    refine wpl_op rfl (Ex_move (by conv => lhs; whnf)) ?_
    refine wpl_op rfl (Ex_eqlnil Try.underlying24 rfl rfl rfl) ?_
    refine wpl_nil (hK _ _ ?_)
    clear hK K
    refine wp_if_false rfl ?_
    refine wp_skip (hKK _ _ ?_)
    clear hKK KK
    refine wp_region_seq (fun K hK => ?_)
    refine wpl_op rfl (Ex_move (by conv => lhs; whnf)) ?_
    refine wpl_op rfl (Ex_len Try.underlying24 rfl) ?_
    refine wpl_op rfl (Ex_mk Try.underlying24 info3 rfl rfl (by omega) (by omega)) ?_
    refine wpl_op rfl (Ex_assign (by conv => lhs; whnf)) ?_
    refine wpl_nil (hK _ _ ?_)
    clear hK K
    refine wp_seq_k (fun K hK => ?_)
    refine wp_region_seq (fun K hK => ?_)
    refine wpl_op rfl (Ex_move (by conv => lhs; whnf)) ?_
    refine wpl_op rfl (Ex_len Try.underlying24 rfl) ?_
    refine wpl_op rfl (Ex_move (by conv => lhs; whnf)) ?_
    refine wpl_nil (hK _ _ ?_)
    clear hK K
    refine wp_block ?_
    refine wp_loop_st (fun k : Nat => [(0, .slice (some a) n c0), (3, .slice (some ⟨w.heap.size, 0, none⟩) n n), (11, .int .i64 n), (12, .int .i64 k)])
      (fun k w' => Below w.heap.size w w' ∧ k ≤ n ∧ Own w' w.heap.size 3 n k (fun i => .int .i64 (z i))) (fun k => n - k) 0 ⟨rfl, rfl, rfl, rfl, trivial⟩
      ⟨(Below.refl _ _).alloc (Nat.le_refl _) _, Nat.zero_le _, by rw [Nat.mul_one]; exact Own.made w _ n _ _⟩ ?_
    rintro k u w' ⟨hb, hk, hown⟩ R hR
    by_cases hlt : k < n
    · obtain ⟨b0, o0, he, hc0⟩ := h0.get hlt
      cases he
      have hc := (cell_later hb (hc0 k hlt))
      obtain ⟨old, hold⟩ := hown.some hlt
      refine wp_region_seq (fun K hK => ?_)
      refine wpl_op rfl (Ex_lss rfl rfl (decide_eq_true (by omega))) ?_
      refine wpl_nil (hK _ _ ?_)
      clear hK K
      refine wp_seq_k (fun K' hK' => ?_)
      refine wp_if_true rfl ?_
      refine wp_skip (hK' _ _ ?_)
      clear hK' K'
      refine wp_seq_k (fun K' hK' => ?_)
      refine wp_block ?_
      refine wp_region_seq (fun K hK => ?_)
      refine wpl_op rfl (Ex_move (by conv => lhs; whnf)) ?_
      refine wpl_op rfl (Ex_assign (by conv => lhs; whnf)) ?_
      refine wpl_nil (hK _ _ ?_)
      clear hK K
      refine wp_region_last ?_
      refine wpl_op rfl (Ex_move (by conv => lhs; whnf)) ?_
      refine wpl_op rfl (Ex_move (by conv => lhs; whnf)) ?_
      refine wpl_op rfl (Ex_move (by conv => lhs; whnf)) ?_
      refine wpl_op rfl (Ex_move (by conv => lhs; whnf)) ?_
      refine wpl_op rfl (Ex_index1 Try.underlying24 size_24 rfl rfl hlt) ?_
      refine wpl_op rfl (Ex_load one3 rfl hc) ?_
      refine wpl_op rfl (Ex_index1 Try.underlying24 size_24 rfl rfl hlt) ?_
      refine wpl_op rfl (Ex_store one3 rfl (by conv => lhs; whnf) rfl (by rw [Nat.zero_add]; exact hold) hown.open_) ?_
      refine wpl_nil ?_
      refine hK' _ _ ?_
      refine wp_region_last ?_
      refine wpl_op rfl (Ex_inc rfl rfl (by omega)) ?_
      refine wpl_op rfl (Ex_move (by conv => lhs; whnf)) ?_
      refine wpl_nil ?_
      refine hR _ _ _ (k + 1) ⟨rfl, rfl, rfl, rfl, trivial⟩ ⟨hb.setCell (Nat.le_refl _) _, by omega, ?_⟩ (by omega)
      rw [Nat.zero_add]
      exact hown.set hlt (fun j hj => by
        by_cases e : j = k
        · subst e; exact .inl ⟨rfl, rfl⟩
        · exact .inr ⟨e, by omega, rfl⟩)
    · have hk' : k = n := by omega
      subst hk'
      refine wp_region_seq (fun K hK => ?_)
      refine wpl_op rfl (Ex_lss rfl rfl (decide_eq_false (by omega))) ?_
      refine wpl_nil (hK _ _ ?_)
      clear hK K
      refine wp_seq_k (fun K' hK' => ?_)
      refine wp_if_false rfl ?_
      refine wp_exit ?_
      refine hK _ _ ?_
      refine wp_region_seq (fun K hK => ?_)
      refine wpl_op rfl (Ex_move (by conv => lhs; whnf)) ?_
      refine wpl_op rfl (Ex_assign (by conv => lhs; whnf)) ?_
      refine wpl_nil (hK _ _ ?_)
      clear hK K
      refine wp_ret ?_
      repeat (first | refine out_block ?_ | refine out_then ?_)
      refine ret_tmp Try.results24 (.inr ⟨by simp, rfl, hown, hb⟩)

/-- The two change places. -/
def swp (z : Nat → Int) (i j : Nat) : Nat → Int := fun k => if k = j then z i else if k = i then z j else z k
theorem swap_ret (g n i j : Nat) (z : Nat → Int) (w : World) (hown : Own w g 3 n n (fun k => .int .i64 (z k))) (hi : i < n) (hj : j < n) :
    Ret Try.prog 32 #[.slice (some ⟨g, 0, none⟩) n n, .int .i64 i, .int .i64 j] w fun _ w' => Own w' g 3 n n (fun k => .int .i64 (swp z i j k)) ∧ ∀ B w0, Below B w0 w → B ≤ g → Below B w0 w' := by
  refine Ret.of_body (vs := [.slice (some ⟨g, 0, none⟩) n n, .int .i64 i, .int .i64 j]) Try.func32 rfl Try.ntmps32 rfl ?_
  refine wp_draw_last (by kernel_rfl) (fun w' => w'.cell? ⟨g, 0 + i, none⟩ = some (.int .i64 (z i)) ∧ w'.cell? ⟨g, 0 + j, none⟩ = some (.int .i64 (z j))) (fun q => Nat.beq q 13 || Nat.beq q 15) 16 rfl ?_
  have hS : w.drew.cell? ⟨g, 0 + i, none⟩ = some (.int .i64 (z i)) ∧ w.drew.cell? ⟨g, 0 + j, none⟩ = some (.int .i64 (z j)) := by
    rw [Nat.zero_add, Nat.zero_add]
    exact ⟨hown.cell hi, hown.cell hj⟩
  refine wpd_pure 0 (by kernel_rfl) rfl (fun w => Ex_move (by conv => lhs; whnf)) (by intro h; cases h) ?_
  refine wpd_pure 1 (by kernel_rfl) rfl (fun w => Ex_move (by conv => lhs; whnf)) (by intro h; cases h) ?_
  refine wpd_pure 2 (by kernel_rfl) rfl (fun w => Ex_move (by conv => lhs; whnf)) (by intro h; cases h) ?_
  refine wpd_pure 3 (by kernel_rfl) rfl (fun w => Ex_move (by conv => lhs; whnf)) (by intro h; cases h) ?_
  refine wpd_pure 4 (by kernel_rfl) rfl (fun w => Ex_move (by conv => lhs; whnf)) (by intro h; cases h) ?_
  refine wpd_pure 5 (by kernel_rfl) rfl (fun w => Ex_move (by conv => lhs; whnf)) (by intro h; cases h) ?_
  refine wpd_pure 6 (by kernel_rfl) rfl (fun w => Ex_index1 Try.underlying67 size_67 rfl rfl hj) (by intro h; cases h) ?_
  refine wpd_take 7 (by kernel_rfl) rfl hS (fun w hw => Ex_load one3 rfl hw.2) (by intro h; cases h) ?_
  refine wpd_pure 8 (by kernel_rfl) rfl (fun w => Ex_move (by conv => lhs; whnf)) (by intro h; cases h) ?_
  refine wpd_pure 9 (by kernel_rfl) rfl (fun w => Ex_move (by conv => lhs; whnf)) (by intro h; cases h) ?_
  refine wpd_pure 10 (by kernel_rfl) rfl (fun w => Ex_index1 Try.underlying67 size_67 rfl rfl hi) (by intro h; cases h) ?_
  refine wpd_take 11 (by kernel_rfl) rfl hS (fun w hw => Ex_load one3 rfl hw.1) (by intro h; cases h) ?_
  refine wpd_pure 12 (by kernel_rfl) rfl (fun w => Ex_index1 Try.underlying67 size_67 rfl rfl hi) (by intro h; cases h) ?_
  refine wpd_one 13 (by kernel_rfl) rfl (Ex_store one3 rfl (by conv => lhs; whnf) rfl (show _ = some _ from hS.1) hown.open_) (by intro _ h; cases h) ?_
  have hown1 : Own (w.drew.setCell ⟨g, i, none⟩ (.int .i64 (z j))) g 3 n n (fun k => .int .i64 (if k = i then z j else z k)) := Own.set (w := w.drew) hown hi (fun k hk => by
    by_cases e : k = i
    · exact .inl ⟨e, by simp [e]⟩
    · exact .inr ⟨e, hk, by simp [e]⟩)
  rw [Nat.zero_add]
  have hold := hown1.cell hj
  refine wpd_one 14 (by kernel_rfl) rfl (Ex_index1 Try.underlying67 size_67 rfl rfl hj) (fun h _ => h) ?_
  refine wpd_one 15 (by kernel_rfl) rfl (Ex_store one3 rfl (by conv => lhs; whnf) rfl (by rw [Nat.zero_add]; exact hold) hown1.open_) (by intro _ h; cases h) ?_
  refine wpd_nil (by kernel_rfl) ?_
  refine ret_none Try.results32 ⟨?_, fun B w0 hb hB => ?_⟩
  · rw [Nat.zero_add]
    exact hown1.set hj (fun k hk => by
      by_cases e : k = j
      · exact .inl ⟨e, by simp [swp, e]⟩
      · exact .inr ⟨e, hk, by simp [swp, e]⟩)
  · exact (Below.setCell (Below.setCell hb.drew hB _) hB _)

theorem zswap_ret (g n i j : Nat) (z : Nat → Int) (w : World) (hown : Own w g 3 n n (fun k => .int .i64 (z k))) (hi : i < n) (hj : j < n) :
    Ret Try.prog 25 #[.slice (some ⟨g, 0, none⟩) n n, .int .i64 i, .int .i64 j] w fun _ w' => Own w' g 3 n n (fun k => .int .i64 (swp z i j k)) ∧ ∀ B w0, Below B w0 w → B ≤ g → Below B w0 w' := by
  refine Ret.of_body (vs := [.slice (some ⟨g, 0, none⟩) n n, .int .i64 i, .int .i64 j]) Try.func25 rfl Try.ntmps25 rfl ?_
  refine wp_region_last ?_
  refine wpl_op rfl (Ex_move (by conv => lhs; whnf)) ?_
  refine wpl_op rfl (Ex_move (by conv => lhs; whnf)) ?_
  refine wpl_op rfl (Ex_move (by conv => lhs; whnf)) ?_
  refine wpl_call rfl (ExC_func ent32 rfl rfl) (swap_ret g n i j z w hown hi hj) ?_
  rintro v w' h
  refine wpl_nil ?_
  exact ret_none Try.results25 h

/-- Behind k swaps: the first has gone up to k, those below it have come down by one. -/
def rot (z : Nat → Int) (k : Nat) : Nat → Int := fun i => if i < k then z (i + 1) else if i = k then z 0 else z i
theorem rot_zero (z : Nat → Int) : rot z 0 = z := by
  funext i
  unfold rot
  by_cases h : i = 0
  · simp [h]
  · simp [h]
theorem rot_step (z : Nat → Int) (k : Nat) : swp (rot z k) k (k + 1) = rot z (k + 1) := by
  funext i
  unfold swp rot
  by_cases h1 : i = k + 1
  · subst h1; simp
  · by_cases h2 : i = k
    · subst h2
      have h4 : ¬ i + 1 < i := by omega
      simp [h4]
    · by_cases h3 : i < k
      · simp [h1, h2, h3, show i < k + 1 by omega]
      · simp [h1, h2, h3, show ¬ i < k + 1 by omega]
theorem walk (a0 : Option Addr) (n c0 : Nat) (z : Nat → Int) (w : World) (h0 : IntsAt w a0 n z) (hnil : a0 = none → n = 0) :
    Ret Try.prog 7 #[.slice a0 n c0] w fun v w' => v = .bool true ∧ Below w.heap.size w w' := by
  refine Ret.of_body (vs := [.slice a0 n c0]) Try.func7 rfl Try.ntmps7 rfl ?_
  refine wp_region_seq (fun K hK => ?_)
  refine wpl_op rfl (Ex_assign (by conv => lhs; whnf)) ?_
  refine wpl_nil (hK _ _ ?_)
  clear hK K
  refine wp_seq_k (fun KK hKK => ?_)
  refine wp_region_seq (fun K hK => ?_)
  refine wpl_op rfl (Ex_move (by conv => lhs; whnf)) ?_
  refine wpl_call rfl (ExC_func ent23 rfl rfl) (bytes_ret a0 n c0 w) ?_
  rintro v w' ⟨⟨b, rfl⟩, rfl⟩
  refine wpl_op rfl (Ex_not rfl rfl) ?_
  refine wpl_nil (hK _ _ ?_)
  clear hK K
  refine wp_if rfl (fun ht => ?_) (fun hf => ?_)
  · clear hKK
    refine wp_region_seq (fun K hK => ?_)
    refine wpl_op rfl (Ex_assign (by conv => lhs; whnf)) ?_
    refine wpl_nil (hK _ _ ?_)
    clear hK K
    refine wp_ret ?_
    repeat (first | refine out_block ?_ | refine out_then ?_)
    refine ret_tmp Try.results7 ⟨rfl, Below.refl _ _⟩
  refine wp_skip (hKK _ _ ?_)
  clear hKK KK
  refine wp_seq_k (fun KK hKK => ?_)
  refine wp_region_seq (fun K hK => ?_)
  refine wpl_op rfl (Ex_move (by conv => lhs; whnf)) ?_
  refine wpl_op rfl (Ex_len Try.underlying24 rfl) ?_
  refine wpl_op rfl (Ex_gtr rfl rfl rfl) ?_
  refine wpl_nil (hK _ _ ?_)
  clear hK K
  refine wp_if rfl (fun ht => ?_) (fun hf => ?_)
  · clear hKK
    refine wp_region_seq (fun K hK => ?_)
    refine wpl_op rfl (Ex_assign (by conv => lhs; whnf)) ?_
    refine wpl_nil (hK _ _ ?_)
    clear hK K
    refine wp_ret ?_
    repeat (first | refine out_block ?_ | refine out_then ?_)
    refine ret_tmp Try.results7 ⟨rfl, Below.refl _ _⟩
  refine wp_skip (hKK _ _ ?_)
  clear hKK KK
  have hn : n ≤ 65536 := by have := of_decide_eq_false hf; omega
  clear hf
  refine wp_region_seq (fun K hK => ?_)
  refine wpl_op rfl (Ex_move (by conv => lhs; whnf)) ?_
  refine wpl_call rfl (ExC_func ent24 rfl rfl) (clone_ret a0 n c0 z w h0 (by omega)) ?_
  rintro v w1 hcl
  refine wpl_op rfl (Ex_assign (by conv => lhs; whnf)) ?_
  refine wpl_nil (hK _ _ ?_)
  clear hK K
  obtain ⟨g, a1, c1, rfl, hb1, hown, hg⟩ : ∃ g a1 c1, v = .slice a1 n c1 ∧ Below w.heap.size w w1 ∧ (0 < n → a1 = some ⟨g, 0, none⟩ ∧ c1 = n ∧ Own w1 g 3 n n (fun i => .int .i64 (z i))) ∧ w.heap.size ≤ g := by
    rcases hcl with ⟨ha, rfl, rfl⟩ | ⟨ha, rfl, ho, hb⟩
    · have hn0 := hnil ha
      subst hn0
      exact ⟨w1.heap.size, none, 0, rfl, Below.refl _ _, fun h => by omega, Nat.le_refl _⟩
    · exact ⟨w.heap.size, _, n, rfl, hb, fun _ => ⟨rfl, rfl, ho⟩, Nat.le_refl _⟩
  clear hcl
  refine wp_region_seq (fun K hK => ?_)
  refine wpl_op rfl (Ex_move (by conv => lhs; whnf)) ?_
  refine wpl_op rfl (Ex_len Try.underlying24 rfl) ?_
  refine wpl_op rfl (Ex_assign (by conv => lhs; whnf)) ?_
  refine wpl_nil (hK _ _ ?_)
  clear hK K
  refine wp_seq_k (fun K hK => ?_)
  refine wp_region_seq (fun K hK => ?_)
  refine wpl_op rfl (Ex_assign (by conv => lhs; whnf)) ?_
  refine wpl_nil (hK _ _ ?_)
  clear hK K
  refine wp_block ?_
  refine wp_loop_st (fun k : Nat => [(0, .slice a0 n c0), (3, .slice a1 n c1), (4, .int .i64 n), (5, .int .i64 k)])
    (fun k w' => Below w.heap.size w w' ∧ (k + 1 ≤ n ∨ n = 0 ∧ k = 0) ∧ (0 < n → a1 = some ⟨g, 0, none⟩ ∧ c1 = n ∧ Own w' g 3 n n (fun i => .int .i64 (rot z k i)))) (fun k => n - k) 0 ⟨rfl, rfl, rfl, rfl, trivial⟩
    ⟨hb1, by omega, by rw [rot_zero]; exact hown⟩ ?_
  rintro k u w2 ⟨hb2, hk, hown2⟩ R hR
  by_cases hlt : k + 1 < n
  · obtain ⟨rfl, rfl, ho⟩ := hown2 (by omega)
    refine wp_seq_k (fun KK hKK => ?_)
    refine wp_region_seq (fun K hK => ?_)
    refine wpl_op rfl (Ex_move (by conv => lhs; whnf)) ?_
    refine wpl_op rfl (Ex_inc rfl rfl (by omega)) ?_
    refine wpl_op rfl (Ex_move (by conv => lhs; whnf)) ?_
    refine wpl_op rfl (Ex_lss rfl rfl (decide_eq_true (by omega))) ?_
    refine wpl_nil (hK _ _ ?_)
    clear hK K
    refine wp_if_true rfl ?_
    refine wp_skip (hKK _ _ ?_)
    clear hKK KK
    refine wp_seq_k (fun K' hK' => ?_)
    refine wp_block ?_
    refine wp_region_last ?_
    refine wpl_op rfl (Ex_move (by conv => lhs; whnf)) ?_
    refine wpl_op rfl (Ex_move (by conv => lhs; whnf)) ?_
    refine wpl_op rfl (Ex_move (by conv => lhs; whnf)) ?_
    refine wpl_op rfl (Ex_inc rfl rfl (by omega)) ?_
    refine wpl_call rfl (ExC_func ent25 rfl rfl) (zswap_ret g _ k (k + 1) (rot z k) w2 ho (by omega) hlt) ?_
    rintro v w3 ⟨ho3, hb3⟩
    refine wpl_nil ?_
    refine hK' _ _ ?_
    refine wp_region_last ?_
    refine wpl_op rfl (Ex_move (by conv => lhs; whnf)) ?_
    refine wpl_op rfl (Ex_inc rfl rfl (by omega)) ?_
    refine wpl_op rfl (Ex_assign (by conv => lhs; whnf)) ?_
    refine wpl_nil ?_
    rw [rot_step] at ho3
    exact hR _ _ _ (k + 1) ⟨rfl, rfl, rfl, rfl, trivial⟩ ⟨hb3 _ _ hb2 hg, by omega, fun _ => ⟨rfl, rfl, ho3⟩⟩ (by omega)
  · skip
    refine wp_seq_k (fun KK hKK => ?_)
    refine wp_region_seq (fun K hK => ?_)
    refine wpl_op rfl (Ex_move (by conv => lhs; whnf)) ?_
    refine wpl_op rfl (Ex_inc rfl rfl (by omega)) ?_
    refine wpl_op rfl (Ex_move (by conv => lhs; whnf)) ?_
    refine wpl_op rfl (Ex_lss rfl rfl (decide_eq_false (by omega))) ?_
    refine wpl_nil (hK _ _ ?_)
    clear hK K
    refine wp_if_false rfl ?_
    refine wp_exit ?_
    clear hKK
    refine hK _ _ ?_
    clear hK hR
    refine wp_seq_k (fun K hK => ?_)
    refine wp_region_seq (fun K hK => ?_)
    refine wpl_op rfl (Ex_assign (by conv => lhs; whnf)) ?_
    refine wpl_nil (hK _ _ ?_)
    clear hK K
    refine wp_block ?_
    refine wp_loop_st (fun i : Nat => [(0, .slice a0 n c0), (3, .slice a1 n c1), (4, .int .i64 n), (6, .int .i64 i)])
      (fun i w' => Below w2.heap.size w2 w' ∧ i ≤ n) (fun i => n - i) 0 ⟨rfl, rfl, rfl, rfl, trivial⟩ ⟨Below.refl _ _, Nat.zero_le _⟩ ?_
    rintro i u w3 ⟨hb3, hi⟩ R hR
    have hb03 := hb2.trans (hb3.mono hb2.size)
    by_cases hlt2 : i < n
    · obtain ⟨rfl, rfl, ho2⟩ := hown2 (by omega)
      obtain ⟨b0, o0, rfl, hc0⟩ := h0.get hlt2
      have ho := ho2.below hb3 ho2.lt
      refine wp_seq_k (fun KK hKK => ?_)
      refine wp_region_seq (fun K hK => ?_)
      refine wpl_op rfl (Ex_move (by conv => lhs; whnf)) ?_
      refine wpl_op rfl (Ex_move (by conv => lhs; whnf)) ?_
      refine wpl_op rfl (Ex_lss rfl rfl (decide_eq_true (by omega))) ?_
      refine wpl_nil (hK _ _ ?_)
      clear hK K
      refine wp_if_true rfl ?_
      refine wp_skip (hKK _ _ ?_)
      clear hKK KK
      refine wp_seq_k (fun K' hK' => ?_)
      refine wp_block ?_
      refine wp_region_seq (fun K hK => ?_)
      refine wpl_op rfl (Ex_move (by conv => lhs; whnf)) ?_
      refine wpl_op rfl (Ex_inc rfl rfl (by omega)) ?_
      refine wpl_op rfl (Ex_assign (by conv => lhs; whnf)) ?_
      refine wpl_nil (hK _ _ ?_)
      clear hK K
      refine wp_seq_k (fun K2 hK2 => ?_)
      have hrest : ∀ uu ll (j : Nat), j < c1 → rot z k i = z j → Agree uu ll [(0, .slice (some ⟨b0, o0, none⟩) c1 c0), (3, .slice (some ⟨g, 0, none⟩) c1 c1), (4, .int .i64 c1), (6, .int .i64 i), (7, .int .i64 (j : Int))] → K2 (fr 48 uu ll) w3 := by
        intro uu ll j hj hz hag
        refine hK2 _ _ ?_
        rw [fr_norm _ hag]
        generalize Fr.look uu ll = uu
        clear hK2 hag
        have q1 : w3.cell? ⟨g, 0 + i, none⟩ = some (.int .i64 (z j)) := by rw [Nat.zero_add, ← hz]; exact ho.cell hlt2
        have q2 : w3.cell? ⟨b0, o0 + j, none⟩ = some (.int .i64 (z j)) := cell_later hb03 (hc0 j hj)
        refine wp_quiet_seq (by kernel_rfl) (by kernel_rfl) (fun K hK => ?_)
        refine wpq_op (fun w hw => Ex_move (by conv => lhs; whnf)) ?_
        refine wpq_op (fun w hw => Ex_move (by conv => lhs; whnf)) ?_
        refine wpq_op (fun w hw => Ex_index1 Try.underlying24 size_24 rfl rfl hlt2) ?_
        refine wpq_op (fun w hw => Ex_load one3 rfl (cell_later hw q1)) ?_
        refine wpq_op (fun w hw => Ex_move (by conv => lhs; whnf)) ?_
        refine wpq_op (fun w hw => Ex_move (by conv => lhs; whnf)) ?_
        refine wpq_op (fun w hw => Ex_index1 Try.underlying24 size_24 rfl rfl hj) ?_
        refine wpq_op (fun w hw => Ex_load one3 rfl (cell_later hw q2)) ?_
        refine wpq_op (fun w hw => Ex_neq rfl rfl (ne_f rfl)) ?_
        refine wpq_nil (fun w4 hw4 => hK _ _ ?_)
        clear hK K
        refine wp_if_false rfl ?_
        refine wp_skip ?_
        refine hK' _ _ ?_
        refine wp_region_last ?_
        refine wpl_op rfl (Ex_move (by conv => lhs; whnf)) ?_
        refine wpl_op rfl (Ex_inc rfl rfl (by omega)) ?_
        refine wpl_op rfl (Ex_assign (by conv => lhs; whnf)) ?_
        refine wpl_nil ?_
        exact hR _ _ _ (i + 1) ⟨rfl, rfl, rfl, rfl, trivial⟩ ⟨hb3.trans (hw4.mono hb3.size), by omega⟩ (by omega)
      by_cases e : i + 1 = c1
      · skip
        refine wp_region_seq (fun K hK => ?_)
        refine wpl_op rfl (Ex_move (by conv => lhs; whnf)) ?_
        refine wpl_op rfl (Ex_move (by conv => lhs; whnf)) ?_
        refine wpl_op rfl (Ex_eql rfl rfl (decide_eq_true (by omega))) ?_
        refine wpl_nil (hK _ _ ?_)
        clear hK K
        refine wp_if_true rfl ?_
        refine wp_region_last ?_
        refine wpl_op rfl (Ex_assign (by conv => lhs; whnf)) ?_
        refine wpl_nil ?_
        exact hrest _ _ 0 (by omega) (by unfold rot; simp [show i = k by omega]) ⟨rfl, rfl, rfl, rfl, rfl, trivial⟩
      · skip
        refine wp_region_seq (fun K hK => ?_)
        refine wpl_op rfl (Ex_move (by conv => lhs; whnf)) ?_
        refine wpl_op rfl (Ex_move (by conv => lhs; whnf)) ?_
        refine wpl_op rfl (Ex_eql rfl rfl (decide_eq_false (by omega))) ?_
        refine wpl_nil (hK _ _ ?_)
        clear hK K
        refine wp_if_false rfl ?_
        refine wp_skip ?_
        exact hrest _ _ (i + 1) (by omega) (by unfold rot; simp [show i < k by omega]) ⟨rfl, rfl, rfl, rfl, rfl, trivial⟩
    · skip
      refine wp_seq_k (fun KK hKK => ?_)
      refine wp_region_seq (fun K hK => ?_)
      refine wpl_op rfl (Ex_move (by conv => lhs; whnf)) ?_
      refine wpl_op rfl (Ex_move (by conv => lhs; whnf)) ?_
      refine wpl_op rfl (Ex_lss rfl rfl (decide_eq_false (by omega))) ?_
      refine wpl_nil (hK _ _ ?_)
      clear hK K
      refine wp_if_false rfl ?_
      refine wp_exit ?_
      clear hKK
      refine hK _ _ ?_
      refine wp_region_seq (fun K hK => ?_)
      refine wpl_op rfl (Ex_assign (by conv => lhs; whnf)) ?_
      refine wpl_nil (hK _ _ ?_)
      clear hK K
      refine wp_ret ?_
      repeat (first | refine out_block ?_ | refine out_then ?_)
      refine ret_tmp Try.results7 ⟨rfl, hb03⟩
end Go.Proofs.Qxb6614022a.Swap
