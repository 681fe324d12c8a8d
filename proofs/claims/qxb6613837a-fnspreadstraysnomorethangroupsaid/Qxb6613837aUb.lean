import Derived.Test.Qxb6613837aUa
namespace Go.Proofs.Qxb6613837a.Sp
open Go.Fr Go.RowKit Go.Sp

theorem one23 : One Try.prog 23 := ⟨fun w => by simp [go_sem], fun w => by simp [go_sem]⟩
theorem size_23 : ∀ w, (sizeOf 9).run Try.prog w = .ok 1 w := one9.2
def same (x y : ByteArray) : Bool := x.toList == y.toList
theorem Ex_eqls {P : Program} {ρ : Operand → Value} {ty t t' : TypeId} {w : World} {x y : Operand} {a c : ByteArray} {b : Bool} (hx : ρ x = .string a) (hy : ρ y = .string c) (hb : same a c = b) : Ex P ρ (.binOp .eql t x y t') ty w (.bool b) w := ex_val fun o ho _ => by
  subst hb
  simp [execOp, ho, hx, hy, go_sem, binOp, Op.stringOp, same]
theorem Ex_neqs {P : Program} {ρ : Operand → Value} {ty t t' : TypeId} {w : World} {x y : Operand} {a c : ByteArray} {b : Bool} (hx : ρ x = .string a) (hy : ρ y = .string c) (hb : (!same a c) = b) : Ex P ρ (.binOp .neq t x y t') ty w (.bool b) w := ex_val fun o ho _ => by
  subst hb
  simp [execOp, ho, hx, hy, go_sem, binOp, Op.stringOp, same]


theorem apart25_ret (hx : Nat) (a1 : Option Addr) (k c1 i j : Nat) (h : Nat → ByteArray) (w : World) (hb : w.cell? ⟨hx, 0, none⟩ = some (.slice a1 k c1)) (hs : StrsAt w a1 k h) (hi : i < k) (hj : j < k) :
    Ret Try.prog 25 #[.int .i64 i, .int .i64 j, .pointer (some ⟨hx, 0, none⟩)] w fun v w' => v = .bool (!same (h i) (h j)) ∧ Below w.heap.size w w' := by
  refine Ret.of_body (vs := [.int .i64 i, .int .i64 j, .pointer (some ⟨hx, 0, none⟩)]) Try.func25 rfl Try.ntmps25 rfl ?_
  obtain ⟨b0, o0, rfl, hc⟩ := hs.get hi
  refine wp_region_seq (fun K hK => ?_)
  refine wpl_op rfl (Ex_assign (by conv => lhs; whnf)) ?_
  refine wpl_nil (hK _ _ ?_)
  clear hK K
  refine wp_quiet_seq (by kernel_rfl) (by kernel_rfl) (fun K hK => ?_)
  refine wpq_op (fun w hw => Ex_load one23 rfl (cell_later hw hb)) ?_
  refine wpq_op (fun w hw => Ex_move (by conv => lhs; whnf)) ?_
  refine wpq_op (fun w hw => Ex_index1 Try.underlying23 size_23 rfl rfl hi) ?_
  refine wpq_op (fun w hw => Ex_load one9 rfl (cell_later hw (hc i hi))) ?_
  refine wpq_op (fun w hw => Ex_load one23 rfl (cell_later hw hb)) ?_
  refine wpq_op (fun w hw => Ex_move (by conv => lhs; whnf)) ?_
  refine wpq_op (fun w hw => Ex_index1 Try.underlying23 size_23 rfl rfl hj) ?_
  refine wpq_op (fun w hw => Ex_load one9 rfl (cell_later hw (hc j hj))) ?_
  refine wpq_op (fun w hw => Ex_neqs rfl rfl rfl) ?_
  refine wpq_op (fun w hw => Ex_assign (by conv => lhs; whnf)) ?_
  refine wpq_nil (fun w2 hw2 => hK _ _ ?_)
  clear hK K
  refine wp_ret ?_
  repeat (first | refine out_block ?_ | refine out_then ?_)
  refine ret_tmp Try.results25 ⟨rfl, hw2⟩

theorem apart22_ret (hx : Nat) (a1 : Option Addr) (k c1 i j : Nat) (h : Nat → ByteArray) (w : World) (hb : w.cell? ⟨hx, 0, none⟩ = some (.slice a1 k c1)) (hs : StrsAt w a1 k h) (hi : i < k) (hj : j < k) :
    Ret Try.prog 22 #[.int .i64 i, .int .i64 j, .pointer (some ⟨hx, 0, none⟩)] w fun v w' => v = .bool (!same (h i) (h j)) ∧ Below w.heap.size w w' := by
  refine Ret.of_body (vs := [.int .i64 i, .int .i64 j, .pointer (some ⟨hx, 0, none⟩)]) Try.func22 rfl Try.ntmps22 rfl ?_
  obtain ⟨b0, o0, rfl, hc⟩ := hs.get hi
  refine wp_region_seq (fun K hK => ?_)
  refine wpl_op rfl (Ex_assign (by conv => lhs; whnf)) ?_
  refine wpl_nil (hK _ _ ?_)
  clear hK K
  refine wp_quiet_seq (by kernel_rfl) (by kernel_rfl) (fun K hK => ?_)
  refine wpq_op (fun w hw => Ex_load one23 rfl (cell_later hw hb)) ?_
  refine wpq_op (fun w hw => Ex_move (by conv => lhs; whnf)) ?_
  refine wpq_op (fun w hw => Ex_index1 Try.underlying23 size_23 rfl rfl hi) ?_
  refine wpq_op (fun w hw => Ex_load one9 rfl (cell_later hw (hc i hi))) ?_
  refine wpq_op (fun w hw => Ex_load one23 rfl (cell_later hw hb)) ?_
  refine wpq_op (fun w hw => Ex_move (by conv => lhs; whnf)) ?_
  refine wpq_op (fun w hw => Ex_index1 Try.underlying23 size_23 rfl rfl hj) ?_
  refine wpq_op (fun w hw => Ex_load one9 rfl (cell_later hw (hc j hj))) ?_
  refine wpq_op (fun w hw => Ex_neqs rfl rfl rfl) ?_
  refine wpq_op (fun w hw => Ex_assign (by conv => lhs; whnf)) ?_
  refine wpq_nil (fun w2 hw2 => hK _ _ ?_)
  clear hK K
  refine wp_ret ?_
  repeat (first | refine out_block ?_ | refine out_then ?_)
  refine ret_tmp Try.results22 ⟨rfl, hw2⟩

/-- The greatest of the first n numbers, s 0 at least. -/
def mxs (s : Nat → Int) : Nat → Int
  | 0 => s 0
  | n + 1 => max (mxs s n) (s n)
theorem mxs_ge (s : Nat → Int) : ∀ (n i : Nat), i < n → s i ≤ mxs s n
  | 0, i, h => by omega
  | n + 1, i, h => by
    show s i ≤ max (mxs s n) (s n)
    by_cases e : i = n
    · subst e; omega
    · have := mxs_ge s n i (by omega); omega
theorem mxs_le (s : Nat → Int) (C : Int) : ∀ n : Nat, s 0 ≤ C → (∀ i, i < n → s i ≤ C) → mxs s n ≤ C
  | 0, h, _ => h
  | n + 1, h, h' => by
    have := mxs_le s C n h (fun i hi => h' i (by omega))
    have := h' n (by omega)
    show max (mxs s n) (s n) ≤ C
    omega
theorem max_ret (a0 : Option Addr) (k c0 : Nat) (s : Nat → Int) (w : World) (hs : IntsAt w a0 k s) (hk : 0 < k) (hkb : k ≤ 1000000) :
    Ret Try.prog 30 #[.slice a0 k c0] w fun v w' => v = .int .i64 (mxs s k) ∧ w' = w := by
  refine Ret.of_body (vs := [.slice a0 k c0]) Try.func30 rfl Try.ntmps30 rfl ?_
  obtain ⟨b0, o0, rfl, hc⟩ := hs.get hk
  refine wp_region_seq (fun K hK => ?_)
  refine wpl_op rfl (Ex_assign (by conv => lhs; whnf)) ?_
  refine wpl_nil (hK _ _ ?_)
  clear hK K
  refine wp_seq_k (fun KK hKK => ?_)
  refine wp_region_seq (fun K hK => ?_)
  refine wpl_op rfl (Ex_move (by conv => lhs; whnf)) ?_
  refine wpl_op rfl (Ex_len Try.underlying22 rfl) ?_
  refine wpl_op rfl (Ex_lss rfl rfl (decide_eq_false (by omega))) ?_
  refine wpl_nil (hK _ _ ?_)
  clear hK K
  refine wp_if_false rfl ?_
  refine wp_skip (hKK _ _ ?_)
  clear hKK KK
  refine wp_region_seq (fun K hK => ?_)
  refine wpl_op rfl (Ex_move (by conv => lhs; whnf)) ?_
  refine wpl_op rfl (Ex_index1 (i := 0) Try.underlying22 size_22 rfl rfl hk) ?_
  refine wpl_op rfl (Ex_load one3 rfl (hc 0 hk)) ?_
  refine wpl_op rfl (Ex_assign (by conv => lhs; whnf)) ?_
  refine wpl_nil (hK _ _ ?_)
  clear hK K
  refine wp_seq_k (fun K1 hK1 => ?_)
  refine wp_region_seq (fun K hK => ?_)
  refine wpl_op rfl (Ex_assign (by conv => lhs; whnf)) ?_
  refine wpl_nil (hK _ _ ?_)
  clear hK K
  refine wp_block ?_
  refine wp_loop_st (fun i : Nat => [(0, .slice (some ⟨b0, o0, none⟩) k c0), (3, .int .i64 (mxs s i)), (4, .int .i64 (i : Int))]) (fun i w' => w' = w ∧ i ≤ k) (fun i => k - i) 1 ⟨rfl, (by show Value.int .i64 (s 0) = .int .i64 (max (s 0) (s 0)); rw [Int.max_self]), rfl, trivial⟩ ⟨rfl, hk⟩ ?_
  rintro i uu w1 ⟨rfl, hi⟩ R hR
  by_cases hlt : i < k
  · skip
    refine wp_seq_k (fun KK hKK => ?_)
    refine wp_region_seq (fun K hK => ?_)
    refine wpl_op rfl (Ex_move (by conv => lhs; whnf)) ?_
    refine wpl_op rfl (Ex_move (by conv => lhs; whnf)) ?_
    refine wpl_op rfl (Ex_len Try.underlying22 rfl) ?_
    refine wpl_op rfl (Ex_lss rfl rfl (decide_eq_true (by omega))) ?_
    refine wpl_nil (hK _ _ ?_)
    clear hK K
    refine wp_if_true rfl ?_
    refine wp_skip (hKK _ _ ?_)
    clear hKK KK
    refine wp_seq_k (fun K' hK' => ?_)
    refine wp_block ?_
    refine wp_region_last ?_
    refine wpl_op rfl (Ex_move (by conv => lhs; whnf)) ?_
    refine wpl_op rfl (Ex_move (by conv => lhs; whnf)) ?_
    refine wpl_op rfl (Ex_move (by conv => lhs; whnf)) ?_
    refine wpl_op rfl (Ex_index1 Try.underlying22 size_22 rfl rfl hlt) ?_
    refine wpl_op rfl (Ex_load one3 rfl (hc i hlt)) ?_
    refine wpl_op rfl (Ex_max2 rfl rfl) ?_
    refine wpl_op rfl (Ex_assign (by conv => lhs; whnf)) ?_
    refine wpl_nil ?_
    refine hK' _ _ ?_
    refine wp_region_last ?_
    refine wpl_op rfl (Ex_move (by conv => lhs; whnf)) ?_
    refine wpl_op rfl (Ex_inc rfl rfl (by omega)) ?_
    refine wpl_op rfl (Ex_assign (by conv => lhs; whnf)) ?_
    refine wpl_nil ?_
    exact hR _ _ _ (i + 1) ⟨rfl, rfl, rfl, trivial⟩ ⟨rfl, hlt⟩ (by omega)
  · have hie : i = k := by omega
    subst hie
    refine wp_seq_k (fun KK hKK => ?_)
    refine wp_region_seq (fun K hK => ?_)
    refine wpl_op rfl (Ex_move (by conv => lhs; whnf)) ?_
    refine wpl_op rfl (Ex_move (by conv => lhs; whnf)) ?_
    refine wpl_op rfl (Ex_len Try.underlying22 rfl) ?_
    refine wpl_op rfl (Ex_lss rfl rfl (decide_eq_false (by omega))) ?_
    refine wpl_nil (hK _ _ ?_)
    clear hK K
    refine wp_if_false rfl ?_
    refine wp_exit ?_
    clear hKK
    refine hK1 _ _ ?_
    refine wp_region_seq (fun K hK => ?_)
    refine wpl_op rfl (Ex_move (by conv => lhs; whnf)) ?_
    refine wpl_op rfl (Ex_assign (by conv => lhs; whnf)) ?_
    refine wpl_nil (hK _ _ ?_)
    clear hK K
    refine wp_ret ?_
    repeat (first | refine out_block ?_ | refine out_then ?_)
    refine ret_tmp Try.results30 ⟨rfl, rfl⟩
end Go.Proofs.Qxb6613837a.Sp
