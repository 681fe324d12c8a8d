import Derived.Test.Qxb6613881aHFb
namespace Go.Proofs.Qxb6613881a
open Go.Fr Go.RowKit

theorem info3 : (Try.prog.info? 3).map (fun i => (i.zero, i.size, i.bytes)) = some (some (.int .i64 0), 1, 8) := by kernel_rfl
theorem info4 : (Try.prog.info? 4).map (fun i => (i.zero, i.size, i.bytes)) = some (some (.bool false), 1, 1) := by kernel_rfl

/-- A row of the call's own: block g holds n cells of type t, the i-th being f i for i below k. -/
def Own (w : World) (g : Nat) (t : TypeId) (n k : Nat) (f : Nat → Value) : Prop :=
  ∃ arr, w.heap[g]? = some (.cells arr t (0, 0)) ∧ arr.size = n ∧ ∀ i, i < k → arr[i]? = some (f i)
theorem Own.cell {w : World} {g : Nat} {t : TypeId} {n k i : Nat} {f : Nat → Value} (h : Own w g t n k f) (hi : i < k) : w.cell? ⟨g, i, none⟩ = some (f i) := by
  obtain ⟨arr, h1, h2, h3⟩ := h
  exact cell_at h1 (h3 i hi)
theorem Own.some {w : World} {g : Nat} {t : TypeId} {n k i : Nat} {f : Nat → Value} (h : Own w g t n k f) (hi : i < n) : ∃ v, w.cell? ⟨g, i, none⟩ = some v := by
  obtain ⟨arr, h1, h2, h3⟩ := h
  exact ⟨arr[i], cell_at h1 (by simp [h2, hi])⟩
theorem Own.open_ {w : World} {g : Nat} {t : TypeId} {n k i : Nat} {f : Nat → Value} (h : Own w g t n k f) : w.frozen? ⟨g, i, none⟩ = false := by
  obtain ⟨arr, h1, h2, h3⟩ := h
  exact frozen_at h1
theorem Own.lt {w : World} {g : Nat} {t : TypeId} {n k : Nat} {f : Nat → Value} (h : Own w g t n k f) : g < w.heap.size := by
  obtain ⟨arr, h1, _⟩ := h
  exact lt_of_heap h1
theorem Own.set {w : World} {g : Nat} {t : TypeId} {n k i : Nat} {f f' : Nat → Value} (h : Own w g t n k f) (hi : i < n) {v : Value} {k' : Nat} (hk : ∀ j, j < k' → (j = i ∧ f' j = v) ∨ (j ≠ i ∧ j < k ∧ f' j = f j)) :
    Own (w.setCell ⟨g, i, none⟩ v) g t n k' f' := by
  obtain ⟨arr, h1, h2, h3⟩ := h
  refine ⟨_, heap_set_same v h1, by simp [h2], ?_⟩
  intro j hj
  rw [Array.getElem?_setIfInBounds]
  rcases hk j hj with ⟨rfl, e⟩ | ⟨hne, hlt, e⟩
  · simp [h2, hi, e]
  · rw [if_neg (by omega), h3 j hlt, e]
theorem Own.other {w : World} {g g' : Nat} {t : TypeId} {n k i : Nat} {f : Nat → Value} (h : Own w g t n k f) (hne : g ≠ g') (v : Value) : Own (w.setCell ⟨g', i, none⟩ v) g t n k f := by
  obtain ⟨arr, h1, h2, h3⟩ := h
  exact ⟨arr, by rw [heap_set_other v hne]; exact h1, h2, h3⟩
theorem Own.below {w w' : World} {B g : Nat} {t : TypeId} {n k : Nat} {f : Nat → Value} (h : Own w g t n k f) (hb : Below B w w') (hg : g < B) : Own w' g t n k f := by
  obtain ⟨arr, h1, h2, h3⟩ := h
  exact ⟨arr, by rw [hb.block g hg]; exact h1, h2, h3⟩
theorem Own.made (w : World) (t : TypeId) (n : Nat) (z : Value) (f : Nat → Value) : Own (w.alloc (.cells (madeCells #[z] n) t)) w.heap.size t n 0 f :=
  ⟨_, heap_new w _, size_madeCells _ _, by intro i hi; omega⟩

theorem IntsAt.below {w w' : World} {B : Nat} {a : Option Addr} {n : Nat} {z : Nat → Int} (h : IntsAt w a n z) (hb : Below B w w') (hB : B = w.heap.size) : IntsAt w' a n z := by
  subst hB
  rcases h with h | ⟨b, o, ha, hc⟩
  · exact .inl h
  · exact .inr ⟨b, o, ha, fun i hi => cell_later hb (hc i hi)⟩
theorem BoolsAt.below {w w' : World} {B : Nat} {a : Option Addr} {n : Nat} {z : Nat → Bool} (h : BoolsAt w a n z) (hb : Below B w w') (hB : B = w.heap.size) : BoolsAt w' a n z := by
  subst hB
  rcases h with h | ⟨b, o, ha, hc⟩
  · exact .inl h
  · exact .inr ⟨b, o, ha, fun i hi => cell_later hb (hc i hi)⟩
theorem IntsAt.of_own {w : World} {g n : Nat} {z : Nat → Int} (h : Own w g 3 n n fun i => .int .i64 (z i)) : IntsAt w (some ⟨g, 0, none⟩) n z :=
  .inr ⟨g, 0, rfl, fun i hi => by rw [Nat.zero_add]; exact h.cell hi⟩
theorem BoolsAt.of_own {w : World} {g n : Nat} {z : Nat → Bool} (h : Own w g 4 n n fun i => .bool (z i)) : BoolsAt w (some ⟨g, 0, none⟩) n z :=
  .inr ⟨g, 0, rfl, fun i hi => by rw [Nat.zero_add]; exact h.cell hi⟩


theorem cloneInts_ret (a0 : Option Addr) (n c0 : Nat) (z : Nat → Int) (w : World) (h0 : IntsAt w a0 n z) (hn : n ≤ 1000000) :
    Ret Try.prog 25 #[.slice a0 n c0] w fun v w' => (a0 = none ∧ v = .slice none 0 0 ∧ w' = w) ∨
      (a0 ≠ none ∧ v = .slice (some ⟨w.heap.size, 0, none⟩) n n ∧ Own w' w.heap.size 3 n n (fun i => .int .i64 (z i)) ∧ Below w.heap.size w w') := by
  refine Ret.of_body (vs := [.slice a0 n c0]) Try.func25 rfl Try.ntmps25 rfl ?_
  refine wp_region_seq (fun K hK => ?_)
  refine wpl_op rfl (Ex_assign (by conv => lhs; whnf)) ?_
  refine wpl_nil (hK _ _ ?_)
  clear hK K
  cases a0 with
  | none =>
    refine wp_seq_k (fun KK hKK => ?_)
    refine wp_region_seq (fun K hK => ?_)
    refine wpl_op rfl (Ex_move (by conv => lhs; whnf)) ?_
    refine wpl_op rfl (Ex_eqlnil Try.underlying22 rfl rfl rfl) ?_
    refine wpl_nil (hK _ _ ?_)
    clear hK K
    refine wp_if_true rfl ?_
    clear hKK
    refine wp_region_seq (fun K hK => ?_)
    refine wpl_op rfl (Ex_assign (by conv => lhs; whnf)) ?_
    refine wpl_nil (hK _ _ ?_)
    clear hK K
    refine wp_ret ?_
    repeat (first | refine out_block ?_ | refine out_then ?_)
    refine ret_tmp Try.results25 (.inl ⟨rfl, rfl, rfl⟩)
  | some a =>
    refine wp_seq_k (fun KK hKK => ?_)
    refine wp_region_seq (fun K hK => ?_)
    refine wpl_op rfl (Ex_move (by conv => lhs; whnf)) ?_
    refine wpl_op rfl (Ex_eqlnil Try.underlying22 rfl rfl rfl) ?_
    refine wpl_nil (hK _ _ ?_)
    clear hK K
    refine wp_if_false rfl ?_
    refine wp_skip (hKK _ _ ?_)
    clear hKK KK
    refine wp_region_seq (fun K hK => ?_)
    refine wpl_op rfl (Ex_move (by conv => lhs; whnf)) ?_
    refine wpl_op rfl (Ex_len Try.underlying22 rfl) ?_
    refine wpl_op rfl (Ex_mk Try.underlying22 info3 rfl rfl (by omega) (by omega)) ?_
    refine wpl_op rfl (Ex_assign (by conv => lhs; whnf)) ?_
    refine wpl_nil (hK _ _ ?_)
    clear hK K
    refine wp_seq_k (fun K hK => ?_)
    refine wp_region_seq (fun K hK => ?_)
    refine wpl_op rfl (Ex_assign (by conv => lhs; whnf)) ?_
    refine wpl_nil (hK _ _ ?_)
    clear hK K
    refine wp_block ?_
    refine wp_loop_st (fun k : Nat => [(0, .slice (some a) n c0), (3, .slice (some ⟨w.heap.size, 0, none⟩) n n), (4, .int .i64 k)])
      (fun k w' => Below w.heap.size w w' ∧ k ≤ n ∧ Own w' w.heap.size 3 n k (fun i => .int .i64 (z i))) (fun k => n - k) 0 ⟨rfl, rfl, rfl, trivial⟩
      ⟨(Below.refl _ _).alloc (Nat.le_refl _) _, Nat.zero_le _, by rw [Nat.mul_one]; exact Own.made w _ n _ _⟩ ?_
    rintro k u w' ⟨hb, hk, hown⟩ R hR
    by_cases hlt : k < n
    · obtain ⟨b0, o0, he, hc0⟩ := h0.get hlt
      cases he
      have hc := (cell_later hb (hc0 k hlt))
      obtain ⟨old, hold⟩ := hown.some hlt
      refine wp_seq_k (fun KK hKK => ?_)
      refine wp_region_seq (fun K hK => ?_)
      refine wpl_op rfl (Ex_move (by conv => lhs; whnf)) ?_
      refine wpl_op rfl (Ex_move (by conv => lhs; whnf)) ?_
      refine wpl_op rfl (Ex_len Try.underlying22 rfl) ?_
      refine wpl_op rfl (Ex_lss rfl rfl (decide_eq_true (by omega))) ?_
      refine wpl_nil (hK _ _ ?_)
      clear hK K
      refine wp_if_true rfl ?_
      refine wp_skip (hKK _ _ ?_)
      clear hKK KK
      refine wp_seq_k (fun K' hK' => ?_)
      refine wp_block ?_
      refine wp_region_last ?_
      refine wpl_op rfl (Ex_move (by conv => lhs; whnf)) ?_
      refine wpl_op rfl (Ex_move (by conv => lhs; whnf)) ?_
      refine wpl_op rfl (Ex_move (by conv => lhs; whnf)) ?_
      refine wpl_op rfl (Ex_move (by conv => lhs; whnf)) ?_
      refine wpl_op rfl (Ex_index1 Try.underlying22 size_22 rfl rfl hlt) ?_
      refine wpl_op rfl (Ex_load one3 rfl hc) ?_
      refine wpl_op rfl (Ex_index1 Try.underlying22 size_22 rfl rfl hlt) ?_
      refine wpl_op rfl (Ex_store one3 rfl (by conv => lhs; whnf) rfl (by rw [Nat.zero_add]; exact hold) hown.open_) ?_
      refine wpl_nil ?_
      refine hK' _ _ ?_
      refine wp_region_last ?_
      refine wpl_op rfl (Ex_move (by conv => lhs; whnf)) ?_
      refine wpl_op rfl (Ex_inc rfl rfl (by omega)) ?_
      refine wpl_op rfl (Ex_assign (by conv => lhs; whnf)) ?_
      refine wpl_nil ?_
      refine hR _ _ _ (k + 1) ⟨rfl, rfl, rfl, trivial⟩ ⟨hb.setCell (Nat.le_refl _) _, by omega, ?_⟩ (by omega)
      rw [Nat.zero_add]
      exact hown.set hlt (fun j hj => by
        by_cases e : j = k
        · subst e; exact .inl ⟨rfl, rfl⟩
        · exact .inr ⟨e, by omega, rfl⟩)
    · have hk' : k = n := by omega
      subst hk'
      refine wp_seq_k (fun KK hKK => ?_)
      refine wp_region_seq (fun K hK => ?_)
      refine wpl_op rfl (Ex_move (by conv => lhs; whnf)) ?_
      refine wpl_op rfl (Ex_move (by conv => lhs; whnf)) ?_
      refine wpl_op rfl (Ex_len Try.underlying22 rfl) ?_
      refine wpl_op rfl (Ex_lss rfl rfl (decide_eq_false (by omega))) ?_
      refine wpl_nil (hK _ _ ?_)
      clear hK K
      refine wp_if_false rfl ?_
      refine wp_exit ?_
      clear hKK
      refine hK _ _ ?_
      refine wp_region_seq (fun K hK => ?_)
      refine wpl_op rfl (Ex_move (by conv => lhs; whnf)) ?_
      refine wpl_op rfl (Ex_assign (by conv => lhs; whnf)) ?_
      refine wpl_nil (hK _ _ ?_)
      clear hK K
      refine wp_ret ?_
      repeat (first | refine out_block ?_ | refine out_then ?_)
      refine ret_tmp Try.results25 (.inr ⟨by simp, rfl, hown, hb⟩)

theorem cloneBools_ret (a0 : Option Addr) (n c0 : Nat) (z : Nat → Bool) (w : World) (h0 : BoolsAt w a0 n z) (hn : n ≤ 1000000) :
    Ret Try.prog 26 #[.slice a0 n c0] w fun v w' => (a0 = none ∧ v = .slice none 0 0 ∧ w' = w) ∨
      (a0 ≠ none ∧ v = .slice (some ⟨w.heap.size, 0, none⟩) n n ∧ Own w' w.heap.size 4 n n (fun i => .bool (z i)) ∧ Below w.heap.size w w') := by
  refine Ret.of_body (vs := [.slice a0 n c0]) Try.func26 rfl Try.ntmps26 rfl ?_
  refine wp_region_seq (fun K hK => ?_)
  refine wpl_op rfl (Ex_assign (by conv => lhs; whnf)) ?_
  refine wpl_nil (hK _ _ ?_)
  clear hK K
  cases a0 with
  | none =>
    refine wp_seq_k (fun KK hKK => ?_)
    refine wp_region_seq (fun K hK => ?_)
    refine wpl_op rfl (Ex_move (by conv => lhs; whnf)) ?_
    refine wpl_op rfl (Ex_eqlnil Try.underlying41 rfl rfl rfl) ?_
    refine wpl_nil (hK _ _ ?_)
    clear hK K
    refine wp_if_true rfl ?_
    clear hKK
    refine wp_region_seq (fun K hK => ?_)
    refine wpl_op rfl (Ex_assign (by conv => lhs; whnf)) ?_
    refine wpl_nil (hK _ _ ?_)
    clear hK K
    refine wp_ret ?_
    repeat (first | refine out_block ?_ | refine out_then ?_)
    refine ret_tmp Try.results26 (.inl ⟨rfl, rfl, rfl⟩)
  | some a =>
    refine wp_seq_k (fun KK hKK => ?_)
    refine wp_region_seq (fun K hK => ?_)
    refine wpl_op rfl (Ex_move (by conv => lhs; whnf)) ?_
    refine wpl_op rfl (Ex_eqlnil Try.underlying41 rfl rfl rfl) ?_
    refine wpl_nil (hK _ _ ?_)
    clear hK K
    refine wp_if_false rfl ?_
    refine wp_skip (hKK _ _ ?_)
    clear hKK KK
    refine wp_region_seq (fun K hK => ?_)
    refine wpl_op rfl (Ex_move (by conv => lhs; whnf)) ?_
    refine wpl_op rfl (Ex_len Try.underlying41 rfl) ?_
    refine wpl_op rfl (Ex_mk Try.underlying41 info4 rfl rfl (by omega) (by omega)) ?_
    refine wpl_op rfl (Ex_assign (by conv => lhs; whnf)) ?_
    refine wpl_nil (hK _ _ ?_)
    clear hK K
    refine wp_seq_k (fun K hK => ?_)
    refine wp_region_seq (fun K hK => ?_)
    refine wpl_op rfl (Ex_assign (by conv => lhs; whnf)) ?_
    refine wpl_nil (hK _ _ ?_)
    clear hK K
    refine wp_block ?_
    refine wp_loop_st (fun k : Nat => [(0, .slice (some a) n c0), (3, .slice (some ⟨w.heap.size, 0, none⟩) n n), (4, .int .i64 k)])
      (fun k w' => Below w.heap.size w w' ∧ k ≤ n ∧ Own w' w.heap.size 4 n k (fun i => .bool (z i))) (fun k => n - k) 0 ⟨rfl, rfl, rfl, trivial⟩
      ⟨(Below.refl _ _).alloc (Nat.le_refl _) _, Nat.zero_le _, by rw [Nat.mul_one]; exact Own.made w _ n _ _⟩ ?_
    rintro k u w' ⟨hb, hk, hown⟩ R hR
    by_cases hlt : k < n
    · obtain ⟨b0, o0, he, hc0⟩ := h0.get hlt
      cases he
      have hc := (cell_later hb (hc0 k hlt))
      obtain ⟨old, hold⟩ := hown.some hlt
      refine wp_seq_k (fun KK hKK => ?_)
      refine wp_region_seq (fun K hK => ?_)
      refine wpl_op rfl (Ex_move (by conv => lhs; whnf)) ?_
      refine wpl_op rfl (Ex_move (by conv => lhs; whnf)) ?_
      refine wpl_op rfl (Ex_len Try.underlying41 rfl) ?_
      refine wpl_op rfl (Ex_lss rfl rfl (decide_eq_true (by omega))) ?_
      refine wpl_nil (hK _ _ ?_)
      clear hK K
      refine wp_if_true rfl ?_
      refine wp_skip (hKK _ _ ?_)
      clear hKK KK
      refine wp_seq_k (fun K' hK' => ?_)
      refine wp_block ?_
      refine wp_region_last ?_
      refine wpl_op rfl (Ex_move (by conv => lhs; whnf)) ?_
      refine wpl_op rfl (Ex_move (by conv => lhs; whnf)) ?_
      refine wpl_op rfl (Ex_move (by conv => lhs; whnf)) ?_
      refine wpl_op rfl (Ex_move (by conv => lhs; whnf)) ?_
      refine wpl_op rfl (Ex_index1 Try.underlying41 size_41 rfl rfl hlt) ?_
      refine wpl_op rfl (Ex_load one4 rfl hc) ?_
      refine wpl_op rfl (Ex_index1 Try.underlying41 size_41 rfl rfl hlt) ?_
      refine wpl_op rfl (Ex_store one4 rfl (by conv => lhs; whnf) rfl (by rw [Nat.zero_add]; exact hold) hown.open_) ?_
      refine wpl_nil ?_
      refine hK' _ _ ?_
      refine wp_region_last ?_
      refine wpl_op rfl (Ex_move (by conv => lhs; whnf)) ?_
      refine wpl_op rfl (Ex_inc rfl rfl (by omega)) ?_
      refine wpl_op rfl (Ex_assign (by conv => lhs; whnf)) ?_
      refine wpl_nil ?_
      refine hR _ _ _ (k + 1) ⟨rfl, rfl, rfl, trivial⟩ ⟨hb.setCell (Nat.le_refl _) _, by omega, ?_⟩ (by omega)
      rw [Nat.zero_add]
      exact hown.set hlt (fun j hj => by
        by_cases e : j = k
        · subst e; exact .inl ⟨rfl, rfl⟩
        · exact .inr ⟨e, by omega, rfl⟩)
    · have hk' : k = n := by omega
      subst hk'
      refine wp_seq_k (fun KK hKK => ?_)
      refine wp_region_seq (fun K hK => ?_)
      refine wpl_op rfl (Ex_move (by conv => lhs; whnf)) ?_
      refine wpl_op rfl (Ex_move (by conv => lhs; whnf)) ?_
      refine wpl_op rfl (Ex_len Try.underlying41 rfl) ?_
      refine wpl_op rfl (Ex_lss rfl rfl (decide_eq_false (by omega))) ?_
      refine wpl_nil (hK _ _ ?_)
      clear hK K
      refine wp_if_false rfl ?_
      refine wp_exit ?_
      clear hKK
      refine hK _ _ ?_
      refine wp_region_seq (fun K hK => ?_)
      refine wpl_op rfl (Ex_move (by conv => lhs; whnf)) ?_
      refine wpl_op rfl (Ex_assign (by conv => lhs; whnf)) ?_
      refine wpl_nil (hK _ _ ?_)
      clear hK K
      refine wp_ret ?_
      repeat (first | refine out_block ?_ | refine out_then ?_)
      refine ret_tmp Try.results26 (.inr ⟨by simp, rfl, hown, hb⟩)
end Go.Proofs.Qxb6613881a
