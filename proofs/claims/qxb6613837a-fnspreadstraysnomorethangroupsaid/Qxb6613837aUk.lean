import Derived.Test.Qxb6613837aUj
namespace Go.Proofs.Qxb6613837a.Sp
open Go.Fr Go.RowKit Go.Sp

/-- What those of the first n on the host of i supply together. -/
def ss (h : Nat → ByteArray) (s : Nat → Nat) (i : Nat) : Nat → Nat
  | 0 => 0
  | n + 1 => ss h s i n + if same (h n) (h i) then s n else 0
theorem ss_le (h : Nat → ByteArray) (s : Nat → Nat) (i : Nat) : ∀ n, (ss h s i n : Int) ≤ sm (fun q => (s q : Int)) n
  | 0 => Int.le_refl _
  | n + 1 => by
    have := ss_le h s i n
    show ((ss h s i n + _ : Nat) : Int) ≤ sm (fun q => (s q : Int)) n + (s n : Int)
    split <;> omega
theorem ss_mono (h : Nat → ByteArray) (s : Nat → Nat) (i : Nat) : ∀ {m n : Nat}, m ≤ n → ss h s i m ≤ ss h s i n
  | m, 0, hm => by rw [show m = 0 by omega]; exact Nat.le_refl _
  | m, n + 1, hm => by
    by_cases e : m = n + 1
    · rw [e]; exact Nat.le_refl _
    · have := ss_mono h s i (m := m) (n := n) (by omega)
      show _ ≤ ss h s i n + _
      omega
/-- The reach over the hosts whose first node is among the first i. -/
def rch (h : Nat → ByteArray) (s : Nat → Nat) (k hi : Nat) : Nat → Nat
  | 0 => 0
  | i + 1 => rch h s k hi i + if fo h i i then min (sh h i k * hi) (16384 - ss h s i k) else 0
theorem rch_le (h : Nat → ByteArray) (s : Nat → Nat) (k hi : Nat) : ∀ i, rch h s k hi i ≤ 16384 * i
  | 0 => Nat.le_refl _
  | i + 1 => by
    have := rch_le h s k hi i
    show rch h s k hi i + _ ≤ _
    split <;> omega
theorem quo_le (k : Nat) (hk : 0 < k) : 16384 / k ≤ 16384 ∧ (16384 + k - 1) / k ≤ 16384 := by
  refine ⟨Nat.div_le_self _ _, ?_⟩
  rw [Nat.div_le_iff_le_mul_add_pred hk]
  have : 16384 ≤ k * 16384 := Nat.le_mul_of_pos_left _ hk
  omega
/-- Gale's condition, as zzSpreadFeasible asks it. -/
def Gale (h : Nat → ByteArray) (s : Nat → Nat) (k : Nat) : Prop := (∀ i, i < k → fo h i i → sh h i k * (16384 / k) + ss h s i k ≤ 16384) ∧ 16384 ≤ rch h s k ((16384 + k - 1) / k) k


theorem feasible_ret (a0 a1 : Option Addr) (k c0 c1 : Nat) (h : Nat → ByteArray) (s : Nat → Nat) (hk : 0 < k) (hkb : k ≤ 256) (hS : ∀ i, i < k → ss h s i k ≤ 16384) (w : World) (his : IntsAt w a0 k (fun q => (s q : Int))) (hst : StrsAt w a1 k h) :
    Ret Try.prog 18 #[.slice a0 k c0, .slice a1 k c1] w fun v w' => (∃ b, v = .bool b ∧ (b = true ↔ Gale h s k)) ∧ Below w.heap.size w w' := by
  refine Ret.of_body (vs := [.slice a0 k c0, .slice a1 k c1]) Try.func18 rfl Try.ntmps18 rfl ?_
  obtain ⟨b0, o0, rfl, hc⟩ := his.get hk
  obtain ⟨b1, o1, rfl, hd⟩ := hst.get hk
  obtain ⟨hq1, hq2⟩ := quo_le k hk
  refine wp_region_seq (fun K hK => ?_)
  refine wpl_op rfl (Ex_assign (by conv => lhs; whnf)) ?_
  refine wpl_nil (hK _ _ ?_)
  clear hK K
  refine wp_region_seq (fun K hK => ?_)
  refine wpl_op rfl (Ex_move (by conv => lhs; whnf)) ?_
  refine wpl_op rfl (Ex_len Try.underlying22 rfl) ?_
  refine wpl_op rfl (Ex_assign (by conv => lhs; whnf)) ?_
  refine wpl_nil (hK _ _ ?_)
  clear hK K
  refine wp_region_seq (fun K hK => ?_)
  refine wpl_op rfl (Ex_move (by conv => lhs; whnf)) ?_
  refine wpl_op rfl (Ex_quo (m := 16384) rfl rfl hk (by omega)) ?_
  refine wpl_op rfl (Ex_assign (by conv => lhs; whnf)) ?_
  refine wpl_nil (hK _ _ ?_)
  clear hK K
  refine wp_region_seq (fun K hK => ?_)
  refine wpl_op rfl (Ex_move (by conv => lhs; whnf)) ?_
  refine wpl_op rfl (Ex_plus (m := 16384) rfl rfl (by omega)) ?_
  refine wpl_op rfl (Ex_pred (m := 16384 + k) rfl rfl (by omega) (by omega)) ?_
  refine wpl_op rfl (Ex_move (by conv => lhs; whnf)) ?_
  refine wpl_op rfl (Ex_quo (m := 16384 + k - 1) rfl rfl hk (by omega)) ?_
  refine wpl_op rfl (Ex_assign (by conv => lhs; whnf)) ?_
  refine wpl_nil (hK _ _ ?_)
  clear hK K
  refine wp_region_seq (fun K hK => ?_)
  refine wpl_op rfl (Ex_assign (by conv => lhs; whnf)) ?_
  refine wpl_nil (hK _ _ ?_)
  clear hK K
  generalize hlo : 16384 / k = lo at hq1
  generalize hhi : (16384 + k - 1) / k = hi at hq2
  refine wp_seq_k (fun K1 hK1 => ?_)
  refine wp_region_seq (fun K hK => ?_)
  refine wpl_op rfl (Ex_assign (by conv => lhs; whnf)) ?_
  refine wpl_nil (hK _ _ ?_)
  clear hK K
  refine wp_block ?_
  refine wp_loop_st (fun i : Nat => [(0, .slice (some ⟨b0, o0, none⟩) k c0), (1, .slice (some ⟨b1, o1, none⟩) k c1), (5, .int .i64 (k : Int)), (6, .int .i64 (lo : Int)), (7, .int .i64 (hi : Int)), (8, .int .i64 (rch h s k hi i : Int)), (9, .int .i64 (i : Int))]) (fun i w' => Below w.heap.size w w' ∧ i ≤ k ∧ ∀ q, q < i → fo h q q → sh h q k * lo + ss h s q k ≤ 16384) (fun i => k - i) 0 ⟨rfl, rfl, rfl, rfl, rfl, rfl, rfl, trivial⟩ ⟨Below.refl _ _, Nat.zero_le _, fun _ h => by omega⟩ ?_
  rintro i uu w1 ⟨hb1, hi1, hg1⟩ R hR
  by_cases hlt : i < k
  · have hSi := hS i hlt
    have hshk := sh_le h i k
    have hr1 := rch_le h s k hi i
    refine wp_seq_k (fun KK hKK => ?_)
    refine wp_region_seq (fun K hK => ?_)
    refine wpl_op rfl (Ex_move (by conv => lhs; whnf)) ?_
    refine wpl_op rfl (Ex_move (by conv => lhs; whnf)) ?_
    refine wpl_op rfl (Ex_lss rfl rfl (decide_eq_true (by omega))) ?_
    refine wpl_nil (hK _ _ ?_)
    clear hK K
    refine wp_if_true rfl ?_
    refine wp_skip (hKK _ _ ?_)
    clear hKK KK
    refine wp_seq_k (fun K' hK' => ?_)
    refine wp_block ?_
    refine wp_seq_k (fun KK hKK => ?_)
    refine wp_region_seq (fun K hK => ?_)
    refine wpl_op rfl (Ex_move (by conv => lhs; whnf)) ?_
    refine wpl_op rfl (Ex_move (by conv => lhs; whnf)) ?_
    refine wpl_call rfl (ExC_func ent13 rfl rfl) (firstOf_ret _ k c1 i h hkb hlt _ (hst.below hb1)) ?_
    rintro v w2 ⟨⟨b, rfl, hbf⟩, hw2⟩
    refine wpl_op rfl (Ex_not rfl rfl) ?_
    refine wpl_nil (hK _ _ ?_)
    clear hK K
    have hb2 := hb1.trans (hw2.mono hb1.size)
    refine wp_if rfl (fun ht => ?_) (fun hf => ?_)
    · clear hKK
      have hnf : ¬ fo h i i := fun e => by rw [hbf.2 e] at ht; cases ht
      refine wp_exit ?_
      refine hK' _ _ ?_
      refine wp_region_last ?_
      refine wpl_op rfl (Ex_move (by conv => lhs; whnf)) ?_
      refine wpl_op rfl (Ex_inc rfl rfl (by omega)) ?_
      refine wpl_op rfl (Ex_assign (by conv => lhs; whnf)) ?_
      refine wpl_nil ?_
      refine hR _ _ _ (i + 1) ⟨rfl, rfl, rfl, rfl, rfl, by show _ = Value.int .i64 ((rch h s k hi i + _ : Nat) : Int); rw [if_neg hnf]; rfl, rfl, trivial⟩ ⟨hb2, hlt, fun q hq hfq => ?_⟩ (by omega)
      by_cases e : q = i
      · subst e; exact absurd hfq hnf
      · exact hg1 q (by omega) hfq
    have hfi : fo h i i := hbf.1 (by cases b with | true => rfl | false => cases hf)
    refine wp_skip (hKK _ _ ?_)
    clear hKK KK
    refine wp_region_seq (fun K hK => ?_)
    refine wpl_op rfl (Ex_assign (by conv => lhs; whnf)) ?_
    refine wpl_nil (hK _ _ ?_)
    clear hK K
    refine wp_region_seq (fun K hK => ?_)
    refine wpl_op rfl (Ex_assign (by conv => lhs; whnf)) ?_
    refine wpl_nil (hK _ _ ?_)
    clear hK K
    refine wp_seq_k (fun K3 hK3 => ?_)
    refine wp_region_seq (fun K hK => ?_)
    refine wpl_op rfl (Ex_assign (by conv => lhs; whnf)) ?_
    refine wpl_nil (hK _ _ ?_)
    clear hK K
    refine wp_block ?_
    refine wp_loop_st (fun j : Nat => [(0, .slice (some ⟨b0, o0, none⟩) k c0), (1, .slice (some ⟨b1, o1, none⟩) k c1), (5, .int .i64 (k : Int)), (6, .int .i64 (lo : Int)), (7, .int .i64 (hi : Int)), (8, .int .i64 (rch h s k hi i : Int)), (9, .int .i64 (i : Int)), (10, .int .i64 (sh h i j : Int)), (11, .int .i64 (ss h s i j : Int)), (12, .int .i64 (j : Int))]) (fun j w' => Below w.heap.size w w' ∧ j ≤ k) (fun j => k - j) 0 ⟨rfl, rfl, rfl, rfl, rfl, rfl, rfl, rfl, rfl, rfl, trivial⟩ ⟨hb2, Nat.zero_le _⟩ ?_
    clear hb2 hw2 hb1
    rintro j uu2 w3 ⟨hb3, hj⟩ R2 hR2
    have hd3 : ∀ q, q < k → w3.cell? ⟨b1, o1 + q, none⟩ = some (.string (h q)) := fun q hq => cell_later hb3 (hd q hq)
    by_cases hjt : j < k
    · skip
      refine wp_seq_k (fun KK hKK => ?_)
      refine wp_region_seq (fun K hK => ?_)
      refine wpl_op rfl (Ex_move (by conv => lhs; whnf)) ?_
      refine wpl_op rfl (Ex_move (by conv => lhs; whnf)) ?_
      refine wpl_op rfl (Ex_lss rfl rfl (decide_eq_true (by omega))) ?_
      refine wpl_nil (hK _ _ ?_)
      clear hK K
      refine wp_if_true rfl ?_
      refine wp_skip (hKK _ _ ?_)
      clear hKK KK
      refine wp_seq_k (fun K2 hK2 => ?_)
      refine wp_block ?_
      refine wp_quiet_seq (by kernel_rfl) (by kernel_rfl) (fun K hK => ?_)
      refine wpq_op (fun w hw => Ex_move (by conv => lhs; whnf)) ?_
      refine wpq_op (fun w hw => Ex_move (by conv => lhs; whnf)) ?_
      refine wpq_op (fun w hw => Ex_index1 Try.underlying23 size_23 rfl rfl hjt) ?_
      refine wpq_op (fun w hw => Ex_load one9 rfl (cell_later hw (hd3 j hjt))) ?_
      refine wpq_op (fun w hw => Ex_move (by conv => lhs; whnf)) ?_
      refine wpq_op (fun w hw => Ex_move (by conv => lhs; whnf)) ?_
      refine wpq_op (fun w hw => Ex_index1 Try.underlying23 size_23 rfl rfl hlt) ?_
      refine wpq_op (fun w hw => Ex_load one9 rfl (cell_later hw (hd3 i hlt))) ?_
      refine wpq_op (fun w hw => Ex_eqls rfl rfl rfl) ?_
      refine wpq_nil (fun w4 hw4 => hK _ _ ?_)
      clear hK K
      have hb4 := hb3.trans (hw4.mono hb3.size)
      have hsl := sh_le h i j
      refine wp_if rfl (fun ht => ?_) (fun hf => ?_)
      · have hsj : ss h s i (j + 1) = ss h s i j + s j := by show ss h s i j + _ = _; rw [if_pos ht]
        have hsj2 := ss_mono h s i (m := j + 1) (n := k) hjt
        refine wp_region_seq (fun K hK => ?_)
        refine wpl_op rfl (Ex_move (by conv => lhs; whnf)) ?_
        refine wpl_op rfl (Ex_inc rfl rfl (by omega)) ?_
        refine wpl_op rfl (Ex_assign (by conv => lhs; whnf)) ?_
        refine wpl_nil (hK _ _ ?_)
        clear hK K
        refine wp_region_last ?_
        refine wpl_op rfl (Ex_move (by conv => lhs; whnf)) ?_
        refine wpl_op rfl (Ex_move (by conv => lhs; whnf)) ?_
        refine wpl_op rfl (Ex_move (by conv => lhs; whnf)) ?_
        refine wpl_op rfl (Ex_index1 Try.underlying22 size_22 rfl rfl hjt) ?_
        refine wpl_op rfl (Ex_load one3 rfl (cell_later hb4 (hc j hjt))) ?_
        refine wpl_op rfl (Ex_plus rfl rfl (by omega)) ?_
        refine wpl_op rfl (Ex_assign (by conv => lhs; whnf)) ?_
        refine wpl_nil ?_
        refine hK2 _ _ ?_
        refine wp_region_last ?_
        refine wpl_op rfl (Ex_move (by conv => lhs; whnf)) ?_
        refine wpl_op rfl (Ex_inc rfl rfl (by omega)) ?_
        refine wpl_op rfl (Ex_assign (by conv => lhs; whnf)) ?_
        refine wpl_nil ?_
        exact hR2 _ _ _ (j + 1) ⟨rfl, rfl, rfl, rfl, rfl, rfl, rfl, by show _ = Value.int .i64 ((sh h i j + _ : Nat) : Int); rw [if_pos ht]; rfl, by rw [hsj]; rfl, rfl, trivial⟩ ⟨hb4, hjt⟩ (by omega)
      · refine wp_skip (hK2 _ _ ?_)
        refine wp_region_last ?_
        refine wpl_op rfl (Ex_move (by conv => lhs; whnf)) ?_
        refine wpl_op rfl (Ex_inc rfl rfl (by omega)) ?_
        refine wpl_op rfl (Ex_assign (by conv => lhs; whnf)) ?_
        refine wpl_nil ?_
        exact hR2 _ _ _ (j + 1) ⟨rfl, rfl, rfl, rfl, rfl, rfl, rfl, by show _ = Value.int .i64 ((sh h i j + _ : Nat) : Int); rw [if_neg (by rw [hf]; exact Bool.false_ne_true)]; rfl, by show _ = Value.int .i64 ((ss h s i j + _ : Nat) : Int); rw [if_neg (by rw [hf]; exact Bool.false_ne_true)]; rfl, rfl, trivial⟩ ⟨hb4, hjt⟩ (by omega)
    have hje : j = k := by omega
    subst hje
    refine wp_seq_k (fun KK hKK => ?_)
    refine wp_region_seq (fun K hK => ?_)
    refine wpl_op rfl (Ex_move (by conv => lhs; whnf)) ?_
    refine wpl_op rfl (Ex_move (by conv => lhs; whnf)) ?_
    refine wpl_op rfl (Ex_lss rfl rfl (decide_eq_false (by omega))) ?_
    refine wpl_nil (hK _ _ ?_)
    clear hK K
    refine wp_if_false rfl ?_
    refine wp_exit ?_
    clear hKK
    refine hK3 _ _ ?_
    clear hK3 K3 hR2 R2 hjt
    have hm1 : sh h i j * lo ≤ 256 * 16384 := Nat.mul_le_mul (by omega) hq1
    have hm2 : sh h i j * hi ≤ 256 * 16384 := Nat.mul_le_mul (by omega) hq2
    refine wp_seq_k (fun KK hKK => ?_)
    refine wp_region_seq (fun K hK => ?_)
    refine wpl_op rfl (Ex_move (by conv => lhs; whnf)) ?_
    refine wpl_op rfl (Ex_move (by conv => lhs; whnf)) ?_
    refine wpl_op rfl (Ex_times rfl rfl (by omega)) ?_
    refine wpl_op rfl (Ex_move (by conv => lhs; whnf)) ?_
    refine wpl_op rfl (Ex_minus (m := 16384) rfl rfl (by omega) (by omega)) ?_
    refine wpl_op rfl (Ex_gtr rfl rfl rfl) ?_
    refine wpl_nil (hK _ _ ?_)
    clear hK K
    refine wp_if rfl (fun ht => ?_) (fun hf => ?_)
    · clear hKK
      refine wp_region_seq (fun K hK => ?_)
      refine wpl_op rfl (Ex_assign (by conv => lhs; whnf)) ?_
      refine wpl_nil (hK _ _ ?_)
      clear hK K
      refine wp_ret ?_
      repeat (first | refine out_block ?_ | refine out_then ?_)
      refine ret_tmp Try.results18 ⟨⟨false, rfl, ⟨fun e => (by cases e), fun e => (by have h1 := e.1 i hlt hfi; rw [hlo] at h1; have h2 := of_decide_eq_true ht; omega)⟩⟩, hb3⟩
    refine wp_skip (hKK _ _ ?_)
    clear hKK KK
    have hok : sh h i j * lo + ss h s i j ≤ 16384 := by have := of_decide_eq_false hf; omega
    clear hf
    refine wp_region_seq (fun K hK => ?_)
    refine wpl_op rfl (Ex_move (by conv => lhs; whnf)) ?_
    refine wpl_op rfl (Ex_move (by conv => lhs; whnf)) ?_
    refine wpl_op rfl (Ex_times rfl rfl (by omega)) ?_
    refine wpl_op rfl (Ex_assign (by conv => lhs; whnf)) ?_
    refine wpl_nil (hK _ _ ?_)
    clear hK K
    refine wp_seq_k (fun KK hKK => ?_)
    have hgo : ∀ u, KK (fr 74 u [(0, .slice (some ⟨b0, o0, none⟩) j c0), (1, .slice (some ⟨b1, o1, none⟩) j c1), (5, .int .i64 (j : Int)), (6, .int .i64 (lo : Int)), (7, .int .i64 (hi : Int)), (8, .int .i64 (rch h s j hi i : Int)), (9, .int .i64 (i : Int)), (13, .int .i64 ((min (sh h i j * hi) (16384 - ss h s i j) : Nat) : Int))]) w3 := by
      intro u
      refine hKK _ _ ?_
      clear hKK
      refine wp_region_last ?_
      refine wpl_op rfl (Ex_move (by conv => lhs; whnf)) ?_
      refine wpl_op rfl (Ex_move (by conv => lhs; whnf)) ?_
      refine wpl_op rfl (Ex_plus rfl rfl (by omega)) ?_
      refine wpl_op rfl (Ex_assign (by conv => lhs; whnf)) ?_
      refine wpl_nil ?_
      refine hK' _ _ ?_
      refine wp_region_last ?_
      refine wpl_op rfl (Ex_move (by conv => lhs; whnf)) ?_
      refine wpl_op rfl (Ex_inc rfl rfl (by omega)) ?_
      refine wpl_op rfl (Ex_assign (by conv => lhs; whnf)) ?_
      refine wpl_nil ?_
      refine hR _ _ _ (i + 1) ⟨rfl, rfl, rfl, rfl, rfl, by show _ = Value.int .i64 ((rch h s j hi i + _ : Nat) : Int); rw [if_pos hfi]; rfl, rfl, trivial⟩ ⟨hb3, hlt, fun q hq hfq => ?_⟩ (by omega)
      by_cases e : q = i
      · subst e; exact hok
      · exact hg1 q (by omega) hfq
    clear hKK
    refine wp_region_seq (fun K hK => ?_)
    refine wpl_op rfl (Ex_move (by conv => lhs; whnf)) ?_
    refine wpl_op rfl (Ex_minus (m := 16384) rfl rfl (by omega) (by omega)) ?_
    refine wpl_op rfl (Ex_move (by conv => lhs; whnf)) ?_
    refine wpl_op rfl (Ex_lss rfl rfl rfl) ?_
    refine wpl_nil (hK _ _ ?_)
    clear hK K
    refine wp_if rfl (fun ht => ?_) (fun hf => ?_)
    · have hmin : min (sh h i j * hi) (16384 - ss h s i j) = 16384 - ss h s i j := by have := of_decide_eq_true ht; omega
      refine wp_region_last ?_
      refine wpl_op rfl (Ex_move (by conv => lhs; whnf)) ?_
      refine wpl_op rfl (Ex_minus (m := 16384) rfl rfl (by omega) (by omega)) ?_
      refine wpl_op rfl (Ex_assign (by conv => lhs; whnf)) ?_
      refine wpl_nil ?_
      rw [fr_norm [(0, .slice (some ⟨b0, o0, none⟩) j c0), (1, .slice (some ⟨b1, o1, none⟩) j c1), (5, .int .i64 (j : Int)), (6, .int .i64 (lo : Int)), (7, .int .i64 (hi : Int)), (8, .int .i64 (rch h s j hi i : Int)), (9, .int .i64 (i : Int)), (13, .int .i64 ((min (sh h i j * hi) (16384 - ss h s i j) : Nat) : Int))] ⟨rfl, rfl, rfl, rfl, rfl, rfl, rfl, by rw [hmin]; rfl, trivial⟩]
      exact hgo _
    · have hmin : min (sh h i j * hi) (16384 - ss h s i j) = sh h i j * hi := by have := of_decide_eq_false hf; omega
      refine wp_skip ?_
      show KK _ _
      rw [fr_norm [(0, .slice (some ⟨b0, o0, none⟩) j c0), (1, .slice (some ⟨b1, o1, none⟩) j c1), (5, .int .i64 (j : Int)), (6, .int .i64 (lo : Int)), (7, .int .i64 (hi : Int)), (8, .int .i64 (rch h s j hi i : Int)), (9, .int .i64 (i : Int)), (13, .int .i64 ((min (sh h i j * hi) (16384 - ss h s i j) : Nat) : Int))] ⟨rfl, rfl, rfl, rfl, rfl, rfl, rfl, by rw [hmin]; rfl, trivial⟩]
      exact hgo _
  have hie : i = k := by omega
  subst hie
  refine wp_seq_k (fun KK hKK => ?_)
  refine wp_region_seq (fun K hK => ?_)
  refine wpl_op rfl (Ex_move (by conv => lhs; whnf)) ?_
  refine wpl_op rfl (Ex_move (by conv => lhs; whnf)) ?_
  refine wpl_op rfl (Ex_lss rfl rfl (decide_eq_false (by omega))) ?_
  refine wpl_nil (hK _ _ ?_)
  clear hK K
  refine wp_if_false rfl ?_
  refine wp_exit ?_
  clear hKK
  refine hK1 _ _ ?_
  refine wp_region_seq (fun K hK => ?_)
  refine wpl_op rfl (Ex_move (by conv => lhs; whnf)) ?_
  refine wpl_op rfl (Ex_geq rfl rfl rfl) ?_
  refine wpl_op rfl (Ex_assign (by conv => lhs; whnf)) ?_
  refine wpl_nil (hK _ _ ?_)
  clear hK K
  refine wp_ret ?_
  repeat (first | refine out_block ?_ | refine out_then ?_)
  refine ret_tmp Try.results18 ⟨⟨_, rfl, ⟨fun e => ⟨by rw [hlo]; exact hg1, by rw [hhi]; have := of_decide_eq_true e; omega⟩, fun e => decide_eq_true (by have h2 := e.2; rw [hhi] at h2; omega)⟩⟩, hb1⟩

theorem same_comm (x y : ByteArray) : same x y = same y x := by
  unfold same
  rw [Bool.eq_iff_iff]
  simp only [beq_iff_eq]
  exact eq_comm
theorem ap_sh (h : Nat → ByteArray) (i : Nat) : ∀ n, ap h i n + sh h i n = n
  | 0 => rfl
  | n + 1 => by
    have := ap_sh h i n
    show ap h i n + _ + (sh h i n + _) = _
    unfold wlnk
    rw [same_comm (h i) (h n)]
    cases same (h n) (h i) <;> simp <;> omega
/-- z is the stray as far as (i, j). -/
structure Wst (x : Nat → Nat → Int) (h : Nat → ByteArray) (s : Nat → Nat) (k i j : Nat) (z : Int) : Prop where
  pos : 0 ≤ z
  small : z ≤ 2000000
  over : ∀ a b, (a < i ∨ (a = i ∧ b < j)) → a < k → b < k → wlnk h a b = true → (evlo s (fun q => ap h q k) a : Int) - x a b ≤ z ∧ x a b - (evhi s (fun q => ap h q k) a : Int) ≤ z
  least : z = 0 ∨ ∃ a b, a < k ∧ b < k ∧ wlnk h a b = true ∧ (z = (evlo s (fun q => ap h q k) a : Int) - x a b ∨ z = x a b - (evhi s (fun q => ap h q k) a : Int))
theorem Wst.next {x : Nat → Nat → Int} {h : Nat → ByteArray} {s : Nat → Nat} {k i : Nat} {z : Int} (m : Wst x h s k i k z) : Wst x h s k (i + 1) 0 z :=
  ⟨m.pos, m.small, fun a b hab ha hb hl => m.over a b (by omega) ha hb hl, m.least⟩
theorem Wst.row {x : Nat → Nat → Int} {h : Nat → ByteArray} {s : Nat → Nat} {k i : Nat} {z : Int} (m : Wst x h s k i 0 z) (hno : ∀ b, b < k → wlnk h i b ≠ true) : Wst x h s k (i + 1) 0 z :=
  ⟨m.pos, m.small, fun a b hab ha hb hl => by
    by_cases e : a = i
    · subst e; exact absurd hl (hno b hb)
    · exact m.over a b (by omega) ha hb hl, m.least⟩
theorem Wst.skip {x : Nat → Nat → Int} {h : Nat → ByteArray} {s : Nat → Nat} {k i j : Nat} {z : Int} (m : Wst x h s k i j z) (hno : wlnk h i j ≠ true) : Wst x h s k i (j + 1) z :=
  ⟨m.pos, m.small, fun a b hab ha hb hl => by
    by_cases e : a = i ∧ b = j
    · obtain ⟨rfl, rfl⟩ := e; exact absurd hl hno
    · exact m.over a b (by omega) ha hb hl, m.least⟩
theorem Wst.step {x : Nat → Nat → Int} {h : Nat → ByteArray} {s : Nat → Nat} {k i j : Nat} {z z1 z2 : Int} (m : Wst x h s k i j z) (hi : i < k) (hj : j < k) (hl : wlnk h i j = true) (hb : z2 ≤ 2000000)
    (h1 : z ≤ z1 ∧ (evlo s (fun q => ap h q k) i : Int) - x i j ≤ z1 ∧ (z1 = z ∨ z1 = (evlo s (fun q => ap h q k) i : Int) - x i j))
    (h2 : z1 ≤ z2 ∧ x i j - (evhi s (fun q => ap h q k) i : Int) ≤ z2 ∧ (z2 = z1 ∨ z2 = x i j - (evhi s (fun q => ap h q k) i : Int))) : Wst x h s k i (j + 1) z2 := by
  obtain ⟨p1, p2, p3⟩ := h1
  obtain ⟨q1, q2, q3⟩ := h2
  have := m.pos
  refine ⟨by omega, hb, fun a b hab ha hb hl' => ?_, ?_⟩
  · by_cases e : a = i ∧ b = j
    · obtain ⟨rfl, rfl⟩ := e; exact ⟨by omega, by omega⟩
    · have := m.over a b (by omega) ha hb hl'
      omega
  · rcases q3 with q3 | q3
    · rcases p3 with p3 | p3
      · rcases m.least with h0 | ⟨a, b, ha, hb, hl', h0⟩
        · exact .inl (by omega)
        · exact .inr ⟨a, b, ha, hb, hl', by omega⟩
      · exact .inr ⟨i, j, hi, hj, hl, .inl (by omega)⟩
    · exact .inr ⟨i, j, hi, hj, hl, .inr q3⟩


theorem stray_ret (gX : Nat) (xb : Nat → Nat) (x : Nat → Nat → Int) (a0 a1 : Option Addr) (k c0 c1 : Nat) (h : Nat → ByteArray) (s : Nat → Nat) (hk : 0 < k) (hkb : k ≤ 256) (hs : ∀ q, q < k → s q ≤ 1000000) (hx : ∀ a b, a < k → b < k → 0 ≤ x a b ∧ x a b ≤ 1000000) (w : World) (hq : Sq w k gX xb x k) (his : IntsAt w a0 k (fun q => (s q : Int))) (hst : StrsAt w a1 k h) :
    Ret Try.prog 20 #[sl gX k, .slice a0 k c0, .slice a1 k c1] w fun v w' => (∃ z, v = .int .i64 z ∧ Wst x h s k k 0 z) ∧ Below w.heap.size w w' := by
  refine Ret.of_body (vs := [sl gX k, .slice a0 k c0, .slice a1 k c1]) Try.func20 rfl Try.ntmps20 rfl ?_
  obtain ⟨b0, o0, rfl, hc⟩ := his.get hk
  obtain ⟨b1, o1, rfl, hd⟩ := hst.get hk
  refine wp_region_seq (fun K hK => ?_)
  refine wpl_op rfl (Ex_assign (by conv => lhs; whnf)) ?_
  refine wpl_nil (hK _ _ ?_)
  clear hK K
  refine wp_region_seq (fun K hK => ?_)
  refine wpl_op rfl (Ex_move (by conv => lhs; whnf)) ?_
  refine wpl_op rfl (Ex_len Try.underlying22 rfl) ?_
  refine wpl_op rfl (Ex_assign (by conv => lhs; whnf)) ?_
  refine wpl_nil (hK _ _ ?_)
  clear hK K
  refine wp_region_seq (fun K hK => ?_)
  refine wpl_op rfl (Ex_assign (by conv => lhs; whnf)) ?_
  refine wpl_nil (hK _ _ ?_)
  clear hK K
  refine wp_seq_k (fun K1 hK1 => ?_)
  refine wp_region_seq (fun K hK => ?_)
  refine wpl_op rfl (Ex_assign (by conv => lhs; whnf)) ?_
  refine wpl_nil (hK _ _ ?_)
  clear hK K
  refine wp_block ?_
  refine wp_loop_st (fun q : Nat × Int => [(0, sl gX k), (1, .slice (some ⟨b0, o0, none⟩) k c0), (2, .slice (some ⟨b1, o1, none⟩) k c1), (7, .int .i64 (k : Int)), (8, .int .i64 q.2), (9, .int .i64 (q.1 : Int))]) (fun q w' => Below w.heap.size w w' ∧ q.1 ≤ k ∧ Wst x h s k q.1 0 q.2) (fun q => k - q.1) (0, 0) ⟨rfl, rfl, rfl, rfl, rfl, rfl, trivial⟩ ⟨Below.refl _ _, Nat.zero_le _, ⟨Int.le_refl _, by dsimp only; omega, fun _ _ h => by dsimp only at h; omega, .inl rfl⟩⟩ ?_
  rintro ⟨i, z⟩ uu w1 ⟨hb1, hi, hwst⟩ R hR
  dsimp only at hi hwst hR ⊢
  by_cases hlt : i < k
  · have hapsh := ap_sh h i k
    have hsi := hs i hlt
    refine wp_seq_k (fun KK hKK => ?_)
    refine wp_region_seq (fun K hK => ?_)
    refine wpl_op rfl (Ex_move (by conv => lhs; whnf)) ?_
    refine wpl_op rfl (Ex_move (by conv => lhs; whnf)) ?_
    refine wpl_op rfl (Ex_lss rfl rfl (decide_eq_true (by omega))) ?_
    refine wpl_nil (hK _ _ ?_)
    clear hK K
    refine wp_if_true rfl ?_
    refine wp_skip (hKK _ _ ?_)
    clear hKK KK
    refine wp_seq_k (fun K' hK' => ?_)
    refine wp_block ?_
    refine wp_region_seq (fun K hK => ?_)
    refine wpl_op rfl (Ex_move (by conv => lhs; whnf)) ?_
    refine wpl_op rfl (Ex_move (by conv => lhs; whnf)) ?_
    refine wpl_op rfl (Ex_move (by conv => lhs; whnf)) ?_
    refine wpl_call rfl (ExC_func ent23 rfl rfl) (sameHost_ret _ k c1 i h hkb hlt _ (hst.below hb1)) ?_
    rintro v w2 ⟨rfl, hw2⟩
    refine wpl_op rfl (Ex_minus rfl rfl (by omega) (by omega)) ?_
    refine wpl_op rfl (Ex_assign (by conv => lhs; whnf)) ?_
    refine wpl_nil (hK _ _ ?_)
    clear hK K
    rw [show k - sh h i k = ap h i k by omega]
    have hb2 := hb1.trans (hw2.mono hb1.size)
    by_cases hp0 : ap h i k = 0
    · skip
      refine wp_seq_k (fun KK hKK => ?_)
      refine wp_region_seq (fun K hK => ?_)
      refine wpl_op rfl (Ex_move (by conv => lhs; whnf)) ?_
      refine wpl_op rfl (Ex_eql rfl rfl (decide_eq_true (by omega))) ?_
      refine wpl_nil (hK _ _ ?_)
      clear hK K
      refine wp_if_true rfl ?_
      refine wp_exit ?_
      clear hKK
      refine hK' _ _ ?_
      refine wp_region_last ?_
      refine wpl_op rfl (Ex_move (by conv => lhs; whnf)) ?_
      refine wpl_op rfl (Ex_inc rfl rfl (by omega)) ?_
      refine wpl_op rfl (Ex_assign (by conv => lhs; whnf)) ?_
      refine wpl_nil ?_
      exact hR _ _ _ (i + 1, z) ⟨rfl, rfl, rfl, rfl, rfl, rfl, trivial⟩ ⟨hb2, hlt, hwst.row (fun b hb hl => by have := ap_pos hb hl; omega)⟩ (by dsimp only; omega)
    refine wp_seq_k (fun KK hKK => ?_)
    refine wp_region_seq (fun K hK => ?_)
    refine wpl_op rfl (Ex_move (by conv => lhs; whnf)) ?_
    refine wpl_op rfl (Ex_eql rfl rfl (decide_eq_false (by omega))) ?_
    refine wpl_nil (hK _ _ ?_)
    clear hK K
    refine wp_if_false rfl ?_
    refine wp_skip (hKK _ _ ?_)
    clear hKK KK
    refine wp_region_seq (fun K hK => ?_)
    refine wpl_op rfl (Ex_move (by conv => lhs; whnf)) ?_
    refine wpl_op rfl (Ex_move (by conv => lhs; whnf)) ?_
    refine wpl_op rfl (Ex_index1 Try.underlying22 size_22 rfl rfl hlt) ?_
    refine wpl_op rfl (Ex_load one3 rfl (cell_later hb2 (hc i hlt))) ?_
    refine wpl_op rfl (Ex_move (by conv => lhs; whnf)) ?_
    refine wpl_op rfl (Ex_quo rfl rfl (by omega) (by omega)) ?_
    refine wpl_op rfl (Ex_assign (by conv => lhs; whnf)) ?_
    refine wpl_nil (hK _ _ ?_)
    clear hK K
    refine wp_region_seq (fun K hK => ?_)
    refine wpl_op rfl (Ex_move (by conv => lhs; whnf)) ?_
    refine wpl_op rfl (Ex_move (by conv => lhs; whnf)) ?_
    refine wpl_op rfl (Ex_index1 Try.underlying22 size_22 rfl rfl hlt) ?_
    refine wpl_op rfl (Ex_load one3 rfl (cell_later hb2 (hc i hlt))) ?_
    refine wpl_op rfl (Ex_move (by conv => lhs; whnf)) ?_
    refine wpl_op rfl (Ex_plus rfl rfl (by omega)) ?_
    refine wpl_op rfl (Ex_pred rfl rfl (by omega) (by omega)) ?_
    refine wpl_op rfl (Ex_move (by conv => lhs; whnf)) ?_
    refine wpl_op rfl (Ex_quo rfl rfl (by omega) (by omega)) ?_
    refine wpl_op rfl (Ex_assign (by conv => lhs; whnf)) ?_
    refine wpl_nil (hK _ _ ?_)
    clear hK K
    refine wp_region_seq (fun K hK => ?_)
    refine wpl_op rfl (Ex_assign (by conv => lhs; whnf)) ?_
    refine wpl_nil (hK _ _ ?_)
    clear hK K
    have hel : evlo s (fun q => ap h q k) i ≤ 1000000 := Nat.le_trans (Nat.div_le_self _ _) hsi
    have heh : evhi s (fun q => ap h q k) i ≤ 2000000 := Nat.le_trans (Nat.div_le_self _ _) (by dsimp only; omega)
    refine wp_block ?_
    refine wp_loop_st (fun q : Nat × Int => [(0, sl gX k), (1, .slice (some ⟨b0, o0, none⟩) k c0), (2, .slice (some ⟨b1, o1, none⟩) k c1), (7, .int .i64 (k : Int)), (8, .int .i64 q.2), (9, .int .i64 (i : Int)), (11, .int .i64 (evlo s (fun q => ap h q k) i : Int)), (12, .int .i64 (evhi s (fun q => ap h q k) i : Int)), (13, .int .i64 (q.1 : Int))]) (fun q w' => Below w.heap.size w w' ∧ q.1 ≤ k ∧ Wst x h s k i q.1 q.2) (fun q => k - q.1) (0, z) ⟨rfl, rfl, rfl, rfl, rfl, rfl, rfl, rfl, rfl, trivial⟩ ⟨hb2, Nat.zero_le _, hwst⟩ ?_
    clear hb2 hw2 hb1 hwst
    rintro ⟨j, z⟩ uu2 w3 ⟨hb3, hj, hwst⟩ R2 hR2
    dsimp only at hj hwst hR2 ⊢
    have hd3 : ∀ q, q < k → w3.cell? ⟨b1, o1 + q, none⟩ = some (.string (h q)) := fun q hq => cell_later hb3 (hd q hq)
    by_cases hjt : j < k
    · have hxij := hx i j hlt hjt
      refine wp_seq_k (fun KK hKK => ?_)
      refine wp_region_seq (fun K hK => ?_)
      refine wpl_op rfl (Ex_move (by conv => lhs; whnf)) ?_
      refine wpl_op rfl (Ex_move (by conv => lhs; whnf)) ?_
      refine wpl_op rfl (Ex_lss rfl rfl (decide_eq_true (by omega))) ?_
      refine wpl_nil (hK _ _ ?_)
      clear hK K
      refine wp_if_true rfl ?_
      refine wp_skip (hKK _ _ ?_)
      clear hKK KK
      refine wp_seq_k (fun K2 hK2 => ?_)
      refine wp_block ?_
      refine wp_seq_k (fun KK hKK => ?_)
      refine wp_quiet_seq (by kernel_rfl) (by kernel_rfl) (fun K hK => ?_)
      refine wpq_op (fun w hw => Ex_move (by conv => lhs; whnf)) ?_
      refine wpq_op (fun w hw => Ex_move (by conv => lhs; whnf)) ?_
      refine wpq_op (fun w hw => Ex_index1 Try.underlying23 size_23 rfl rfl hjt) ?_
      refine wpq_op (fun w hw => Ex_load one9 rfl (cell_later hw (hd3 j hjt))) ?_
      refine wpq_op (fun w hw => Ex_move (by conv => lhs; whnf)) ?_
      refine wpq_op (fun w hw => Ex_move (by conv => lhs; whnf)) ?_
      refine wpq_op (fun w hw => Ex_index1 Try.underlying23 size_23 rfl rfl hlt) ?_
      refine wpq_op (fun w hw => Ex_load one9 rfl (cell_later hw (hd3 i hlt))) ?_
      refine wpq_op (fun w hw => Ex_eqls rfl rfl rfl) ?_
      refine wpq_nil (fun w4 hw4 => hK _ _ ?_)
      clear hK K
      have hb4 := hb3.trans (hw4.mono hb3.size)
      refine wp_if rfl (fun ht => ?_) (fun hf => ?_)
      · clear hKK
        have hnl : wlnk h i j ≠ true := by unfold wlnk; rw [same_comm, ht]; exact Bool.false_ne_true
        refine wp_exit ?_
        refine hK2 _ _ ?_
        refine wp_region_last ?_
        refine wpl_op rfl (Ex_move (by conv => lhs; whnf)) ?_
        refine wpl_op rfl (Ex_inc rfl rfl (by omega)) ?_
        refine wpl_op rfl (Ex_assign (by conv => lhs; whnf)) ?_
        refine wpl_nil ?_
        exact hR2 _ _ _ (j + 1, z) ⟨rfl, rfl, rfl, rfl, rfl, rfl, rfl, rfl, rfl, trivial⟩ ⟨hb4, hjt, hwst.skip hnl⟩ (by dsimp only; omega)
      have hl : wlnk h i j = true := by unfold wlnk; rw [same_comm, hf]; rfl
      refine wp_skip (hKK _ _ ?_)
      clear hKK KK hf
      have hqr := hq.top.later hb4
      have hqx : w4.cell? ⟨xb i, 0 + j, none⟩ = some (.int .i64 (x i j)) := ((hq.row i hlt).later hb4).c0 hjt
      have hpos := hwst.pos
      have hsm := hwst.small
      refine wp_seq_k (fun KK hKK => ?_)
      have hgo : ∀ u z1, (z ≤ z1 ∧ (evlo s (fun q => ap h q k) i : Int) - x i j ≤ z1 ∧ (z1 = z ∨ z1 = (evlo s (fun q => ap h q k) i : Int) - x i j)) → KK (fr 98 u [(0, sl gX k), (1, .slice (some ⟨b0, o0, none⟩) k c0), (2, .slice (some ⟨b1, o1, none⟩) k c1), (7, .int .i64 (k : Int)), (8, .int .i64 z1), (9, .int .i64 (i : Int)), (11, .int .i64 (evlo s (fun q => ap h q k) i : Int)), (12, .int .i64 (evhi s (fun q => ap h q k) i : Int)), (13, .int .i64 (j : Int))]) w4 := by
        rintro u z1 h1
        refine hKK _ _ ?_
        clear hKK
        refine wp_region_seq (fun K hK => ?_)
        refine wpl_op rfl (Ex_move (by conv => lhs; whnf)) ?_
        refine wpl_op rfl (Ex_move (by conv => lhs; whnf)) ?_
        refine wpl_op rfl (Ex_index1 Try.underlying27 size_27 rfl rfl hlt) ?_
        refine wpl_op rfl (Ex_load one22 rfl (hqr.c0 hlt)) ?_
        refine wpl_op rfl (Ex_move (by conv => lhs; whnf)) ?_
        refine wpl_op rfl (Ex_index1 Try.underlying22 size_22 rfl rfl hjt) ?_
        refine wpl_op rfl (Ex_load one3 rfl hqx) ?_
        refine wpl_op rfl (Ex_move (by conv => lhs; whnf)) ?_
        refine wpl_op rfl (Ex_sub rfl rfl (by omega) (by omega)) ?_
        refine wpl_op rfl (Ex_move (by conv => lhs; whnf)) ?_
        refine wpl_op rfl (Ex_gtr rfl rfl rfl) ?_
        refine wpl_nil (hK _ _ ?_)
        clear hK K
        refine wp_if rfl (fun ht => ?_) (fun hf => ?_)
        · have ht' := of_decide_eq_true ht
          refine wp_region_last ?_
          refine wpl_op rfl (Ex_move (by conv => lhs; whnf)) ?_
          refine wpl_op rfl (Ex_move (by conv => lhs; whnf)) ?_
          refine wpl_op rfl (Ex_index1 Try.underlying27 size_27 rfl rfl hlt) ?_
          refine wpl_op rfl (Ex_load one22 rfl (hqr.c0 hlt)) ?_
          refine wpl_op rfl (Ex_move (by conv => lhs; whnf)) ?_
          refine wpl_op rfl (Ex_index1 Try.underlying22 size_22 rfl rfl hjt) ?_
          refine wpl_op rfl (Ex_load one3 rfl hqx) ?_
          refine wpl_op rfl (Ex_move (by conv => lhs; whnf)) ?_
          refine wpl_op rfl (Ex_sub rfl rfl (by omega) (by omega)) ?_
          refine wpl_op rfl (Ex_assign (by conv => lhs; whnf)) ?_
          refine wpl_nil ?_
          refine hK2 _ _ ?_
          refine wp_region_last ?_
          refine wpl_op rfl (Ex_move (by conv => lhs; whnf)) ?_
          refine wpl_op rfl (Ex_inc rfl rfl (by omega)) ?_
          refine wpl_op rfl (Ex_assign (by conv => lhs; whnf)) ?_
          refine wpl_nil ?_
          exact hR2 _ _ _ (j + 1, _) ⟨rfl, rfl, rfl, rfl, rfl, rfl, rfl, rfl, rfl, trivial⟩ ⟨hb4, hjt, hwst.step hlt hjt hl (by omega) h1 ⟨by omega, Int.le_refl _, .inr rfl⟩⟩ (by dsimp only; omega)
        · have hf' := of_decide_eq_false hf
          refine wp_skip (hK2 _ _ ?_)
          refine wp_region_last ?_
          refine wpl_op rfl (Ex_move (by conv => lhs; whnf)) ?_
          refine wpl_op rfl (Ex_inc rfl rfl (by omega)) ?_
          refine wpl_op rfl (Ex_assign (by conv => lhs; whnf)) ?_
          refine wpl_nil ?_
          exact hR2 _ _ _ (j + 1, z1) ⟨rfl, rfl, rfl, rfl, rfl, rfl, rfl, rfl, rfl, trivial⟩ ⟨hb4, hjt, hwst.step hlt hjt hl (by omega) h1 ⟨Int.le_refl _, by omega, .inl rfl⟩⟩ (by dsimp only; omega)
      clear hKK
      refine wp_region_seq (fun K hK => ?_)
      refine wpl_op rfl (Ex_move (by conv => lhs; whnf)) ?_
      refine wpl_op rfl (Ex_move (by conv => lhs; whnf)) ?_
      refine wpl_op rfl (Ex_move (by conv => lhs; whnf)) ?_
      refine wpl_op rfl (Ex_index1 Try.underlying27 size_27 rfl rfl hlt) ?_
      refine wpl_op rfl (Ex_load one22 rfl (hqr.c0 hlt)) ?_
      refine wpl_op rfl (Ex_move (by conv => lhs; whnf)) ?_
      refine wpl_op rfl (Ex_index1 Try.underlying22 size_22 rfl rfl hjt) ?_
      refine wpl_op rfl (Ex_load one3 rfl hqx) ?_
      refine wpl_op rfl (Ex_sub rfl rfl (by omega) (by omega)) ?_
      refine wpl_op rfl (Ex_move (by conv => lhs; whnf)) ?_
      refine wpl_op rfl (Ex_gtr rfl rfl rfl) ?_
      refine wpl_nil (hK _ _ ?_)
      clear hK K
      refine wp_if rfl (fun ht => ?_) (fun hf => ?_)
      · have ht' := of_decide_eq_true ht
        refine wp_region_last ?_
        refine wpl_op rfl (Ex_move (by conv => lhs; whnf)) ?_
        refine wpl_op rfl (Ex_move (by conv => lhs; whnf)) ?_
        refine wpl_op rfl (Ex_move (by conv => lhs; whnf)) ?_
        refine wpl_op rfl (Ex_index1 Try.underlying27 size_27 rfl rfl hlt) ?_
        refine wpl_op rfl (Ex_load one22 rfl (hqr.c0 hlt)) ?_
        refine wpl_op rfl (Ex_move (by conv => lhs; whnf)) ?_
        refine wpl_op rfl (Ex_index1 Try.underlying22 size_22 rfl rfl hjt) ?_
        refine wpl_op rfl (Ex_load one3 rfl hqx) ?_
        refine wpl_op rfl (Ex_sub rfl rfl (by omega) (by omega)) ?_
        refine wpl_op rfl (Ex_assign (by conv => lhs; whnf)) ?_
        refine wpl_nil ?_
        rw [fr_norm [(0, sl gX k), (1, .slice (some ⟨b0, o0, none⟩) k c0), (2, .slice (some ⟨b1, o1, none⟩) k c1), (7, .int .i64 (k : Int)), (8, .int .i64 ((evlo s (fun q => ap h q k) i : Int) - x i j)), (9, .int .i64 (i : Int)), (11, .int .i64 (evlo s (fun q => ap h q k) i : Int)), (12, .int .i64 (evhi s (fun q => ap h q k) i : Int)), (13, .int .i64 (j : Int))] ⟨rfl, rfl, rfl, rfl, rfl, rfl, rfl, rfl, rfl, trivial⟩]
        exact hgo _ _ ⟨by omega, Int.le_refl _, .inr rfl⟩
      · have hf' := of_decide_eq_false hf
        refine wp_skip ?_
        show KK _ _
        rw [fr_norm [(0, sl gX k), (1, .slice (some ⟨b0, o0, none⟩) k c0), (2, .slice (some ⟨b1, o1, none⟩) k c1), (7, .int .i64 (k : Int)), (8, .int .i64 z), (9, .int .i64 (i : Int)), (11, .int .i64 (evlo s (fun q => ap h q k) i : Int)), (12, .int .i64 (evhi s (fun q => ap h q k) i : Int)), (13, .int .i64 (j : Int))] ⟨rfl, rfl, rfl, rfl, rfl, rfl, rfl, rfl, rfl, trivial⟩]
        exact hgo _ _ ⟨Int.le_refl _, by omega, .inl rfl⟩
    have hje : j = k := by omega
    subst hje
    refine wp_seq_k (fun KK hKK => ?_)
    refine wp_region_seq (fun K hK => ?_)
    refine wpl_op rfl (Ex_move (by conv => lhs; whnf)) ?_
    refine wpl_op rfl (Ex_move (by conv => lhs; whnf)) ?_
    refine wpl_op rfl (Ex_lss rfl rfl (decide_eq_false (by omega))) ?_
    refine wpl_nil (hK _ _ ?_)
    clear hK K
    refine wp_if_false rfl ?_
    refine wp_exit ?_
    clear hKK
    refine hK' _ _ ?_
    refine wp_region_last ?_
    refine wpl_op rfl (Ex_move (by conv => lhs; whnf)) ?_
    refine wpl_op rfl (Ex_inc rfl rfl (by omega)) ?_
    refine wpl_op rfl (Ex_assign (by conv => lhs; whnf)) ?_
    refine wpl_nil ?_
    exact hR _ _ _ (i + 1, z) ⟨rfl, rfl, rfl, rfl, rfl, rfl, trivial⟩ ⟨hb3, hlt, hwst.next⟩ (by dsimp only; omega)
  have hie : i = k := by omega
  subst hie
  refine wp_seq_k (fun KK hKK => ?_)
  refine wp_region_seq (fun K hK => ?_)
  refine wpl_op rfl (Ex_move (by conv => lhs; whnf)) ?_
  refine wpl_op rfl (Ex_move (by conv => lhs; whnf)) ?_
  refine wpl_op rfl (Ex_lss rfl rfl (decide_eq_false (by omega))) ?_
  refine wpl_nil (hK _ _ ?_)
  clear hK K
  refine wp_if_false rfl ?_
  refine wp_exit ?_
  clear hKK
  refine hK1 _ _ ?_
  refine wp_region_seq (fun K hK => ?_)
  refine wpl_op rfl (Ex_move (by conv => lhs; whnf)) ?_
  refine wpl_op rfl (Ex_assign (by conv => lhs; whnf)) ?_
  refine wpl_nil (hK _ _ ?_)
  clear hK K
  refine wp_ret ?_
  repeat (first | refine out_block ?_ | refine out_then ?_)
  refine ret_tmp Try.results20 ⟨⟨_, rfl, hwst⟩, hb1⟩
end Go.Proofs.Qxb6613837a.Sp
