import Derived.Test.Qxb6613881aHFe
namespace Go.Proofs.Qxb6613881a
open Go.Fr Go.RowKit

/-- The last index below k whose next higher node is u; -1 for none. -/
def lowF (up : Nat → Int) (u : Int) : Nat → Int
  | 0 => -1
  | k + 1 => if up k = u then (k : Int) else lowF up u k
theorem lowF_yes {up : Nat → Int} {u : Int} {k : Nat} (h : up k = u) : lowF up u (k + 1) = k := by simp [lowF, h]
theorem lowF_no {up : Nat → Int} {u : Int} {k : Nat} (h : ¬ up k = u) : lowF up u (k + 1) = lowF up u k := by simp [lowF, h]
theorem lowF_lt (up : Nat → Int) (u : Int) : ∀ k : Nat, lowF up u k < k
  | 0 => by show (-1 : Int) < _; omega
  | k + 1 => by
    have := lowF_lt up u k
    unfold lowF
    split <;> omega
/-- One more is taken. -/
def take1 (inn : Nat → Bool) (u : Nat) : Nat → Bool := fun i => if i = u then true else inn i
theorem forced_take (up : Nat → Int) (inn : Nat → Bool) (u j : Nat) : forcedB up (take1 inn u) j = (forcedB up inn j || decide (up j = (u : Int))) := by
  unfold forcedB take1
  by_cases h : 0 ≤ up j
  · by_cases e : up j = (u : Int)
    · simp [e]
    · have : (up j).toNat ≠ u := by omega
      simp [e, this]
  · have : up j ≠ (u : Int) := by omega
    simp [h, this]
theorem lastF_take (up : Nat → Int) (inn : Nat → Bool) (u : Nat) : ∀ k : Nat, lastF up (take1 inn u) k = max (lastF up inn k) (lowF up u k)
  | 0 => rfl
  | k + 1 => by
    have ih := lastF_take up inn u k
    have h1 := lastF_lt up inn k
    have h2 := lowF_lt up u k
    have hf := forced_take up inn u k
    by_cases e : up k = (u : Int)
    · rw [lowF_yes e, lastF_yes (by rw [hf]; simp [e])]
      have := lastF_lt up inn (k + 1)
      omega
    · rw [lowF_no e]
      cases hb : forcedB up inn k with
      | true => rw [lastF_yes hb, lastF_yes (by rw [hf, hb]; rfl)]; omega
      | false => rw [lastF_no hb, lastF_no (by rw [hf, hb]; simp [e]), ih]


theorem walk6 (a0 a1 : Option Addr) (n0 c0 n1 c1 : Nat) (x y : Int) (up : Nat → Int) (inn : Nat → Bool) (w : World) (h0 : IntsAt w a0 n0 up) (h1 : BoolsAt w a1 n1 inn) :
    Ret Try.prog 6 #[.slice a0 n0 c0, .slice a1 n1 c1, .int .i64 x, .int .i64 y] w fun v w' => v = .bool true ∧ Below w.heap.size w w' := by
  refine Ret.of_body (vs := [.slice a0 n0 c0, .slice a1 n1 c1, .int .i64 x, .int .i64 y]) Try.func6 rfl Try.ntmps6 rfl ?_
  refine wp_region_seq (fun K hK => ?_)
  refine wpl_op rfl (Ex_assign (by conv => lhs; whnf)) ?_
  refine wpl_nil (hK _ _ ?_)
  clear hK K
  refine wp_seq_k (fun KK hKK => ?_)
  refine wp_region_seq (fun K hK => ?_)
  refine wpl_op rfl (Ex_move (by conv => lhs; whnf)) ?_
  refine wpl_op rfl (Ex_move (by conv => lhs; whnf)) ?_
  refine wpl_op rfl (Ex_move (by conv => lhs; whnf)) ?_
  refine wpl_op rfl (Ex_move (by conv => lhs; whnf)) ?_
  refine wpl_call rfl (ExC_func ent29 rfl rfl) (bytes29_ret a0 a1 n0 c0 n1 c1 x y w) ?_
  rintro v w' ⟨⟨b, rfl⟩, rfl⟩
  refine wpl_op rfl (Ex_not rfl rfl) ?_
  refine wpl_nil (hK _ _ ?_)
  clear hK K
  refine wp_if rfl (fun ht => ?_) (fun hf => ?_)
  · clear hKK
    refine wp_region_seq (fun K hK => ?_)
    refine wpl_op rfl (Ex_assign (by conv => lhs; whnf)) ?_
    refine wpl_nil (hK _ _ ?_)
    clear hK K
    refine wp_ret ?_
    repeat (first | refine out_block ?_ | refine out_then ?_)
    refine ret_tmp Try.results6 ⟨rfl, Below.refl _ _⟩
  refine wp_skip (hKK _ _ ?_)
  clear hKK KK
  by_cases g1 : (65536 : Int) < n0
  · skip
    refine wp_seq_k (fun KK hKK => ?_)
    refine wp_region_seq (fun K hK => ?_)
    refine wpl_op rfl (Ex_move (by conv => lhs; whnf)) ?_
    refine wpl_op rfl (Ex_len Try.underlying22 rfl) ?_
    refine wpl_op rfl (Ex_gtr rfl rfl (decide_eq_true g1)) ?_
    refine wpl_op rfl (Ex_move (by conv => lhs; whnf)) ?_
    refine wpl_pass (by exact rfl) (by exact rfl) ?_
    refine wpl_pass (by exact rfl) (by exact rfl) ?_
    refine wpl_pass (by exact rfl) (by exact rfl) ?_
    refine wpl_op rfl (Ex_pick rfl (by conv => lhs; whnf)) ?_
    refine wpl_nil (hK _ _ ?_)
    clear hK K
    refine wp_if_true rfl ?_
    clear hKK
    refine wp_region_seq (fun K hK => ?_)
    refine wpl_op rfl (Ex_assign (by conv => lhs; whnf)) ?_
    refine wpl_nil (hK _ _ ?_)
    clear hK K
    refine wp_ret ?_
    repeat (first | refine out_block ?_ | refine out_then ?_)
    refine ret_tmp Try.results6 ⟨rfl, Below.refl _ _⟩
  by_cases g2 : (65536 : Int) < n1
  · skip
    refine wp_seq_k (fun KK hKK => ?_)
    refine wp_region_seq (fun K hK => ?_)
    refine wpl_op rfl (Ex_move (by conv => lhs; whnf)) ?_
    refine wpl_op rfl (Ex_len Try.underlying22 rfl) ?_
    refine wpl_op rfl (Ex_gtr rfl rfl (decide_eq_false g1)) ?_
    refine wpl_op rfl (Ex_move (by conv => lhs; whnf)) ?_
    refine wpl_opg (by exact rfl) (by exact rfl) (Ex_move (by conv => lhs; whnf)) ?_
    refine wpl_opg (by exact rfl) (by exact rfl) (Ex_len Try.underlying41 rfl) ?_
    refine wpl_opg (by exact rfl) (by exact rfl) (Ex_gtr rfl rfl (decide_eq_true g2)) ?_
    refine wpl_op rfl (Ex_pick rfl (by conv => lhs; whnf)) ?_
    refine wpl_nil (hK _ _ ?_)
    clear hK K
    refine wp_if_true rfl ?_
    clear hKK
    refine wp_region_seq (fun K hK => ?_)
    refine wpl_op rfl (Ex_assign (by conv => lhs; whnf)) ?_
    refine wpl_nil (hK _ _ ?_)
    clear hK K
    refine wp_ret ?_
    repeat (first | refine out_block ?_ | refine out_then ?_)
    refine ret_tmp Try.results6 ⟨rfl, Below.refl _ _⟩
  refine wp_seq_k (fun KK hKK => ?_)
  refine wp_region_seq (fun K hK => ?_)
  refine wpl_op rfl (Ex_move (by conv => lhs; whnf)) ?_
  refine wpl_op rfl (Ex_len Try.underlying22 rfl) ?_
  refine wpl_op rfl (Ex_gtr rfl rfl (decide_eq_false g1)) ?_
  refine wpl_op rfl (Ex_move (by conv => lhs; whnf)) ?_
  refine wpl_opg (by exact rfl) (by exact rfl) (Ex_move (by conv => lhs; whnf)) ?_
  refine wpl_opg (by exact rfl) (by exact rfl) (Ex_len Try.underlying41 rfl) ?_
  refine wpl_opg (by exact rfl) (by exact rfl) (Ex_gtr rfl rfl (decide_eq_false g2)) ?_
  refine wpl_op rfl (Ex_pick rfl (by conv => lhs; whnf)) ?_
  refine wpl_nil (hK _ _ ?_)
  clear hK K
  refine wp_if_false rfl ?_
  refine wp_skip (hKK _ _ ?_)
  clear hKK KK
  refine wp_seq_k (fun KK hKK => ?_)
  refine wp_region_seq (fun K hK => ?_)
  refine wpl_op rfl (Ex_move (by conv => lhs; whnf)) ?_
  refine wpl_op rfl (Ex_move (by conv => lhs; whnf)) ?_
  refine wpl_call rfl (ExC_func ent23 rfl rfl) (upperFits_ret a0 a1 n0 c0 n1 c1 up _ h0 (by omega)) ?_
  rintro v w2 ⟨⟨r, rfl, hfit⟩, rfl⟩
  refine wpl_op rfl (Ex_not rfl rfl) ?_
  refine wpl_nil (hK _ _ ?_)
  clear hK K
  refine wp_if rfl (fun ht => ?_) (fun hf => ?_)
  · clear hKK
    refine wp_region_seq (fun K hK => ?_)
    refine wpl_op rfl (Ex_assign (by conv => lhs; whnf)) ?_
    refine wpl_nil (hK _ _ ?_)
    clear hK K
    refine wp_ret ?_
    repeat (first | refine out_block ?_ | refine out_then ?_)
    refine ret_tmp Try.results6 ⟨rfl, Below.refl _ _⟩
  refine wp_skip (hKK _ _ ?_)
  clear hKK KK
  have hr : r = true := by simpa using hf
  obtain ⟨rfl, hfit⟩ := hfit hr
  clear hr hf
  by_cases g3 : x < 0
  · skip
    refine wp_seq_k (fun KK hKK => ?_)
    refine wp_region_seq (fun K hK => ?_)
    refine wpl_op rfl (Ex_move (by conv => lhs; whnf)) ?_
    refine wpl_op rfl (Ex_lss rfl rfl (decide_eq_true g3)) ?_
    refine wpl_op rfl (Ex_move (by conv => lhs; whnf)) ?_
    refine wpl_pass (by exact rfl) (by exact rfl) ?_
    refine wpl_pass (by exact rfl) (by exact rfl) ?_
    refine wpl_pass (by exact rfl) (by exact rfl) ?_
    refine wpl_pass (by exact rfl) (by exact rfl) ?_
    refine wpl_op rfl (Ex_pick rfl (by conv => lhs; whnf)) ?_
    refine wpl_nil (hK _ _ ?_)
    clear hK K
    refine wp_if_true rfl ?_
    clear hKK
    refine wp_region_seq (fun K hK => ?_)
    refine wpl_op rfl (Ex_assign (by conv => lhs; whnf)) ?_
    refine wpl_nil (hK _ _ ?_)
    clear hK K
    refine wp_ret ?_
    repeat (first | refine out_block ?_ | refine out_then ?_)
    refine ret_tmp Try.results6 ⟨rfl, Below.refl _ _⟩
  by_cases g4 : (n1 : Int) < x
  · skip
    refine wp_seq_k (fun KK hKK => ?_)
    refine wp_region_seq (fun K hK => ?_)
    refine wpl_op rfl (Ex_move (by conv => lhs; whnf)) ?_
    refine wpl_op rfl (Ex_lss rfl rfl (decide_eq_false g3)) ?_
    refine wpl_op rfl (Ex_move (by conv => lhs; whnf)) ?_
    refine wpl_opg (by exact rfl) (by exact rfl) (Ex_move (by conv => lhs; whnf)) ?_
    refine wpl_opg (by exact rfl) (by exact rfl) (Ex_move (by conv => lhs; whnf)) ?_
    refine wpl_opg (by exact rfl) (by exact rfl) (Ex_len Try.underlying22 rfl) ?_
    refine wpl_opg (by exact rfl) (by exact rfl) (Ex_gtr rfl rfl (decide_eq_true g4)) ?_
    refine wpl_op rfl (Ex_pick rfl (by conv => lhs; whnf)) ?_
    refine wpl_nil (hK _ _ ?_)
    clear hK K
    refine wp_if_true rfl ?_
    clear hKK
    refine wp_region_seq (fun K hK => ?_)
    refine wpl_op rfl (Ex_assign (by conv => lhs; whnf)) ?_
    refine wpl_nil (hK _ _ ?_)
    clear hK K
    refine wp_ret ?_
    repeat (first | refine out_block ?_ | refine out_then ?_)
    refine ret_tmp Try.results6 ⟨rfl, Below.refl _ _⟩
  refine wp_seq_k (fun KK hKK => ?_)
  refine wp_region_seq (fun K hK => ?_)
  refine wpl_op rfl (Ex_move (by conv => lhs; whnf)) ?_
  refine wpl_op rfl (Ex_lss rfl rfl (decide_eq_false g3)) ?_
  refine wpl_op rfl (Ex_move (by conv => lhs; whnf)) ?_
  refine wpl_opg (by exact rfl) (by exact rfl) (Ex_move (by conv => lhs; whnf)) ?_
  refine wpl_opg (by exact rfl) (by exact rfl) (Ex_move (by conv => lhs; whnf)) ?_
  refine wpl_opg (by exact rfl) (by exact rfl) (Ex_len Try.underlying22 rfl) ?_
  refine wpl_opg (by exact rfl) (by exact rfl) (Ex_gtr rfl rfl (decide_eq_false g4)) ?_
  refine wpl_op rfl (Ex_pick rfl (by conv => lhs; whnf)) ?_
  refine wpl_nil (hK _ _ ?_)
  clear hK K
  refine wp_if_false rfl ?_
  refine wp_skip (hKK _ _ ?_)
  clear hKK KK
  by_cases g5 : y < 0
  · skip
    refine wp_seq_k (fun KK hKK => ?_)
    refine wp_region_seq (fun K hK => ?_)
    refine wpl_op rfl (Ex_move (by conv => lhs; whnf)) ?_
    refine wpl_op rfl (Ex_lss rfl rfl (decide_eq_true g5)) ?_
    refine wpl_op rfl (Ex_move (by conv => lhs; whnf)) ?_
    refine wpl_pass (by exact rfl) (by exact rfl) ?_
    refine wpl_pass (by exact rfl) (by exact rfl) ?_
    refine wpl_pass (by exact rfl) (by exact rfl) ?_
    refine wpl_pass (by exact rfl) (by exact rfl) ?_
    refine wpl_op rfl (Ex_pick rfl (by conv => lhs; whnf)) ?_
    refine wpl_nil (hK _ _ ?_)
    clear hK K
    refine wp_if_true rfl ?_
    clear hKK
    refine wp_region_seq (fun K hK => ?_)
    refine wpl_op rfl (Ex_assign (by conv => lhs; whnf)) ?_
    refine wpl_nil (hK _ _ ?_)
    clear hK K
    refine wp_ret ?_
    repeat (first | refine out_block ?_ | refine out_then ?_)
    refine ret_tmp Try.results6 ⟨rfl, Below.refl _ _⟩
  by_cases g6 : (n1 : Int) ≤ y
  · skip
    refine wp_seq_k (fun KK hKK => ?_)
    refine wp_region_seq (fun K hK => ?_)
    refine wpl_op rfl (Ex_move (by conv => lhs; whnf)) ?_
    refine wpl_op rfl (Ex_lss rfl rfl (decide_eq_false g5)) ?_
    refine wpl_op rfl (Ex_move (by conv => lhs; whnf)) ?_
    refine wpl_opg (by exact rfl) (by exact rfl) (Ex_move (by conv => lhs; whnf)) ?_
    refine wpl_opg (by exact rfl) (by exact rfl) (Ex_move (by conv => lhs; whnf)) ?_
    refine wpl_opg (by exact rfl) (by exact rfl) (Ex_len Try.underlying22 rfl) ?_
    refine wpl_opg (by exact rfl) (by exact rfl) (Ex_geq rfl rfl (decide_eq_true g6)) ?_
    refine wpl_op rfl (Ex_pick rfl (by conv => lhs; whnf)) ?_
    refine wpl_nil (hK _ _ ?_)
    clear hK K
    refine wp_if_true rfl ?_
    clear hKK
    refine wp_region_seq (fun K hK => ?_)
    refine wpl_op rfl (Ex_assign (by conv => lhs; whnf)) ?_
    refine wpl_nil (hK _ _ ?_)
    clear hK K
    refine wp_ret ?_
    repeat (first | refine out_block ?_ | refine out_then ?_)
    refine ret_tmp Try.results6 ⟨rfl, Below.refl _ _⟩
  refine wp_seq_k (fun KK hKK => ?_)
  refine wp_region_seq (fun K hK => ?_)
  refine wpl_op rfl (Ex_move (by conv => lhs; whnf)) ?_
  refine wpl_op rfl (Ex_lss rfl rfl (decide_eq_false g5)) ?_
  refine wpl_op rfl (Ex_move (by conv => lhs; whnf)) ?_
  refine wpl_opg (by exact rfl) (by exact rfl) (Ex_move (by conv => lhs; whnf)) ?_
  refine wpl_opg (by exact rfl) (by exact rfl) (Ex_move (by conv => lhs; whnf)) ?_
  refine wpl_opg (by exact rfl) (by exact rfl) (Ex_len Try.underlying22 rfl) ?_
  refine wpl_opg (by exact rfl) (by exact rfl) (Ex_geq rfl rfl (decide_eq_false g6)) ?_
  refine wpl_op rfl (Ex_pick rfl (by conv => lhs; whnf)) ?_
  refine wpl_nil (hK _ _ ?_)
  clear hK K
  refine wp_if_false rfl ?_
  refine wp_skip (hKK _ _ ?_)
  clear hKK KK
  obtain ⟨hi, rfl⟩ := Int.eq_ofNat_of_zero_le (show 0 ≤ x by omega)
  obtain ⟨u, rfl⟩ := Int.eq_ofNat_of_zero_le (show 0 ≤ y by omega)
  have hup : ∀ j, j < n1 → up j < n1 := fun j hj => by rcases hfit j hj with h | h <;> omega
  have hhi : hi ≤ n1 := by omega
  have hu : u < n1 := by omega
  refine wp_region_seq (fun K hK => ?_)
  refine wpl_op rfl (Ex_move (by conv => lhs; whnf)) ?_
  refine wpl_op rfl (Ex_move (by conv => lhs; whnf)) ?_
  refine wpl_op rfl (Ex_move (by conv => lhs; whnf)) ?_
  refine wpl_call rfl (ExC_func ent24 rfl rfl) (lastForced_ret a0 a1 n1 c0 c1 hi up inn _ h0 h1 (by omega) (by omega) hup) ?_
  rintro v w3 ⟨rfl, rfl⟩
  refine wpl_op rfl (Ex_assign (by conv => lhs; whnf)) ?_
  refine wpl_nil (hK _ _ ?_)
  clear hK K
  refine wp_seq_k (fun KK hKK => ?_)
  refine wp_region_seq (fun K hK => ?_)
  refine wpl_op rfl (Ex_move (by conv => lhs; whnf)) ?_
  refine wpl_op rfl (Ex_lss rfl rfl rfl) ?_
  refine wpl_nil (hK _ _ ?_)
  clear hK K
  refine wp_if rfl (fun ht => ?_) (fun hf => ?_)
  · clear hKK
    refine wp_region_seq (fun K hK => ?_)
    refine wpl_op rfl (Ex_assign (by conv => lhs; whnf)) ?_
    refine wpl_nil (hK _ _ ?_)
    clear hK K
    refine wp_ret ?_
    repeat (first | refine out_block ?_ | refine out_then ?_)
    refine ret_tmp Try.results6 ⟨rfl, Below.refl _ _⟩
  refine wp_skip (hKK _ _ ?_)
  clear hKK KK
  have hex : 0 ≤ lastF up inn hi := by have := of_decide_eq_false hf; omega
  have hpos : 0 < n1 := by omega
  obtain ⟨b0, o0, he0, hc0⟩ := h0.get hpos
  obtain ⟨b1, o1, he1, hc1⟩ := h1.get hpos
  refine wp_region_seq (fun K hK => ?_)
  refine wpl_op rfl (Ex_assign (by conv => lhs; whnf)) ?_
  refine wpl_nil (hK _ _ ?_)
  clear hK K
  refine wp_seq_k (fun K hK => ?_)
  refine wp_region_seq (fun K hK => ?_)
  refine wpl_op rfl (Ex_assign (by conv => lhs; whnf)) ?_
  refine wpl_nil (hK _ _ ?_)
  clear hK K
  subst he0
  refine wp_block ?_
  refine wp_loop_st (fun k : Nat => [(0, .slice (some ⟨b0, o0, none⟩) n1 c0), (1, .slice a1 n1 c1), (2, .int .i64 hi), (3, .int .i64 u), (9, .int .i64 (lastF up inn hi)), (10, .int .i64 (lowF up u k)), (11, .int .i64 k)])
    (fun k w' => w' = w3 ∧ k ≤ hi) (fun k => hi - k) 0 ⟨rfl, rfl, rfl, rfl, rfl, rfl, rfl, trivial⟩ ⟨rfl, Nat.zero_le _⟩ ?_
  rintro k uu w4 ⟨rfl, hk⟩ R hR
  by_cases hlt : k < hi
  · skip
    refine wp_seq_k (fun KK hKK => ?_)
    refine wp_region_seq (fun K hK => ?_)
    refine wpl_op rfl (Ex_move (by conv => lhs; whnf)) ?_
    refine wpl_op rfl (Ex_move (by conv => lhs; whnf)) ?_
    refine wpl_op rfl (Ex_lss rfl rfl (decide_eq_true (by omega))) ?_
    refine wpl_nil (hK _ _ ?_)
    clear hK K
    refine wp_if_true rfl ?_
    refine wp_skip (hKK _ _ ?_)
    clear hKK KK
    refine wp_seq_k (fun K' hK' => ?_)
    refine wp_block ?_
    by_cases e : up k = (u : Int)
    · skip
      refine wp_region_seq (fun K hK => ?_)
      refine wpl_op rfl (Ex_move (by conv => lhs; whnf)) ?_
      refine wpl_op rfl (Ex_move (by conv => lhs; whnf)) ?_
      refine wpl_op rfl (Ex_index1 Try.underlying22 size_22 rfl rfl (by omega)) ?_
      refine wpl_op rfl (Ex_load one3 rfl (hc0 k (by omega))) ?_
      refine wpl_op rfl (Ex_move (by conv => lhs; whnf)) ?_
      refine wpl_op rfl (Ex_eql rfl rfl (decide_eq_true e)) ?_
      refine wpl_nil (hK _ _ ?_)
      clear hK K
      refine wp_if_true rfl ?_
      refine wp_region_last ?_
      refine wpl_op rfl (Ex_move (by conv => lhs; whnf)) ?_
      refine wpl_op rfl (Ex_assign (by conv => lhs; whnf)) ?_
      refine wpl_nil ?_
      refine hK' _ _ ?_
      refine wp_region_last ?_
      refine wpl_op rfl (Ex_move (by conv => lhs; whnf)) ?_
      refine wpl_op rfl (Ex_inc rfl rfl (by omega)) ?_
      refine wpl_op rfl (Ex_assign (by conv => lhs; whnf)) ?_
      refine wpl_nil ?_
      exact hR _ _ _ (k + 1) ⟨rfl, rfl, rfl, rfl, rfl, congrArg (Value.int .i64) (lowF_yes e).symm, rfl, trivial⟩ ⟨rfl, by omega⟩ (by omega)
    · skip
      refine wp_region_seq (fun K hK => ?_)
      refine wpl_op rfl (Ex_move (by conv => lhs; whnf)) ?_
      refine wpl_op rfl (Ex_move (by conv => lhs; whnf)) ?_
      refine wpl_op rfl (Ex_index1 Try.underlying22 size_22 rfl rfl (by omega)) ?_
      refine wpl_op rfl (Ex_load one3 rfl (hc0 k (by omega))) ?_
      refine wpl_op rfl (Ex_move (by conv => lhs; whnf)) ?_
      refine wpl_op rfl (Ex_eql rfl rfl (decide_eq_false e)) ?_
      refine wpl_nil (hK _ _ ?_)
      clear hK K
      refine wp_if_false rfl ?_
      refine wp_skip ?_
      refine hK' _ _ ?_
      refine wp_region_last ?_
      refine wpl_op rfl (Ex_move (by conv => lhs; whnf)) ?_
      refine wpl_op rfl (Ex_inc rfl rfl (by omega)) ?_
      refine wpl_op rfl (Ex_assign (by conv => lhs; whnf)) ?_
      refine wpl_nil ?_
      exact hR _ _ _ (k + 1) ⟨rfl, rfl, rfl, rfl, rfl, congrArg (Value.int .i64) (lowF_no e).symm, rfl, trivial⟩ ⟨rfl, by omega⟩ (by omega)
  · have hk' : k = hi := by omega
    subst hk'
    refine wp_seq_k (fun KK hKK => ?_)
    refine wp_region_seq (fun K hK => ?_)
    refine wpl_op rfl (Ex_move (by conv => lhs; whnf)) ?_
    refine wpl_op rfl (Ex_move (by conv => lhs; whnf)) ?_
    refine wpl_op rfl (Ex_lss rfl rfl (decide_eq_false (by omega))) ?_
    refine wpl_nil (hK _ _ ?_)
    clear hK K
    refine wp_if_false rfl ?_
    refine wp_exit ?_
    clear hKK
    refine hK _ _ ?_
    clear hK hR
    refine wp_region_seq (fun K hK => ?_)
    refine wpl_op rfl (Ex_move (by conv => lhs; whnf)) ?_
    refine wpl_op rfl (Ex_assign (by conv => lhs; whnf)) ?_
    refine wpl_nil (hK _ _ ?_)
    clear hK K
    refine wp_seq_k (fun K' hK' => ?_)
    have hrest : ∀ uu ll, Agree uu ll [(0, .slice (some ⟨b0, o0, none⟩) n1 c0), (1, .slice a1 n1 c1), (2, .int .i64 k), (3, .int .i64 u), (9, .int .i64 (lastF up inn k)), (12, .int .i64 (max (lastF up inn k) (lowF up u k)))] → K' (fr 109 uu ll) w4 := by
      intro uu ll hag
      refine hK' _ _ ?_
      rw [fr_norm _ hag]
      generalize Fr.look uu ll = uu
      clear hK' hag
      refine wp_region_seq (fun K hK => ?_)
      refine wpl_op rfl (Ex_move (by conv => lhs; whnf)) ?_
      refine wpl_call rfl (ExC_func ent25 rfl rfl) (cloneInts_ret _ n1 c0 up _ h0 (by omega)) ?_
      rintro v w5 (⟨hn, _, _⟩ | ⟨_, rfl, hown0, hb5⟩)
      · cases hn
      refine wpl_op rfl (Ex_assign (by conv => lhs; whnf)) ?_
      refine wpl_nil (hK _ _ ?_)
      clear hK K
      refine wp_region_seq (fun K hK => ?_)
      refine wpl_op rfl (Ex_move (by conv => lhs; whnf)) ?_
      refine wpl_call rfl (ExC_func ent26 rfl rfl) (cloneBools_ret a1 n1 c1 inn _ (h1.below hb5 rfl) (by omega)) ?_
      rintro v w6 (⟨hn, _, _⟩ | ⟨_, rfl, hown1, hb6⟩)
      · rw [he1] at hn; cases hn
      refine wpl_op rfl (Ex_assign (by conv => lhs; whnf)) ?_
      refine wpl_nil (hK _ _ ?_)
      clear hK K
      refine wp_region_seq (fun K hK => ?_)
      refine wpl_op rfl (Ex_move (by conv => lhs; whnf)) ?_
      refine wpl_call rfl (ExC_func ent26 rfl rfl) (cloneBools_ret _ n1 n1 inn _ (BoolsAt.of_own hown1) (by omega)) ?_
      rintro v w7 (⟨hn, _, _⟩ | ⟨_, rfl, hown2, hb7⟩)
      · cases hn
      refine wpl_op rfl (Ex_assign (by conv => lhs; whnf)) ?_
      refine wpl_nil (hK _ _ ?_)
      clear hK K
      obtain ⟨old, hold⟩ := hown2.some hu
      refine wp_region_seq (fun K hK => ?_)
      refine wpl_op rfl (Ex_move (by conv => lhs; whnf)) ?_
      refine wpl_op rfl (Ex_move (by conv => lhs; whnf)) ?_
      refine wpl_op rfl (Ex_index1 Try.underlying41 size_41 rfl rfl hu) ?_
      refine wpl_op rfl (Ex_store one4 rfl (by conv => lhs; whnf) rfl (by rw [Nat.zero_add]; exact hold) hown2.open_) ?_
      refine wpl_nil (hK _ _ ?_)
      clear hK K
      rw [Nat.zero_add]
      have hs56 := hb5.size
      have hs67 := hb6.size
      have hl0 := hown0.lt
      have hl1 := hown1.lt
      have hl2 := hown2.lt
      have hown2' : Own (w7.setCell ⟨w6.heap.size, u, none⟩ (.bool true)) w6.heap.size 4 n1 n1 (fun i => .bool (take1 inn u i)) := hown2.set hu (fun j hj => by
        by_cases e : j = u
        · exact .inl ⟨e, by simp [take1, e]⟩
        · exact .inr ⟨e, hj, by simp [take1, e]⟩)
      have hown1' : Own (w7.setCell ⟨w6.heap.size, u, none⟩ (.bool true)) w5.heap.size 4 n1 n1 (fun i => .bool (inn i)) := (hown1.below hb7 hl1).other (by omega) _
      have hown0' : Own (w7.setCell ⟨w6.heap.size, u, none⟩ (.bool true)) w4.heap.size 3 n1 n1 (fun i => .int .i64 (up i)) := ((hown0.below hb6 hl0).below hb7 (by omega)).other (by omega) _
      have hb8 : Below w6.heap.size w6 (w7.setCell ⟨w6.heap.size, u, none⟩ (.bool true)) := hb7.setCell (Nat.le_refl _) _
      have hsz8 : w7.heap.size ≤ (w7.setCell ⟨w6.heap.size, u, none⟩ (.bool true)).heap.size := by simp [World.setCell]
      generalize w7.setCell ⟨w6.heap.size, u, none⟩ (.bool true) = w8 at *
      refine wp_region_seq (fun K hK => ?_)
      refine wpl_op rfl (Ex_move (by conv => lhs; whnf)) ?_
      refine wpl_op rfl (Ex_move (by conv => lhs; whnf)) ?_
      refine wpl_call rfl (ExC_func ent27 rfl rfl) (newSearch_ret _ _ n1 n1 n1 n1 _) ?_
      rintro v w9 ⟨rfl, hs1, hb9, hz9⟩
      refine wpl_op rfl (Ex_assign (by conv => lhs; whnf)) ?_
      refine wpl_nil (hK _ _ ?_)
      clear hK K
      refine wp_region_seq (fun K hK => ?_)
      refine wpl_op rfl (Ex_move (by conv => lhs; whnf)) ?_
      refine wpl_op rfl (Ex_move (by conv => lhs; whnf)) ?_
      refine wpl_call rfl (ExC_func ent27 rfl rfl) (newSearch_ret _ _ n1 n1 n1 n1 _) ?_
      rintro v w10 ⟨rfl, hs2, hb10, hz10⟩
      refine wpl_op rfl (Ex_assign (by conv => lhs; whnf)) ?_
      refine wpl_nil (hK _ _ ?_)
      clear hK K
      have q0 : IntsAt w10 (some ⟨w4.heap.size, 0, none⟩) n1 up := IntsAt.of_own ((hown0'.below hb9 (by omega)).below hb10 (by omega))
      have q1 : BoolsAt w10 (some ⟨w5.heap.size, 0, none⟩) n1 inn := BoolsAt.of_own ((hown1'.below hb9 (by omega)).below hb10 (by omega))
      have q2 : BoolsAt w10 (some ⟨w6.heap.size, 0, none⟩) n1 (take1 inn u) := BoolsAt.of_own ((hown2'.below hb9 (by omega)).below hb10 (by omega))
      have hs1' := hs1.below hb10 hz9
      have htake := lastF_take up inn u k
      refine wp_region_seq (fun K hK => ?_)
      refine wpl_op rfl (Ex_move (by conv => lhs; whnf)) ?_
      refine wpl_op rfl (Ex_move (by conv => lhs; whnf)) ?_
      refine wpl_call rfl (ExC_func ent28 rfl rfl) (zHighest_ret _ _ _ n1 n1 n1 k up inn _ hs1' q0 q1 (by omega) hhi hup hex) ?_
      rintro v w11 ⟨rfl, rfl⟩
      refine wpl_op rfl (Ex_assign (by conv => lhs; whnf)) ?_
      refine wpl_nil (hK _ _ ?_)
      clear hK K
      refine wp_region_seq (fun K hK => ?_)
      refine wpl_op rfl (Ex_move (by conv => lhs; whnf)) ?_
      refine wpl_op rfl (Ex_move (by conv => lhs; whnf)) ?_
      refine wpl_call rfl (ExC_func ent28 rfl rfl) (zHighest_ret _ _ _ n1 n1 n1 k up (take1 inn u) _ hs2 q0 q2 (by omega) hhi hup (by omega)) ?_
      rintro v w12 ⟨rfl, rfl⟩
      refine wpl_op rfl (Ex_assign (by conv => lhs; whnf)) ?_
      refine wpl_nil (hK _ _ ?_)
      clear hK K
      refine wp_region_seq (fun K hK => ?_)
      refine wpl_op rfl (Ex_move (by conv => lhs; whnf)) ?_
      refine wpl_op rfl (Ex_move (by conv => lhs; whnf)) ?_
      refine wpl_op rfl (Ex_eql rfl rfl (decide_eq_true rfl)) ?_
      refine wpl_op rfl (Ex_move (by conv => lhs; whnf)) ?_
      refine wpl_opg (by exact rfl) (by exact rfl) (Ex_move (by conv => lhs; whnf)) ?_
      refine wpl_opg (by exact rfl) (by exact rfl) (Ex_move (by conv => lhs; whnf)) ?_
      refine wpl_opg (by exact rfl) (by exact rfl) (Ex_eql rfl rfl (decide_eq_true htake)) ?_
      refine wpl_op rfl (Ex_pick rfl (by conv => lhs; whnf)) ?_
      refine wpl_op rfl (Ex_move (by conv => lhs; whnf)) ?_
      refine wpl_opg (by exact rfl) (by exact rfl) (Ex_move (by conv => lhs; whnf)) ?_
      refine wpl_opg (by exact rfl) (by exact rfl) (Ex_move (by conv => lhs; whnf)) ?_
      refine wpl_opg (by exact rfl) (by exact rfl) (Ex_leq rfl rfl (decide_eq_true (by omega))) ?_
      refine wpl_op rfl (Ex_pick rfl (by conv => lhs; whnf)) ?_
      refine wpl_op rfl (Ex_assign (by conv => lhs; whnf)) ?_
      refine wpl_nil (hK _ _ ?_)
      clear hK K
      refine wp_ret ?_
      repeat (first | refine out_block ?_ | refine out_then ?_)
      refine ret_tmp Try.results6 ⟨rfl, ?_⟩
      have hs9 := hb9.size
      exact (((hb5.trans (hb6.mono hs56)).trans (hb8.mono (by omega))).trans (hb9.mono (by omega))).trans (hb10.mono (by omega))
    by_cases e : lastF up inn k < lowF up u k
    · skip
      refine wp_region_seq (fun K hK => ?_)
      refine wpl_op rfl (Ex_move (by conv => lhs; whnf)) ?_
      refine wpl_op rfl (Ex_move (by conv => lhs; whnf)) ?_
      refine wpl_op rfl (Ex_gtr rfl rfl (decide_eq_true e)) ?_
      refine wpl_nil (hK _ _ ?_)
      clear hK K
      refine wp_if_true rfl ?_
      refine wp_region_last ?_
      refine wpl_op rfl (Ex_move (by conv => lhs; whnf)) ?_
      refine wpl_op rfl (Ex_assign (by conv => lhs; whnf)) ?_
      refine wpl_nil ?_
      exact hrest _ _ ⟨rfl, rfl, rfl, rfl, rfl, congrArg (Value.int .i64) (by omega), trivial⟩
    · skip
      refine wp_region_seq (fun K hK => ?_)
      refine wpl_op rfl (Ex_move (by conv => lhs; whnf)) ?_
      refine wpl_op rfl (Ex_move (by conv => lhs; whnf)) ?_
      refine wpl_op rfl (Ex_gtr rfl rfl (decide_eq_false e)) ?_
      refine wpl_nil (hK _ _ ?_)
      clear hK K
      refine wp_if_false rfl ?_
      refine wp_skip ?_
      exact hrest _ _ ⟨rfl, rfl, rfl, rfl, rfl, congrArg (Value.int .i64) (by omega), trivial⟩
end Go.Proofs.Qxb6613881a
