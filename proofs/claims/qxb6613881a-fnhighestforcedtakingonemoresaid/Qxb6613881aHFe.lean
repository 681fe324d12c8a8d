import Derived.Test.Qxb6613881aHFd
namespace Go.Proofs.Qxb6613881a
open Go.Fr Go.RowKit

theorem ent22 : Enters Try.prog 22 := enters Try.func22 (by rfl) rfl
theorem ent23 : Enters Try.prog 23 := enters Try.func23 (by rfl) rfl
theorem ent24 : Enters Try.prog 24 := enters Try.func24 (by rfl) rfl
theorem ent25 : Enters Try.prog 25 := enters Try.func25 (by rfl) rfl
theorem ent26 : Enters Try.prog 26 := enters Try.func26 (by rfl) rfl
theorem ent27 : Enters Try.prog 27 := enters Try.func27 (by rfl) rfl
theorem ent28 : Enters Try.prog 28 := enters Try.func28 (by rfl) rfl
theorem ent29 : Enters Try.prog 29 := enters Try.func29 (by rfl) rfl

/-! ### The plain law -/
theorem lastF_lt (up : Nat → Int) (inn : Nat → Bool) : ∀ k : Nat, lastF up inn k < k
  | 0 => by rw [lastF_zero]; omega
  | k + 1 => by
    have := lastF_lt up inn k
    unfold lastF
    split <;> omega
theorem lastF_ge (up : Nat → Int) (inn : Nat → Bool) : ∀ k : Nat, -1 ≤ lastF up inn k
  | 0 => by rw [lastF_zero]; omega
  | k + 1 => by
    have := lastF_ge up inn k
    unfold lastF
    split <;> omega
theorem lastF_succ (up : Nat → Int) (inn : Nat → Bool) (k : Nat) : lastF up inn (k + 1) = if forcedB up inn k = true then (k : Int) else lastF up inn k := rfl
theorem lastF_mono (up : Nat → Int) (inn : Nat → Bool) (k : Nat) : ∀ d : Nat, lastF up inn k ≤ lastF up inn (k + d)
  | 0 => Int.le_refl _
  | d + 1 => by
    have h1 := lastF_mono up inn k d
    have h2 := lastF_lt up inn (k + d)
    show _ ≤ lastF up inn ((k + d) + 1)
    have h3 := lastF_lt up inn k
    rw [lastF_succ]
    split <;> omega
theorem lastF_keep (up : Nat → Int) (inn : Nat → Bool) (k : Nat) : ∀ d : Nat, lastF up inn (k + d) < k → lastF up inn k = lastF up inn (k + d)
  | 0, _ => rfl
  | d + 1, h => by
    have h' : lastF up inn ((k + d) + 1) < k := h
    show _ = lastF up inn ((k + d) + 1)
    rw [lastF_succ] at h' ⊢
    by_cases hf : forcedB up inn (k + d) = true
    · rw [if_pos hf] at h'; omega
    · rw [if_neg hf] at h' ⊢
      exact lastF_keep up inn k d h'
theorem lastF_iff (up : Nat → Int) (inn : Nat → Bool) (k m : Nat) (h : k ≤ m) : (decide (lastF up inn k = lastF up inn m) == decide (lastF up inn m < (k : Int))) = true := by
  obtain ⟨d, rfl⟩ : ∃ d, m = k + d := ⟨m - k, by omega⟩
  have h1 := lastF_keep up inn k d
  have h2 := lastF_lt up inn k
  by_cases e : lastF up inn k = lastF up inn (k + d)
  · have : lastF up inn (k + d) < (k : Int) := by omega
    simp [e, this]
  · have : ¬ lastF up inn (k + d) < (k : Int) := fun h => e (h1 h)
    simp [e, this]


theorem walk5 (a0 a1 : Option Addr) (n0 c0 n1 c1 : Nat) (x y : Int) (up : Nat → Int) (inn : Nat → Bool) (w : World) (h0 : IntsAt w a0 n0 up) (h1 : BoolsAt w a1 n1 inn) :
    Ret Try.prog 5 #[.slice a0 n0 c0, .slice a1 n1 c1, .int .i64 x, .int .i64 y] w fun v w' => v = .bool true ∧ Below w.heap.size w w' := by
  refine Ret.of_body (vs := [.slice a0 n0 c0, .slice a1 n1 c1, .int .i64 x, .int .i64 y]) Try.func5 rfl Try.ntmps5 rfl ?_
  refine wp_region_seq (fun K hK => ?_)
  refine wpl_op rfl (Ex_assign (by conv => lhs; whnf)) ?_
  refine wpl_nil (hK _ _ ?_)
  clear hK K
  refine wp_seq_k (fun KK hKK => ?_)
  refine wp_region_seq (fun K hK => ?_)
  refine wpl_op rfl (Ex_move (by conv => lhs; whnf)) ?_
  refine wpl_op rfl (Ex_move (by conv => lhs; whnf)) ?_
  refine wpl_op rfl (Ex_move (by conv => lhs; whnf)) ?_
  refine wpl_op rfl (Ex_move (by conv => lhs; whnf)) ?_
  refine wpl_call rfl (ExC_func ent22 rfl rfl) (bytes22_ret a0 a1 n0 c0 n1 c1 x y w) ?_
  rintro v w' ⟨⟨b, rfl⟩, rfl⟩
  refine wpl_op rfl (Ex_not rfl rfl) ?_
  refine wpl_nil (hK _ _ ?_)
  clear hK K
  refine wp_if rfl (fun ht => ?_) (fun hf => ?_)
  · clear hKK
    refine wp_region_seq (fun K hK => ?_)
    refine wpl_op rfl (Ex_assign (by conv => lhs; whnf)) ?_
    refine wpl_nil (hK _ _ ?_)
    clear hK K
    refine wp_ret ?_
    repeat (first | refine out_block ?_ | refine out_then ?_)
    refine ret_tmp Try.results5 ⟨rfl, Below.refl _ _⟩
  refine wp_skip (hKK _ _ ?_)
  clear hKK KK
  by_cases g1 : (65536 : Int) < n0
  · skip
    refine wp_seq_k (fun KK hKK => ?_)
    refine wp_region_seq (fun K hK => ?_)
    refine wpl_op rfl (Ex_move (by conv => lhs; whnf)) ?_
    refine wpl_op rfl (Ex_len Try.underlying22 rfl) ?_
    refine wpl_op rfl (Ex_gtr rfl rfl (decide_eq_true g1)) ?_
    refine wpl_op rfl (Ex_move (by conv => lhs; whnf)) ?_
    refine wpl_pass (by exact rfl) (by exact rfl) ?_
    refine wpl_pass (by exact rfl) (by exact rfl) ?_
    refine wpl_pass (by exact rfl) (by exact rfl) ?_
    refine wpl_op rfl (Ex_pick rfl (by conv => lhs; whnf)) ?_
    refine wpl_nil (hK _ _ ?_)
    clear hK K
    refine wp_if_true rfl ?_
    clear hKK
    refine wp_region_seq (fun K hK => ?_)
    refine wpl_op rfl (Ex_assign (by conv => lhs; whnf)) ?_
    refine wpl_nil (hK _ _ ?_)
    clear hK K
    refine wp_ret ?_
    repeat (first | refine out_block ?_ | refine out_then ?_)
    refine ret_tmp Try.results5 ⟨rfl, Below.refl _ _⟩
  by_cases g2 : (65536 : Int) < n1
  · skip
    refine wp_seq_k (fun KK hKK => ?_)
    refine wp_region_seq (fun K hK => ?_)
    refine wpl_op rfl (Ex_move (by conv => lhs; whnf)) ?_
    refine wpl_op rfl (Ex_len Try.underlying22 rfl) ?_
    refine wpl_op rfl (Ex_gtr rfl rfl (decide_eq_false g1)) ?_
    refine wpl_op rfl (Ex_move (by conv => lhs; whnf)) ?_
    refine wpl_opg (by exact rfl) (by exact rfl) (Ex_move (by conv => lhs; whnf)) ?_
    refine wpl_opg (by exact rfl) (by exact rfl) (Ex_len Try.underlying41 rfl) ?_
    refine wpl_opg (by exact rfl) (by exact rfl) (Ex_gtr rfl rfl (decide_eq_true g2)) ?_
    refine wpl_op rfl (Ex_pick rfl (by conv => lhs; whnf)) ?_
    refine wpl_nil (hK _ _ ?_)
    clear hK K
    refine wp_if_true rfl ?_
    clear hKK
    refine wp_region_seq (fun K hK => ?_)
    refine wpl_op rfl (Ex_assign (by conv => lhs; whnf)) ?_
    refine wpl_nil (hK _ _ ?_)
    clear hK K
    refine wp_ret ?_
    repeat (first | refine out_block ?_ | refine out_then ?_)
    refine ret_tmp Try.results5 ⟨rfl, Below.refl _ _⟩
  refine wp_seq_k (fun KK hKK => ?_)
  refine wp_region_seq (fun K hK => ?_)
  refine wpl_op rfl (Ex_move (by conv => lhs; whnf)) ?_
  refine wpl_op rfl (Ex_len Try.underlying22 rfl) ?_
  refine wpl_op rfl (Ex_gtr rfl rfl (decide_eq_false g1)) ?_
  refine wpl_op rfl (Ex_move (by conv => lhs; whnf)) ?_
  refine wpl_opg (by exact rfl) (by exact rfl) (Ex_move (by conv => lhs; whnf)) ?_
  refine wpl_opg (by exact rfl) (by exact rfl) (Ex_len Try.underlying41 rfl) ?_
  refine wpl_opg (by exact rfl) (by exact rfl) (Ex_gtr rfl rfl (decide_eq_false g2)) ?_
  refine wpl_op rfl (Ex_pick rfl (by conv => lhs; whnf)) ?_
  refine wpl_nil (hK _ _ ?_)
  clear hK K
  refine wp_if_false rfl ?_
  refine wp_skip (hKK _ _ ?_)
  clear hKK KK
  refine wp_seq_k (fun KK hKK => ?_)
  refine wp_region_seq (fun K hK => ?_)
  refine wpl_op rfl (Ex_move (by conv => lhs; whnf)) ?_
  refine wpl_op rfl (Ex_move (by conv => lhs; whnf)) ?_
  refine wpl_call rfl (ExC_func ent23 rfl rfl) (upperFits_ret a0 a1 n0 c0 n1 c1 up _ h0 (by omega)) ?_
  rintro v w2 ⟨⟨r, rfl, hfit⟩, rfl⟩
  refine wpl_op rfl (Ex_not rfl rfl) ?_
  refine wpl_nil (hK _ _ ?_)
  clear hK K
  refine wp_if rfl (fun ht => ?_) (fun hf => ?_)
  · clear hKK
    refine wp_region_seq (fun K hK => ?_)
    refine wpl_op rfl (Ex_assign (by conv => lhs; whnf)) ?_
    refine wpl_nil (hK _ _ ?_)
    clear hK K
    refine wp_ret ?_
    repeat (first | refine out_block ?_ | refine out_then ?_)
    refine ret_tmp Try.results5 ⟨rfl, Below.refl _ _⟩
  refine wp_skip (hKK _ _ ?_)
  clear hKK KK
  have hr : r = true := by simpa using hf
  obtain ⟨rfl, hfit⟩ := hfit hr
  clear hr hf
  by_cases g3 : x < 0
  · skip
    refine wp_seq_k (fun KK hKK => ?_)
    refine wp_region_seq (fun K hK => ?_)
    refine wpl_op rfl (Ex_move (by conv => lhs; whnf)) ?_
    refine wpl_op rfl (Ex_lss rfl rfl (decide_eq_true g3)) ?_
    refine wpl_op rfl (Ex_move (by conv => lhs; whnf)) ?_
    refine wpl_pass (by exact rfl) (by exact rfl) ?_
    refine wpl_pass (by exact rfl) (by exact rfl) ?_
    refine wpl_pass (by exact rfl) (by exact rfl) ?_
    refine wpl_op rfl (Ex_pick rfl (by conv => lhs; whnf)) ?_
    refine wpl_op rfl (Ex_move (by conv => lhs; whnf)) ?_
    refine wpl_pass (by exact rfl) (by exact rfl) ?_
    refine wpl_pass (by exact rfl) (by exact rfl) ?_
    refine wpl_pass (by exact rfl) (by exact rfl) ?_
    refine wpl_pass (by exact rfl) (by exact rfl) ?_
    refine wpl_op rfl (Ex_pick rfl (by conv => lhs; whnf)) ?_
    refine wpl_nil (hK _ _ ?_)
    clear hK K
    refine wp_if_true rfl ?_
    clear hKK
    refine wp_region_seq (fun K hK => ?_)
    refine wpl_op rfl (Ex_assign (by conv => lhs; whnf)) ?_
    refine wpl_nil (hK _ _ ?_)
    clear hK K
    refine wp_ret ?_
    repeat (first | refine out_block ?_ | refine out_then ?_)
    refine ret_tmp Try.results5 ⟨rfl, Below.refl _ _⟩
  by_cases g4 : y < x
  · skip
    refine wp_seq_k (fun KK hKK => ?_)
    refine wp_region_seq (fun K hK => ?_)
    refine wpl_op rfl (Ex_move (by conv => lhs; whnf)) ?_
    refine wpl_op rfl (Ex_lss rfl rfl (decide_eq_false g3)) ?_
    refine wpl_op rfl (Ex_move (by conv => lhs; whnf)) ?_
    refine wpl_opg (by exact rfl) (by exact rfl) (Ex_move (by conv => lhs; whnf)) ?_
    refine wpl_opg (by exact rfl) (by exact rfl) (Ex_move (by conv => lhs; whnf)) ?_
    refine wpl_opg (by exact rfl) (by exact rfl) (Ex_gtr rfl rfl (decide_eq_true g4)) ?_
    refine wpl_op rfl (Ex_pick rfl (by conv => lhs; whnf)) ?_
    refine wpl_op rfl (Ex_move (by conv => lhs; whnf)) ?_
    refine wpl_pass (by exact rfl) (by exact rfl) ?_
    refine wpl_pass (by exact rfl) (by exact rfl) ?_
    refine wpl_pass (by exact rfl) (by exact rfl) ?_
    refine wpl_pass (by exact rfl) (by exact rfl) ?_
    refine wpl_op rfl (Ex_pick rfl (by conv => lhs; whnf)) ?_
    refine wpl_nil (hK _ _ ?_)
    clear hK K
    refine wp_if_true rfl ?_
    clear hKK
    refine wp_region_seq (fun K hK => ?_)
    refine wpl_op rfl (Ex_assign (by conv => lhs; whnf)) ?_
    refine wpl_nil (hK _ _ ?_)
    clear hK K
    refine wp_ret ?_
    repeat (first | refine out_block ?_ | refine out_then ?_)
    refine ret_tmp Try.results5 ⟨rfl, Below.refl _ _⟩
  by_cases g5 : (n1 : Int) < y
  · skip
    refine wp_seq_k (fun KK hKK => ?_)
    refine wp_region_seq (fun K hK => ?_)
    refine wpl_op rfl (Ex_move (by conv => lhs; whnf)) ?_
    refine wpl_op rfl (Ex_lss rfl rfl (decide_eq_false g3)) ?_
    refine wpl_op rfl (Ex_move (by conv => lhs; whnf)) ?_
    refine wpl_opg (by exact rfl) (by exact rfl) (Ex_move (by conv => lhs; whnf)) ?_
    refine wpl_opg (by exact rfl) (by exact rfl) (Ex_move (by conv => lhs; whnf)) ?_
    refine wpl_opg (by exact rfl) (by exact rfl) (Ex_gtr rfl rfl (decide_eq_false g4)) ?_
    refine wpl_op rfl (Ex_pick rfl (by conv => lhs; whnf)) ?_
    refine wpl_op rfl (Ex_move (by conv => lhs; whnf)) ?_
    refine wpl_opg (by exact rfl) (by exact rfl) (Ex_move (by conv => lhs; whnf)) ?_
    refine wpl_opg (by exact rfl) (by exact rfl) (Ex_move (by conv => lhs; whnf)) ?_
    refine wpl_opg (by exact rfl) (by exact rfl) (Ex_len Try.underlying22 rfl) ?_
    refine wpl_opg (by exact rfl) (by exact rfl) (Ex_gtr rfl rfl (decide_eq_true g5)) ?_
    refine wpl_op rfl (Ex_pick rfl (by conv => lhs; whnf)) ?_
    refine wpl_nil (hK _ _ ?_)
    clear hK K
    refine wp_if_true rfl ?_
    clear hKK
    refine wp_region_seq (fun K hK => ?_)
    refine wpl_op rfl (Ex_assign (by conv => lhs; whnf)) ?_
    refine wpl_nil (hK _ _ ?_)
    clear hK K
    refine wp_ret ?_
    repeat (first | refine out_block ?_ | refine out_then ?_)
    refine ret_tmp Try.results5 ⟨rfl, Below.refl _ _⟩
  refine wp_seq_k (fun KK hKK => ?_)
  refine wp_region_seq (fun K hK => ?_)
  refine wpl_op rfl (Ex_move (by conv => lhs; whnf)) ?_
  refine wpl_op rfl (Ex_lss rfl rfl (decide_eq_false g3)) ?_
  refine wpl_op rfl (Ex_move (by conv => lhs; whnf)) ?_
  refine wpl_opg (by exact rfl) (by exact rfl) (Ex_move (by conv => lhs; whnf)) ?_
  refine wpl_opg (by exact rfl) (by exact rfl) (Ex_move (by conv => lhs; whnf)) ?_
  refine wpl_opg (by exact rfl) (by exact rfl) (Ex_gtr rfl rfl (decide_eq_false g4)) ?_
  refine wpl_op rfl (Ex_pick rfl (by conv => lhs; whnf)) ?_
  refine wpl_op rfl (Ex_move (by conv => lhs; whnf)) ?_
  refine wpl_opg (by exact rfl) (by exact rfl) (Ex_move (by conv => lhs; whnf)) ?_
  refine wpl_opg (by exact rfl) (by exact rfl) (Ex_move (by conv => lhs; whnf)) ?_
  refine wpl_opg (by exact rfl) (by exact rfl) (Ex_len Try.underlying22 rfl) ?_
  refine wpl_opg (by exact rfl) (by exact rfl) (Ex_gtr rfl rfl (decide_eq_false g5)) ?_
  refine wpl_op rfl (Ex_pick rfl (by conv => lhs; whnf)) ?_
  refine wpl_nil (hK _ _ ?_)
  clear hK K
  refine wp_if_false rfl ?_
  refine wp_skip (hKK _ _ ?_)
  clear hKK KK
  obtain ⟨lo, rfl⟩ := Int.eq_ofNat_of_zero_le (show 0 ≤ x by omega)
  obtain ⟨hi, rfl⟩ := Int.eq_ofNat_of_zero_le (show 0 ≤ y by omega)
  have hup : ∀ j, j < n1 → up j < n1 := fun j hj => by rcases hfit j hj with h | h <;> omega
  have hlohi : lo ≤ hi := by omega
  have hhi : hi ≤ n1 := by omega
  refine wp_region_seq (fun K hK => ?_)
  refine wpl_op rfl (Ex_move (by conv => lhs; whnf)) ?_
  refine wpl_op rfl (Ex_move (by conv => lhs; whnf)) ?_
  refine wpl_op rfl (Ex_move (by conv => lhs; whnf)) ?_
  refine wpl_call rfl (ExC_func ent24 rfl rfl) (lastForced_ret a0 a1 n1 c0 c1 lo up inn _ h0 h1 (by omega) (by omega) hup) ?_
  rintro v w3 ⟨rfl, rfl⟩
  refine wpl_op rfl (Ex_assign (by conv => lhs; whnf)) ?_
  refine wpl_nil (hK _ _ ?_)
  clear hK K
  refine wp_seq_k (fun KK hKK => ?_)
  refine wp_region_seq (fun K hK => ?_)
  refine wpl_op rfl (Ex_move (by conv => lhs; whnf)) ?_
  refine wpl_op rfl (Ex_lss rfl rfl rfl) ?_
  refine wpl_nil (hK _ _ ?_)
  clear hK K
  refine wp_if rfl (fun ht => ?_) (fun hf => ?_)
  · clear hKK
    refine wp_region_seq (fun K hK => ?_)
    refine wpl_op rfl (Ex_assign (by conv => lhs; whnf)) ?_
    refine wpl_nil (hK _ _ ?_)
    clear hK K
    refine wp_ret ?_
    repeat (first | refine out_block ?_ | refine out_then ?_)
    refine ret_tmp Try.results5 ⟨rfl, Below.refl _ _⟩
  refine wp_skip (hKK _ _ ?_)
  clear hKK KK
  have hex : 0 ≤ lastF up inn lo := by have := of_decide_eq_false hf; omega
  have hmono : lastF up inn lo ≤ lastF up inn hi := by
    obtain ⟨d, rfl⟩ : ∃ d, hi = lo + d := ⟨hi - lo, by omega⟩
    exact lastF_mono up inn lo d
  have hpos : 0 < n1 := by have := lastF_lt up inn lo; omega
  obtain ⟨b0, o0, he0, hc0⟩ := h0.get hpos
  obtain ⟨b1, o1, he1, hc1⟩ := h1.get hpos
  refine wp_region_seq (fun K hK => ?_)
  refine wpl_op rfl (Ex_move (by conv => lhs; whnf)) ?_
  refine wpl_op rfl (Ex_move (by conv => lhs; whnf)) ?_
  refine wpl_op rfl (Ex_move (by conv => lhs; whnf)) ?_
  refine wpl_call rfl (ExC_func ent24 rfl rfl) (lastForced_ret a0 a1 n1 c0 c1 hi up inn _ h0 h1 (by omega) (by omega) hup) ?_
  rintro v w4 ⟨rfl, rfl⟩
  refine wpl_op rfl (Ex_assign (by conv => lhs; whnf)) ?_
  refine wpl_nil (hK _ _ ?_)
  clear hK K
  refine wp_region_seq (fun K hK => ?_)
  refine wpl_op rfl (Ex_move (by conv => lhs; whnf)) ?_
  refine wpl_call rfl (ExC_func ent25 rfl rfl) (cloneInts_ret a0 n1 c0 up _ h0 (by omega)) ?_
  rintro v w5 (⟨hn, _, _⟩ | ⟨_, rfl, hown0, hb5⟩)
  · rw [he0] at hn; cases hn
  refine wpl_op rfl (Ex_assign (by conv => lhs; whnf)) ?_
  refine wpl_nil (hK _ _ ?_)
  clear hK K
  refine wp_region_seq (fun K hK => ?_)
  refine wpl_op rfl (Ex_move (by conv => lhs; whnf)) ?_
  refine wpl_call rfl (ExC_func ent26 rfl rfl) (cloneBools_ret a1 n1 c1 inn _ (h1.below hb5 rfl) (by omega)) ?_
  rintro v w6 (⟨hn, _, _⟩ | ⟨_, rfl, hown1, hb6⟩)
  · rw [he1] at hn; cases hn
  refine wpl_op rfl (Ex_assign (by conv => lhs; whnf)) ?_
  refine wpl_nil (hK _ _ ?_)
  clear hK K
  refine wp_region_seq (fun K hK => ?_)
  refine wpl_op rfl (Ex_move (by conv => lhs; whnf)) ?_
  refine wpl_op rfl (Ex_move (by conv => lhs; whnf)) ?_
  refine wpl_call rfl (ExC_func ent27 rfl rfl) (newSearch_ret _ _ n1 n1 n1 n1 _) ?_
  rintro v w7 ⟨rfl, hs, hb7, hz7⟩
  refine wpl_op rfl (Ex_assign (by conv => lhs; whnf)) ?_
  refine wpl_nil (hK _ _ ?_)
  clear hK K
  have k0 : IntsAt w7 (some ⟨w4.heap.size, 0, none⟩) n1 up := IntsAt.of_own ((hown0.below hb6 hown0.lt).below hb7 (Nat.lt_of_lt_of_le hown0.lt hb6.size))
  have k1 : BoolsAt w7 (some ⟨w5.heap.size, 0, none⟩) n1 inn := BoolsAt.of_own (hown1.below hb7 hown1.lt)
  refine wp_region_seq (fun K hK => ?_)
  refine wpl_op rfl (Ex_move (by conv => lhs; whnf)) ?_
  refine wpl_op rfl (Ex_move (by conv => lhs; whnf)) ?_
  refine wpl_call rfl (ExC_func ent28 rfl rfl) (zHighest_ret _ _ _ n1 n1 n1 hi up inn _ hs k0 k1 (by omega) hhi hup (by omega)) ?_
  rintro v w8 ⟨rfl, rfl⟩
  refine wpl_op rfl (Ex_assign (by conv => lhs; whnf)) ?_
  refine wpl_nil (hK _ _ ?_)
  clear hK K
  refine wp_region_seq (fun K hK => ?_)
  refine wpl_op rfl (Ex_move (by conv => lhs; whnf)) ?_
  refine wpl_op rfl (Ex_move (by conv => lhs; whnf)) ?_
  refine wpl_call rfl (ExC_func ent28 rfl rfl) (zHighest_ret _ _ _ n1 n1 n1 lo up inn _ hs k0 k1 (by omega) (by omega) hup hex) ?_
  rintro v w9 ⟨rfl, rfl⟩
  refine wpl_op rfl (Ex_assign (by conv => lhs; whnf)) ?_
  refine wpl_nil (hK _ _ ?_)
  clear hK K
  refine wp_region_seq (fun K hK => ?_)
  refine wpl_op rfl (Ex_move (by conv => lhs; whnf)) ?_
  refine wpl_op rfl (Ex_move (by conv => lhs; whnf)) ?_
  refine wpl_op rfl (Ex_eql rfl rfl (decide_eq_true rfl)) ?_
  refine wpl_op rfl (Ex_move (by conv => lhs; whnf)) ?_
  refine wpl_opg (by exact rfl) (by exact rfl) (Ex_move (by conv => lhs; whnf)) ?_
  refine wpl_opg (by exact rfl) (by exact rfl) (Ex_move (by conv => lhs; whnf)) ?_
  refine wpl_opg (by exact rfl) (by exact rfl) (Ex_eql rfl rfl (decide_eq_true rfl)) ?_
  refine wpl_op rfl (Ex_pick rfl (by conv => lhs; whnf)) ?_
  refine wpl_op rfl (Ex_move (by conv => lhs; whnf)) ?_
  refine wpl_opg (by exact rfl) (by exact rfl) (Ex_move (by conv => lhs; whnf)) ?_
  refine wpl_opg (by exact rfl) (by exact rfl) (Ex_move (by conv => lhs; whnf)) ?_
  refine wpl_opg (by exact rfl) (by exact rfl) (Ex_leq rfl rfl (decide_eq_true hmono)) ?_
  refine wpl_op rfl (Ex_pick rfl (by conv => lhs; whnf)) ?_
  refine wpl_op rfl (Ex_move (by conv => lhs; whnf)) ?_
  refine wpl_opg (by exact rfl) (by exact rfl) (Ex_move (by conv => lhs; whnf)) ?_
  refine wpl_opg (by exact rfl) (by exact rfl) (Ex_move (by conv => lhs; whnf)) ?_
  refine wpl_opg (by exact rfl) (by exact rfl) (Ex_eql rfl rfl rfl) ?_
  refine wpl_opg (by exact rfl) (by exact rfl) (Ex_move (by conv => lhs; whnf)) ?_
  refine wpl_opg (by exact rfl) (by exact rfl) (Ex_move (by conv => lhs; whnf)) ?_
  refine wpl_opg (by exact rfl) (by exact rfl) (Ex_lss rfl rfl rfl) ?_
  refine wpl_opg (by exact rfl) (by exact rfl) (Ex_eqlb Try.underlying4 rfl rfl (lastF_iff up inn lo hi hlohi)) ?_
  refine wpl_op rfl (Ex_pick rfl (by conv => lhs; whnf)) ?_
  refine wpl_op rfl (Ex_assign (by conv => lhs; whnf)) ?_
  refine wpl_nil (hK _ _ ?_)
  clear hK K
  refine wp_ret ?_
  repeat (first | refine out_block ?_ | refine out_then ?_)
  refine ret_tmp Try.results5 ⟨rfl, ?_⟩
  exact (hb5.trans (hb6.mono hb5.size)).trans (hb7.mono (Nat.le_trans hb5.size hb6.size))
end Go.Proofs.Qxb6613881a
