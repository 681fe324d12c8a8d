import Derived.Test.Qxb6613881aRows
import Derived.Test.Qxb6613881aEx
namespace Go.Proofs.Qxb6613881a
open Go.Fr Go.RowKit

theorem one3 : One Try.prog 3 := ⟨fun w => by simp [go_sem], fun w => by simp [go_sem]⟩
theorem one4 : One Try.prog 4 := ⟨fun w => by simp [go_sem], fun w => by simp [go_sem]⟩
theorem size_22 : ∀ w, (sizeOf 3).run Try.prog w = .ok 1 w := one3.2
theorem size_41 : ∀ w, (sizeOf 4).run Try.prog w = .ok 1 w := one4.2

def IntsAt (w : World) (a : Option Addr) (n : Nat) (z : Nat → Int) : Prop :=
  n = 0 ∨ ∃ b o, a = some ⟨b, o, none⟩ ∧ ∀ i, i < n → w.cell? ⟨b, o + i, none⟩ = some (.int .i64 (z i))
def BoolsAt (w : World) (a : Option Addr) (n : Nat) (z : Nat → Bool) : Prop :=
  n = 0 ∨ ∃ b o, a = some ⟨b, o, none⟩ ∧ ∀ i, i < n → w.cell? ⟨b, o + i, none⟩ = some (.bool (z i))
theorem IntsAt.get {w : World} {a : Option Addr} {n : Nat} {z : Nat → Int} (h : IntsAt w a n z) {i : Nat} (hi : i < n) : ∃ b o, a = some ⟨b, o, none⟩ ∧ ∀ i, i < n → w.cell? ⟨b, o + i, none⟩ = some (.int .i64 (z i)) := by
  rcases h with h | h
  · omega
  · exact h
theorem BoolsAt.get {w : World} {a : Option Addr} {n : Nat} {z : Nat → Bool} (h : BoolsAt w a n z) {i : Nat} (hi : i < n) : ∃ b o, a = some ⟨b, o, none⟩ ∧ ∀ i, i < n → w.cell? ⟨b, o + i, none⟩ = some (.bool (z i)) := by
  rcases h with h | h
  · omega
  · exact h

def forcedB (up : Nat → Int) (inn : Nat → Bool) (j : Nat) : Bool := decide (0 ≤ up j) && inn (up j).toNat
def lastF (up : Nat → Int) (inn : Nat → Bool) : Nat → Int
  | 0 => -1
  | k + 1 => if forcedB up inn k = true then (k : Int) else lastF up inn k
theorem lastF_yes {up : Nat → Int} {inn : Nat → Bool} {k : Nat} (h : forcedB up inn k = true) : lastF up inn (k + 1) = k := by simp [lastF, h]
theorem lastF_no {up : Nat → Int} {inn : Nat → Bool} {k : Nat} (h : forcedB up inn k = false) : lastF up inn (k + 1) = lastF up inn k := by simp [lastF, h]


theorem lastForced_ret (a0 a1 : Option Addr) (n c0 c1 hi : Nat) (up : Nat → Int) (inn : Nat → Bool) (w : World) (h0 : IntsAt w a0 n up) (h1 : BoolsAt w a1 n inn) (hn : n ≤ 1000000) (hhi : hi ≤ n)
    (hup : ∀ j, j < n → up j < n) :
    Ret Try.prog 24 #[.slice a0 n c0, .slice a1 n c1, .int .i64 hi] w fun v w' => v = .int .i64 (lastF up inn hi) ∧ w' = w := by
  refine Ret.of_body (vs := [.slice a0 n c0, .slice a1 n c1, .int .i64 hi]) Try.func24 rfl Try.ntmps24 rfl ?_
  refine wp_region_seq (fun K hK => ?_)
  refine wpl_op rfl (Ex_assign (by conv => lhs; whnf)) ?_
  refine wpl_nil (hK _ _ ?_)
  clear hK K
  refine wp_region_seq (fun K hK => ?_)
  refine wpl_op rfl (Ex_assign (by conv => lhs; whnf)) ?_
  refine wpl_nil (hK _ _ ?_)
  clear hK K
  refine wp_seq_k (fun K hK => ?_)
  refine wp_region_seq (fun K hK => ?_)
  refine wpl_op rfl (Ex_assign (by conv => lhs; whnf)) ?_
  refine wpl_nil (hK _ _ ?_)
  clear hK K
  refine wp_block ?_
  refine wp_loop_st (fun k : Nat => [(0, .slice a0 n c0), (1, .slice a1 n c1), (2, .int .i64 hi), (7, .int .i64 (lastF up inn k)), (8, .int .i64 k)])
    (fun k w' => w' = w ∧ k ≤ hi) (fun k => hi - k) 0 ⟨rfl, rfl, rfl, rfl, rfl, trivial⟩ ⟨rfl, Nat.zero_le _⟩ ?_
  rintro k u w' ⟨rfl, hk⟩ R hR
  by_cases hlt : k < hi
  · obtain ⟨b0, o0, rfl, hc0⟩ := h0.get (show k < n by omega)
    obtain ⟨b1, o1, rfl, hc1⟩ := h1.get (show k < n by omega)
    refine wp_seq_k (fun K' hK' => ?_)
    refine wp_region_seq (fun K hK => ?_)
    refine wpl_op rfl (Ex_move (by conv => lhs; whnf)) ?_
    refine wpl_op rfl (Ex_move (by conv => lhs; whnf)) ?_
    refine wpl_op rfl (Ex_lss rfl rfl (decide_eq_true (by omega))) ?_
    refine wpl_nil (hK _ _ ?_)
    clear hK K
    refine wp_if_true rfl ?_
    refine wp_skip (hK' _ _ ?_)
    clear hK' K'
    refine wp_seq_k (fun K' hK' => ?_)
    refine wp_block ?_
    by_cases hneg : 0 ≤ up k
    · obtain ⟨m, hm⟩ := Int.eq_ofNat_of_zero_le hneg
      have hmn : m < n := by have := hup k (by omega); omega
      have hfb : forcedB up inn k = inn m := by simp [forcedB, hm]
      refine wp_region_seq (fun K hK => ?_)
      refine wpl_op rfl (Ex_move (by conv => lhs; whnf)) ?_
      refine wpl_op rfl (Ex_move (by conv => lhs; whnf)) ?_
      refine wpl_op rfl (Ex_index1 Try.underlying22 size_22 rfl rfl (by omega)) ?_
      refine wpl_op rfl (Ex_load one3 rfl (show _ = some (.int .i64 (m : Int)) from by rw [hc0 k (by omega), hm])) ?_
      refine wpl_op rfl (Ex_assign (by conv => lhs; whnf)) ?_
      refine wpl_nil (hK _ _ ?_)
      clear hK K
      cases hin : inn m with
      | true =>
        refine wp_region_seq (fun K hK => ?_)
        refine wpl_op rfl (Ex_move (by conv => lhs; whnf)) ?_
        refine wpl_op rfl (Ex_geq rfl rfl (decide_eq_true (by omega))) ?_
        refine wpl_op rfl (Ex_move (by conv => lhs; whnf)) ?_
        refine wpl_opg (by exact rfl) (by exact rfl) (Ex_move (by conv => lhs; whnf)) ?_
        refine wpl_opg (by exact rfl) (by exact rfl) (Ex_move (by conv => lhs; whnf)) ?_
        refine wpl_opg (by exact rfl) (by exact rfl) (Ex_index1 Try.underlying41 size_41 rfl rfl hmn) ?_
        refine wpl_opg (by exact rfl) (by exact rfl) (Ex_load one4 rfl (show _ = some (.bool true) from by rw [hc1 m hmn, hin])) ?_
        refine wpl_op rfl (Ex_pick rfl (by conv => lhs; whnf)) ?_
        refine wpl_nil (hK _ _ ?_)
        clear hK K
        refine wp_if_true rfl ?_
        refine wp_region_last ?_
        refine wpl_op rfl (Ex_move (by conv => lhs; whnf)) ?_
        refine wpl_op rfl (Ex_assign (by conv => lhs; whnf)) ?_
        refine wpl_nil ?_
        refine hK' _ _ ?_
        refine wp_region_last ?_
        refine wpl_op rfl (Ex_move (by conv => lhs; whnf)) ?_
        refine wpl_op rfl (Ex_inc rfl rfl (by omega)) ?_
        refine wpl_op rfl (Ex_assign (by conv => lhs; whnf)) ?_
        refine wpl_nil ?_
        refine hR _ _ _ (k + 1) ⟨rfl, rfl, rfl, ?_, rfl, trivial⟩ ⟨rfl, by omega⟩ (by omega)
        exact congrArg (Value.int .i64) (lastF_yes (hfb.trans hin)).symm
      | false =>
        refine wp_region_seq (fun K hK => ?_)
        refine wpl_op rfl (Ex_move (by conv => lhs; whnf)) ?_
        refine wpl_op rfl (Ex_geq rfl rfl (decide_eq_true (by omega))) ?_
        refine wpl_op rfl (Ex_move (by conv => lhs; whnf)) ?_
        refine wpl_opg (by exact rfl) (by exact rfl) (Ex_move (by conv => lhs; whnf)) ?_
        refine wpl_opg (by exact rfl) (by exact rfl) (Ex_move (by conv => lhs; whnf)) ?_
        refine wpl_opg (by exact rfl) (by exact rfl) (Ex_index1 Try.underlying41 size_41 rfl rfl hmn) ?_
        refine wpl_opg (by exact rfl) (by exact rfl) (Ex_load one4 rfl (show _ = some (.bool false) from by rw [hc1 m hmn, hin])) ?_
        refine wpl_op rfl (Ex_pick rfl (by conv => lhs; whnf)) ?_
        refine wpl_nil (hK _ _ ?_)
        clear hK K
        refine wp_if_false rfl ?_
        refine wp_skip ?_
        refine hK' _ _ ?_
        refine wp_region_last ?_
        refine wpl_op rfl (Ex_move (by conv => lhs; whnf)) ?_
        refine wpl_op rfl (Ex_inc rfl rfl (by omega)) ?_
        refine wpl_op rfl (Ex_assign (by conv => lhs; whnf)) ?_
        refine wpl_nil ?_
        refine hR _ _ _ (k + 1) ⟨rfl, rfl, rfl, ?_, rfl, trivial⟩ ⟨rfl, by omega⟩ (by omega)
        exact congrArg (Value.int .i64) (lastF_no (hfb.trans hin)).symm
    · have hfb : forcedB up inn k = false := by simp [forcedB, hneg]
      refine wp_region_seq (fun K hK => ?_)
      refine wpl_op rfl (Ex_move (by conv => lhs; whnf)) ?_
      refine wpl_op rfl (Ex_move (by conv => lhs; whnf)) ?_
      refine wpl_op rfl (Ex_index1 Try.underlying22 size_22 rfl rfl (by omega)) ?_
      refine wpl_op rfl (Ex_load one3 rfl (hc0 k (by omega))) ?_
      refine wpl_op rfl (Ex_assign (by conv => lhs; whnf)) ?_
      refine wpl_nil (hK _ _ ?_)
      clear hK K
      refine wp_region_seq (fun K hK => ?_)
      refine wpl_op rfl (Ex_move (by conv => lhs; whnf)) ?_
      refine wpl_op rfl (Ex_geq rfl rfl (decide_eq_false hneg)) ?_
      refine wpl_op rfl (Ex_move (by conv => lhs; whnf)) ?_
      refine wpl_pass (by exact rfl) (by exact rfl) ?_
      refine wpl_pass (by exact rfl) (by exact rfl) ?_
      refine wpl_pass (by exact rfl) (by exact rfl) ?_
      refine wpl_pass (by exact rfl) (by exact rfl) ?_
      refine wpl_op rfl (Ex_pick rfl (by conv => lhs; whnf)) ?_
      refine wpl_nil (hK _ _ ?_)
      clear hK K
      refine wp_if_false rfl ?_
      refine wp_skip ?_
      refine hK' _ _ ?_
      refine wp_region_last ?_
      refine wpl_op rfl (Ex_move (by conv => lhs; whnf)) ?_
      refine wpl_op rfl (Ex_inc rfl rfl (by omega)) ?_
      refine wpl_op rfl (Ex_assign (by conv => lhs; whnf)) ?_
      refine wpl_nil ?_
      refine hR _ _ _ (k + 1) ⟨rfl, rfl, rfl, ?_, rfl, trivial⟩ ⟨rfl, by omega⟩ (by omega)
      exact congrArg (Value.int .i64) (lastF_no hfb).symm
  · have hk' : k = hi := by omega
    subst hk'
    refine wp_seq_k (fun K' hK' => ?_)
    refine wp_region_seq (fun K hK => ?_)
    refine wpl_op rfl (Ex_move (by conv => lhs; whnf)) ?_
    refine wpl_op rfl (Ex_move (by conv => lhs; whnf)) ?_
    refine wpl_op rfl (Ex_lss rfl rfl (decide_eq_false (by omega))) ?_
    refine wpl_nil (hK _ _ ?_)
    clear hK K
    refine wp_if_false rfl ?_
    refine wp_exit ?_
    refine hK _ _ ?_
    refine wp_region_seq (fun K hK => ?_)
    refine wpl_op rfl (Ex_move (by conv => lhs; whnf)) ?_
    refine wpl_op rfl (Ex_assign (by conv => lhs; whnf)) ?_
    refine wpl_nil (hK _ _ ?_)
    clear hK K
    refine wp_ret (ret_tmp Try.results24 ⟨rfl, rfl⟩)
end Go.Proofs.Qxb6613881a
