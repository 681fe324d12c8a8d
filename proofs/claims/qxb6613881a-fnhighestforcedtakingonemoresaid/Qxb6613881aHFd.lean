import Derived.Test.Qxb6613881aHFc
namespace Go.Proofs.Qxb6613881a
open Go.Fr Go.RowKit

theorem one22 : One Try.prog 22 := ⟨fun w => by simp [go_sem], fun w => by simp [go_sem]⟩
theorem one41 : One Try.prog 41 := ⟨fun w => by simp [go_sem], fun w => by simp [go_sem]⟩
theorem fld82_16 : FieldAt Try.prog 82 16 16 := fun b o w => by simp [go_sem]
theorem fld82_12 : FieldAt Try.prog 82 12 12 := fun b o w => by simp [go_sem]
theorem ent31 : Enters Try.prog 31 := enters Try.func31 (by rfl) rfl
theorem bld82 (a0 a1 : Option Addr) (n0 c0 n1 c1 : Nat) : ∃ cs : Array Value, (∀ w, (Instr.build 82 #[(16, .slice a0 n0 c0), (12, .slice a1 n1 c1)]).run Try.prog w = .ok (.agg cs) w) ∧ cs[16]? = some (.slice a0 n0 c0) ∧ cs[12]? = some (.slice a1 n1 c1) := by
  refine ⟨_, fun w => by simp [go_sem]; rfl, rfl, rfl⟩


/-- The search as the call has made it: a struct whose two fields hold the two slices. -/
structure Search (w : World) (g : Nat) (a0 : Option Addr) (n0 c0 : Nat) (a1 : Option Addr) (n1 c1 : Nat) : Prop where
  up : w.cell? ⟨g, 16, none⟩ = some (.slice a0 n0 c0)
  inn : w.cell? ⟨g, 12, none⟩ = some (.slice a1 n1 c1)
theorem Search.below {w w' : World} {B g : Nat} {a0 a1 : Option Addr} {n0 c0 n1 c1 : Nat} (h : Search w g a0 n0 c0 a1 n1 c1) (hb : Below B w w') (hg : g < B) : Search w' g a0 n0 c0 a1 n1 c1 :=
  ⟨(hb.cell (p := ⟨g, 16, none⟩) hg).trans h.up, (hb.cell (p := ⟨g, 12, none⟩) hg).trans h.inn⟩

theorem newSearch_ret (a0 a1 : Option Addr) (n0 c0 n1 c1 : Nat) (w : World) :
    Ret Try.prog 27 #[.slice a0 n0 c0, .slice a1 n1 c1] w fun v w' => v = .pointer (some ⟨w.heap.size, 0, none⟩) ∧ Search w' w.heap.size a0 n0 c0 a1 n1 c1 ∧ Below w.heap.size w w' ∧ w.heap.size < w'.heap.size := by
  obtain ⟨cs, hcs, h16, h12⟩ := bld82 a0 a1 n0 c0 n1 c1
  refine Ret.of_body (vs := [.slice a0 n0 c0, .slice a1 n1 c1]) Try.func27 rfl Try.ntmps27 rfl ?_
  refine wp_region_seq (fun K hK => ?_)
  refine wpl_op rfl (Ex_assign (by conv => lhs; whnf)) ?_
  refine wpl_nil (hK _ _ ?_)
  clear hK K
  refine wp_region_seq (fun K hK => ?_)
  refine wpl_op rfl (Ex_move (by conv => lhs; whnf)) ?_
  refine wpl_op rfl (Ex_move (by conv => lhs; whnf)) ?_
  refine wpl_op rfl (Ex_build (pv := [(16, .slice a0 n0 c0), (12, .slice a1 n1 c1)]) rfl (hcs _)) ?_
  refine wpl_op rfl (Ex_box (by conv => lhs; whnf)) ?_
  refine wpl_op rfl (Ex_assign (by conv => lhs; whnf)) ?_
  refine wpl_nil (hK _ _ ?_)
  clear hK K
  refine wp_ret ?_
  repeat (first | refine out_block ?_ | refine out_then ?_)
  refine ret_tmp Try.results27 ⟨rfl, ⟨cell_at (heap_new w _) h16, cell_at (heap_new w _) h12⟩, (Below.refl _ _).alloc (Nat.le_refl _) _, by simp⟩

theorem lastF_zero (up : Nat → Int) (inn : Nat → Bool) : lastF up inn 0 = -1 := rfl
theorem highestForced_ret (g : Nat) (a0 a1 : Option Addr) (n c0 c1 hi : Nat) (up : Nat → Int) (inn : Nat → Bool) (w : World) (hs : Search w g a0 n c0 a1 n c1) (h0 : IntsAt w a0 n up) (h1 : BoolsAt w a1 n inn) (hn : n ≤ 1000000) (hhi : hi ≤ n)
    (hup : ∀ j, j < n → up j < n) (hex : 0 ≤ lastF up inn hi) :
    Ret Try.prog 31 #[.pointer (some ⟨g, 0, none⟩), .int .i64 hi] w fun v w' => v = .int .i64 (lastF up inn hi) ∧ w' = w := by
  refine Ret.of_body (vs := [.pointer (some ⟨g, 0, none⟩), .int .i64 hi]) Try.func31 rfl Try.ntmps31 rfl ?_
  refine wp_region_seq (fun K hK => ?_)
  refine wpl_op rfl (Ex_assign (by conv => lhs; whnf)) ?_
  refine wpl_nil (hK _ _ ?_)
  clear hK K
  refine wp_region_seq (fun K hK => ?_)
  refine wpl_op rfl (Ex_move (by conv => lhs; whnf)) ?_
  refine wpl_op rfl (Ex_sub rfl rfl (by omega) (by omega)) ?_
  refine wpl_op rfl (Ex_assign (by conv => lhs; whnf)) ?_
  refine wpl_nil (hK _ _ ?_)
  clear hK K
  refine wp_block ?_
  refine wp_loop_st (fun k : Nat => [(0, .pointer (some ⟨g, 0, none⟩)), (5, .int .i64 ((k : Int) - 1))])
    (fun k w' => w' = w ∧ k ≤ hi ∧ lastF up inn k = lastF up inn hi) (fun k => k) hi ⟨rfl, rfl, trivial⟩ ⟨rfl, Nat.le_refl _, rfl⟩ ?_
  rintro k u w' ⟨rfl, hk, hlast⟩ R hR
  obtain ⟨j, rfl⟩ : ∃ j, k = j + 1 := by
    cases k with
    | zero => rw [lastF_zero] at hlast; omega
    | succ j => exact ⟨j, rfl⟩
  refine wp_norm [(0, .pointer (some ⟨g, 0, none⟩)), (5, .int .i64 (j : Int))] ⟨rfl, congrArg (Value.int .i64) (by omega), trivial⟩ (fun u => ?_)
  obtain ⟨b0, o0, rfl, hc0⟩ := h0.get (show j < n by omega)
  obtain ⟨b1, o1, rfl, hc1⟩ := h1.get (show j < n by omega)
  refine wp_seq_k (fun K' hK' => ?_)
  refine wp_block ?_
  by_cases hneg : 0 ≤ up j
  · obtain ⟨m, hm⟩ := Int.eq_ofNat_of_zero_le hneg
    have hmn : m < n := by have := hup j (by omega); omega
    have hfb : forcedB up inn j = inn m := by simp [forcedB, hm]
    refine wp_region_seq (fun K hK => ?_)
    refine wpl_op rfl (Ex_move (by conv => lhs; whnf)) ?_
    refine wpl_op rfl (Ex_nil rfl) ?_
    refine wpl_op rfl (Ex_field fld82_16 rfl) ?_
    refine wpl_op rfl (Ex_load one22 rfl (by rw [Nat.zero_add]; exact hs.up)) ?_
    refine wpl_op rfl (Ex_move (by conv => lhs; whnf)) ?_
    refine wpl_op rfl (Ex_index1 Try.underlying22 size_22 rfl rfl (by omega)) ?_
    refine wpl_op rfl (Ex_load one3 rfl (show _ = some (.int .i64 (m : Int)) from by rw [hc0 j (by omega), hm])) ?_
    refine wpl_op rfl (Ex_assign (by conv => lhs; whnf)) ?_
    refine wpl_nil (hK _ _ ?_)
    clear hK K
    cases hin : inn m with
    | true =>
      refine wp_region_seq (fun K hK => ?_)
      refine wpl_op rfl (Ex_move (by conv => lhs; whnf)) ?_
      refine wpl_op rfl (Ex_geq rfl rfl (decide_eq_true (by omega))) ?_
      refine wpl_op rfl (Ex_move (by conv => lhs; whnf)) ?_
      refine wpl_opg (by exact rfl) (by exact rfl) (Ex_move (by conv => lhs; whnf)) ?_
      refine wpl_opg (by exact rfl) (by exact rfl) (Ex_nil rfl) ?_
      refine wpl_opg (by exact rfl) (by exact rfl) (Ex_field fld82_12 rfl) ?_
      refine wpl_opg (by exact rfl) (by exact rfl) (Ex_load one41 rfl (by rw [Nat.zero_add]; exact hs.inn)) ?_
      refine wpl_opg (by exact rfl) (by exact rfl) (Ex_move (by conv => lhs; whnf)) ?_
      refine wpl_opg (by exact rfl) (by exact rfl) (Ex_index1 Try.underlying41 size_41 rfl rfl hmn) ?_
      refine wpl_opg (by exact rfl) (by exact rfl) (Ex_load one4 rfl (show _ = some (.bool true) from by rw [hc1 m hmn, hin])) ?_
      refine wpl_op rfl (Ex_pick rfl (by conv => lhs; whnf)) ?_
      refine wpl_nil (hK _ _ ?_)
      clear hK K
      refine wp_if_true rfl ?_
      refine wp_region_seq (fun K hK => ?_)
      refine wpl_op rfl (Ex_move (by conv => lhs; whnf)) ?_
      refine wpl_op rfl (Ex_assign (by conv => lhs; whnf)) ?_
      refine wpl_nil (hK _ _ ?_)
      clear hK K
      refine wp_ret ?_
      repeat (first | refine out_block ?_ | refine out_then ?_)
      refine ret_tmp Try.results31 ⟨?_, rfl⟩
      exact congrArg (Value.int .i64) ((lastF_yes (hfb.trans hin)).symm.trans hlast)
    | false =>
      refine wp_region_seq (fun K hK => ?_)
      refine wpl_op rfl (Ex_move (by conv => lhs; whnf)) ?_
      refine wpl_op rfl (Ex_geq rfl rfl (decide_eq_true (by omega))) ?_
      refine wpl_op rfl (Ex_move (by conv => lhs; whnf)) ?_
      refine wpl_opg (by exact rfl) (by exact rfl) (Ex_move (by conv => lhs; whnf)) ?_
      refine wpl_opg (by exact rfl) (by exact rfl) (Ex_nil rfl) ?_
      refine wpl_opg (by exact rfl) (by exact rfl) (Ex_field fld82_12 rfl) ?_
      refine wpl_opg (by exact rfl) (by exact rfl) (Ex_load one41 rfl (by rw [Nat.zero_add]; exact hs.inn)) ?_
      refine wpl_opg (by exact rfl) (by exact rfl) (Ex_move (by conv => lhs; whnf)) ?_
      refine wpl_opg (by exact rfl) (by exact rfl) (Ex_index1 Try.underlying41 size_41 rfl rfl hmn) ?_
      refine wpl_opg (by exact rfl) (by exact rfl) (Ex_load one4 rfl (show _ = some (.bool false) from by rw [hc1 m hmn, hin])) ?_
      refine wpl_op rfl (Ex_pick rfl (by conv => lhs; whnf)) ?_
      refine wpl_nil (hK _ _ ?_)
      clear hK K
      refine wp_if_false rfl ?_
      refine wp_skip ?_
      refine hK' _ _ ?_
      refine wp_region_last ?_
      refine wpl_op rfl (Ex_move (by conv => lhs; whnf)) ?_
      refine wpl_op rfl (Ex_sub rfl rfl (by omega) (by omega)) ?_
      refine wpl_op rfl (Ex_assign (by conv => lhs; whnf)) ?_
      refine wpl_nil ?_
      exact hR _ _ _ j ⟨rfl, rfl, trivial⟩ ⟨rfl, by omega, (lastF_no (hfb.trans hin)).symm.trans hlast⟩ (by omega)
  · have hfb : forcedB up inn j = false := by simp [forcedB, hneg]
    refine wp_region_seq (fun K hK => ?_)
    refine wpl_op rfl (Ex_move (by conv => lhs; whnf)) ?_
    refine wpl_op rfl (Ex_nil rfl) ?_
    refine wpl_op rfl (Ex_field fld82_16 rfl) ?_
    refine wpl_op rfl (Ex_load one22 rfl (by rw [Nat.zero_add]; exact hs.up)) ?_
    refine wpl_op rfl (Ex_move (by conv => lhs; whnf)) ?_
    refine wpl_op rfl (Ex_index1 Try.underlying22 size_22 rfl rfl (by omega)) ?_
    refine wpl_op rfl (Ex_load one3 rfl (hc0 j (by omega))) ?_
    refine wpl_op rfl (Ex_assign (by conv => lhs; whnf)) ?_
    refine wpl_nil (hK _ _ ?_)
    clear hK K
    refine wp_region_seq (fun K hK => ?_)
    refine wpl_op rfl (Ex_move (by conv => lhs; whnf)) ?_
    refine wpl_op rfl (Ex_geq rfl rfl (decide_eq_false hneg)) ?_
    refine wpl_op rfl (Ex_move (by conv => lhs; whnf)) ?_
    refine wpl_pass (by exact rfl) (by exact rfl) ?_
    refine wpl_pass (by exact rfl) (by exact rfl) ?_
    refine wpl_pass (by exact rfl) (by exact rfl) ?_
    refine wpl_pass (by exact rfl) (by exact rfl) ?_
    refine wpl_pass (by exact rfl) (by exact rfl) ?_
    refine wpl_pass (by exact rfl) (by exact rfl) ?_
    refine wpl_pass (by exact rfl) (by exact rfl) ?_
    refine wpl_op rfl (Ex_pick rfl (by conv => lhs; whnf)) ?_
    refine wpl_nil (hK _ _ ?_)
    clear hK K
    refine wp_if_false rfl ?_
    refine wp_skip ?_
    refine hK' _ _ ?_
    refine wp_region_last ?_
    refine wpl_op rfl (Ex_move (by conv => lhs; whnf)) ?_
    refine wpl_op rfl (Ex_sub rfl rfl (by omega) (by omega)) ?_
    refine wpl_op rfl (Ex_assign (by conv => lhs; whnf)) ?_
    refine wpl_nil ?_
    exact hR _ _ _ j ⟨rfl, rfl, trivial⟩ ⟨rfl, by omega, (lastF_no (hfb)).symm.trans hlast⟩ (by omega)

theorem zHighest_ret (g : Nat) (a0 a1 : Option Addr) (n c0 c1 hi : Nat) (up : Nat → Int) (inn : Nat → Bool) (w : World) (hs : Search w g a0 n c0 a1 n c1) (h0 : IntsAt w a0 n up) (h1 : BoolsAt w a1 n inn) (hn : n ≤ 1000000) (hhi : hi ≤ n)
    (hup : ∀ j, j < n → up j < n) (hex : 0 ≤ lastF up inn hi) :
    Ret Try.prog 28 #[.pointer (some ⟨g, 0, none⟩), .int .i64 hi] w fun v w' => v = .int .i64 (lastF up inn hi) ∧ w' = w := by
  refine Ret.of_body (vs := [.pointer (some ⟨g, 0, none⟩), .int .i64 hi]) Try.func28 rfl Try.ntmps28 rfl ?_
  refine wp_region_seq (fun K hK => ?_)
  refine wpl_op rfl (Ex_assign (by conv => lhs; whnf)) ?_
  refine wpl_nil (hK _ _ ?_)
  clear hK K
  refine wp_region_seq (fun K hK => ?_)
  refine wpl_op rfl (Ex_move (by conv => lhs; whnf)) ?_
  refine wpl_op rfl (Ex_move (by conv => lhs; whnf)) ?_
  refine wpl_call rfl (ExC_func ent31 rfl rfl) (highestForced_ret g a0 a1 n c0 c1 hi up inn w hs h0 h1 hn hhi hup hex) ?_
  rintro v w' ⟨rfl, rfl⟩
  refine wpl_op rfl (Ex_assign (by conv => lhs; whnf)) ?_
  refine wpl_nil (hK _ _ ?_)
  clear hK K
  refine wp_ret ?_
  repeat (first | refine out_block ?_ | refine out_then ?_)
  refine ret_tmp Try.results28 ⟨rfl, rfl⟩
end Go.Proofs.Qxb6613881a
