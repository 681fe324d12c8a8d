import Derived.Test.Qxb6613837aUd
namespace Go.Proofs.Qxb6613837a.Sp
open Go.Fr Go.RowKit Go.Sp


theorem withinf_ret (pa ps pp : Nat) (d most : Int) (w : World) :
    Ret Try.prog 28 #[.int .i64 d, .int .i64 most, .pointer (some ⟨pa, 0, none⟩), .pointer (some ⟨ps, 0, none⟩), .pointer (some ⟨pp, 0, none⟩)] w fun v w' =>
      ∃ pd pm, v = .func (.func 29) #[] #[.pointer (some ⟨pa, 0, none⟩), .pointer (some ⟨ps, 0, none⟩), .pointer (some ⟨pp, 0, none⟩), .pointer (some ⟨pd, 0, none⟩), .pointer (some ⟨pm, 0, none⟩)] ∧ w'.cell? ⟨pd, 0, none⟩ = some (.int .i64 d) ∧ w'.cell? ⟨pm, 0, none⟩ = some (.int .i64 most) ∧ Below w.heap.size w w' := by
  refine Ret.of_body (vs := [.int .i64 d, .int .i64 most, .pointer (some ⟨pa, 0, none⟩), .pointer (some ⟨ps, 0, none⟩), .pointer (some ⟨pp, 0, none⟩)]) Try.func28 rfl Try.ntmps28 rfl ?_
  refine wp_region_seq (fun K hK => ?_)
  refine wpl_op rfl (Ex_box (by conv => lhs; whnf)) ?_
  refine wpl_op rfl (Ex_box (by conv => lhs; whnf)) ?_
  refine wpl_op rfl (Ex_assign (by conv => lhs; whnf)) ?_
  refine wpl_nil (hK _ _ ?_)
  clear hK K
  have c1 : (w.alloc (.cells (Value.int .i64 d).cells 3)).cell? ⟨w.heap.size, 0, none⟩ = some (.int .i64 d) := cell_at (heap_new w _) rfl
  have c2 := (Keep.alloc [] (w.alloc (.cells (Value.int .i64 d).cells 3)) (.cells (Value.int .i64 most).cells 3)).cell c1 (by simp)
  have c3 : ((w.alloc (.cells (Value.int .i64 d).cells 3)).alloc (.cells (Value.int .i64 most).cells 3)).cell? ⟨(w.alloc (.cells (Value.int .i64 d).cells 3)).heap.size, 0, none⟩ = some (.int .i64 most) := cell_at (heap_new _ _) rfl
  have hb : Below w.heap.size w ((w.alloc (.cells (Value.int .i64 d).cells 3)).alloc (.cells (Value.int .i64 most).cells 3)) := ((Below.refl _ _).alloc (Nat.le_refl _) _).alloc (by simp) _
  refine wp_region_seq (fun K hK => ?_)
  refine wpl_op rfl (Ex_func (fv := []) (cv := [.pointer (some ⟨pa, 0, none⟩), .pointer (some ⟨ps, 0, none⟩), .pointer (some ⟨pp, 0, none⟩), .pointer (some ⟨w.heap.size, 0, none⟩), .pointer (some ⟨(w.alloc (.cells (Value.int .i64 d).cells 3)).heap.size, 0, none⟩)]) rfl rfl) ?_
  refine wpl_op rfl (Ex_assign (by conv => lhs; whnf)) ?_
  refine wpl_nil (hK _ _ ?_)
  clear hK K
  refine wp_ret ?_
  repeat (first | refine out_block ?_ | refine out_then ?_)
  refine ret_tmp Try.results28 ⟨_, _, rfl, c2, c3, hb⟩
end Go.Proofs.Qxb6613837a.Sp
