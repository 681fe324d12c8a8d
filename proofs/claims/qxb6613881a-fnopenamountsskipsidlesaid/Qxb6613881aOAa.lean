import Derived.Test.Qxb6613881aRows
import Derived.Test.Qxb6613881aMore
namespace Go.Proofs.Qxb6613881a.OA
open Go.Fr Go.RowKit

theorem one3 : One Try.prog 3 := ⟨fun w => by simp [go_sem], fun w => by simp [go_sem]⟩
theorem one4 : One Try.prog 4 := ⟨fun w => by simp [go_sem], fun w => by simp [go_sem]⟩
theorem one22 : One Try.prog 22 := ⟨fun w => by simp [go_sem], fun w => by simp [go_sem]⟩
theorem one24 : One Try.prog 24 := ⟨fun w => by simp [go_sem], fun w => by simp [go_sem]⟩
theorem one30 : One Try.prog 30 := ⟨fun w => by simp [go_sem], fun w => by simp [go_sem]⟩
theorem one31 : One Try.prog 31 := ⟨fun w => by simp [go_sem], fun w => by simp [go_sem]⟩
theorem one50 : One Try.prog 50 := ⟨fun w => by simp [go_sem], fun w => by simp [go_sem]⟩
theorem one63 : One Try.prog 63 := ⟨fun w => by simp [go_sem], fun w => by simp [go_sem]⟩
theorem agg33 : Agg Try.prog 33 9 := ⟨fun w => by simp [go_sem], fun w => by simp [go_sem]⟩
theorem size_22 : ∀ w, (sizeOf 3).run Try.prog w = .ok 1 w := one3.2
theorem size_50 : ∀ w, (sizeOf 30).run Try.prog w = .ok 1 w := one30.2
theorem size_26 : ∀ w, (sizeOf 33).run Try.prog w = .ok 9 w := agg33.2
theorem info3 : (Try.prog.info? 3).map (fun i => (i.zero, i.size, i.bytes)) = some (some (.int .i64 0), 1, 8) := by kernel_rfl
theorem isz3 : (Try.prog.info? 3).map (·.size) = some 1 := by kernel_rfl
theorem info30 : (Try.prog.info? 30).map (fun i => (i.zero, i.size, i.bytes)) = some (some (.pointer none), 1, 8) := by kernel_rfl
theorem info33 : (Try.prog.info? 33).map (fun i => (i.zero, i.size, i.bytes)) = some (some (.agg #[.pointer none, .int .i64 0, .slice none 0 0, .slice none 0 0, .pointer none, .int .i64 0, .bool false, .int .i64 0, .pointer none]), 9, 104) := by kernel_rfl
theorem fld73_4 : FieldAt Try.prog 73 4 4 := fun b o w => by simp [go_sem]
theorem fld65_0 : FieldAt Try.prog 65 0 0 := fun b o w => by simp [go_sem]
theorem fld33_0 : FieldAt Try.prog 33 0 0 := fun b o w => by simp [go_sem]
theorem fld33_1 : FieldAt Try.prog 33 1 1 := fun b o w => by simp [go_sem]
theorem fld33_2 : FieldAt Try.prog 33 2 2 := fun b o w => by simp [go_sem]
theorem fld33_3 : FieldAt Try.prog 33 3 3 := fun b o w => by simp [go_sem]
theorem fld33_4 : FieldAt Try.prog 33 4 4 := fun b o w => by simp [go_sem]
theorem fld33_5 : FieldAt Try.prog 33 5 5 := fun b o w => by simp [go_sem]
theorem fld33_6 : FieldAt Try.prog 33 6 6 := fun b o w => by simp [go_sem]
theorem fld33_7 : FieldAt Try.prog 33 7 7 := fun b o w => by simp [go_sem]
theorem fld33_8 : FieldAt Try.prog 33 8 8 := fun b o w => by simp [go_sem]
theorem ent7 : Enters Try.prog 7 := enters Try.func7 (by rfl) rfl
theorem ent8 : Enters Try.prog 8 := enters Try.func8 (by rfl) rfl
theorem ent9 : Enters Try.prog 9 := enters Try.func9 (by rfl) rfl
theorem ent10 : Enters Try.prog 10 := enters Try.func10 (by rfl) rfl
theorem ent11 : Enters Try.prog 11 := enters Try.func11 (by rfl) rfl
theorem ent12 : Enters Try.prog 12 := enters Try.func12 (by rfl) rfl
theorem ent13 : Enters Try.prog 13 := enters Try.func13 (by rfl) rfl
theorem ent14 : Enters Try.prog 14 := enters Try.func14 (by rfl) rfl
theorem ent15 : Enters Try.prog 15 := enters Try.func15 (by rfl) rfl
theorem ent16 : Enters Try.prog 16 := enters Try.func16 (by rfl) rfl
theorem ent17 : Enters Try.prog 17 := enters Try.func17 (by rfl) rfl
theorem ent18 : Enters Try.prog 18 := enters Try.func18 (by rfl) rfl
theorem ent19 : Enters Try.prog 19 := enters Try.func19 (by rfl) rfl
theorem ent20 : Enters Try.prog 20 := enters Try.func20 (by rfl) rfl
theorem ent21 : Enters Try.prog 21 := enters Try.func21 (by rfl) rfl
theorem ent30 : Enters Try.prog 30 := enters Try.func30 (by rfl) rfl
theorem ent32 : Enters Try.prog 32 := enters Try.func32 (by rfl) rfl
theorem ent33 : Enters Try.prog 33 := enters Try.func33 (by rfl) rfl

/-- An amount as it lies in memory. -/
def amt (p : Addr) (n k : Int) (b : Bool) : List Value := [.pointer (some p), .int .i64 n, .slice none 0 0, .slice none 0 0, .pointer none, .int .i64 k, .bool b, .int .i64 0, .pointer none]
theorem bld33 (p : Addr) (n k : Int) (b : Bool) (w : World) : (Instr.build 33 #[(0, .pointer (some p)), (1, .int .i64 n), (5, .int .i64 k), (6, .bool b)]).run Try.prog w = .ok (.agg (amt p n k b).toArray) w := by
  simp [go_sem, amt]
theorem bsl33 (p : Addr) (n k : Int) (b : Bool) (w : World) : (Instr.buildSlice 26 1 #[(0, .agg (amt p n k b).toArray)]).run Try.prog w = .ok (.slice (some ⟨w.heap.size, 0, none⟩) 1 1) (w.alloc (.cells (amt p n k b).toArray 33)) := by
  simp [go_sem, amt]
theorem bld62 : ∃ cs : Array Value, ∀ w, (Instr.build 62 #[]).run Try.prog w = .ok (.agg cs) w := ⟨_, fun w => by simp [go_sem]; rfl⟩
theorem bld65 (a : Option Addr) (n c : Nat) : ∃ cs : Array Value, (∀ w, (Instr.build 65 #[(0, .slice a n c)]).run Try.prog w = .ok (.agg cs) w) ∧ cs[0]? = some (.slice a n c) := ⟨_, fun w => by simp [go_sem]; rfl, rfl⟩
theorem bld73 (p : Option Addr) : ∃ cs : Array Value, (∀ w, (Instr.build 73 #[(4, .pointer p)]).run Try.prog w = .ok (.agg cs) w) ∧ cs[4]? = some (.pointer p) := ⟨_, fun w => by simp [go_sem]; rfl, rfl⟩
theorem Ex_bsl {P : Program} {ρ : Operand → Value} {ty t : TypeId} {w w' : World} {v : Value} {n : Nat} {pl : List (Nat × Operand)} {pv : List (Nat × Value)} (hp : pevs ρ pl = pv) (hb : (Instr.buildSlice t n pv.toArray).run P w = .ok v w') : Ex P ρ (.buildSlice t n pl.toArray) ty w v w' := ex_val fun o ho _ => by
  rw [pevs_eq] at hp
  simp only [execOp, ho]
  have e : (Array.map (fun (x : Nat × Operand) => match x with | (i, x) => (i, ρ x)) pl.toArray) = pv.toArray := by rw [← hp]; simp
  rw [e]
  simp [hb, Result.andThen]

theorem bytes7_ret (a0 : Option Addr) (n0 c0 : Nat) (x : Int) (w : World) :
    Ret Try.prog 7 #[.slice a0 n0 c0, .int .i64 x] w fun v w' => (∃ b, v = .bool b) ∧ w = w' := by
  refine Ret.of_body (vs := [.slice a0 n0 c0, .int .i64 x]) Try.func7 rfl Try.ntmps7 rfl ?_
  refine wp_region_seq (fun K hK => ?_)
  refine wpl_op rfl (Ex_assign (by conv => lhs; whnf)) ?_
  refine wpl_nil (hK _ _ ?_)
  clear hK K
  refine wp_region_seq (fun K hK => ?_)
  refine wpl_op rfl (Ex_assign (by conv => lhs; whnf)) ?_
  refine wpl_nil (hK _ _ ?_)
  clear hK K
  refine wp_seq_k (fun KK hKK => ?_)
  refine wp_region_seq (fun K hK => ?_)
  refine wpl_op rfl (Ex_move (by conv => lhs; whnf)) ?_
  refine wpl_op rfl (Ex_len Try.underlying22 rfl) ?_
  refine wpl_op rfl (Ex_gtr rfl rfl rfl) ?_
  refine wpl_nil (hK _ _ ?_)
  clear hK K
  refine wp_if rfl (fun ht => ?_) (fun hf => ?_)
  · clear hKK
    refine wp_region_seq (fun K hK => ?_)
    refine wpl_op rfl (Ex_assign (by conv => lhs; whnf)) ?_
    refine wpl_nil (hK _ _ ?_)
    clear hK K
    refine wp_ret ?_
    repeat (first | refine out_block ?_ | refine out_then ?_)
    refine ret_tmp Try.results7 ⟨⟨_, rfl⟩, rfl⟩
  refine wp_skip (hKK _ _ ?_)
  clear hKK KK
  refine wp_region_seq (fun K hK => ?_)
  refine wpl_op rfl (Ex_move (by conv => lhs; whnf)) ?_
  refine wpl_op rfl (Ex_move (by conv => lhs; whnf)) ?_
  refine wpl_op rfl (Ex_len Try.underlying22 rfl) ?_
  refine wpl_op rfl (Ex_addw rfl rfl) ?_
  refine wpl_op rfl (Ex_assign (by conv => lhs; whnf)) ?_
  refine wpl_nil (hK _ _ ?_)
  clear hK K
  refine wp_seq_k (fun KK hKK => ?_)
  refine wp_region_seq (fun K hK => ?_)
  refine wpl_op rfl (Ex_move (by conv => lhs; whnf)) ?_
  refine wpl_op rfl (Ex_gtr rfl rfl rfl) ?_
  refine wpl_nil (hK _ _ ?_)
  clear hK K
  refine wp_if rfl (fun ht => ?_) (fun hf => ?_)
  · clear hKK
    refine wp_region_seq (fun K hK => ?_)
    refine wpl_op rfl (Ex_assign (by conv => lhs; whnf)) ?_
    refine wpl_nil (hK _ _ ?_)
    clear hK K
    refine wp_ret ?_
    repeat (first | refine out_block ?_ | refine out_then ?_)
    refine ret_tmp Try.results7 ⟨⟨_, rfl⟩, rfl⟩
  refine wp_skip (hKK _ _ ?_)
  clear hKK KK
  refine wp_region_seq (fun K hK => ?_)
  refine wpl_op rfl (Ex_assign (by conv => lhs; whnf)) ?_
  refine wpl_nil (hK _ _ ?_)
  clear hK K
  refine wp_ret ?_
  repeat (first | refine out_block ?_ | refine out_then ?_)
  refine ret_tmp Try.results7 ⟨⟨_, rfl⟩, rfl⟩
theorem bytes21_ret (a0 : Option Addr) (n0 c0 : Nat) (x : Int) (y : Int) (w : World) :
    Ret Try.prog 21 #[.slice a0 n0 c0, .int .i64 x, .int .i64 y] w fun v w' => (∃ b, v = .bool b) ∧ w = w' := by
  refine Ret.of_body (vs := [.slice a0 n0 c0, .int .i64 x, .int .i64 y]) Try.func21 rfl Try.ntmps21 rfl ?_
  refine wp_region_seq (fun K hK => ?_)
  refine wpl_op rfl (Ex_assign (by conv => lhs; whnf)) ?_
  refine wpl_nil (hK _ _ ?_)
  clear hK K
  refine wp_region_seq (fun K hK => ?_)
  refine wpl_op rfl (Ex_assign (by conv => lhs; whnf)) ?_
  refine wpl_nil (hK _ _ ?_)
  clear hK K
  refine wp_seq_k (fun KK hKK => ?_)
  refine wp_region_seq (fun K hK => ?_)
  refine wpl_op rfl (Ex_move (by conv => lhs; whnf)) ?_
  refine wpl_op rfl (Ex_len Try.underlying22 rfl) ?_
  refine wpl_op rfl (Ex_gtr rfl rfl rfl) ?_
  refine wpl_nil (hK _ _ ?_)
  clear hK K
  refine wp_if rfl (fun ht => ?_) (fun hf => ?_)
  · clear hKK
    refine wp_region_seq (fun K hK => ?_)
    refine wpl_op rfl (Ex_assign (by conv => lhs; whnf)) ?_
    refine wpl_nil (hK _ _ ?_)
    clear hK K
    refine wp_ret ?_
    repeat (first | refine out_block ?_ | refine out_then ?_)
    refine ret_tmp Try.results21 ⟨⟨_, rfl⟩, rfl⟩
  refine wp_skip (hKK _ _ ?_)
  clear hKK KK
  refine wp_region_seq (fun K hK => ?_)
  refine wpl_op rfl (Ex_move (by conv => lhs; whnf)) ?_
  refine wpl_op rfl (Ex_move (by conv => lhs; whnf)) ?_
  refine wpl_op rfl (Ex_len Try.underlying22 rfl) ?_
  refine wpl_op rfl (Ex_addw rfl rfl) ?_
  refine wpl_op rfl (Ex_assign (by conv => lhs; whnf)) ?_
  refine wpl_nil (hK _ _ ?_)
  clear hK K
  refine wp_seq_k (fun KK hKK => ?_)
  refine wp_region_seq (fun K hK => ?_)
  refine wpl_op rfl (Ex_move (by conv => lhs; whnf)) ?_
  refine wpl_op rfl (Ex_gtr rfl rfl rfl) ?_
  refine wpl_nil (hK _ _ ?_)
  clear hK K
  refine wp_if rfl (fun ht => ?_) (fun hf => ?_)
  · clear hKK
    refine wp_region_seq (fun K hK => ?_)
    refine wpl_op rfl (Ex_assign (by conv => lhs; whnf)) ?_
    refine wpl_nil (hK _ _ ?_)
    clear hK K
    refine wp_ret ?_
    repeat (first | refine out_block ?_ | refine out_then ?_)
    refine ret_tmp Try.results21 ⟨⟨_, rfl⟩, rfl⟩
  refine wp_skip (hKK _ _ ?_)
  clear hKK KK
  refine wp_region_seq (fun K hK => ?_)
  refine wpl_op rfl (Ex_assign (by conv => lhs; whnf)) ?_
  refine wpl_nil (hK _ _ ?_)
  clear hK K
  refine wp_ret ?_
  repeat (first | refine out_block ?_ | refine out_then ?_)
  refine ret_tmp Try.results21 ⟨⟨_, rfl⟩, rfl⟩

theorem kind_ret (p : Addr) (n k : Int) (b : Bool) (w : World) : Ret Try.prog 11 #[.agg (amt p n k b).toArray] w fun v w' => v = .int .i64 k ∧ Below w.heap.size w w' := by
  refine Ret.of_body (vs := [.agg (amt p n k b).toArray]) Try.func11 rfl Try.ntmps11 rfl ?_
  refine wp_region_seq (fun K hK => ?_)
  refine wpl_op rfl (Ex_box (by conv => lhs; whnf)) ?_
  refine wpl_op rfl (Ex_assign (by conv => lhs; whnf)) ?_
  refine wpl_nil (hK _ _ ?_)
  clear hK K
  refine wp_region_seq (fun K hK => ?_)
  refine wpl_op rfl (Ex_field fld33_5 rfl) ?_
  refine wpl_op rfl (Ex_load one3 rfl (cell_at (heap_new w _) rfl)) ?_
  refine wpl_op rfl (Ex_assign (by conv => lhs; whnf)) ?_
  refine wpl_nil (hK _ _ ?_)
  clear hK K
  refine wp_ret ?_
  repeat (first | refine out_block ?_ | refine out_then ?_)
  refine ret_tmp Try.results11 ⟨rfl, (Below.refl _ _).alloc (Nat.le_refl _) _⟩

theorem want_ret (p : Addr) (n k : Int) (b : Bool) (w : World) : Ret Try.prog 12 #[.agg (amt p n k b).toArray] w fun v w' => v = .int .i64 n ∧ Below w.heap.size w w' := by
  refine Ret.of_body (vs := [.agg (amt p n k b).toArray]) Try.func12 rfl Try.ntmps12 rfl ?_
  refine wp_region_seq (fun K hK => ?_)
  refine wpl_op rfl (Ex_box (by conv => lhs; whnf)) ?_
  refine wpl_op rfl (Ex_assign (by conv => lhs; whnf)) ?_
  refine wpl_nil (hK _ _ ?_)
  clear hK K
  refine wp_region_seq (fun K hK => ?_)
  refine wpl_op rfl (Ex_field fld33_1 rfl) ?_
  refine wpl_op rfl (Ex_load one3 rfl (cell_at (heap_new w _) rfl)) ?_
  refine wpl_op rfl (Ex_assign (by conv => lhs; whnf)) ?_
  refine wpl_nil (hK _ _ ?_)
  clear hK K
  refine wp_ret ?_
  repeat (first | refine out_block ?_ | refine out_then ?_)
  refine ret_tmp Try.results12 ⟨rfl, (Below.refl _ _).alloc (Nat.le_refl _) _⟩

theorem units_ret (p : Addr) (n k : Int) (b : Bool) (w : World) : Ret Try.prog 13 #[.agg (amt p n k b).toArray] w fun v w' => v = .pointer (some p) ∧ Below w.heap.size w w' := by
  refine Ret.of_body (vs := [.agg (amt p n k b).toArray]) Try.func13 rfl Try.ntmps13 rfl ?_
  refine wp_region_seq (fun K hK => ?_)
  refine wpl_op rfl (Ex_box (by conv => lhs; whnf)) ?_
  refine wpl_op rfl (Ex_assign (by conv => lhs; whnf)) ?_
  refine wpl_nil (hK _ _ ?_)
  clear hK K
  refine wp_region_seq (fun K hK => ?_)
  refine wpl_op rfl (Ex_field fld33_0 rfl) ?_
  refine wpl_op rfl (Ex_load one30 rfl (cell_at (heap_new w _) rfl)) ?_
  refine wpl_op rfl (Ex_assign (by conv => lhs; whnf)) ?_
  refine wpl_nil (hK _ _ ?_)
  clear hK K
  refine wp_ret ?_
  repeat (first | refine out_block ?_ | refine out_then ?_)
  refine ret_tmp Try.results13 ⟨rfl, (Below.refl _ _).alloc (Nat.le_refl _) _⟩

theorem linked_ret (p : Addr) (n k : Int) (b : Bool) (w : World) : Ret Try.prog 15 #[.agg (amt p n k b).toArray] w fun v w' => v = .bool b ∧ Below w.heap.size w w' := by
  refine Ret.of_body (vs := [.agg (amt p n k b).toArray]) Try.func15 rfl Try.ntmps15 rfl ?_
  refine wp_region_seq (fun K hK => ?_)
  refine wpl_op rfl (Ex_box (by conv => lhs; whnf)) ?_
  refine wpl_op rfl (Ex_assign (by conv => lhs; whnf)) ?_
  refine wpl_nil (hK _ _ ?_)
  clear hK K
  refine wp_region_seq (fun K hK => ?_)
  refine wpl_op rfl (Ex_field fld33_6 rfl) ?_
  refine wpl_op rfl (Ex_load one4 rfl (cell_at (heap_new w _) rfl)) ?_
  refine wpl_op rfl (Ex_assign (by conv => lhs; whnf)) ?_
  refine wpl_nil (hK _ _ ?_)
  clear hK K
  refine wp_ret ?_
  repeat (first | refine out_block ?_ | refine out_then ?_)
  refine ret_tmp Try.results15 ⟨rfl, (Below.refl _ _).alloc (Nat.le_refl _) _⟩

theorem reused_ret (p : Addr) (n k : Int) (b : Bool) (w : World) : Ret Try.prog 16 #[.agg (amt p n k b).toArray] w fun v w' => v = .slice none 0 0 ∧ Below w.heap.size w w' := by
  refine Ret.of_body (vs := [.agg (amt p n k b).toArray]) Try.func16 rfl Try.ntmps16 rfl ?_
  refine wp_region_seq (fun K hK => ?_)
  refine wpl_op rfl (Ex_box (by conv => lhs; whnf)) ?_
  refine wpl_op rfl (Ex_assign (by conv => lhs; whnf)) ?_
  refine wpl_nil (hK _ _ ?_)
  clear hK K
  refine wp_region_seq (fun K hK => ?_)
  refine wpl_op rfl (Ex_field fld33_2 rfl) ?_
  refine wpl_op rfl (Ex_load one22 rfl (cell_at (heap_new w _) rfl)) ?_
  refine wpl_op rfl (Ex_assign (by conv => lhs; whnf)) ?_
  refine wpl_nil (hK _ _ ?_)
  clear hK K
  refine wp_ret ?_
  repeat (first | refine out_block ?_ | refine out_then ?_)
  refine ret_tmp Try.results16 ⟨rfl, (Below.refl _ _).alloc (Nat.le_refl _) _⟩

theorem among_ret (p : Addr) (n k : Int) (b : Bool) (w : World) : Ret Try.prog 17 #[.agg (amt p n k b).toArray] w fun v w' => v = .slice none 0 0 ∧ Below w.heap.size w w' := by
  refine Ret.of_body (vs := [.agg (amt p n k b).toArray]) Try.func17 rfl Try.ntmps17 rfl ?_
  refine wp_region_seq (fun K hK => ?_)
  refine wpl_op rfl (Ex_box (by conv => lhs; whnf)) ?_
  refine wpl_op rfl (Ex_assign (by conv => lhs; whnf)) ?_
  refine wpl_nil (hK _ _ ?_)
  clear hK K
  refine wp_region_seq (fun K hK => ?_)
  refine wpl_op rfl (Ex_field fld33_3 rfl) ?_
  refine wpl_op rfl (Ex_load one22 rfl (cell_at (heap_new w _) rfl)) ?_
  refine wpl_op rfl (Ex_assign (by conv => lhs; whnf)) ?_
  refine wpl_nil (hK _ _ ?_)
  clear hK K
  refine wp_ret ?_
  repeat (first | refine out_block ?_ | refine out_then ?_)
  refine ret_tmp Try.results17 ⟨rfl, (Below.refl _ _).alloc (Nat.le_refl _) _⟩

theorem groups_ret (p : Addr) (n k : Int) (b : Bool) (w : World) : Ret Try.prog 18 #[.agg (amt p n k b).toArray] w fun v w' => v = .pointer none ∧ Below w.heap.size w w' := by
  refine Ret.of_body (vs := [.agg (amt p n k b).toArray]) Try.func18 rfl Try.ntmps18 rfl ?_
  refine wp_region_seq (fun K hK => ?_)
  refine wpl_op rfl (Ex_box (by conv => lhs; whnf)) ?_
  refine wpl_op rfl (Ex_assign (by conv => lhs; whnf)) ?_
  refine wpl_nil (hK _ _ ?_)
  clear hK K
  refine wp_region_seq (fun K hK => ?_)
  refine wpl_op rfl (Ex_field fld33_4 rfl) ?_
  refine wpl_op rfl (Ex_load one24 rfl (cell_at (heap_new w _) rfl)) ?_
  refine wpl_op rfl (Ex_assign (by conv => lhs; whnf)) ?_
  refine wpl_nil (hK _ _ ?_)
  clear hK K
  refine wp_ret ?_
  repeat (first | refine out_block ?_ | refine out_then ?_)
  refine ret_tmp Try.results18 ⟨rfl, (Below.refl _ _).alloc (Nat.le_refl _) _⟩

theorem fewest_ret (p : Addr) (n k : Int) (b : Bool) (w : World) : Ret Try.prog 19 #[.agg (amt p n k b).toArray] w fun v w' => v = .int .i64 0 ∧ Below w.heap.size w w' := by
  refine Ret.of_body (vs := [.agg (amt p n k b).toArray]) Try.func19 rfl Try.ntmps19 rfl ?_
  refine wp_region_seq (fun K hK => ?_)
  refine wpl_op rfl (Ex_box (by conv => lhs; whnf)) ?_
  refine wpl_op rfl (Ex_assign (by conv => lhs; whnf)) ?_
  refine wpl_nil (hK _ _ ?_)
  clear hK K
  refine wp_region_seq (fun K hK => ?_)
  refine wpl_op rfl (Ex_field fld33_7 rfl) ?_
  refine wpl_op rfl (Ex_load one3 rfl (cell_at (heap_new w _) rfl)) ?_
  refine wpl_op rfl (Ex_assign (by conv => lhs; whnf)) ?_
  refine wpl_nil (hK _ _ ?_)
  clear hK K
  refine wp_ret ?_
  repeat (first | refine out_block ?_ | refine out_then ?_)
  refine ret_tmp Try.results19 ⟨rfl, (Below.refl _ _).alloc (Nat.le_refl _) _⟩

theorem sockets_ret (p : Addr) (n k : Int) (b : Bool) (w : World) : Ret Try.prog 20 #[.agg (amt p n k b).toArray] w fun v w' => v = .pointer none ∧ Below w.heap.size w w' := by
  refine Ret.of_body (vs := [.agg (amt p n k b).toArray]) Try.func20 rfl Try.ntmps20 rfl ?_
  refine wp_region_seq (fun K hK => ?_)
  refine wpl_op rfl (Ex_box (by conv => lhs; whnf)) ?_
  refine wpl_op rfl (Ex_assign (by conv => lhs; whnf)) ?_
  refine wpl_nil (hK _ _ ?_)
  clear hK K
  refine wp_region_seq (fun K hK => ?_)
  refine wpl_op rfl (Ex_field fld33_8 rfl) ?_
  refine wpl_op rfl (Ex_load one31 rfl (cell_at (heap_new w _) rfl)) ?_
  refine wpl_op rfl (Ex_assign (by conv => lhs; whnf)) ?_
  refine wpl_nil (hK _ _ ?_)
  clear hK K
  refine wp_ret ?_
  repeat (first | refine out_block ?_ | refine out_then ?_)
  refine ret_tmp Try.results20 ⟨rfl, (Below.refl _ _).alloc (Nat.le_refl _) _⟩

/-- A view of n kinds: the tally of kind k lies at p k. -/
def View (w : World) (g n : Nat) (p : Nat → Addr) : Prop :=
  ∃ h o, w.cell? ⟨g, 4, none⟩ = some (.pointer (some ⟨h, 0, none⟩)) ∧ w.cell? ⟨h, 0, none⟩ = some (.slice (some ⟨o, 0, none⟩) n n) ∧ ∀ k, k < n → w.cell? ⟨o, k, none⟩ = some (.pointer (some (p k)))
theorem View.later {w w' : World} {g n : Nat} {p : Nat → Addr} (h : View w g n p) (hb : Below w.heap.size w w') : View w' g n p := by
  obtain ⟨x, o, h1, h2, h3⟩ := h
  exact ⟨x, o, cell_later hb h1, cell_later hb h2, fun k hk => cell_later hb (h3 k hk)⟩

theorem tally_ret (g n k : Nat) (p : Nat → Addr) (w : World) (hv : View w g n p) (hk : k < n) : Ret Try.prog 14 #[.pointer (some ⟨g, 0, none⟩), .int .i64 k] w fun v w' => v = .pointer (some (p k)) ∧ w' = w := by
  obtain ⟨x, o, h1, h2, h3⟩ := hv
  refine Ret.of_body (vs := [.pointer (some ⟨g, 0, none⟩), .int .i64 k]) Try.func14 rfl Try.ntmps14 rfl ?_
  refine wp_region_seq (fun K hK => ?_)
  refine wpl_op rfl (Ex_assign (by conv => lhs; whnf)) ?_
  refine wpl_nil (hK _ _ ?_)
  clear hK K
  refine wp_region_seq (fun K hK => ?_)
  refine wpl_op rfl (Ex_move (by conv => lhs; whnf)) ?_
  refine wpl_op rfl (Ex_nil rfl) ?_
  refine wpl_op rfl (Ex_field fld73_4 rfl) ?_
  refine wpl_op rfl (Ex_load one63 rfl (by rw [Nat.zero_add]; exact h1)) ?_
  refine wpl_op rfl (Ex_nil rfl) ?_
  refine wpl_op rfl (Ex_field fld65_0 rfl) ?_
  refine wpl_op rfl (Ex_load one50 rfl h2) ?_
  refine wpl_op rfl (Ex_move (by conv => lhs; whnf)) ?_
  refine wpl_op rfl (Ex_index1 Try.underlying50 size_50 rfl rfl hk) ?_
  refine wpl_op rfl (Ex_load one30 rfl (by rw [Nat.zero_add]; exact h3 k hk)) ?_
  refine wpl_op rfl (Ex_assign (by conv => lhs; whnf)) ?_
  refine wpl_nil (hK _ _ ?_)
  clear hK K
  refine wp_ret ?_
  repeat (first | refine out_block ?_ | refine out_then ?_)
  refine ret_tmp Try.results14 ⟨rfl, rfl⟩

theorem open_ret (g n k : Nat) (p : Nat → Addr) (w : World) (hv : View w g n p) (hk : k < n) : Ret Try.prog 33 #[.pointer (some ⟨g, 0, none⟩), .int .i64 k] w fun v w' => v = .pointer (some (p k)) ∧ w' = w := by
  obtain ⟨x, o, h1, h2, h3⟩ := hv
  refine Ret.of_body (vs := [.pointer (some ⟨g, 0, none⟩), .int .i64 k]) Try.func33 rfl Try.ntmps33 rfl ?_
  refine wp_region_seq (fun K hK => ?_)
  refine wpl_op rfl (Ex_assign (by conv => lhs; whnf)) ?_
  refine wpl_nil (hK _ _ ?_)
  clear hK K
  refine wp_region_seq (fun K hK => ?_)
  refine wpl_op rfl (Ex_move (by conv => lhs; whnf)) ?_
  refine wpl_op rfl (Ex_nil rfl) ?_
  refine wpl_op rfl (Ex_field fld73_4 rfl) ?_
  refine wpl_op rfl (Ex_load one63 rfl (by rw [Nat.zero_add]; exact h1)) ?_
  refine wpl_op rfl (Ex_nil rfl) ?_
  refine wpl_op rfl (Ex_field fld65_0 rfl) ?_
  refine wpl_op rfl (Ex_load one50 rfl h2) ?_
  refine wpl_op rfl (Ex_move (by conv => lhs; whnf)) ?_
  refine wpl_op rfl (Ex_index1 Try.underlying50 size_50 rfl rfl hk) ?_
  refine wpl_op rfl (Ex_load one30 rfl (by rw [Nat.zero_add]; exact h3 k hk)) ?_
  refine wpl_op rfl (Ex_assign (by conv => lhs; whnf)) ?_
  refine wpl_nil (hK _ _ ?_)
  clear hK K
  refine wp_ret ?_
  repeat (first | refine out_block ?_ | refine out_then ?_)
  refine ret_tmp Try.results33 ⟨rfl, rfl⟩

theorem newView_ret (n : Nat) (w : World) (hn : n ≤ 1000000) : Ret Try.prog 8 #[.int .i64 n] w fun v w' => ∃ g p, v = .pointer (some ⟨g, 0, none⟩) ∧ View w' g n p ∧ Below w.heap.size w w' := by
  obtain ⟨cs62, h62⟩ := bld62
  refine Ret.of_body (vs := [.int .i64 n]) Try.func8 rfl Try.ntmps8 rfl ?_
  refine wp_region_seq (fun K hK => ?_)
  refine wpl_op rfl (Ex_assign (by conv => lhs; whnf)) ?_
  refine wpl_nil (hK _ _ ?_)
  clear hK K
  refine wp_region_seq (fun K hK => ?_)
  refine wpl_op rfl (Ex_move (by conv => lhs; whnf)) ?_
  refine wpl_op rfl (Ex_mk Try.underlying50 info30 rfl rfl (by omega) (by omega)) ?_
  refine wpl_op rfl (Ex_assign (by conv => lhs; whnf)) ?_
  refine wpl_nil (hK _ _ ?_)
  clear hK K
  refine wp_seq_k (fun K hK => ?_)
  refine wp_region_seq (fun K hK => ?_)
  refine wpl_op rfl (Ex_assign (by conv => lhs; whnf)) ?_
  refine wpl_nil (hK _ _ ?_)
  clear hK K
  refine wp_block ?_
  refine wp_loop_st (fun k : Nat => [(0, .int .i64 n), (3, .slice (some ⟨w.heap.size, 0, none⟩) n n), (4, .int .i64 k)])
    (fun k w' => Below w.heap.size w w' ∧ k ≤ n ∧ ∃ p : Nat → Addr, Own w' w.heap.size 30 n k (fun i => .pointer (some (p i)))) (fun k => n - k) 0 ⟨rfl, rfl, rfl, trivial⟩
    ⟨(Below.refl _ _).alloc (Nat.le_refl _) _, Nat.zero_le _, fun _ => ⟨0, 0, none⟩, by rw [Nat.mul_one]; exact Own.made w _ n _ _⟩ ?_
  rintro k u w' ⟨hb, hk, p, hown⟩ R hR
  by_cases hlt : k < n
  · have hlt0 := hown.lt
    have hown' := hown.below ((Below.refl w'.heap.size w').alloc (Nat.le_refl _) (.cells (Value.agg cs62).cells 62)) hlt0
    obtain ⟨old, hold⟩ := hown'.some hlt
    refine wp_seq_k (fun KK hKK => ?_)
    refine wp_region_seq (fun K hK => ?_)
    refine wpl_op rfl (Ex_move (by conv => lhs; whnf)) ?_
    refine wpl_op rfl (Ex_move (by conv => lhs; whnf)) ?_
    refine wpl_op rfl (Ex_lss rfl rfl (decide_eq_true (by omega))) ?_
    refine wpl_nil (hK _ _ ?_)
    clear hK K
    refine wp_if_true rfl ?_
    refine wp_skip (hKK _ _ ?_)
    clear hKK KK
    refine wp_seq_k (fun K' hK' => ?_)
    refine wp_block ?_
    refine wp_region_last ?_
    refine wpl_op rfl (Ex_move (by conv => lhs; whnf)) ?_
    refine wpl_op rfl (Ex_move (by conv => lhs; whnf)) ?_
    refine wpl_op rfl (Ex_build (pv := []) rfl (h62 _)) ?_
    refine wpl_op rfl (Ex_box (by conv => lhs; whnf)) ?_
    refine wpl_op rfl (Ex_index1 Try.underlying50 size_50 rfl rfl hlt) ?_
    refine wpl_op rfl (Ex_store one30 rfl (by conv => lhs; whnf) rfl (by rw [Nat.zero_add]; exact hold) hown'.open_) ?_
    refine wpl_nil ?_
    refine hK' _ _ ?_
    refine wp_region_last ?_
    refine wpl_op rfl (Ex_move (by conv => lhs; whnf)) ?_
    refine wpl_op rfl (Ex_inc rfl rfl (by omega)) ?_
    refine wpl_op rfl (Ex_assign (by conv => lhs; whnf)) ?_
    refine wpl_nil ?_
    refine hR _ _ _ (k + 1) ⟨rfl, rfl, rfl, trivial⟩ ⟨(hb.alloc hb.size _).setCell (Nat.le_refl _) _, by omega, fun i => if i = k then ⟨w'.heap.size, 0, none⟩ else p i, ?_⟩ (by omega)
    rw [Nat.zero_add]
    exact hown'.set hlt (fun j hj => by
      by_cases e : j = k
      · exact .inl ⟨e, by simp [e]⟩
      · exact .inr ⟨e, by omega, by simp [e]⟩)
  · have hk' : k = n := by omega
    subst hk'
    refine wp_seq_k (fun KK hKK => ?_)
    refine wp_region_seq (fun K hK => ?_)
    refine wpl_op rfl (Ex_move (by conv => lhs; whnf)) ?_
    refine wpl_op rfl (Ex_move (by conv => lhs; whnf)) ?_
    refine wpl_op rfl (Ex_lss rfl rfl (decide_eq_false (by omega))) ?_
    refine wpl_nil (hK _ _ ?_)
    clear hK K
    refine wp_if_false rfl ?_
    refine wp_exit ?_
    clear hKK
    refine hK _ _ ?_
    obtain ⟨cs65, h65, g65⟩ := bld65 (some ⟨w.heap.size, 0, none⟩) k k
    obtain ⟨cs73, h73, g73⟩ := bld73 (some ⟨w'.heap.size, 0, none⟩)
    refine wp_region_seq (fun K hK => ?_)
    refine wpl_op rfl (Ex_move (by conv => lhs; whnf)) ?_
    refine wpl_op rfl (Ex_build (pv := [(0, .slice (some ⟨w.heap.size, 0, none⟩) k k)]) rfl (h65 _)) ?_
    refine wpl_op rfl (Ex_box (by conv => lhs; whnf)) ?_
    refine wpl_op rfl (Ex_build (pv := [(4, .pointer (some ⟨w'.heap.size, 0, none⟩))]) rfl (h73 _)) ?_
    refine wpl_op rfl (Ex_box (by conv => lhs; whnf)) ?_
    refine wpl_op rfl (Ex_assign (by conv => lhs; whnf)) ?_
    refine wpl_nil (hK _ _ ?_)
    clear hK K
    refine wp_ret ?_
    repeat (first | refine out_block ?_ | refine out_then ?_)
    refine ret_tmp Try.results8 ⟨_, p, rfl, ?_, ?_⟩
    · have b1 : Below w'.heap.size w' (w'.alloc (.cells (Value.agg cs65).cells 65)) := (Below.refl _ _).alloc (Nat.le_refl _) _
      have b2 : Below (w'.alloc (.cells (Value.agg cs65).cells 65)).heap.size (w'.alloc (.cells (Value.agg cs65).cells 65)) ((w'.alloc (.cells (Value.agg cs65).cells 65)).alloc (.cells (Value.agg cs73).cells 73)) := (Below.refl _ _).alloc (Nat.le_refl _) _
      refine ⟨w'.heap.size, w.heap.size, cell_at (heap_new _ _) g73, cell_later b2 (cell_at (heap_new w' _) g65), fun i hi => cell_later b2 (cell_later b1 (hown.cell hi))⟩
    · exact (hb.alloc hb.size _).alloc (Nat.le_trans hb.size (by simp)) _

def cnt (z : Nat → Int) : Nat → Nat
  | 0 => 0
  | k + 1 => if 0 < z k then cnt z k + 1 else cnt z k
theorem cnt_le (z : Nat → Int) : ∀ k, cnt z k ≤ k
  | 0 => Nat.le_refl _
  | k + 1 => by have := cnt_le z k; unfold cnt; split <;> omega
theorem cnt_yes {z : Nat → Int} {k : Nat} (h : 0 < z k) : cnt z (k + 1) = cnt z k + 1 := by simp [cnt, h]
theorem cnt_no {z : Nat → Int} {k : Nat} (h : ¬ 0 < z k) : cnt z (k + 1) = cnt z k := by simp [cnt, h]
theorem count_ret (a0 : Option Addr) (n c0 : Nat) (z : Nat → Int) (w : World) (h0 : IntsAt w a0 n z) (hn : n ≤ 1000000) : Ret Try.prog 10 #[.slice a0 n c0] w fun v w' => v = .int .i64 (cnt z n : Int) ∧ w' = w := by
  refine Ret.of_body (vs := [.slice a0 n c0]) Try.func10 rfl Try.ntmps10 rfl ?_
  refine wp_region_seq (fun K hK => ?_)
  refine wpl_op rfl (Ex_assign (by conv => lhs; whnf)) ?_
  refine wpl_nil (hK _ _ ?_)
  clear hK K
  refine wp_region_seq (fun K hK => ?_)
  refine wpl_op rfl (Ex_assign (by conv => lhs; whnf)) ?_
  refine wpl_nil (hK _ _ ?_)
  clear hK K
  refine wp_seq_k (fun K hK => ?_)
  refine wp_region_seq (fun K hK => ?_)
  refine wpl_op rfl (Ex_assign (by conv => lhs; whnf)) ?_
  refine wpl_nil (hK _ _ ?_)
  clear hK K
  refine wp_block ?_
  refine wp_loop_st (fun k : Nat => [(0, .slice a0 n c0), (3, .int .i64 (cnt z k : Int)), (4, .int .i64 k)])
    (fun k w' => w' = w ∧ k ≤ n) (fun k => n - k) 0 ⟨rfl, rfl, rfl, trivial⟩ ⟨rfl, Nat.zero_le _⟩ ?_
  rintro k u w' ⟨rfl, hk⟩ R hR
  have hcl := cnt_le z k
  by_cases hlt : k < n
  · obtain ⟨b0, o0, rfl, hc0⟩ := h0.get hlt
    refine wp_seq_k (fun KK hKK => ?_)
    refine wp_region_seq (fun K hK => ?_)
    refine wpl_op rfl (Ex_move (by conv => lhs; whnf)) ?_
    refine wpl_op rfl (Ex_move (by conv => lhs; whnf)) ?_
    refine wpl_op rfl (Ex_len Try.underlying22 rfl) ?_
    refine wpl_op rfl (Ex_lss rfl rfl (decide_eq_true (by omega))) ?_
    refine wpl_nil (hK _ _ ?_)
    clear hK K
    refine wp_if_true rfl ?_
    refine wp_skip (hKK _ _ ?_)
    clear hKK KK
    refine wp_seq_k (fun K' hK' => ?_)
    refine wp_block ?_
    by_cases hp : 0 < z k
    · skip
      refine wp_region_seq (fun K hK => ?_)
      refine wpl_op rfl (Ex_move (by conv => lhs; whnf)) ?_
      refine wpl_op rfl (Ex_move (by conv => lhs; whnf)) ?_
      refine wpl_op rfl (Ex_index1 Try.underlying22 size_22 rfl rfl hlt) ?_
      refine wpl_op rfl (Ex_load one3 rfl (hc0 k hlt)) ?_
      refine wpl_op rfl (Ex_gtr rfl rfl (decide_eq_true hp)) ?_
      refine wpl_nil (hK _ _ ?_)
      clear hK K
      refine wp_if_true rfl ?_
      refine wp_region_last ?_
      refine wpl_op rfl (Ex_move (by conv => lhs; whnf)) ?_
      refine wpl_op rfl (Ex_inc rfl rfl (by omega)) ?_
      refine wpl_op rfl (Ex_assign (by conv => lhs; whnf)) ?_
      refine wpl_nil ?_
      refine hK' _ _ ?_
      refine wp_region_last ?_
      refine wpl_op rfl (Ex_move (by conv => lhs; whnf)) ?_
      refine wpl_op rfl (Ex_inc rfl rfl (by omega)) ?_
      refine wpl_op rfl (Ex_assign (by conv => lhs; whnf)) ?_
      refine wpl_nil ?_
      exact hR _ _ _ (k + 1) ⟨rfl, congrArg (fun m : Nat => Value.int .i64 (m : Int)) (cnt_yes hp).symm, rfl, trivial⟩ ⟨rfl, by omega⟩ (by omega)
    · skip
      refine wp_region_seq (fun K hK => ?_)
      refine wpl_op rfl (Ex_move (by conv => lhs; whnf)) ?_
      refine wpl_op rfl (Ex_move (by conv => lhs; whnf)) ?_
      refine wpl_op rfl (Ex_index1 Try.underlying22 size_22 rfl rfl hlt) ?_
      refine wpl_op rfl (Ex_load one3 rfl (hc0 k hlt)) ?_
      refine wpl_op rfl (Ex_gtr rfl rfl (decide_eq_false hp)) ?_
      refine wpl_nil (hK _ _ ?_)
      clear hK K
      refine wp_if_false rfl ?_
      refine wp_skip ?_
      refine hK' _ _ ?_
      refine wp_region_last ?_
      refine wpl_op rfl (Ex_move (by conv => lhs; whnf)) ?_
      refine wpl_op rfl (Ex_inc rfl rfl (by omega)) ?_
      refine wpl_op rfl (Ex_assign (by conv => lhs; whnf)) ?_
      refine wpl_nil ?_
      exact hR _ _ _ (k + 1) ⟨rfl, congrArg (fun m : Nat => Value.int .i64 (m : Int)) (cnt_no hp).symm, rfl, trivial⟩ ⟨rfl, by omega⟩ (by omega)
  · have hk' : k = n := by omega
    subst hk'
    refine wp_seq_k (fun KK hKK => ?_)
    refine wp_region_seq (fun K hK => ?_)
    refine wpl_op rfl (Ex_move (by conv => lhs; whnf)) ?_
    refine wpl_op rfl (Ex_move (by conv => lhs; whnf)) ?_
    refine wpl_op rfl (Ex_len Try.underlying22 rfl) ?_
    refine wpl_op rfl (Ex_lss rfl rfl (decide_eq_false (by omega))) ?_
    refine wpl_nil (hK _ _ ?_)
    clear hK K
    refine wp_if_false rfl ?_
    refine wp_exit ?_
    clear hKK
    refine hK _ _ ?_
    refine wp_region_seq (fun K hK => ?_)
    refine wpl_op rfl (Ex_move (by conv => lhs; whnf)) ?_
    refine wpl_op rfl (Ex_assign (by conv => lhs; whnf)) ?_
    refine wpl_nil (hK _ _ ?_)
    clear hK K
    refine wp_ret ?_
    repeat (first | refine out_block ?_ | refine out_then ?_)
    refine ret_tmp Try.results10 ⟨rfl, rfl⟩
end Go.Proofs.Qxb6613881a.OA
