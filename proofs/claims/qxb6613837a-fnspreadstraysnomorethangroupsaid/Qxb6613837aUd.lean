import Derived.Test.Qxb6613837aUc
namespace Go.Proofs.Qxb6613837a.Sp
open Go.Fr Go.RowKit Go.Sp

theorem one37 : One Try.prog 37 := ⟨fun w => by simp [go_sem], fun w => by simp [go_sem]⟩
theorem one43 : One Try.prog 43 := ⟨fun w => by simp [go_sem], fun w => by simp [go_sem]⟩
theorem bld41e (w : World) : (Instr.build 41 #[]).run Try.prog w = .ok (.agg #[.int .i64 0, .int .i64 0]) w := by simp [go_sem]
/-- The memory that spread's closures share. -/
structure Sm (w : World) (k hx pa ps pp pb c1 c0 : Nat) (a1 a0 : Option Addr) (h : Nat → ByteArray) (s p : Nat → Nat) : Prop where
  hb : w.cell? ⟨hx, 0, none⟩ = some (.slice a1 k c1)
  hs : StrsAt w a1 k h
  ca : w.cell? ⟨pa, 0, none⟩ = some (.func (.func 25) #[] #[.pointer (some ⟨hx, 0, none⟩)])
  cs : w.cell? ⟨ps, 0, none⟩ = some (.slice a0 k c0)
  is : IntsAt w a0 k (fun i => (s i : Int))
  cp : w.cell? ⟨pp, 0, none⟩ = some (sl pb k)
  op : Own w pb 3 k k (fun i => .int .i64 (p i : Int))
theorem Sm.later {w w' : World} {k hx pa ps pp pb c1 c0 : Nat} {a1 a0 : Option Addr} {h : Nat → ByteArray} {s p : Nat → Nat} (m : Sm w k hx pa ps pp pb c1 c0 a1 a0 h s p) (hb : Below w.heap.size w w') : Sm w' k hx pa ps pp pb c1 c0 a1 a0 h s p :=
  ⟨cell_later hb m.hb, m.hs.below hb, cell_later hb m.ca, cell_later hb m.cs, m.is.below hb, cell_later hb m.cp, m.op.later hb⟩
def evlo (s p : Nat → Nat) (i : Nat) : Nat := s i / p i
def evhi (s p : Nat → Nat) (i : Nat) : Nat := (s i + p i - 1) / p i
def wlnk (h : Nat → ByteArray) (i j : Nat) : Bool := !same (h i) (h j)
def wlo (h : Nat → ByteArray) (s p : Nat → Nat) (d : Nat) (i j : Nat) : Int := if wlnk h i j then max 0 ((evlo s p i : Int) - d) else 0
def whi (h : Nat → ByteArray) (s p : Nat → Nat) (d most : Nat) (i j : Nat) : Int := if wlnk h i j then min (min (s i : Int) ((evhi s p i : Int) + d)) most else 0
theorem Ex_pred {P : Program} {ρ : Operand → Value} {ty t t' : TypeId} {w : World} {x y : Operand} {m : Nat} (hx : ρ x = .int .i64 (m : Int)) (hy : ρ y = .int .i64 1) (h0 : 0 < m) (h : m ≤ 1000000000) : Ex P ρ (.binOp .sub t x y t') ty w (.int .i64 ((m - 1 : Nat) : Int)) w := by
  have := Ex_sub (P := P) (ρ := ρ) (ty := ty) (t := t) (t' := t') (w := w) hx hy (by omega) (by omega)
  rw [show ((m - 1 : Nat) : Int) = (m : Int) - 1 by omega]; exact this
theorem agg_fresh (w : World) (x y : Int) : Below w.heap.size w ((w.alloc (.cells (Value.agg #[.int .i64 0, .int .i64 0]).cells 41)).setRow w.heap.size ((Value.agg #[.int .i64 0, .int .i64 0]).cells.toList.take 0 ++ [Value.int .i64 x, Value.int .i64 y] ++ (Value.agg #[.int .i64 0, .int .i64 0]).cells.toList.drop (0 + 2)).toArray) := (span_fresh w x y).1


theorem within_ret (k hx pa ps pp pb c1 c0 pd pm : Nat) (a1 a0 : Option Addr) (h : Nat → ByteArray) (s p : Nat → Nat) (d most i j : Nat) (w : World) (m : Sm w k hx pa ps pp pb c1 c0 a1 a0 h s p) (cd : w.cell? ⟨pd, 0, none⟩ = some (.int .i64 (d : Int))) (cm : w.cell? ⟨pm, 0, none⟩ = some (.int .i64 (most : Int)))
    (hi : i < k) (hj : j < k) (hs : ∀ q, q < k → s q ≤ 1000000) (hp : ∀ q, q < k → p q ≤ 1000000) (hd : d ≤ 1000000) (hpos : wlnk h i j = true → 0 < p i) :
    Ret Try.prog 29 #[.int .i64 i, .int .i64 j, .pointer (some ⟨pa, 0, none⟩), .pointer (some ⟨ps, 0, none⟩), .pointer (some ⟨pp, 0, none⟩), .pointer (some ⟨pd, 0, none⟩), .pointer (some ⟨pm, 0, none⟩)] w fun v w' =>
      v = .tuple #[.agg #[.int .i64 (wlo h s p d i j), .int .i64 (whi h s p d most i j)], .bool (wlnk h i j)] ∧ Below w.heap.size w w' := by
  refine Ret.of_body (vs := [.int .i64 i, .int .i64 j, .pointer (some ⟨pa, 0, none⟩), .pointer (some ⟨ps, 0, none⟩), .pointer (some ⟨pp, 0, none⟩), .pointer (some ⟨pd, 0, none⟩), .pointer (some ⟨pm, 0, none⟩)]) Try.func29 rfl Try.ntmps29 rfl ?_
  obtain ⟨b0, o0, rfl, hc⟩ := m.is.get hi
  have hsi := hs i hi
  have hpi := hp i hi
  refine wp_region_seq (fun K hK => ?_)
  refine wpl_op rfl (Ex_alloc zero41) ?_
  refine wpl_op rfl (Ex_assign (by conv => lhs; whnf)) ?_
  refine wpl_nil (hK _ _ ?_)
  clear hK K
  have g1 : Below w.heap.size w (w.alloc (.cells (Value.agg #[.int .i64 0, .int .i64 0]).cells 41)) := (Below.refl _ _).alloc (Nat.le_refl _) _
  refine wp_gen (fun w1 => Below w.heap.size w w1 ∧ w1.heap[w.heap.size]? = some (.cells #[.int .i64 0, .int .i64 0] 41 (0, 0))) ⟨g1, heap_new w _⟩ (fun w1 hg1 => ?_)
  clear g1
  obtain ⟨hb1, hr1⟩ := hg1
  have m1 := m.later hb1
  generalize hrb : w.heap.size = rb at *
  refine wp_seq_k (fun KK hKK => ?_)
  refine wp_region_seq (fun K hK => ?_)
  refine wpl_op rfl (Ex_load one37 rfl m1.ca) ?_
  refine wpl_op rfl (Ex_move (by conv => lhs; whnf)) ?_
  refine wpl_op rfl (Ex_move (by conv => lhs; whnf)) ?_
  refine wpl_call rfl (ExC_closure (cap := [.pointer (some ⟨hx, 0, none⟩)]) ent25 rfl rfl) (apart25_ret hx a1 k c1 i j h _ m1.hb m1.hs hi hj) ?_
  rintro v w2 ⟨rfl, hb2⟩
  refine wpl_op rfl (Ex_not rfl rfl) ?_
  refine wpl_nil (hK _ _ ?_)
  clear hK K
  have hrl := lt_of_heap hr1
  have m2 := m1.later hb2
  have hr2 : w2.heap[rb]? = some (.cells #[.int .i64 0, .int .i64 0] 41 (0, 0)) := by rw [hb2.block rb hrl]; exact hr1
  have cd2 := cell_later hb2 (cell_later (hrb ▸ hb1) cd)
  have cm2 := cell_later hb2 (cell_later (hrb ▸ hb1) cm)
  have hb02 : Below rb w w2 := hb1.trans (hb2.mono (by omega))
  clear hb1 hb2 hr1 m1 m cd cm hrl
  by_cases hl : wlnk h i j = true
  rotate_left
  · have hlf : same (h i) (h j) = true := by unfold wlnk at hl; simpa using hl
    rw [hlf]
    refine wp_if_true rfl ?_
    clear hKK
    refine wp_region_seq (fun K hK => ?_)
    refine wpl_op rfl (Ex_build (pv := []) rfl (bld41e _)) ?_
    refine wpl_op rfl (Ex_storeagg (cs := [.int .i64 0, .int .i64 0]) agg41 rfl rfl rfl rfl hr2 (by decide)) ?_
    refine wpl_op rfl (Ex_assign (by conv => lhs; whnf)) ?_
    refine wpl_nil (hK _ _ ?_)
    clear hK K
    have hr3 := setRow_heap w2 rb _ (#[Value.int .i64 0, Value.int .i64 0].toList.take 0 ++ [Value.int .i64 0, Value.int .i64 0] ++ #[Value.int .i64 0, Value.int .i64 0].toList.drop (0 + 2)).toArray 41 (0, 0) hr2
    refine wp_ret ?_
    repeat (first | refine out_block ?_ | refine out_then ?_)
    refine ret_cell (cs := [.int .i64 0, .int .i64 0]) Try.results29 agg41 rfl rfl (fun q v hv => by rw [Nat.zero_add]; exact cell_at hr3 (by simpa using hv)) ⟨by rw [show wlo h s p d i j = 0 by simp [wlo, hl], show whi h s p d most i j = 0 by simp [whi, hl], show wlnk h i j = false by simpa using hl]; rfl, below_setRow hb02 (Nat.le_refl _) _⟩
  have hlf : same (h i) (h j) = false := by unfold wlnk at hl; simpa using hl
  rw [hlf]
  refine wp_if_false rfl ?_
  refine wp_skip (hKK _ _ ?_)
  clear hKK KK
  have hp0 := hpos hl
  have hc2 : ∀ i, i < k → w2.cell? ⟨b0, o0 + i, none⟩ = some (.int .i64 (s i : Int)) := fun q hq => by
    rcases m2.is with e | ⟨b, o, e, hcc⟩
    · omega
    · simp at e; obtain ⟨rfl, rfl⟩ := e; exact hcc q hq
  have hsc := hc2 i hi
  have hpc := m2.op.c0 hi
  refine wp_draw_seq (by kernel_rfl) (fun w' => w'.cell? ⟨ps, 0, none⟩ = some (.slice (some ⟨b0, o0, none⟩) k c0) ∧ w'.cell? ⟨b0, o0 + i, none⟩ = some (.int .i64 (s i : Int)) ∧ w'.cell? ⟨pp, 0, none⟩ = some (sl pb k) ∧ w'.cell? ⟨pb, 0 + i, none⟩ = some (.int .i64 (p i : Int))) (fun q => Nat.beq q 26) 27 rfl (fun K hK => ?_)
  have hS : w2.drew.cell? ⟨ps, 0, none⟩ = some (.slice (some ⟨b0, o0, none⟩) k c0) ∧ w2.drew.cell? ⟨b0, o0 + i, none⟩ = some (.int .i64 (s i : Int)) ∧ w2.drew.cell? ⟨pp, 0, none⟩ = some (sl pb k) ∧ w2.drew.cell? ⟨pb, 0 + i, none⟩ = some (.int .i64 (p i : Int)) := ⟨m2.cs, hsc, m2.cp, hpc⟩
  refine wpd_take 0 (by kernel_rfl) rfl hS (fun w hw => Ex_load one22 rfl hw.1) (by intro h; cases h) ?_
  refine wpd_pure 1 (by kernel_rfl) rfl (fun w => Ex_move (by conv => lhs; whnf)) (by intro h; cases h) ?_
  refine wpd_pure 2 (by kernel_rfl) rfl (fun w => Ex_index1 Try.underlying22 size_22 rfl rfl hi) (by intro h; cases h) ?_
  refine wpd_take 3 (by kernel_rfl) rfl hS (fun w hw => Ex_load one3 rfl hw.2.1) (by intro h; cases h) ?_
  refine wpd_take 4 (by kernel_rfl) rfl hS (fun w hw => Ex_load one22 rfl hw.2.2.1) (by intro h; cases h) ?_
  refine wpd_pure 5 (by kernel_rfl) rfl (fun w => Ex_move (by conv => lhs; whnf)) (by intro h; cases h) ?_
  refine wpd_pure 6 (by kernel_rfl) rfl (fun w => Ex_index1 Try.underlying22 size_22 rfl rfl hi) (by intro h; cases h) ?_
  refine wpd_take 7 (by kernel_rfl) rfl hS (fun w hw => Ex_load one3 rfl hw.2.2.2) (by intro h; cases h) ?_
  refine wpd_pure 8 (by kernel_rfl) rfl (fun w => Ex_quo rfl rfl hp0 (by omega)) (by intro h; cases h) ?_
  refine wpd_take 9 (by kernel_rfl) rfl hS (fun w hw => Ex_load one22 rfl hw.1) (by intro h; cases h) ?_
  refine wpd_pure 10 (by kernel_rfl) rfl (fun w => Ex_move (by conv => lhs; whnf)) (by intro h; cases h) ?_
  refine wpd_pure 11 (by kernel_rfl) rfl (fun w => Ex_index1 Try.underlying22 size_22 rfl rfl hi) (by intro h; cases h) ?_
  refine wpd_take 12 (by kernel_rfl) rfl hS (fun w hw => Ex_load one3 rfl hw.2.1) (by intro h; cases h) ?_
  refine wpd_take 13 (by kernel_rfl) rfl hS (fun w hw => Ex_load one22 rfl hw.2.2.1) (by intro h; cases h) ?_
  refine wpd_pure 14 (by kernel_rfl) rfl (fun w => Ex_move (by conv => lhs; whnf)) (by intro h; cases h) ?_
  refine wpd_pure 15 (by kernel_rfl) rfl (fun w => Ex_index1 Try.underlying22 size_22 rfl rfl hi) (by intro h; cases h) ?_
  refine wpd_take 16 (by kernel_rfl) rfl hS (fun w hw => Ex_load one3 rfl hw.2.2.2) (by intro h; cases h) ?_
  refine wpd_pure 17 (by kernel_rfl) rfl (fun w => Ex_plus rfl rfl (by omega)) (by intro h; cases h) ?_
  refine wpd_pure 18 (by kernel_rfl) rfl (fun w => Ex_pred rfl rfl (by omega) (by omega)) (by intro h; cases h) ?_
  refine wpd_take 19 (by kernel_rfl) rfl hS (fun w hw => Ex_load one22 rfl hw.2.2.1) (by intro h; cases h) ?_
  refine wpd_pure 20 (by kernel_rfl) rfl (fun w => Ex_move (by conv => lhs; whnf)) (by intro h; cases h) ?_
  refine wpd_pure 21 (by kernel_rfl) rfl (fun w => Ex_index1 Try.underlying22 size_22 rfl rfl hi) (by intro h; cases h) ?_
  refine wpd_take 22 (by kernel_rfl) rfl hS (fun w hw => Ex_load one3 rfl hw.2.2.2) (by intro h; cases h) ?_
  refine wpd_pure 23 (by kernel_rfl) rfl (fun w => Ex_quo rfl rfl hp0 (by omega)) (by intro h; cases h) ?_
  refine wpd_pure 24 (by kernel_rfl) rfl (fun w => Ex_build (pv := [(0, .int .i64 (evlo s p i : Int)), (1, .int .i64 (evhi s p i : Int))]) rfl (bld41 _ _ _)) (by intro h; cases h) ?_
  refine wpd_one 25 (by kernel_rfl) rfl (Ex_alloc zero41) (fun hs _ => ⟨(Keep.alloc [] _ _).cell hs.1 (by simp), (Keep.alloc [] _ _).cell hs.2.1 (by simp), (Keep.alloc [] _ _).cell hs.2.2.1 (by simp), (Keep.alloc [] _ _).cell hs.2.2.2 (by simp)⟩) ?_
  refine wpd_one 26 (by kernel_rfl) rfl (Ex_storeagg (cs := [.int .i64 (evlo s p i : Int), .int .i64 (evhi s p i : Int)]) agg41 rfl rfl rfl rfl (heap_new _ _) (by decide)) (by intro _ h; cases h) ?_
  refine wpd_nil (by kernel_rfl) (hK _ _ ?_)
  clear hK K
  obtain ⟨hbs, hsb⟩ := span_fresh w2.drew (evlo s p i) (evhi s p i)
  have hbs2 : Below w2.heap.size w2 _ := ⟨hbs.os, hbs.tape, hbs.output, hbs.size, hbs.block⟩
  refine wp_gen (fun w3 => Below w2.heap.size w2 w3 ∧ w3.heap[w2.heap.size]? = some (.cells #[.int .i64 (evlo s p i : Int), .int .i64 (evhi s p i : Int)] 41 (0, 0))) ⟨hbs2, hsb⟩ (fun w3 hg3 => ?_)
  clear hbs hsb hbs2 hS
  obtain ⟨hb3, hsb⟩ := hg3
  have hrl := lt_of_heap hr2
  have hr3 : w3.heap[rb]? = some (.cells #[.int .i64 0, .int .i64 0] 41 (0, 0)) := by rw [hb3.block rb hrl]; exact hr2
  have cd3 := cell_later hb3 cd2
  have cm3 := cell_later hb3 cm2
  have cs3 := cell_later hb3 m2.cs
  have hsc3 := cell_later hb3 hsc
  have hb03 : Below rb w w3 := hb02.trans (hb3.mono (by omega))
  have q0 : w3.cell? ⟨w2.heap.size, 0, none⟩ = some (.int .i64 (evlo s p i : Int)) := cell_at hsb rfl
  have q1 : w3.cell? ⟨w2.heap.size, 1, none⟩ = some (.int .i64 (evhi s p i : Int)) := cell_at hsb rfl
  have hel : evlo s p i ≤ 1000000 := Nat.le_trans (Nat.div_le_self _ _) hsi
  have heh : evhi s p i ≤ 2000000 := Nat.le_trans (Nat.div_le_self _ _) (by omega)
  refine wp_draw_seq (by kernel_rfl) (fun w' => w'.cell? ⟨w2.heap.size, 0, none⟩ = some (.int .i64 (evlo s p i : Int)) ∧ w'.cell? ⟨w2.heap.size, 1, none⟩ = some (.int .i64 (evhi s p i : Int)) ∧ w'.cell? ⟨pd, 0, none⟩ = some (.int .i64 (d : Int)) ∧ w'.cell? ⟨pm, 0, none⟩ = some (.int .i64 (most : Int)) ∧ w'.cell? ⟨ps, 0, none⟩ = some (.slice (some ⟨b0, o0, none⟩) k c0) ∧ w'.cell? ⟨b0, o0 + i, none⟩ = some (.int .i64 (s i : Int))) (fun q => Nat.beq q 16) 18 rfl (fun K hK => ?_)
  have hS : w3.drew.cell? ⟨w2.heap.size, 0, none⟩ = some (.int .i64 (evlo s p i : Int)) ∧ w3.drew.cell? ⟨w2.heap.size, 1, none⟩ = some (.int .i64 (evhi s p i : Int)) ∧ w3.drew.cell? ⟨pd, 0, none⟩ = some (.int .i64 (d : Int)) ∧ w3.drew.cell? ⟨pm, 0, none⟩ = some (.int .i64 (most : Int)) ∧ w3.drew.cell? ⟨ps, 0, none⟩ = some (.slice (some ⟨b0, o0, none⟩) k c0) ∧ w3.drew.cell? ⟨b0, o0 + i, none⟩ = some (.int .i64 (s i : Int)) := ⟨q0, q1, cd3, cm3, cs3, hsc3⟩
  refine wpd_pure 0 (by kernel_rfl) rfl (fun w => Ex_field fld41_0 rfl) (by intro h; cases h) ?_
  refine wpd_take 1 (by kernel_rfl) rfl hS (fun w hw => Ex_load one3 rfl hw.1) (by intro h; cases h) ?_
  refine wpd_take 2 (by kernel_rfl) rfl hS (fun w hw => Ex_load one3 rfl hw.2.2.1) (by intro h; cases h) ?_
  refine wpd_pure 3 (by kernel_rfl) rfl (fun w => Ex_sub rfl rfl (by omega) (by omega)) (by intro h; cases h) ?_
  refine wpd_pure 4 (by kernel_rfl) rfl (fun w => Ex_max2 rfl rfl) (by intro h; cases h) ?_
  refine wpd_take 5 (by kernel_rfl) rfl hS (fun w hw => Ex_load one22 rfl hw.2.2.2.2.1) (by intro h; cases h) ?_
  refine wpd_pure 6 (by kernel_rfl) rfl (fun w => Ex_move (by conv => lhs; whnf)) (by intro h; cases h) ?_
  refine wpd_pure 7 (by kernel_rfl) rfl (fun w => Ex_index1 Try.underlying22 size_22 rfl rfl hi) (by intro h; cases h) ?_
  refine wpd_take 8 (by kernel_rfl) rfl hS (fun w hw => Ex_load one3 rfl hw.2.2.2.2.2) (by intro h; cases h) ?_
  refine wpd_pure 9 (by kernel_rfl) rfl (fun w => Ex_field fld41_1 rfl) (by intro h; cases h) ?_
  refine wpd_take 10 (by kernel_rfl) rfl hS (fun w hw => Ex_load one3 rfl hw.2.1) (by intro h; cases h) ?_
  refine wpd_take 11 (by kernel_rfl) rfl hS (fun w hw => Ex_load one3 rfl hw.2.2.1) (by intro h; cases h) ?_
  refine wpd_pure 12 (by kernel_rfl) rfl (fun w => Ex_add rfl rfl (by omega) (by omega)) (by intro h; cases h) ?_
  refine wpd_take 13 (by kernel_rfl) rfl hS (fun w hw => Ex_load one3 rfl hw.2.2.2.1) (by intro h; cases h) ?_
  refine wpd_pure 14 (by kernel_rfl) rfl (fun w => Ex_min3 rfl rfl rfl) (by intro h; cases h) ?_
  refine wpd_pure 15 (by kernel_rfl) rfl (fun w => Ex_build (pv := [(0, .int .i64 (max 0 ((evlo s p i : Int) - d))), (1, .int .i64 (min (min (s i : Int) ((evhi s p i : Int) + d)) most))]) rfl (bld41 _ _ _)) (by intro h; cases h) ?_
  refine wpd_one 16 (by kernel_rfl) rfl (Ex_storeagg (cs := [.int .i64 (max 0 ((evlo s p i : Int) - d)), .int .i64 (min (min (s i : Int) ((evhi s p i : Int) + d)) most)]) agg41 rfl rfl rfl rfl hr3 (by decide)) (by intro _ h; cases h) ?_
  refine wpd_pure 17 (by kernel_rfl) rfl (fun w => Ex_assign (by conv => lhs; whnf)) (by intro h; cases h) ?_
  refine wpd_nil (by kernel_rfl) (hK _ _ ?_)
  clear hK K
  have hr4 := setRow_heap w3.drew rb _ (#[Value.int .i64 0, Value.int .i64 0].toList.take 0 ++ [Value.int .i64 (max 0 ((evlo s p i : Int) - d)), Value.int .i64 (min (min (s i : Int) ((evhi s p i : Int) + d)) most)] ++ #[Value.int .i64 0, Value.int .i64 0].toList.drop (0 + 2)).toArray 41 (0, 0) hr3
  refine wp_ret ?_
  repeat (first | refine out_block ?_ | refine out_then ?_)
  refine ret_cell (cs := [.int .i64 (max 0 ((evlo s p i : Int) - d)), .int .i64 (min (min (s i : Int) ((evhi s p i : Int) + d)) most)]) Try.results29 agg41 rfl rfl (fun q v hv => by rw [Nat.zero_add]; exact cell_at hr4 (by simpa using hv)) ⟨by rw [show wlo h s p d i j = max 0 ((evlo s p i : Int) - d) by simp [wlo, hl], show whi h s p d most i j = min (min (s i : Int) ((evhi s p i : Int) + d)) most by simp [whi, hl], hl]; rfl, below_setRow (show Below rb w w3.drew from ⟨hb03.os, hb03.tape, hb03.output, hb03.size, hb03.block⟩) (Nat.le_refl _) _⟩
end Go.Proofs.Qxb6613837a.Sp
