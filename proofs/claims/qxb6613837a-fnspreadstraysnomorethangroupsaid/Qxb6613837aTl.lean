import Derived.Test.Qxb6613837aTk
namespace Go.Proofs.Qxb6613837a.Sp
open Go.Fr Go.RowKit Go.Sp

theorem zero48 : ∀ w, (zeroValue 48).run Try.prog w = .ok (.pointer none) w := fun w => by simp [go_sem]
theorem zero22 : ∀ w, (zeroValue 22).run Try.prog w = .ok (.slice none 0 0) w := fun w => by simp [go_sem]
theorem Ex_two {P : Program} {ρ : Operand → Value} {ty t t' : TypeId} {w : World} {x y : Operand} {n : Nat} (hx : ρ x = .int .i64 2) (hy : ρ y = .int .i64 (n : Int)) (h : n ≤ 1000000) : Ex P ρ (.binOp .mul t x y t') ty w (.int .i64 ((2 * n : Nat) : Int)) w := by
  have := Ex_mul (P := P) (ρ := ρ) (ty := ty) (t := t) (t' := t') (w := w) hx hy (by omega) (by omega)
  rw [show ((2 * n : Nat) : Int) = 2 * (n : Int) by omega]; exact this
theorem Ex_plus {P : Program} {ρ : Operand → Value} {ty t t' : TypeId} {w : World} {x y : Operand} {m n : Nat} (hx : ρ x = .int .i64 (m : Int)) (hy : ρ y = .int .i64 (n : Int)) (h : m + n ≤ 1000000000) : Ex P ρ (.binOp .add t x y t') ty w (.int .i64 ((m + n : Nat) : Int)) w :=
  Ex_add hx hy (by omega) (by omega)
theorem fam0 (w : World) (V : Nat) : Fam w w.heap.size (V + 2) nilv (rcOf V []) := by
  refine ⟨fun a ha => ?_, fun a b _ _ _ k hk => (by cases hk), Nat.le_refl _⟩
  have e : rcOf V [] a = [] := by unfold rcOf; split; rfl; split <;> rfl
  rw [e]
  exact World.ownsRow_nil _ _ _ _
theorem one_at (w : World) (v z : Value) (t : TypeId) (hz : z.cells = #[z]) : ((w.alloc (.cells z.cells t)).setCell ⟨w.heap.size, 0, none⟩ v).cell? ⟨w.heap.size, 0, none⟩ = some v := by
  rw [hz]
  exact cell_at (heap_set_same _ (heap_new w _)) (by simp)


theorem transport_ret (I : Inst) (hI : I.Fine) (a0 : Option Addr) (c0 : Nat) (fid : FuncId) (cap : List Value) (hent : Enters Try.prog fid) (w0 : World) (hs : IntsAt w0 a0 I.k I.s)
    (hlink : ∀ i j, i < I.k → j < I.k → ∀ w', Below w0.heap.size w0 w' → Ret Try.prog fid ([Value.int .i64 (i : Int), Value.int .i64 (j : Int)] ++ cap).toArray w' fun v w'' => v = .tuple #[.agg #[.int .i64 (I.lo i j), .int .i64 (I.hi i j)], .bool (I.lnk i j)] ∧ Below w'.heap.size w' w'') :
    Ret Try.prog 26 #[.slice a0 I.k c0, .agg #[.int .i64 I.ilo, .int .i64 I.ihi], .func (.func fid) #[] cap.toArray] w0 (TRes I w0) := by
  refine Ret.of_body (vs := [.slice a0 I.k c0, .agg #[.int .i64 I.ilo, .int .i64 I.ihi], .func (.func fid) #[] cap.toArray]) Try.func26 rfl Try.ntmps26 rfl ?_
  have hkb := hI.kb
  refine wp_region_seq (fun K hK => ?_)
  refine wpl_op rfl (Ex_box (by conv => lhs; whnf)) ?_
  refine wpl_op rfl (Ex_assign (by conv => lhs; whnf)) ?_
  refine wpl_nil (hK _ _ ?_)
  clear hK K
  have g1 : Below w0.heap.size w0 (w0.alloc (.cells (Value.agg #[.int .i64 I.ilo, .int .i64 I.ihi]).cells 41)) := (Below.refl _ _).alloc (Nat.le_refl _) _
  have g2 := heap_new w0 (.cells (Value.agg #[.int .i64 I.ilo, .int .i64 I.ihi]).cells 41)
  refine wp_gen (fun w1 => Below w0.heap.size w0 w1 ∧ w1.heap[w0.heap.size]? = some (.cells #[.int .i64 I.ilo, .int .i64 I.ihi] 41 (0, 0))) ⟨g1, g2⟩ (fun w1 hg1 => ?_)
  clear g1 g2
  obtain ⟨hb1, hib1⟩ := hg1
  have hl1 := lt_of_heap hib1
  have hi0 : w1.cell? ⟨w0.heap.size, 0, none⟩ = some (.int .i64 I.ilo) := cell_at hib1 rfl
  have hi1 : w1.cell? ⟨w0.heap.size, 1, none⟩ = some (.int .i64 I.ihi) := cell_at hib1 rfl
  clear hib1
  generalize hib : w0.heap.size = ib at hl1 hi0 hi1
  refine wp_region_seq (fun K hK => ?_)
  refine wpl_op rfl (Ex_move (by conv => lhs; whnf)) ?_
  refine wpl_op rfl (Ex_len Try.underlying22 rfl) ?_
  refine wpl_op rfl (Ex_assign (by conv => lhs; whnf)) ?_
  refine wpl_nil (hK _ _ ?_)
  clear hK K
  refine wp_region_seq (fun K hK => ?_)
  refine wpl_op rfl (Ex_move (by conv => lhs; whnf)) ?_
  refine wpl_op rfl (Ex_two rfl rfl (by omega)) ?_
  refine wpl_op rfl (Ex_move (by conv => lhs; whnf)) ?_
  refine wpl_op rfl (Ex_two rfl rfl (by omega)) ?_
  refine wpl_op rfl (Ex_plus (n := 1) rfl rfl (by omega)) ?_
  refine wpl_op rfl (Ex_move (by conv => lhs; whnf)) ?_
  refine wpl_op rfl (Ex_two rfl rfl (by omega)) ?_
  refine wpl_op rfl (Ex_plus (n := 2) rfl rfl (by omega)) ?_
  refine wpl_op rfl (Ex_move (by conv => lhs; whnf)) ?_
  refine wpl_op rfl (Ex_two rfl rfl (by omega)) ?_
  refine wpl_op rfl (Ex_plus (n := 3) rfl rfl (by omega)) ?_
  refine wpl_op rfl (Ex_assign (by conv => lhs; whnf)) ?_
  refine wpl_op rfl (Ex_assign (by conv => lhs; whnf)) ?_
  refine wpl_op rfl (Ex_assign (by conv => lhs; whnf)) ?_
  refine wpl_op rfl (Ex_assign (by conv => lhs; whnf)) ?_
  refine wpl_nil (hK _ _ ?_)
  clear hK K
  refine wp_region_seq (fun K hK => ?_)
  refine wpl_op rfl (Ex_move (by conv => lhs; whnf)) ?_
  refine wpl_op rfl (Ex_two rfl rfl (by omega)) ?_
  refine wpl_op rfl (Ex_plus (n := 4) rfl rfl (by omega)) ?_
  refine wpl_call rfl (ExC_func ent34 rfl rfl) (newNetwork_ret (2 * I.k + 4) _ (by omega)) ?_
  rintro v w2 ⟨g, go, rfl, hg1, hgo1, hgne, hst, hot, hb2⟩
  refine wpl_op rfl (Ex_alloc zero48) ?_
  refine wpl_op rfl (Ex_store one48 rfl (by conv => lhs; whnf) rfl (cell_at (heap_new _ _) rfl) (frozen_at (heap_new _ _))) ?_
  refine wpl_nil (hK _ _ ?_)
  clear hK K
  have k3 : Keep [w2.heap.size] w2 ((w2.alloc (.cells (Value.pointer none).cells 48)).setCell ⟨w2.heap.size, 0, none⟩ (.pointer (some ⟨g, 0, none⟩))) := (Keep.alloc _ _ _).trans (Keep.setCell _ (by simp) _)
  refine wp_gen (fun w3 => Keep [w2.heap.size] w2 w3 ∧ w3.cell? ⟨w2.heap.size, 0, none⟩ = some (.pointer (some ⟨g, 0, none⟩))) ⟨k3, one_at w2 _ _ 48 rfl⟩ (fun w3 hg3 => ?_)
  clear k3
  obtain ⟨hk3, hgb⟩ := hg3
  have hgl := hst.lt
  have hgol := hot.lt
  have hs2 := hb2.size
  have f2 : ∀ b, b < w2.heap.size → b ∉ [w2.heap.size] := fun b hb hm => by simp at hm; omega
  replace hst := hst.keep hk3 (f2 _ hgl)
  replace hot := hot.keep hk3 (f2 _ hgol)
  replace hi0 := hk3.cell (cell_later hb2 hi0) (f2 _ (by omega))
  replace hi1 := hk3.cell (cell_later hb2 hi1) (f2 _ (by omega))
  have hb3 : Below w0.heap.size w0 w3 := (hb1.trans (hb2.mono hb1.size)).trans (hk3.below (Nat.le_trans hb1.size hs2) (fun k hk => by rw [show k = w2.heap.size by simpa using hk]; exact Nat.le_trans hb1.size hs2))
  have hbgl : w2.heap.size < w3.heap.size := World.block_lt_of_cell? w3 _ hgb
  have hb1s := hb1.size
  generalize hbg : w2.heap.size = bg at hgb hbgl hgl hgol hs2
  clear hk3 hbg f2
  refine wp_region_seq (fun K hK => ?_)
  refine wpl_op rfl (Ex_move (by conv => lhs; whnf)) ?_
  refine wpl_op rfl (Ex_two rfl rfl (by omega)) ?_
  refine wpl_op rfl (Ex_plus (n := 4) rfl rfl (by omega)) ?_
  refine wpl_op rfl (Ex_mk Try.underlying22 info3 rfl rfl (by omega) (by omega)) ?_
  refine wpl_op rfl (Ex_alloc zero22) ?_
  refine wpl_op rfl (Ex_store one22 rfl (by conv => lhs; whnf) rfl (cell_at (heap_new _ _) rfl) (frozen_at (heap_new _ _))) ?_
  refine wpl_nil (hK _ _ ?_)
  clear hK K
  have ka := Keep.alloc [(w3.alloc (zrow (2 * I.k + 4))).heap.size] w3 (zrow (2 * I.k + 4))
  have kb := (ka.trans (Keep.alloc _ (w3.alloc (zrow (2 * I.k + 4))) (.cells (Value.slice none 0 0).cells 22))).trans (Keep.setCell _ (g := (w3.alloc (zrow (2 * I.k + 4))).heap.size) (i := 0) (by simp) (.slice (some ⟨w3.heap.size, 0, none⟩) (2 * I.k + 4) (2 * I.k + 4)))
  have hs3 : (w3.alloc (zrow (2 * I.k + 4))).heap.size = w3.heap.size + 1 := by simp
  have hx4 := ((own_zrow w3 (2 * I.k + 4)).keep (Keep.alloc [] _ (.cells (Value.slice none 0 0).cells 22)) (by simp)).other (g' := (w3.alloc (zrow (2 * I.k + 4))).heap.size) (i := 0) (by omega) (.slice (some ⟨w3.heap.size, 0, none⟩) (2 * I.k + 4) (2 * I.k + 4))
  refine wp_gen (fun w4 => Keep [w3.heap.size + 1] w3 w4 ∧ w4.cell? ⟨w3.heap.size + 1, 0, none⟩ = some (.slice (some ⟨w3.heap.size, 0, none⟩) (2 * I.k + 4) (2 * I.k + 4)) ∧ Own w4 w3.heap.size 3 (2 * I.k + 4) (2 * I.k + 4) (fun _ => .int .i64 0)) ⟨by rw [← hs3]; exact kb, by rw [← hs3]; exact one_at (w3.alloc (zrow (2 * I.k + 4))) _ _ 22 rfl, hx4⟩ (fun w4 hg4 => ?_)
  clear ka kb hx4
  obtain ⟨hk4, hxb, hex⟩ := hg4
  rw [show (w3.alloc (.cells (madeCells (Value.int .i64 0).cells ((2 * I.k + 4) * 1)) 3)).heap.size = w3.heap.size + 1 by simp]
  have f3 : ∀ b, b < w3.heap.size → b ∉ [w3.heap.size + 1] := fun b hb hm => by simp at hm; omega
  replace hst := hst.keep hk4 (f3 _ (by omega))
  replace hot := hot.keep hk4 (f3 _ (by omega))
  replace hi0 := hk4.cell hi0 (f3 _ (by omega))
  replace hi1 := hk4.cell hi1 (f3 _ (by omega))
  replace hgb := hk4.cell hgb (f3 _ (by omega))
  have hb4 : Below w0.heap.size w0 w4 := hb3.trans (hk4.below hb3.size (fun k hk => by rw [show k = w3.heap.size + 1 by simpa using hk]; have := hb3.size; omega))
  have hxl : w3.heap.size + 1 < w4.heap.size := World.block_lt_of_cell? w4 _ hxb
  clear hk4 f3 hs3
  generalize hgx : w3.heap.size = gx at *
  refine wp_region_seq (fun K hK => ?_)
  refine wpl_op rfl (Ex_func (fv := []) (cv := [.pointer (some ⟨gx + 1, 0, none⟩), .pointer (some ⟨bg, 0, none⟩)]) rfl rfl) ?_
  refine wpl_op rfl (Ex_assign (by conv => lhs; whnf)) ?_
  refine wpl_nil (hK _ _ ?_)
  clear hK K
  refine wp_region_seq (fun K hK => ?_)
  refine wpl_op rfl (Ex_assign (by conv => lhs; whnf)) ?_
  refine wpl_nil (hK _ _ ?_)
  clear hK K
  refine wp_region_seq (fun K hK => ?_)
  refine wpl_op rfl (Ex_move (by conv => lhs; whnf)) ?_
  refine wpl_op rfl (Ex_mk Try.underlying27 info22 rfl rfl (by omega) (by omega)) ?_
  refine wpl_op rfl (Ex_assign (by conv => lhs; whnf)) ?_
  refine wpl_nil (hK _ _ ?_)
  clear hK K
  refine wp_region_seq (fun K hK => ?_)
  refine wpl_op rfl (Ex_move (by conv => lhs; whnf)) ?_
  refine wpl_op rfl (Ex_mk Try.underlying27 info22 rfl rfl (by omega) (by omega)) ?_
  refine wpl_op rfl (Ex_assign (by conv => lhs; whnf)) ?_
  refine wpl_nil (hK _ _ ?_)
  clear hK K
  have kA := Keep.alloc [] w4 (.cells (madeCells (Value.slice none 0 0).cells (I.k * 1)) 22)
  have kB := kA.trans (Keep.alloc [] _ (.cells (madeCells (Value.slice none 0 0).cells (I.k * 1)) 22))
  have hs4 : (w4.alloc (.cells (madeCells (Value.slice none 0 0).cells (I.k * 1)) 22)).heap.size = w4.heap.size + 1 := by simp
  have hE : Own ((w4.alloc (.cells (madeCells (Value.slice none 0 0).cells (I.k * 1)) 22)).alloc (.cells (madeCells (Value.slice none 0 0).cells (I.k * 1)) 22)) w4.heap.size 22 I.k 0 (fun _ => sl 0 I.k) := by
    rw [Nat.mul_one]; exact (Own.made w4 _ _ _ _).keep (Keep.alloc [] _ _) (by simp)
  have hL : Own ((w4.alloc (.cells (madeCells (Value.slice none 0 0).cells (I.k * 1)) 22)).alloc (.cells (madeCells (Value.slice none 0 0).cells (I.k * 1)) 22)) (w4.heap.size + 1) 22 I.k 0 (fun _ => sl 0 I.k) := by
    rw [← hs4, Nat.mul_one]; exact Own.made _ _ _ _ _
  rw [hs4]
  refine wp_gen (fun w5 => Keep [] w4 w5 ∧ Own w5 w4.heap.size 22 I.k 0 (fun _ => sl 0 I.k) ∧ Own w5 (w4.heap.size + 1) 22 I.k 0 (fun _ => sl 0 I.k)) ⟨kB, hE, hL⟩ (fun w5 hg5 => ?_)
  clear kA kB hE hL hs4
  obtain ⟨hk5, hE, hL⟩ := hg5
  have nn : ∀ b, b ∉ ([] : List Nat) := by simp
  have hLl := hL.lt
  have hw0 := hb4.size
  have htr : Tr w5 w5.heap.size (gx + 1) bg gx g go (2 * I.k + 4) nilv [] (exOf []) :=
    ⟨hk5.cell hxb (nn _), hk5.cell hgb (nn _), (hex.keep hk5 (nn _)).congr (fun i _ => rfl), ⟨hst.keep hk5 (nn _), hot.keep hk5 (nn _), fam0 w5 _, by omega, by omega, hgne⟩, by omega, by omega, by omega, by simp; omega, by simp; omega, by simp; omega⟩
  have fx : Fx w0 w5.heap.size ib (gx + 1) bg gx g go w4.heap.size (w4.heap.size + 1) :=
    ⟨by omega, by omega, by simp; omega, by simp; omega, by simp; omega, by omega, by omega⟩
  refine wp_norm [(0, .slice a0 I.k c0), (2, .func (.func fid) #[] cap.toArray), (4, .pointer (some ⟨ib, 0, none⟩)), (7, .int .i64 (I.k : Int)), (8, .int .i64 ((2 * I.k : Nat) : Int)), (9, .int .i64 ((2 * I.k + 1 : Nat) : Int)), (10, .int .i64 ((2 * I.k + 2 : Nat) : Int)), (11, .int .i64 ((2 * I.k + 3 : Nat) : Int)), (12, .pointer (some ⟨bg, 0, none⟩)), (13, .pointer (some ⟨gx + 1, 0, none⟩)), (14, clo (gx + 1) bg), (15, .int .i64 0), (16, sl w4.heap.size I.k), (17, sl (w4.heap.size + 1) I.k)] ⟨rfl, rfl, rfl, rfl, rfl, rfl, rfl, rfl, rfl, rfl, rfl, rfl, rfl, rfl, trivial⟩ (fun u => ?_)
  exact rest1 I hI a0 c0 fid cap hent w5.heap.size ib (gx + 1) bg gx g go w4.heap.size (w4.heap.size + 1) nilv w0 w5 hs hlink fx (hb4.trans (hk5.below hb4.size (fun k hk => absurd hk (nn _)))) htr hE hL (hk5.cell hi0 (nn _)) (hk5.cell hi1 (nn _)) u
end Go.Proofs.Qxb6613837a.Sp
