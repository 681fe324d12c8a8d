import Derived.Test.Qxb6613837aUe
namespace Go.Proofs.Qxb6613837a.Sp
open Go.Fr Go.RowKit Go.Sp

/-- What spread asks transport. -/
def SI (k : Nat) (h : Nat → ByteArray) (s p : Nat → Nat) (d most : Nat) (ilo ihi : Int) : Inst := ⟨k, fun i => (s i : Int), wlnk h, wlo h s p d, whi h s p d most, ilo, ihi⟩
theorem SI_fine {k : Nat} {h : Nat → ByteArray} {s p : Nat → Nat} {d most : Nat} {ilo ihi : Int} (hk : 0 < k) (hkb : k ≤ 256) (hs : ∀ q, q < k → s q ≤ 1000000) (hi : 0 ≤ ilo ∧ ilo ≤ ihi ∧ ihi ≤ 1000000) : (SI k h s p d most ilo ihi).Fine := by
  refine ⟨hk, hkb, fun i hi => ⟨Int.natCast_nonneg _, by have := hs i hi; show (s i : Int) ≤ _; omega⟩, fun i j hi hj hl => ?_, hi⟩
  have h1 := hs i hi
  have h2 : evlo s p i ≤ 1000000 := Nat.le_trans (Nat.div_le_self _ _) h1
  have hl' : wlnk h i j = true := hl
  show 0 ≤ wlo h s p d i j ∧ wlo h s p d i j ≤ 1000000 ∧ 0 ≤ whi h s p d most i j ∧ whi h s p d most i j ≤ 1000000
  unfold wlo whi
  rw [if_pos hl', if_pos hl']
  omega
theorem TRes.from {I : Inst} {w w1 : World} {v : Value} {w' : World} (h : TRes I w1 v w') (hb : Below w.heap.size w w1) : TRes I w v w' := by
  obtain ⟨h1, h2⟩ := h
  refine ⟨hb.trans (h1.mono hb.size), ?_⟩
  rcases h2 with h2 | ⟨gX, xb, x, e, hq, hg, h3⟩
  · exact .inl h2
  · exact .inr ⟨gX, xb, x, e, hq, Nat.le_trans hb.size hg, h3⟩


theorem try32_ret (k hx pa ps pp pb c1 c0 pi pw pt n t : Nat) (a1 a0 : Option Addr) (h : Nat → ByteArray) (s p : Nat → Nat) (ilo ihi : Int) (w : World) (m : Sm w k hx pa ps pp pb c1 c0 a1 a0 h s p) (ci0 : w.cell? ⟨pi, 0, none⟩ = some (.int .i64 ilo)) (ci1 : w.cell? ⟨pi, 1, none⟩ = some (.int .i64 ihi))
    (cw : w.cell? ⟨pw, 0, none⟩ = some (.func (.func 28) #[] #[.pointer (some ⟨pa, 0, none⟩), .pointer (some ⟨ps, 0, none⟩), .pointer (some ⟨pp, 0, none⟩)])) (ct : w.cell? ⟨pt, 0, none⟩ = some (.int .i64 (t : Int)))
    (hk : 0 < k) (hkb : k ≤ 256) (hs : ∀ q, q < k → s q ≤ 1000000) (hp : ∀ q, q < k → p q ≤ 1000000) (hi : 0 ≤ ilo ∧ ilo ≤ ihi ∧ ihi ≤ 1000000) (hd : n ≤ 1000000) (hpos : ∀ i j, i < k → j < k → wlnk h i j = true → 0 < p i) :
    Ret Try.prog 32 #[.int .i64 n, .pointer (some ⟨ps, 0, none⟩), .pointer (some ⟨pi, 0, none⟩), .pointer (some ⟨pw, 0, none⟩), .pointer (some ⟨pt, 0, none⟩)] w (TRes (SI k h s p n t ilo ihi) w) := by
  refine Ret.of_body (vs := [.int .i64 n, .pointer (some ⟨ps, 0, none⟩), .pointer (some ⟨pi, 0, none⟩), .pointer (some ⟨pw, 0, none⟩), .pointer (some ⟨pt, 0, none⟩)]) Try.func32 rfl Try.ntmps32 rfl ?_
  refine wp_region_seq (fun K hK => ?_)
  refine wpl_op rfl (Ex_assign (by conv => lhs; whnf)) ?_
  refine wpl_nil (hK _ _ ?_)
  clear hK K
  refine wp_draw_seq (by kernel_rfl) (fun w' => Below w.heap.size w w') (fun _ => false) 8 rfl (fun K hK => ?_)
  have hS : Below w.heap.size w w.drew := ⟨rfl, rfl, rfl, Nat.le_refl _, fun _ _ => rfl⟩
  refine wpd_take 0 (by kernel_rfl) rfl hS (fun w hw => Ex_load one22 rfl (cell_later hw m.cs)) (by intro h; cases h) ?_
  refine wpd_take 1 (by kernel_rfl) rfl hS (fun w hw => Ex_loadagg (cs := [.int .i64 ilo, .int .i64 ihi]) agg41 rfl rfl (fun q v hv => by match q, hv with | 0, hv => (simp at hv; subst hv; exact cell_later hw ci0) | 1, hv => (simp at hv; subst hv; exact cell_later hw ci1))) (by intro h; cases h) ?_
  refine wpd_take 2 (by kernel_rfl) rfl hS (fun w hw => Ex_load one43 rfl (cell_later hw cw)) (by intro h; cases h) ?_
  refine wpd_pure 3 (by kernel_rfl) rfl (fun w => Ex_move (by conv => lhs; whnf)) (by intro h; cases h) ?_
  refine wpd_take 4 (by kernel_rfl) rfl hS (fun w hw => Ex_load one3 rfl (cell_later hw ct)) (by intro h; cases h) ?_
  refine wpd_call 5 (by kernel_rfl) rfl (ExC_closure (cap := [.pointer (some ⟨pa, 0, none⟩), .pointer (some ⟨ps, 0, none⟩), .pointer (some ⟨pp, 0, none⟩)]) ent28 rfl rfl) (withinf_ret pa ps pp (n : Int) (t : Int) _) ?_
  rintro v w2 ⟨pd, pm, rfl, cd, cm, hb2⟩
  have hb02 : Below w.heap.size w w2 := hS.trans hb2
  refine ⟨fun _ _ => hb02, ?_⟩
  have m2 := m.later hb02
  refine wpd_call 6 (by kernel_rfl) rfl (ExC_func ent26 rfl rfl) (transport_ret (SI k h s p n t ilo ihi) (SI_fine hk hkb hs hi) a0 c0 29 [.pointer (some ⟨pa, 0, none⟩), .pointer (some ⟨ps, 0, none⟩), .pointer (some ⟨pp, 0, none⟩), .pointer (some ⟨pd, 0, none⟩), .pointer (some ⟨pm, 0, none⟩)] ent29 w2 m2.is (fun i j hi hj w' hb => within_ret k hx pa ps pp pb c1 c0 pd pm a1 a0 h s p n t i j w' (m2.later hb) (cell_later hb cd) (cell_later hb cm) hi hj hs hp hd (hpos i j hi hj))) ?_
  rintro v w3 hres
  have hres2 := hres.from hb02
  refine ⟨fun _ _ => hres2.1, ?_⟩
  refine wpd_pure 7 (by kernel_rfl) rfl (fun w => Ex_assign (by conv => lhs; whnf)) ?_ ?_
  · rcases hres2.2 with ⟨e, _⟩ | ⟨gX, xb, x, e, _⟩ <;> rw [e] <;> intro h <;> cases h
  refine wpd_nil (by kernel_rfl) (hK _ _ ?_)
  clear hK K
  refine wp_ret ?_
  repeat (first | refine out_block ?_ | refine out_then ?_)
  refine ret_tmp Try.results32 hres2

theorem try33_ret (k hx pa ps pp pb c1 c0 pi pw pt n t : Nat) (a1 a0 : Option Addr) (h : Nat → ByteArray) (s p : Nat → Nat) (ilo ihi : Int) (w : World) (m : Sm w k hx pa ps pp pb c1 c0 a1 a0 h s p) (ci0 : w.cell? ⟨pi, 0, none⟩ = some (.int .i64 ilo)) (ci1 : w.cell? ⟨pi, 1, none⟩ = some (.int .i64 ihi))
    (cw : w.cell? ⟨pw, 0, none⟩ = some (.func (.func 28) #[] #[.pointer (some ⟨pa, 0, none⟩), .pointer (some ⟨ps, 0, none⟩), .pointer (some ⟨pp, 0, none⟩)])) (ct : w.cell? ⟨pt, 0, none⟩ = some (.int .i64 (t : Int)))
    (hk : 0 < k) (hkb : k ≤ 256) (hs : ∀ q, q < k → s q ≤ 1000000) (hp : ∀ q, q < k → p q ≤ 1000000) (hi : 0 ≤ ilo ∧ ilo ≤ ihi ∧ ihi ≤ 1000000) (hd : t ≤ 1000000) (hpos : ∀ i j, i < k → j < k → wlnk h i j = true → 0 < p i) :
    Ret Try.prog 33 #[.int .i64 n, .pointer (some ⟨ps, 0, none⟩), .pointer (some ⟨pi, 0, none⟩), .pointer (some ⟨pw, 0, none⟩), .pointer (some ⟨pt, 0, none⟩)] w (TRes (SI k h s p t n ilo ihi) w) := by
  refine Ret.of_body (vs := [.int .i64 n, .pointer (some ⟨ps, 0, none⟩), .pointer (some ⟨pi, 0, none⟩), .pointer (some ⟨pw, 0, none⟩), .pointer (some ⟨pt, 0, none⟩)]) Try.func33 rfl Try.ntmps33 rfl ?_
  refine wp_region_seq (fun K hK => ?_)
  refine wpl_op rfl (Ex_assign (by conv => lhs; whnf)) ?_
  refine wpl_nil (hK _ _ ?_)
  clear hK K
  refine wp_draw_seq (by kernel_rfl) (fun w' => Below w.heap.size w w') (fun _ => false) 8 rfl (fun K hK => ?_)
  have hS : Below w.heap.size w w.drew := ⟨rfl, rfl, rfl, Nat.le_refl _, fun _ _ => rfl⟩
  refine wpd_take 0 (by kernel_rfl) rfl hS (fun w hw => Ex_load one22 rfl (cell_later hw m.cs)) (by intro h; cases h) ?_
  refine wpd_take 1 (by kernel_rfl) rfl hS (fun w hw => Ex_loadagg (cs := [.int .i64 ilo, .int .i64 ihi]) agg41 rfl rfl (fun q v hv => by match q, hv with | 0, hv => (simp at hv; subst hv; exact cell_later hw ci0) | 1, hv => (simp at hv; subst hv; exact cell_later hw ci1))) (by intro h; cases h) ?_
  refine wpd_take 2 (by kernel_rfl) rfl hS (fun w hw => Ex_load one43 rfl (cell_later hw cw)) (by intro h; cases h) ?_
  refine wpd_take 3 (by kernel_rfl) rfl hS (fun w hw => Ex_load one3 rfl (cell_later hw ct)) (by intro h; cases h) ?_
  refine wpd_pure 4 (by kernel_rfl) rfl (fun w => Ex_move (by conv => lhs; whnf)) (by intro h; cases h) ?_
  refine wpd_call 5 (by kernel_rfl) rfl (ExC_closure (cap := [.pointer (some ⟨pa, 0, none⟩), .pointer (some ⟨ps, 0, none⟩), .pointer (some ⟨pp, 0, none⟩)]) ent28 rfl rfl) (withinf_ret pa ps pp (t : Int) (n : Int) _) ?_
  rintro v w2 ⟨pd, pm, rfl, cd, cm, hb2⟩
  have hb02 : Below w.heap.size w w2 := hS.trans hb2
  refine ⟨fun _ _ => hb02, ?_⟩
  have m2 := m.later hb02
  refine wpd_call 6 (by kernel_rfl) rfl (ExC_func ent26 rfl rfl) (transport_ret (SI k h s p t n ilo ihi) (SI_fine hk hkb hs hi) a0 c0 29 [.pointer (some ⟨pa, 0, none⟩), .pointer (some ⟨ps, 0, none⟩), .pointer (some ⟨pp, 0, none⟩), .pointer (some ⟨pd, 0, none⟩), .pointer (some ⟨pm, 0, none⟩)] ent29 w2 m2.is (fun i j hi hj w' hb => within_ret k hx pa ps pp pb c1 c0 pd pm a1 a0 h s p t n i j w' (m2.later hb) (cell_later hb cd) (cell_later hb cm) hi hj hs hp hd (hpos i j hi hj))) ?_
  rintro v w3 hres
  have hres2 := hres.from hb02
  refine ⟨fun _ _ => hres2.1, ?_⟩
  refine wpd_pure 7 (by kernel_rfl) rfl (fun w => Ex_assign (by conv => lhs; whnf)) ?_ ?_
  · rcases hres2.2 with ⟨e, _⟩ | ⟨gX, xb, x, e, _⟩ <;> rw [e] <;> intro h <;> cases h
  refine wpd_nil (by kernel_rfl) (hK _ _ ?_)
  clear hK K
  refine wp_ret ?_
  repeat (first | refine out_block ?_ | refine out_then ?_)
  refine ret_tmp Try.results33 hres2
end Go.Proofs.Qxb6613837a.Sp
