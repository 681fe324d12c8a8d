import Derived.Test.Qxb6613837aLev
namespace Go.Sp
/-- A flow of F from s to t, the rooms being r0 ahead of it. -/
structure Gr.Flow (G : Gr) (c r0 r : Nat → Int) (s t : Nat) (F : Int) : Prop where
  ok : G.Ok c r
  bal : ∀ v, G.S r v = G.S r0 v - ind (s = v) F + ind (t = v) F
theorem Gr.Flow.zero {G : Gr} {c r0 : Nat → Int} {s t : Nat} (h : G.Ok c r0) : G.Flow c r0 r0 s t 0 := ⟨h, fun v => by unfold ind; split <;> split <;> omega⟩
theorem Gr.Flow.more {G : Gr} {c r0 r r' lv : Nat → Int} {s t : Nat} {F f : Int} (h : G.Flow c r0 r s t F) (h' : G.Went c r lv s t f r') : G.Flow c r0 r' s t (F + f) :=
  ⟨h'.ok, fun v => by rw [h'.bal v, h.bal v]; unfold ind; split <;> split <;> omega⟩
theorem Gr.S_nonneg {G : Gr} {c r : Nat → Int} (h : G.Ok c r) (v : Nat) : 0 ≤ G.S r v := sm_nonneg (fun e he => by split; exact (h e he).1; exact Int.le_refl _)
theorem Gr.Flow.le {G : Gr} {c r0 r : Nat → Int} {s t : Nat} {F : Int} (h : G.Flow c r0 r s t F) (hst : s ≠ t) : F ≤ G.S r0 s := by
  have h1 := h.bal s
  have h2 := Gr.S_nonneg h.ok s
  unfold ind at h1
  rw [if_pos rfl, if_neg (Ne.symm hst)] at h1
  omega
end Go.Sp
namespace Go.Proofs.Qxb6613837a.Sp
open Go.Fr Go.RowKit Go.Sp

theorem Net.free {w : World} {L : Lay} {r : Nat → Int} (h : Net w L r) (hV : 0 < L.G.V) (hM : 0 < L.G.M) {b : Nat} (hb : w.heap.size ≤ b) : L.Free b := by
  have lt : ∀ {b o : Nat} {v : Value}, w.cell? ⟨b, o, none⟩ = some v → b < w.heap.size := fun h => World.block_lt_of_cell? w _ h
  have h1 := lt h.c0
  have h2 := lt (h.out 0 hV)
  have h3 := lt (h.hd 0 hM)
  have h4 := h.rm.lt
  refine ⟨by omega, by omega, by omega, by omega, fun u hu hd => ?_⟩
  have := lt (h.ed u 0 hu hd)
  omega


theorem maxFlow_ret (L : Lay) (hG : L.G.WF) (s t : Nat) (c r0 : Nat → Int) (hs : s < L.G.V) (ht : t < L.G.V) (hst : s ≠ t) (hM : 0 < L.G.M) (hc : ∀ e, e < L.G.M → c e ≤ 1000000000000) (hS : L.G.S r0 s ≤ 100000000000000000) (hok : L.G.Ok c r0) (w : World) (hnet : Net w L r0) :
    Ret Try.prog 37 #[.pointer (some ⟨L.g, 0, none⟩), .int .i64 s, .int .i64 t] w fun v w' =>
      ∃ F r lv, v = .int .i64 F ∧ 0 ≤ F ∧ Net w' L r ∧ Keep [L.gr] w w' ∧ L.G.Flow c r0 r s t F ∧ L.G.Bfs r lv s [] ∧ lv t < 0 := by
  refine Ret.of_body (vs := [.pointer (some ⟨L.g, 0, none⟩), .int .i64 s, .int .i64 t]) Try.func37 rfl Try.ntmps37 rfl ?_
  have hV := hG.bigV
  refine wp_region_seq (fun K hK => ?_)
  refine wpl_op rfl (Ex_assign (by conv => lhs; whnf)) ?_
  refine wpl_nil (hK _ _ ?_)
  clear hK K
  refine wp_region_seq (fun K hK => ?_)
  refine wpl_op rfl (Ex_assign (by conv => lhs; whnf)) ?_
  refine wpl_nil (hK _ _ ?_)
  clear hK K
  refine wp_region_seq (fun K hK => ?_)
  refine wpl_op rfl (Ex_move (by conv => lhs; whnf)) ?_
  refine wpl_op rfl (Ex_nil rfl) ?_
  refine wpl_op rfl (Ex_field fld56_0 rfl) ?_
  refine wpl_op rfl (Ex_load one27 rfl hnet.c0) ?_
  refine wpl_op rfl (Ex_len Try.underlying27 rfl) ?_
  refine wpl_op rfl (Ex_mk Try.underlying22 info3 rfl rfl (by omega) (by omega)) ?_
  refine wpl_op rfl (Ex_assign (by conv => lhs; whnf)) ?_
  refine wpl_nil (hK _ _ ?_)
  clear hK K
  have hk1 : Keep [] w (w.alloc (.cells (madeCells (Value.int .i64 0).cells (L.G.V * 1)) 3)) := Keep.alloc _ _ _
  have hn1 := hnet.keep hk1 (by intro b hb; cases hb)
  have ho1 : Own (w.alloc (.cells (madeCells (Value.int .i64 0).cells (L.G.V * 1)) 3)) w.heap.size 3 L.G.V 0 (fun _ => .int .i64 0) := by rw [Nat.mul_one]; exact Own.made w _ _ _ _
  refine wp_gen (fun w1 => Keep [] w w1 ∧ Net w1 L r0 ∧ Own w1 w.heap.size 3 L.G.V 0 (fun _ => .int .i64 0)) ⟨hk1, hn1, ho1⟩ (fun w1 hg1 => ?_)
  clear hk1 hn1 ho1
  obtain ⟨hk1, hn1, ho1⟩ := hg1
  refine wp_region_seq (fun K hK => ?_)
  refine wpl_op rfl (Ex_move (by conv => lhs; whnf)) ?_
  refine wpl_op rfl (Ex_nil rfl) ?_
  refine wpl_op rfl (Ex_field fld56_0 rfl) ?_
  refine wpl_op rfl (Ex_load one27 rfl hn1.c0) ?_
  refine wpl_op rfl (Ex_len Try.underlying27 rfl) ?_
  refine wpl_op rfl (Ex_mk Try.underlying22 info3 rfl rfl (by omega) (by omega)) ?_
  refine wpl_op rfl (Ex_assign (by conv => lhs; whnf)) ?_
  refine wpl_nil (hK _ _ ?_)
  clear hK K
  have hk2 : Keep [] w1 (w1.alloc (.cells (madeCells (Value.int .i64 0).cells (L.G.V * 1)) 3)) := Keep.alloc _ _ _
  have hn2 := hn1.keep hk2 (by intro b hb; cases hb)
  have ho2 : Own (w1.alloc (.cells (madeCells (Value.int .i64 0).cells (L.G.V * 1)) 3)) w1.heap.size 3 L.G.V 0 (fun _ => .int .i64 0) := by rw [Nat.mul_one]; exact Own.made w1 _ _ _ _
  have hgl : w.heap.size ≠ w1.heap.size := by have := ho1.lt; omega
  have hf1 : L.Free w.heap.size := hnet.free (by omega) hM (Nat.le_refl _)
  have hf2 : L.Free w1.heap.size := hnet.free (by omega) hM hk1.size
  have hgnw := hk1.size
  refine wp_gen (fun w2 => Keep [] w w2 ∧ Net w2 L r0 ∧ Own w2 w.heap.size 3 L.G.V 0 (fun _ => .int .i64 0) ∧ Own w2 w1.heap.size 3 L.G.V 0 (fun _ => .int .i64 0)) ⟨hk1.trans hk2, hn2, ho1.keep hk2 (by simp), ho2⟩ (fun w2 hg2 => ?_)
  clear hk2 hn2 ho2 hn1 ho1 hk1
  generalize hgl' : w.heap.size = gl at *
  generalize w1.heap.size = gn at *
  obtain ⟨hk2, hn2, ho1, ho2⟩ := hg2
  refine wp_seq_k (fun K1 hK1 => ?_)
  refine wp_block ?_
  refine wp_loop_st (fun q : Int × (Nat → Int) => [(0, .pointer (some ⟨L.g, 0, none⟩)), (1, .int .i64 s), (2, .int .i64 t), (8, .slice (some ⟨gl, 0, none⟩) L.G.V L.G.V), (9, .slice (some ⟨gn, 0, none⟩) L.G.V L.G.V), (7, .int .i64 q.1)])
    (fun q w' => Keep [L.gr, gl, gn] w w' ∧ Net w' L q.2 ∧ Own w' gl 3 L.G.V 0 (fun _ => .int .i64 0) ∧ Own w' gn 3 L.G.V 0 (fun _ => .int .i64 0) ∧ L.G.Flow c r0 q.2 s t q.1 ∧ 0 ≤ q.1)
    (fun q => (L.G.S r0 s - q.1).toNat) (0, r0) ⟨rfl, rfl, rfl, rfl, rfl, rfl, trivial⟩ ⟨hk2.mono (by intro k hk; cases hk), hn2, ho1, ho2, Gr.Flow.zero hok, Int.le_refl _⟩ ?_
  clear hk2 hn2 ho1 ho2 hnet
  rintro ⟨F0, r1⟩ uu w3 ⟨hkeep, hnet, ho1, ho2, hflow, hF0⟩ R hR
  dsimp only at hkeep hnet ho1 ho2 hflow hF0
  refine wp_seq_k (fun KK hKK => ?_)
  refine wp_region_seq (fun K hK => ?_)
  refine wpl_op rfl (Ex_move (by conv => lhs; whnf)) ?_
  refine wpl_op rfl (Ex_move (by conv => lhs; whnf)) ?_
  refine wpl_op rfl (Ex_move (by conv => lhs; whnf)) ?_
  refine wpl_op rfl (Ex_move (by conv => lhs; whnf)) ?_
  refine wpl_call rfl (ExC_func ent39 rfl rfl) (levels_ret L hG gl L.G.V L.G.V s t r1 _ _ hs ht (Nat.le_refl _) hf1 _ hnet ho1) ?_
  rintro v w4 ⟨lv, rfl, hlo, hk4, hbfs⟩
  refine wpl_nil (hK _ _ ?_)
  clear hK K
  replace hnet := hnet.keep hk4 (fun b hb => by rw [show b = gl by simpa using hb]; exact hf1)
  replace ho2 := ho2.keep hk4 (by simpa using hgl.symm)
  replace hkeep := hkeep.trans (hk4.mono (l' := [L.gr, gl, gn]) (fun k hk _ => by simp at hk; simp [hk]))
  by_cases hlt : lv t < 0
  · rw [show decide (0 ≤ lv t) = false from decide_eq_false (by omega)]
    refine wp_if_false rfl ?_
    refine wp_exit ?_
    clear hKK
    refine hK1 _ _ ?_
    refine wp_region_seq (fun K hK => ?_)
    refine wpl_op rfl (Ex_move (by conv => lhs; whnf)) ?_
    refine wpl_op rfl (Ex_assign (by conv => lhs; whnf)) ?_
    refine wpl_nil (hK _ _ ?_)
    clear hK K
    refine wp_ret ?_
    repeat (first | refine out_block ?_ | refine out_then ?_)
    refine ret_tmp Try.results37 ⟨F0, r1, lv, rfl, hF0, hnet, hkeep.mono (fun k hk hlt => by simp at hk ⊢; omega), hflow, hbfs, hlt⟩
  · rw [show decide (0 ≤ lv t) = true from decide_eq_true (by omega)]
    refine wp_if_true rfl ?_
    refine wp_skip (hKK _ _ ?_)
    clear hKK KK
    refine wp_block ?_
    have hlvb : ∀ v, v < L.G.V → -1 ≤ lv v ∧ lv v ≤ (L.G.V : Int) := fun v hv => ⟨hbfs.neg v hv, by have := hbfs.lvl v hv; have := vis_le lv L.G.V; omega⟩
    refine wp_region_seq (fun K hK => ?_)
    refine wpl_op rfl (Ex_move (by conv => lhs; whnf)) ?_
    refine wpl_exop rfl (Ex_clear Try.underlying22 zero3 rfl ho2 (by omega) (Nat.le_refl _)) ?_
    rintro v' w5 ⟨hno, hk5⟩
    refine wpl_nil (hK _ _ ?_)
    clear hK K
    replace hnet := hnet.keep hk5 (fun b hb => by rw [show b = gn by simpa using hb]; exact hf2)
    replace hlo := hlo.keep hk5 (by simpa using hgl)
    replace hkeep := hkeep.trans (hk5.mono (l' := [L.gr, gl, gn]) (fun k hk _ => by simp at hk; simp [hk]))
    have hrow : Lv w5 L gl gn L.G.V L.G.V lv (fun _ => 0) := ⟨hlo, hno, Nat.le_refl _, Nat.le_refl _, hgl, hf1, hf2⟩
    refine wp_block ?_
    refine wp_loop_st (fun q : Int × (Nat → Int) × (Nat → Nat) => [(0, .pointer (some ⟨L.g, 0, none⟩)), (1, .int .i64 s), (2, .int .i64 t), (8, .slice (some ⟨gl, 0, none⟩) L.G.V L.G.V), (9, .slice (some ⟨gn, 0, none⟩) L.G.V L.G.V), (7, .int .i64 q.1)])
      (fun q w' => Keep [L.gr, gl, gn] w w' ∧ Net w' L q.2.1 ∧ Lv w' L gl gn L.G.V L.G.V lv q.2.2 ∧ L.G.Flow c r0 q.2.1 s t q.1 ∧ (∀ x, x < L.G.V → q.2.2 x ≤ L.G.deg x) ∧ (F0 < q.1 ∨ (q.1 = F0 ∧ q.2.1 = r1 ∧ L.G.Dead r1 lv t q.2.2)))
      (fun q => (L.G.S r0 s - q.1).toNat) (F0, r1, fun _ => 0) ⟨rfl, rfl, rfl, rfl, rfl, rfl, trivial⟩ ⟨hkeep, hnet, hrow, hflow, fun _ _ => Nat.zero_le _, .inr ⟨rfl, rfl, fun _ _ j hj => absurd hj (Nat.not_lt_zero _)⟩⟩ ?_
    clear hkeep hnet hrow hlo hno
    rintro ⟨F1, r2, nx⟩ uu w6 ⟨hkeep, hnet, hrow, hflow1, hnx, hprog⟩ R1 hR1
    dsimp only at hkeep hnet hrow hflow1 hnx hprog
    have hF1 := hflow1.le hst
    refine wp_block ?_
    refine wp_region_seq (fun K hK => ?_)
    refine wpl_op rfl (Ex_move (by conv => lhs; whnf)) ?_
    refine wpl_op rfl (Ex_move (by conv => lhs; whnf)) ?_
    refine wpl_op rfl (Ex_move (by conv => lhs; whnf)) ?_
    refine wpl_op rfl (Ex_move (by conv => lhs; whnf)) ?_
    refine wpl_op rfl (Ex_move (by conv => lhs; whnf)) ?_
    refine wpl_call rfl (ExC_func ent40 rfl rfl) (push_ret L hG gl gn L.G.V L.G.V L.G.V L.G.V t c lv (L.G.V : Int) ht hc hlvb (by omega) L.G.V s 9223372036854775807 r2 nx _ (by rw [hbfs.s0]; omega) hs (by omega) hflow1.ok hnet hrow hnx) ?_
    rintro v w7 ⟨nx2, hrow2, hk7, hnx2, _, hcase⟩
    refine wpl_op rfl (Ex_assign (by conv => lhs; whnf)) ?_
    refine wpl_nil (hK _ _ ?_)
    clear hK K
    replace hkeep := hkeep.trans (hk7.mono (l' := [L.gr, gl, gn]) (fun k hk _ => by simp at hk ⊢; omega))
    rcases hcase with ⟨rfl, hnet2, hdead⟩ | ⟨f, r3, rfl, hf0, hfl, hnet2, hwent⟩
    · refine wp_seq_k (fun KK hKK => ?_)
      refine wp_region_seq (fun K hK => ?_)
      refine wpl_op rfl (Ex_move (by conv => lhs; whnf)) ?_
      refine wpl_op rfl (Ex_eql rfl rfl (decide_eq_true rfl)) ?_
      refine wpl_nil (hK _ _ ?_)
      clear hK K
      refine wp_if_true rfl ?_
      refine wp_exit ?_
      clear hKK
      have hmore : F0 < F1 := by
        rcases hprog with h | ⟨_, rfl, hd⟩
        · exact h
        · exfalso
          obtain ⟨n, hn⟩ := Int.eq_ofNat_of_zero_le (show 0 ≤ lv t by omega)
          exact (hdead hd).2 (hbfs.path n t ht hn .here)
      refine hR _ _ _ (F1, r2) ⟨rfl, rfl, rfl, rfl, rfl, rfl, trivial⟩ ⟨hkeep, hnet2, ?_, ?_, hflow1, by dsimp only; omega⟩ (by dsimp only; omega)
      · obtain ⟨arr, h1, h2, _⟩ := hrow2.lo
        exact ⟨arr, h1, h2, fun i hi => absurd hi (Nat.not_lt_zero _)⟩
      · obtain ⟨arr, h1, h2, _⟩ := hrow2.no
        exact ⟨arr, h1, h2, fun i hi => absurd hi (Nat.not_lt_zero _)⟩
    · have hflow2 := hflow1.more hwent
      have hF2 := hflow2.le hst
      have hlow1 : F0 ≤ F1 := by rcases hprog with h | ⟨h, _⟩ <;> omega
      refine wp_seq_k (fun KK hKK => ?_)
      refine wp_region_seq (fun K hK => ?_)
      refine wpl_op rfl (Ex_move (by conv => lhs; whnf)) ?_
      refine wpl_op rfl (Ex_eql rfl rfl (decide_eq_false (by omega))) ?_
      refine wpl_nil (hK _ _ ?_)
      clear hK K
      refine wp_if_false rfl ?_
      refine wp_skip (hKK _ _ ?_)
      clear hKK KK
      refine wp_region_last ?_
      refine wpl_op rfl (Ex_move (by conv => lhs; whnf)) ?_
      refine wpl_op rfl (Ex_move (by conv => lhs; whnf)) ?_
      refine wpl_op rfl (Ex_add rfl rfl (by dsimp only; omega) (by dsimp only; omega)) ?_
      refine wpl_op rfl (Ex_assign (by conv => lhs; whnf)) ?_
      refine wpl_nil ?_
      exact hR1 _ _ _ (F1 + f, r3, nx2) ⟨rfl, rfl, rfl, rfl, rfl, rfl, trivial⟩ ⟨hkeep, hnet2, hrow2, hflow2, hnx2, .inl (by dsimp only; omega)⟩ (by dsimp only; omega)
end Go.Proofs.Qxb6613837a.Sp
