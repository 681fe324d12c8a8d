import Derived.Test.Qxb6613837aNet
import Derived.Test.Qxb6613837aBf
namespace Go.Proofs.Qxb6613837a.Sp
open Go.Fr Go.RowKit Go.Sp

end Go.Proofs.Qxb6613837a.Sp
namespace Go.Fr
open Go.RowKit Go.Fr Go.Sp
theorem Keep.btrans {l : List Nat} {a b c : World} (h : Keep l a b) (h' : Below a.heap.size b c) : Keep l a c :=
  ⟨h'.os.trans h.os, h'.tape.trans h.tape, h'.output.trans h.output, Nat.le_trans h.size h'.size, fun k hk hl => (h'.block k hk).trans (h.block k hk hl)⟩
end Go.Fr
namespace Go.Proofs.Qxb6613837a.Sp
open Go.Fr Go.RowKit Go.Sp
def qi (Q : List Nat) : List Int := Q.map (fun x : Nat => (x : Int))
theorem qi_snoc (Q : List Nat) (v : Nat) : qi Q ++ [(v : Int)] = qi (Q ++ [v]) := by simp [qi]
theorem bsl3 (k : Int) (w : World) : (Instr.buildSlice 22 1 #[(0, .int .i64 k)]).run Try.prog w = .ok (.slice (some ⟨w.heap.size, 0, none⟩) 1 1) (w.alloc (.cells #[.int .i64 k] 3)) := by
  simp [go_sem]
theorem Ex_bsl {P : Program} {ρ : Operand → Value} {ty t : TypeId} {w w' : World} {v : Value} {n : Nat} {pl : List (Nat × Operand)} {pv : List (Nat × Value)} (hp : pevs ρ pl = pv) (hb : (Instr.buildSlice t n pv.toArray).run P w = .ok v w') : Ex P ρ (.buildSlice t n pl.toArray) ty w v w' := ex_val fun o ho _ => by
  rw [pevs_eq] at hp
  simp only [execOp, ho]
  have e : (Array.map (fun (x : Nat × Operand) => match x with | (i, x) => (i, ρ x)) pl.toArray) = pv.toArray := by rw [← hp]; simp
  rw [e]
  simp [hb, Result.andThen]
theorem Own.put {w : World} {g c V v : Nat} {lv : Nat → Int} (h : Own w g 3 c V (fun i => .int .i64 (lv i))) (hv : v < V) (hc : V ≤ c) (x : Int) : Own (w.setCell ⟨g, v, none⟩ (.int .i64 x)) g 3 c V (fun i => .int .i64 (set1 lv v x i)) :=
  h.set (by omega) (fun j hj => by
    by_cases hje : j = v
    · exact .inl ⟨hje, by rw [hje, set1_at]⟩
    · exact .inr ⟨hje, hj, by rw [set1_ne _ _ hje]⟩)
theorem all_succ {P : Nat → Prop} {j : Nat} (h : ∀ i, i < j → P i) (hj : P j) : ∀ i, i < j + 1 → P i := fun i hi => by
  by_cases e : i = j
  · subst e; exact hj
  · exact h i (by omega)
theorem Que.first (w : World) (B : Nat) (hB : B ≤ w.heap.size) (s : Nat) : Que (w.alloc (.cells #[.int .i64 (s : Int)] 3)) B (some ⟨w.heap.size, 0, none⟩) 1 (qi [s]) :=
  ⟨by simp [qi], fun _ => ⟨w.heap.size, 0, _, rfl, hB, heap_new w _, rfl, fun i hi => by
    have : i = 0 := by simp [qi] at hi; omega
    subst this
    simp [qi]⟩⟩


theorem levels_ret (L : Lay) (hG : L.G.WF) (gl cl cL s t : Nat) (r : Nat → Int) (k0 : Nat) (f0 : Nat → Value) (hs : s < L.G.V) (ht : t < L.G.V) (hcl : L.G.V ≤ cl) (hfree : L.Free gl) (w : World) (hnet : Net w L r) (hown : Own w gl 3 cl k0 f0) :
    Ret Try.prog 39 #[.pointer (some ⟨L.g, 0, none⟩), .int .i64 s, .int .i64 t, .slice (some ⟨gl, 0, none⟩) L.G.V cL] w fun v w' =>
      ∃ lv, v = .bool (decide (0 ≤ lv t)) ∧ Own w' gl 3 cl L.G.V (fun i => .int .i64 (lv i)) ∧ Keep [gl] w w' ∧ L.G.Bfs r lv s [] := by
  refine Ret.of_body (vs := [.pointer (some ⟨L.g, 0, none⟩), .int .i64 s, .int .i64 t, .slice (some ⟨gl, 0, none⟩) L.G.V cL]) Try.func39 rfl Try.ntmps39 rfl ?_
  have hV := hG.bigV
  have hnk : ∀ w', Keep [gl] w w' → Net w' L r := fun w' hk => hnet.keep hk (fun b hb => by rw [show b = gl by simpa using hb]; exact hfree)
  have hglB : gl < w.heap.size := hown.lt
  refine wp_region_seq (fun K hK => ?_)
  refine wpl_op rfl (Ex_assign (by conv => lhs; whnf)) ?_
  refine wpl_nil (hK _ _ ?_)
  clear hK K
  refine wp_seq_k (fun K1 hK1 => ?_)
  refine wp_region_seq (fun K hK => ?_)
  refine wpl_op rfl (Ex_move (by conv => lhs; whnf)) ?_
  refine wpl_op rfl (Ex_len Try.underlying22 rfl) ?_
  refine wpl_op rfl (Ex_move (by conv => lhs; whnf)) ?_
  refine wpl_nil (hK _ _ ?_)
  clear hK K
  refine wp_block ?_
  refine wp_loop_st (fun k : Nat => [(0, .pointer (some ⟨L.g, 0, none⟩)), (1, .int .i64 s), (2, .int .i64 t), (3, .slice (some ⟨gl, 0, none⟩) L.G.V cL), (16, .int .i64 (L.G.V : Int)), (17, .int .i64 (k : Int))])
    (fun k w' => k ≤ L.G.V ∧ Keep [gl] w w' ∧ Own w' gl 3 cl k (fun _ => .int .i64 (-1))) (fun k => L.G.V - k) 0 ⟨rfl, rfl, rfl, rfl, rfl, rfl, trivial⟩ ⟨Nat.zero_le _, Keep.refl _ _, ?_⟩ ?_
  · obtain ⟨arr, h1, h2, _⟩ := hown
    exact ⟨arr, h1, h2, fun i hi => by omega⟩
  rintro k uu w1 ⟨hk, hkeep, hl⟩ R hR
  by_cases hlt : k < L.G.V
  · obtain ⟨old, hold⟩ := hl.some (i := k) (by omega)
    refine wp_region_seq (fun K hK => ?_)
    refine wpl_op rfl (Ex_lss rfl rfl (decide_eq_true (by omega))) ?_
    refine wpl_nil (hK _ _ ?_)
    clear hK K
    refine wp_seq_k (fun K' hK' => ?_)
    refine wp_if_true rfl ?_
    refine wp_skip (hK' _ _ ?_)
    clear hK' K'
    refine wp_seq_k (fun K' hK' => ?_)
    refine wp_block ?_
    refine wp_region_seq (fun K hK => ?_)
    refine wpl_op rfl (Ex_move (by conv => lhs; whnf)) ?_
    refine wpl_op rfl (Ex_assign (by conv => lhs; whnf)) ?_
    refine wpl_nil (hK _ _ ?_)
    clear hK K
    refine wp_region_last ?_
    refine wpl_op rfl (Ex_move (by conv => lhs; whnf)) ?_
    refine wpl_op rfl (Ex_move (by conv => lhs; whnf)) ?_
    refine wpl_op rfl (Ex_index1 Try.underlying22 size_22 rfl rfl hlt) ?_
    refine wpl_op rfl (Ex_store one3 rfl (by conv => lhs; whnf) rfl (by rw [Nat.zero_add]; exact hold) hl.open_) ?_
    refine wpl_nil ?_
    rw [Nat.zero_add]
    refine hK' _ _ ?_
    refine wp_region_last ?_
    refine wpl_op rfl (Ex_inc rfl rfl (by omega)) ?_
    refine wpl_op rfl (Ex_move (by conv => lhs; whnf)) ?_
    refine wpl_nil ?_
    exact hR _ _ _ (k + 1) ⟨rfl, rfl, rfl, rfl, rfl, rfl, trivial⟩ ⟨hlt, hkeep.trans (Keep.setCell _ (by simp) _), hl.set (by omega) (fun j hj => by
      by_cases hje : j = k
      · exact .inl ⟨hje, rfl⟩
      · exact .inr ⟨hje, by omega, rfl⟩)⟩ (by omega)
  · have hke : k = L.G.V := by omega
    subst hke
    refine wp_region_seq (fun K hK => ?_)
    refine wpl_op rfl (Ex_lss rfl rfl (decide_eq_false (by omega))) ?_
    refine wpl_nil (hK _ _ ?_)
    clear hK K
    refine wp_seq_k (fun K' hK' => ?_)
    refine wp_if_false rfl ?_
    refine wp_exit ?_
    refine hK1 _ _ ?_
    clear hK1 hR hlt hk
    refine wp_region_seq (fun K hK => ?_)
    refine wpl_op rfl (Ex_move (by conv => lhs; whnf)) ?_
    refine wpl_op rfl (Ex_move (by conv => lhs; whnf)) ?_
    refine wpl_op rfl (Ex_index1 Try.underlying22 size_22 rfl rfl hs) ?_
    refine wpl_op rfl (Ex_store one3 rfl (by conv => lhs; whnf) rfl (hl.c0 hs) hl.open_) ?_
    refine wpl_nil (hK _ _ ?_)
    clear hK K
    rw [Nat.zero_add]
    replace hl := Own.put (lv := fun _ => -1) hl hs hcl 0
    replace hkeep := hkeep.trans (Keep.setCell w1 (l := [gl]) (g := gl) (i := s) (by simp) (.int .i64 0))
    have hbfs := Gr.Bfs.init (G := L.G) (r := r) (lv := fun _ => -1) hs (fun _ _ => rfl)
    generalize set1 (fun _ => -1) s 0 = lv at hl hbfs
    refine wp_gen (fun w2 => Keep [gl] w w2 ∧ Own w2 gl 3 cl L.G.V (fun i => .int .i64 (lv i))) ⟨hkeep, hl⟩ (fun w2 hg2 => ?_)
    clear hkeep hl
    obtain ⟨hkeep, hl⟩ := hg2
    refine wp_seq_k (fun K1 hK1 => ?_)
    refine wp_region_seq (fun K hK => ?_)
    refine wpl_op rfl (Ex_move (by conv => lhs; whnf)) ?_
    refine wpl_op rfl (Ex_bsl (pv := [(0, .int .i64 (s : Int))]) rfl (bsl3 _ _)) ?_
    refine wpl_op rfl (Ex_assign (by conv => lhs; whnf)) ?_
    refine wpl_nil (hK _ _ ?_)
    clear hK K
    refine wp_block ?_
    refine wp_loop_st (fun q : (Nat → Int) × List Nat × Option Addr × Nat => [(0, .pointer (some ⟨L.g, 0, none⟩)), (1, .int .i64 s), (2, .int .i64 t), (3, .slice (some ⟨gl, 0, none⟩) L.G.V cL), (10, .slice q.2.2.1 (qi q.2.1).length q.2.2.2)])
      (fun q w' => Keep [gl] w w' ∧ Own w' gl 3 cl L.G.V (fun i => .int .i64 (q.1 i)) ∧ L.G.Bfs r q.1 s q.2.1 ∧ Que w' w.heap.size q.2.2.1 q.2.2.2 (qi q.2.1) ∧ 2 * (L.G.V - vis q.1 L.G.V) + q.2.1.length ≤ 2000001)
      (fun q => 2 * (L.G.V - vis q.1 L.G.V) + q.2.1.length) (lv, [s], some ⟨w2.heap.size, 0, none⟩, 1) ⟨rfl, rfl, rfl, rfl, rfl, trivial⟩
      ⟨hkeep.trans (Keep.alloc _ _ _), hl.keep (Keep.alloc [] _ _) (by simp), hbfs, Que.first w2 _ hkeep.size s, by dsimp only [List.length]; omega⟩ ?_
    clear hkeep hl hbfs lv
    rintro ⟨lv, Q, a, ca⟩ uu w3 ⟨hkeep, hl, hbfs, hque, hcap⟩ R hR
    dsimp only at hl hbfs hque hkeep hcap
    cases Q with
    | nil =>
      refine wp_seq_k (fun KK hKK => ?_)
      refine wp_region_seq (fun K hK => ?_)
      refine wpl_op rfl (Ex_move (by conv => lhs; whnf)) ?_
      refine wpl_op rfl (Ex_len Try.underlying22 rfl) ?_
      refine wpl_op rfl (Ex_gtr rfl rfl rfl) ?_
      refine wpl_nil (hK _ _ ?_)
      clear hK K
      refine wp_if_false rfl ?_
      refine wp_exit ?_
      clear hKK
      refine hK1 _ _ ?_
      refine wp_region_seq (fun K hK => ?_)
      refine wpl_op rfl (Ex_move (by conv => lhs; whnf)) ?_
      refine wpl_op rfl (Ex_move (by conv => lhs; whnf)) ?_
      refine wpl_op rfl (Ex_index1 Try.underlying22 size_22 rfl rfl ht) ?_
      refine wpl_op rfl (Ex_load one3 rfl (hl.c0 ht)) ?_
      refine wpl_op rfl (Ex_geq rfl rfl rfl) ?_
      refine wpl_op rfl (Ex_assign (by conv => lhs; whnf)) ?_
      refine wpl_nil (hK _ _ ?_)
      clear hK K
      refine wp_ret ?_
      repeat (first | refine out_block ?_ | refine out_then ?_)
      refine ret_tmp Try.results39 ⟨lv, rfl, hl, hkeep, hbfs⟩
    | cons v0 Q =>
      obtain ⟨hv0, hlv0⟩ := hbfs.q v0 (by simp)
      have hvis := vis_le lv L.G.V
      have hcap' : 2 * (L.G.V - vis lv L.G.V) + Q.length ≤ 2000000 := by simp at hcap; omega
      have hnet' := hnk _ hkeep
      have hdM := hG.degM v0 hv0
      have hM := hG.big
      refine wp_seq_k (fun KK hKK => ?_)
      refine wp_region_seq (fun K hK => ?_)
      refine wpl_op rfl (Ex_move (by conv => lhs; whnf)) ?_
      refine wpl_op rfl (Ex_len Try.underlying22 rfl) ?_
      refine wpl_op rfl (Ex_gtr rfl rfl (decide_eq_true (by simp [qi]))) ?_
      refine wpl_nil (hK _ _ ?_)
      clear hK K
      refine wp_if_true rfl ?_
      refine wp_skip (hKK _ _ ?_)
      clear hKK KK
      refine wp_seq_k (fun K' hK' => ?_)
      refine wp_block ?_
      obtain ⟨qb, qo, rfl, hqc⟩ := Que.head (x := (v0 : Int)) (xs := qi Q) hque
      refine wp_region_seq (fun K hK => ?_)
      refine wpl_op rfl (Ex_move (by conv => lhs; whnf)) ?_
      refine wpl_op rfl (Ex_index1 (i := 0) Try.underlying22 size_22 rfl rfl (by simp [qi])) ?_
      refine wpl_op rfl (Ex_load one3 rfl hqc) ?_
      refine wpl_op rfl (Ex_assign (by conv => lhs; whnf)) ?_
      refine wpl_nil (hK _ _ ?_)
      clear hK K
      refine wp_region_seq (fun K hK => ?_)
      refine wpl_op rfl (Ex_move (by conv => lhs; whnf)) ?_
      refine wpl_op rfl (Ex_nil rfl) ?_
      refine wpl_op rfl (Ex_field fld56_0 rfl) ?_
      refine wpl_op rfl (Ex_load one27 rfl hnet'.c0) ?_
      refine wpl_op rfl (Ex_move (by conv => lhs; whnf)) ?_
      refine wpl_op rfl (Ex_index1 Try.underlying27 size_27 rfl rfl hv0) ?_
      refine wpl_op rfl (Ex_load one22 rfl (hnet'.out v0 hv0)) ?_
      refine wpl_op rfl (Ex_len Try.underlying22 rfl) ?_
      refine wpl_op rfl (Ex_move (by conv => lhs; whnf)) ?_
      refine wpl_nil (hK _ _ ?_)
      clear hK K
      refine wp_block ?_
      refine wp_loop_st (fun q : Nat × (Nat → Int) × List Nat × Option Addr × Nat => [(0, .pointer (some ⟨L.g, 0, none⟩)), (1, .int .i64 s), (2, .int .i64 t), (3, .slice (some ⟨gl, 0, none⟩) L.G.V cL), (11, .int .i64 (v0 : Int)), (43, .slice (L.ov v0) (L.G.deg v0) (L.oc v0)), (44, .int .i64 (L.G.deg v0 : Int)), (10, .slice q.2.2.2.1 (qi (v0 :: q.2.2.1)).length q.2.2.2.2), (45, .int .i64 (q.1 : Int))])
        (fun q w' => q.1 ≤ L.G.deg v0 ∧ Keep [gl] w w' ∧ Own w' gl 3 cl L.G.V (fun i => .int .i64 (q.2.1 i)) ∧ L.G.Bfs r q.2.1 s (v0 :: q.2.2.1) ∧ Que w' w.heap.size q.2.2.2.1 q.2.2.2.2 (qi (v0 :: q.2.2.1)) ∧
          (∀ j, j < q.1 → 0 < r (L.G.E v0 j) → 0 ≤ q.2.1 (L.G.hd (L.G.E v0 j))) ∧ 2 * (L.G.V - vis q.2.1 L.G.V) + q.2.2.1.length ≤ 2 * (L.G.V - vis lv L.G.V) + Q.length)
        (fun q => L.G.deg v0 - q.1) (0, lv, Q, some ⟨qb, qo, none⟩, ca) ⟨rfl, rfl, rfl, rfl, rfl, rfl, rfl, rfl, rfl, trivial⟩
        ⟨Nat.zero_le _, hkeep, hl, hbfs, hque, fun j hj => by omega, Nat.le_refl _⟩ ?_
      clear hkeep hl hbfs hque hqc hnet' hlv0
      rintro ⟨j, lv1, Q1, a1, ca1⟩ uu w4 ⟨hj, hkeep, hl, hbfs, hque, hdone, hmeas⟩ R1 hR1
      dsimp only at hj hl hbfs hque hkeep hdone hmeas
      have hlv0 := (hbfs.q v0 (by simp)).2
      have hnet' := hnk _ hkeep
      by_cases hjd : j < L.G.deg v0
      · have heM := hG.eM v0 j hv0 hjd
        have hhV := hG.hdV _ heM
        have hovb := hnet'.ovb v0 hv0 (by omega)
        refine wp_region_seq (fun K hK => ?_)
        refine wpl_op rfl (Ex_lss rfl rfl (decide_eq_true (by dsimp only; omega))) ?_
        refine wpl_nil (hK _ _ ?_)
        clear hK K
        refine wp_seq_k (fun K2 hK2 => ?_)
        refine wp_if_true rfl ?_
        refine wp_skip (hK2 _ _ ?_)
        clear hK2 K2
        refine wp_seq_k (fun K2 hK2 => ?_)
        refine wp_block ?_
        refine wp_region_seq (fun K hK => ?_)
        refine wpl_op rfl (Ex_index1 Try.underlying22 size_22 (by rw [← hovb]; rfl) rfl hjd) ?_
        refine wpl_op rfl (Ex_load one3 rfl (hnet'.ed v0 j hv0 hjd)) ?_
        refine wpl_op rfl (Ex_assign (by conv => lhs; whnf)) ?_
        refine wpl_nil (hK _ _ ?_)
        clear hK K
        refine wp_region_seq (fun K hK => ?_)
        refine wpl_op rfl (Ex_move (by conv => lhs; whnf)) ?_
        refine wpl_op rfl (Ex_nil rfl) ?_
        refine wpl_op rfl (Ex_field fld56_1 rfl) ?_
        refine wpl_op rfl (Ex_load one22 rfl hnet'.c1) ?_
        refine wpl_op rfl (Ex_move (by conv => lhs; whnf)) ?_
        refine wpl_op rfl (Ex_index1 Try.underlying22 size_22 rfl rfl heM) ?_
        refine wpl_op rfl (Ex_load one3 rfl (hnet'.hd _ heM)) ?_
        refine wpl_op rfl (Ex_assign (by conv => lhs; whnf)) ?_
        refine wpl_nil (hK _ _ ?_)
        clear hK K
        by_cases hr0 : 0 < r (L.G.E v0 j)
        · by_cases hneg : lv1 (L.G.hd (L.G.E v0 j)) < 0
          · skip
            refine wp_region_seq (fun K hK => ?_)
            refine wpl_op rfl (Ex_move (by conv => lhs; whnf)) ?_
            refine wpl_op rfl (Ex_nil rfl) ?_
            refine wpl_op rfl (Ex_field fld56_2 rfl) ?_
            refine wpl_op rfl (Ex_load one22 rfl hnet'.c2) ?_
            refine wpl_op rfl (Ex_move (by conv => lhs; whnf)) ?_
            refine wpl_op rfl (Ex_index1 Try.underlying22 size_22 rfl rfl heM) ?_
            refine wpl_op rfl (Ex_load one3 rfl (hnet'.rmc heM)) ?_
            refine wpl_op rfl (Ex_gtr rfl rfl (decide_eq_true hr0)) ?_
            refine wpl_op rfl (Ex_move (by conv => lhs; whnf)) ?_
            refine wpl_opg (by exact rfl) (by exact rfl) (Ex_move (by conv => lhs; whnf)) ?_
            refine wpl_opg (by exact rfl) (by exact rfl) (Ex_move (by conv => lhs; whnf)) ?_
            refine wpl_opg (by exact rfl) (by exact rfl) (Ex_index1 Try.underlying22 size_22 rfl rfl hhV) ?_
            refine wpl_opg (by exact rfl) (by exact rfl) (Ex_load one3 rfl (hl.c0 hhV)) ?_
            refine wpl_opg (by exact rfl) (by exact rfl) (Ex_lss rfl rfl (decide_eq_true hneg)) ?_
            refine wpl_op rfl (Ex_pick rfl (by conv => lhs; whnf)) ?_
            refine wpl_nil (hK _ _ ?_)
            clear hK K
            refine wp_if_true rfl ?_
            have hlvb := hbfs.lvl v0 hv0
            have hvis1 := vis_le lv1 L.G.V
            have hvset : vis (set1 lv1 (L.G.hd (L.G.E v0 j)) (lv1 v0 + 1)) L.G.V = vis lv1 L.G.V + 1 := vis_set hneg (by omega) hhV
            have hvis2 := vis_le (set1 lv1 (L.G.hd (L.G.E v0 j)) (lv1 v0 + 1)) L.G.V
            have hlen : (qi (v0 :: Q1)).length = Q1.length + 1 := by simp [qi]
            have hQ1 : Q1.length ≤ 10000000 := by omega
            refine wp_region_seq (fun K hK => ?_)
            refine wpl_op rfl (Ex_move (by conv => lhs; whnf)) ?_
            refine wpl_op rfl (Ex_move (by conv => lhs; whnf)) ?_
            refine wpl_op rfl (Ex_move (by conv => lhs; whnf)) ?_
            refine wpl_op rfl (Ex_move (by conv => lhs; whnf)) ?_
            refine wpl_op rfl (Ex_index1 Try.underlying22 size_22 rfl rfl hv0) ?_
            refine wpl_op rfl (Ex_load one3 rfl (hl.c0 hv0)) ?_
            refine wpl_op rfl (Ex_add rfl rfl (by omega) (by omega)) ?_
            refine wpl_op rfl (Ex_index1 Try.underlying22 size_22 rfl rfl hhV) ?_
            refine wpl_op rfl (Ex_store one3 rfl (by conv => lhs; whnf) rfl (hl.c0 hhV) hl.open_) ?_
            refine wpl_nil (hK _ _ ?_)
            clear hK K
            rw [Nat.zero_add]
            replace hl := Own.put hl hhV hcl (lv1 v0 + 1)
            replace hque := hque.keep (Keep.setCell w4 (l := [gl]) (g := gl) (i := L.G.hd (L.G.E v0 j)) (by simp) (.int .i64 (lv1 v0 + 1))) (fun k hk => by rw [show k = gl by simpa using hk]; exact hglB)
            replace hkeep := hkeep.trans (Keep.setCell w4 (l := [gl]) (g := gl) (i := L.G.hd (L.G.E v0 j)) (by simp) (.int .i64 (lv1 v0 + 1)))
            replace hbfs := hbfs.visit hv0 hlv0 hjd hr0 hhV hneg
            refine wp_gen (fun w5 => Keep [gl] w w5 ∧ Own w5 gl 3 cl L.G.V (fun i => .int .i64 (set1 lv1 (L.G.hd (L.G.E v0 j)) (lv1 v0 + 1) i)) ∧ Que w5 w.heap.size a1 ca1 (qi (v0 :: Q1))) ⟨hkeep, hl, hque⟩ (fun w5 hg5 => ?_)
            clear hkeep hl hque hnet'
            obtain ⟨hkeep, hl, hque⟩ := hg5
            refine wp_region_last ?_
            refine wpl_op rfl (Ex_move (by conv => lhs; whnf)) ?_
            refine wpl_op rfl (Ex_move (by conv => lhs; whnf)) ?_
            refine wpl_op rfl (Ex_bsl (pv := [(0, .int .i64 (L.G.hd (L.G.E v0 j) : Int))]) rfl (bsl3 _ _)) ?_
            refine wpl_exop rfl (Ex_quepush (B := w.heap.size) (ad := ⟨w5.heap.size, 0, none⟩) (k := (L.G.hd (L.G.E v0 j) : Int)) Try.underlying22 info3 (hque.keep (Keep.alloc [] _ _) (by intro k hk; cases hk)) (by simp [qi]) rfl rfl (cell_at (heap_new w5 _) rfl) (by omega) (Nat.le_trans hkeep.size (by simp))) ?_
            rintro v' w6 ⟨⟨a2, ca2, rfl, hque2⟩, hb6⟩
            refine wpl_op rfl (Ex_assign (by conv => lhs; whnf)) ?_
            refine wpl_nil ?_
            rw [qi_snoc] at hque2
            have hlen2 : (qi (v0 :: Q1)).length + 1 = (qi (v0 :: (Q1 ++ [L.G.hd (L.G.E v0 j)]))).length := by simp [qi]
            rw [hlen2]
            refine hK2 _ _ ?_
            refine wp_region_last ?_
            refine wpl_op rfl (Ex_inc rfl rfl (by dsimp only; omega)) ?_
            refine wpl_op rfl (Ex_move (by conv => lhs; whnf)) ?_
            refine wpl_nil ?_
            refine hR1 _ _ _ (j + 1, set1 lv1 (L.G.hd (L.G.E v0 j)) (lv1 v0 + 1), Q1 ++ [L.G.hd (L.G.E v0 j)], a2, ca2) ⟨rfl, rfl, rfl, rfl, rfl, rfl, rfl, rfl, rfl, trivial⟩ ⟨hjd, (hkeep.trans (Keep.alloc _ _ _)).btrans hb6, (hl.keep (Keep.alloc [] _ _) (by simp)).below hb6 hglB, hbfs, hque2, fun i hi hri => ?_, ?_⟩ ?_
            · by_cases hij : L.G.hd (L.G.E v0 i) = L.G.hd (L.G.E v0 j)
              · rw [hij]; dsimp only; rw [set1_at]; omega
              · have hie : i ≠ j := fun e => hij (by rw [e])
                dsimp only
                rw [set1_ne _ _ hij]
                exact hdone i (by dsimp only at hi; omega) hri
            · dsimp only
              rw [hvset]
              simp
              omega
            · dsimp only; omega
          · skip
            refine wp_region_seq (fun K hK => ?_)
            refine wpl_op rfl (Ex_move (by conv => lhs; whnf)) ?_
            refine wpl_op rfl (Ex_nil rfl) ?_
            refine wpl_op rfl (Ex_field fld56_2 rfl) ?_
            refine wpl_op rfl (Ex_load one22 rfl hnet'.c2) ?_
            refine wpl_op rfl (Ex_move (by conv => lhs; whnf)) ?_
            refine wpl_op rfl (Ex_index1 Try.underlying22 size_22 rfl rfl heM) ?_
            refine wpl_op rfl (Ex_load one3 rfl (hnet'.rmc heM)) ?_
            refine wpl_op rfl (Ex_gtr rfl rfl (decide_eq_true hr0)) ?_
            refine wpl_op rfl (Ex_move (by conv => lhs; whnf)) ?_
            refine wpl_opg (by exact rfl) (by exact rfl) (Ex_move (by conv => lhs; whnf)) ?_
            refine wpl_opg (by exact rfl) (by exact rfl) (Ex_move (by conv => lhs; whnf)) ?_
            refine wpl_opg (by exact rfl) (by exact rfl) (Ex_index1 Try.underlying22 size_22 rfl rfl hhV) ?_
            refine wpl_opg (by exact rfl) (by exact rfl) (Ex_load one3 rfl (hl.c0 hhV)) ?_
            refine wpl_opg (by exact rfl) (by exact rfl) (Ex_lss rfl rfl (decide_eq_false hneg)) ?_
            refine wpl_op rfl (Ex_pick rfl (by conv => lhs; whnf)) ?_
            refine wpl_nil (hK _ _ ?_)
            clear hK K
            refine wp_if_false rfl ?_
            refine wp_skip ?_
            refine hK2 _ _ ?_
            refine wp_region_last ?_
            refine wpl_op rfl (Ex_inc rfl rfl (by dsimp only; omega)) ?_
            refine wpl_op rfl (Ex_move (by conv => lhs; whnf)) ?_
            refine wpl_nil ?_
            exact hR1 _ _ _ (j + 1, lv1, Q1, a1, ca1) ⟨rfl, rfl, rfl, rfl, rfl, rfl, rfl, rfl, rfl, trivial⟩ ⟨hjd, hkeep, hl, hbfs, hque, all_succ (P := fun i => 0 < r (L.G.E v0 i) → 0 ≤ lv1 (L.G.hd (L.G.E v0 i))) hdone (fun _ => by omega), hmeas⟩ (by dsimp only; omega)
        · skip
          refine wp_region_seq (fun K hK => ?_)
          refine wpl_op rfl (Ex_move (by conv => lhs; whnf)) ?_
          refine wpl_op rfl (Ex_nil rfl) ?_
          refine wpl_op rfl (Ex_field fld56_2 rfl) ?_
          refine wpl_op rfl (Ex_load one22 rfl hnet'.c2) ?_
          refine wpl_op rfl (Ex_move (by conv => lhs; whnf)) ?_
          refine wpl_op rfl (Ex_index1 Try.underlying22 size_22 rfl rfl heM) ?_
          refine wpl_op rfl (Ex_load one3 rfl (hnet'.rmc heM)) ?_
          refine wpl_op rfl (Ex_gtr rfl rfl (decide_eq_false hr0)) ?_
          refine wpl_op rfl (Ex_move (by conv => lhs; whnf)) ?_
          refine wpl_pass (by exact rfl) (by exact rfl) ?_
          refine wpl_pass (by exact rfl) (by exact rfl) ?_
          refine wpl_pass (by exact rfl) (by exact rfl) ?_
          refine wpl_pass (by exact rfl) (by exact rfl) ?_
          refine wpl_pass (by exact rfl) (by exact rfl) ?_
          refine wpl_op rfl (Ex_pick rfl (by conv => lhs; whnf)) ?_
          refine wpl_nil (hK _ _ ?_)
          clear hK K
          refine wp_if_false rfl ?_
          refine wp_skip ?_
          refine hK2 _ _ ?_
          refine wp_region_last ?_
          refine wpl_op rfl (Ex_inc rfl rfl (by dsimp only; omega)) ?_
          refine wpl_op rfl (Ex_move (by conv => lhs; whnf)) ?_
          refine wpl_nil ?_
          exact hR1 _ _ _ (j + 1, lv1, Q1, a1, ca1) ⟨rfl, rfl, rfl, rfl, rfl, rfl, rfl, rfl, rfl, trivial⟩ ⟨hjd, hkeep, hl, hbfs, hque, all_succ (P := fun i => 0 < r (L.G.E v0 i) → 0 ≤ lv1 (L.G.hd (L.G.E v0 i))) hdone (fun h => absurd h hr0), hmeas⟩ (by dsimp only; omega)
      · have hje : j = L.G.deg v0 := by omega
        subst hje
        refine wp_region_seq (fun K hK => ?_)
        refine wpl_op rfl (Ex_lss rfl rfl (decide_eq_false (by dsimp only; omega))) ?_
        refine wpl_nil (hK _ _ ?_)
        clear hK K
        refine wp_seq_k (fun K2 hK2 => ?_)
        refine wp_if_false rfl ?_
        refine wp_exit ?_
        refine hK' _ _ ?_
        refine wp_region_last ?_
        refine wpl_op rfl (Ex_move (by conv => lhs; whnf)) ?_
        refine wpl_exop rfl (Ex_quetail (B := w.heap.size) (z := (v0 : Int)) (xs := qi Q1) Try.underlying22 size_22 hque rfl rfl) ?_
        rintro v' w5 ⟨⟨a2, rfl, hque2⟩, rfl⟩
        refine wpl_op rfl (Ex_assign (by conv => lhs; whnf)) ?_
        refine wpl_nil ?_
        exact hR _ _ _ (lv1, Q1, a2, ca1 - 1) ⟨rfl, rfl, rfl, rfl, rfl, trivial⟩ ⟨hkeep, hl, hbfs.pop hdone, hque2, by dsimp only; omega⟩ (by dsimp only; simp; omega)
end Go.Proofs.Qxb6613837a.Sp
