import Derived.Test.Qxb6613837aAdd
namespace Go.Fr
open Go.RowKit
/-! ### Two operations may come up -/
/-- Operation j comes up. -/
structure wpd1 (P : Program) (ol : List Oper) (K : Act → World → Prop) (S : World → Prop) (tl : Nat → Bool) (fuel : Nat) (L : Array Bool) (j : Nat) (a : Act) (w : World) : Prop where
  out : wpOp P ol.toArray (NP K) j (fun a' w' => (S w → tl j = false → S w') ∧ wpH P ol.toArray (NP K) S tl fuel (L.setIfInBounds j true) a' w') a w
section
variable {P : Program} {ol : List Oper} {K : Act → World → Prop} {S : World → Prop} {tl : Nat → Bool} {fuel : Nat} {L : Array Bool} {N : Nat} {u : Nat → Value} {l : List (Nat × Value)} {w w' : World} {v : Value}
  {dst : Option Tmp} {op : Op} {ty : TypeId} {pos : String} {after : Array Edge}
theorem wpd_two {a : Act} (i j : Nat) (hr : Region.ready .any ol.toArray L = [i, j]) (h1 : wpd1 P ol K S tl fuel L i a w) (h2 : wpd1 P ol K S tl fuel L j a w) : wpd P ol K S tl (fuel + 1) L a w := by
  refine ⟨⟨fun h0 => (by rw [hr] at h0; cases h0), fun k hk => ?_⟩⟩
  rw [hr] at hk
  simp at hk
  rcases hk with rfl | rfl
  · exact h1.out
  · exact h2.out
theorem wpd1_op {i : Nat} (hn : nthOp ol i = some { dst := dst, op := op, type := ty, pos := pos, after := after, guard := none })
    (h : Ex P (ev N u l) op ty w v w') (hS : S w → tl i = false → S w') (k : wpd P ol K S tl fuel (L.setIfInBounds i true) (fr N u (putl dst v l)) w') : wpd1 P ol K S tl fuel L i (fr N u l) w := by
  rw [nthOp_eq] at hn
  refine ⟨?_⟩
  unfold wpOp
  simp only [hn]
  rw [if_pos (by simp [Region.wanted])]
  refine .inl ?_
  have hx := h { dst := dst, op := op, type := ty, pos := pos, after := after, guard := none } rfl rfl
  unfold Oper.wp
  rw [eval_fr]
  rcases hx with hx | ⟨hx, rfl⟩
  · rw [hx]; simp only [Oper.upon]; rw [put_fr]; exact ⟨hS, k.out⟩
  · rw [hx]; simp only [Oper.upon]; rw [put_fr]; exact ⟨hS, k.out⟩
end
end Go.Fr
namespace Go.Proofs.Qxb6613837a.Sp
open Go.Fr Go.RowKit Go.Sp

theorem bld56 (a : Option Addr) (n c : Nat) (w : World) : (Instr.build 56 #[(0, .slice a n c)]).run Try.prog w = .ok (.agg #[.slice a n c, .slice none 0 0, .slice none 0 0]) w := by
  simp [go_sem]
def nilv : Nat → Value := fun _ => .slice none 0 0


theorem newNetwork_ret (V : Nat) (w : World) (hV : V ≤ 1000000) : Ret Try.prog 34 #[.int .i64 V] w fun v w' =>
    ∃ g go, v = .pointer (some ⟨g, 0, none⟩) ∧ w.heap.size ≤ g ∧ w.heap.size ≤ go ∧ g ≠ go ∧ Own w' g 56 3 3 (stc go V nilv) ∧ Own w' go 22 V V nilv ∧ Below w.heap.size w w' := by
  refine Ret.of_body (vs := [.int .i64 V]) Try.func34 rfl Try.ntmps34 rfl ?_
  refine wp_region_seq (fun K hK => ?_)
  refine wpl_op rfl (Ex_assign (by conv => lhs; whnf)) ?_
  refine wpl_nil (hK _ _ ?_)
  clear hK K
  refine wp_region_seq (fun K hK => ?_)
  refine wpl_op rfl (Ex_move (by conv => lhs; whnf)) ?_
  refine wpl_op rfl (Ex_mk Try.underlying27 info22 rfl rfl (by omega) (by omega)) ?_
  refine wpl_op rfl (Ex_build (pv := [(0, .slice (some ⟨w.heap.size, 0, none⟩) V V)]) rfl (bld56 _ _ _ _)) ?_
  refine wpl_op rfl (Ex_box (by conv => lhs; whnf)) ?_
  refine wpl_op rfl (Ex_assign (by conv => lhs; whnf)) ?_
  refine wpl_nil (hK _ _ ?_)
  clear hK K
  have h1 : Own (w.alloc (.cells (madeCells (Value.slice none 0 0).cells (V * 1)) 22)) w.heap.size 22 V V nilv := by
    rw [Nat.mul_one]
    exact ⟨_, heap_new w _, size_madeCells _ _, fun i hi => made_get hi⟩
  have hb1 : Below w.heap.size w (w.alloc (.cells (madeCells (Value.slice none 0 0).cells (V * 1)) 22)) := (Below.refl _ _).alloc (Nat.le_refl _) _
  refine wp_ret ?_
  repeat (first | refine out_block ?_ | refine out_then ?_)
  refine ret_tmp Try.results34 ⟨_, _, rfl, hb1.size, Nat.le_refl _, by simp, ⟨_, heap_new _ _, rfl, ?_⟩, h1.keep (Keep.alloc [] _ _) (by simp), hb1.alloc hb1.size _⟩
  intro i hi
  have : i = 0 ∨ i = 1 ∨ i = 2 := by omega
  rcases this with rfl | rfl | rfl <;> rfl

theorem flow_ret (L : Lay) (r : Nat → Int) (e : Nat) (he : rev e < L.G.M) (hM : L.G.M ≤ 1000000) (w : World) (hnet : Net w L r) : Ret Try.prog 38 #[.pointer (some ⟨L.g, 0, none⟩), .int .i64 e] w fun v w' => v = .int .i64 (r (rev e)) ∧ w' = w := by
  refine Ret.of_body (vs := [.pointer (some ⟨L.g, 0, none⟩), .int .i64 e]) Try.func38 rfl Try.ntmps38 rfl ?_
  have hee : e < 4611686018427387904 := by unfold rev at he; split at he <;> omega
  refine wp_region_seq (fun K hK => ?_)
  refine wpl_op rfl (Ex_assign (by conv => lhs; whnf)) ?_
  refine wpl_nil (hK _ _ ?_)
  clear hK K
  refine wp_region_seq (fun K hK => ?_)
  refine wpl_op rfl (Ex_move (by conv => lhs; whnf)) ?_
  refine wpl_op rfl (Ex_nil rfl) ?_
  refine wpl_op rfl (Ex_field fld56_2 rfl) ?_
  refine wpl_op rfl (Ex_load one22 rfl hnet.c2) ?_
  refine wpl_op rfl (Ex_move (by conv => lhs; whnf)) ?_
  refine wpl_op rfl (Ex_rev rfl rfl hee) ?_
  refine wpl_op rfl (Ex_index1 Try.underlying22 size_22 rfl rfl he) ?_
  refine wpl_op rfl (Ex_load one3 rfl (hnet.rmc he)) ?_
  refine wpl_op rfl (Ex_assign (by conv => lhs; whnf)) ?_
  refine wpl_nil (hK _ _ ?_)
  clear hK K
  refine wp_ret ?_
  repeat (first | refine out_block ?_ | refine out_then ?_)
  refine ret_tmp Try.results38 ⟨rfl, rfl⟩

/-- transport's own memory while it builds: the two boxes, the row of what the lower bounds bring, the network. -/
structure Tr (w : World) (B bx bg gx g go V : Nat) (rv : Nat → Value) (es : List Arc) (ex : Nat → Int) : Prop where
  xb : w.cell? ⟨bx, 0, none⟩ = some (.slice (some ⟨gx, 0, none⟩) V V)
  gb : w.cell? ⟨bg, 0, none⟩ = some (.pointer (some ⟨g, 0, none⟩))
  ex : Own w gx 3 V V (fun i => .int .i64 (ex i))
  bld : Bld w B g go V rv (rcOf V es)
  xB : bx < B
  gB : bg < B
  eB : gx < B
  n1 : bx ∉ [g, go, gx]
  n2 : bg ∉ [g, go, gx]
  n3 : gx ∉ [g, go]
theorem Tr.below {w w' : World} {B bx bg gx g go V : Nat} {rv : Nat → Value} {es : List Arc} {ex : Nat → Int} (h : Tr w B bx bg gx g go V rv es ex) (hb : Below w.heap.size w w') : Tr w' B bx bg gx g go V rv es ex :=
  ⟨(Keep.of_below hb []).cell h.xb (by simp), (Keep.of_below hb []).cell h.gb (by simp), h.ex.later hb, h.bld.below hb, h.xB, h.gB, h.eB, h.n1, h.n2, h.n3⟩
theorem Tr.put {w : World} {B bx bg gx g go V : Nat} {rv : Nat → Value} {es : List Arc} {ex : Nat → Int} (h : Tr w B bx bg gx g go V rv es ex) {u : Nat} (hu : u < V) (x : Int) : Tr (w.setCell ⟨gx, u, none⟩ (.int .i64 x)) B bx bg gx g go V rv es (set1 ex u x) := by
  have hk := Keep.setCell w (l := [gx]) (g := gx) (i := u) (by simp) (.int .i64 x)
  have h1 := h.n1
  have h2 := h.n2
  have h3 := h.n3
  have h4 := h.bld.gB
  have h5 := h.eB
  simp only [List.mem_cons, List.not_mem_nil, or_false, not_or] at h1 h2 h3
  exact ⟨hk.cell h.xb (by simp [h1]), hk.cell h.gb (by simp [h2]), Own.put h.ex hu (Nat.le_refl _) x,
    ⟨h.bld.st.keep hk (by simp [Ne.symm h3.1]), h.bld.ot.keep hk (by simp [Ne.symm h3.2]), h.bld.fam.keep hk (fun k hk => .inl (by rw [show k = gx by simpa using hk]; exact h5)), h.bld.gB, h.bld.goB, h.bld.ne⟩, h.xB, h.gB, h.eB, h.n1, h.n2, h.n3⟩
theorem Tr.drew {w : World} {B bx bg gx g go V : Nat} {rv : Nat → Value} {es : List Arc} {ex : Nat → Int} (h : Tr w B bx bg gx g go V rv es ex) : Tr w.drew B bx bg gx g go V rv es ex :=
  ⟨h.xb, h.gb, h.ex, ⟨h.bld.st, h.bld.ot, ⟨h.bld.fam.own, h.bld.fam.dis, h.bld.fam.szB⟩, h.bld.gB, h.bld.goB, h.bld.ne⟩, h.xB, h.gB, h.eB, h.n1, h.n2, h.n3⟩
/-- A block below B that is none of the network's is kept. -/
theorem Kept.cell {n : Nat} {l : List Nat} {w w' : World} {rv rv' : Nat → Value} {b o : Nat} {v : Value} (h : Kept n l w rv w' rv') (hc : w.cell? ⟨b, o, none⟩ = some v) (hl : b ∉ l) (hr : ∀ a, a < n → (rv a).ownBlock ≠ some b) : w'.cell? ⟨b, o, none⟩ = some v := by
  have hlt : b < w.heap.size := World.block_lt_of_cell? w _ hc
  exact (World.cell?_of_block (h.old b hlt hl hr).1).trans hc
theorem Fam.out {w : World} {B n : Nat} {rv : Nat → Value} {rc : Nat → List Int} (h : Fam w B n rv rc) {b : Nat} (hb : b < B ∨ w.heap.size ≤ b) : ∀ a, a < n → (rv a).ownBlock ≠ some b := fun a ha hk => by
  have := (h.own a ha).lt b hk
  omega
end Go.Proofs.Qxb6613837a.Sp
namespace Go.Fr
open Go.RowKit Go.Sp Go.Proofs.Qxb6613837a.Sp
theorem Own.kept {n : Nat} {l : List Nat} {w w' : World} {rv rv' : Nat → Value} {g c k : Nat} {t : TypeId} {f : Nat → Value} (h : Own w g t c k f) (hk : Kept n l w rv w' rv') (hl : g ∉ l) (hr : ∀ a, a < n → (rv a).ownBlock ≠ Option.some g) : Own w' g t c k f := by
  have hlt := h.lt
  obtain ⟨arr, h1, h2, h3⟩ := h
  exact ⟨arr, by rw [(hk.old g hlt hl hr).1]; exact h1, h2, h3⟩
end Go.Fr
namespace Go.Proofs.Qxb6613837a.Sp
open Go.Fr Go.RowKit Go.Sp
theorem bounded_ret (B bx bg gx g go V : Nat) (rv : Nat → Value) (es : List Arc) (ex : Nat → Int) (u v : Nat) (lo hi : Int) (hu : u < V) (hv : v < V) (hl : es.length ≤ 10000000) (hex : ∀ i, i < V → -1000000000000 ≤ ex i ∧ ex i ≤ 1000000000000) (hlo : 0 ≤ lo ∧ lo ≤ 1000000) (hhi : 0 ≤ hi ∧ hi ≤ 1000000) (w : World) (h : Tr w B bx bg gx g go V rv es ex) :
    Ret Try.prog 35 #[.int .i64 u, .int .i64 v, .agg #[.int .i64 lo, .int .i64 hi], .pointer (some ⟨bx, 0, none⟩), .pointer (some ⟨bg, 0, none⟩)] w fun r w' =>
      r = .int .i64 ((2 * es.length : Nat) : Int) ∧ ∃ rv', Tr w' B bx bg gx g go V rv' (es ++ [⟨u, v, hi - lo⟩]) (set1 (set1 ex u (ex u - lo)) v (set1 ex u (ex u - lo) v + lo)) ∧ Kept (V + 2) [g, go, gx] w rv w' rv' := by
  refine Ret.of_body (vs := [.int .i64 u, .int .i64 v, .agg #[.int .i64 lo, .int .i64 hi], .pointer (some ⟨bx, 0, none⟩), .pointer (some ⟨bg, 0, none⟩)]) Try.func35 rfl Try.ntmps35 rfl ?_
  refine wp_region_seq (fun K hK => ?_)
  refine wpl_op rfl (Ex_box (by conv => lhs; whnf)) ?_
  refine wpl_op rfl (Ex_assign (by conv => lhs; whnf)) ?_
  refine wpl_nil (hK _ _ ?_)
  clear hK K
  have hal := Keep.alloc [] w (.cells (Value.agg #[.int .i64 lo, .int .i64 hi]).cells 41)
  have hs0 : (w.alloc (.cells (Value.agg #[.int .i64 lo, .int .i64 hi]).cells 41)).cell? ⟨w.heap.size, 0, none⟩ = some (.int .i64 lo) := cell_at (heap_new w _) rfl
  have hs1 : (w.alloc (.cells (Value.agg #[.int .i64 lo, .int .i64 hi]).cells 41)).cell? ⟨w.heap.size, 1, none⟩ = some (.int .i64 hi) := cell_at (heap_new w _) rfl
  have htr := h.below ((Below.refl _ _).alloc (Nat.le_refl _) (.cells (Value.agg #[.int .i64 lo, .int .i64 hi]).cells 41))
  have hsg : gx ≠ w.heap.size := by have := h.ex.lt; omega
  have hszB := h.bld.fam.szB
  have hkp : Kept (V + 2) [g, go, gx] w rv (w.alloc (.cells (Value.agg #[.int .i64 lo, .int .i64 hi]).cells 41)) rv := Kept.of_keep hal (by intro k hk; cases hk)
  refine wp_gen (fun w1 => Tr w1 B bx bg gx g go V rv es ex ∧ w1.cell? ⟨w.heap.size, 0, none⟩ = some (.int .i64 lo) ∧ w1.cell? ⟨w.heap.size, 1, none⟩ = some (.int .i64 hi) ∧ Kept (V + 2) [g, go, gx] w rv w1 rv) ⟨htr, hs0, hs1, hkp⟩ (fun w1 hg1 => ?_)
  clear hal hs0 hs1 htr hkp
  obtain ⟨htr, hs0, hs1, hkp⟩ := hg1
  generalize w.heap.size = sb at *
  have hgxl : ∀ (w : World) (i : Nat) (x : Value), Kept (V + 2) [g, go, gx] w rv (w.setCell ⟨gx, i, none⟩ x) rv := fun w i x => Kept.of_keep (Keep.setCell w (l := [gx]) (by simp) x) (fun k hk => by simp at hk; simp [hk])
  have hex2 : ∀ i, i < V → -1000000000000 ≤ ex i ∧ ex i ≤ 1000000000000 := hex
  refine wp_draw_seq (by kernel_rfl) (fun w' => w'.cell? ⟨bx, 0, none⟩ = some (.slice (some ⟨gx, 0, none⟩) V V) ∧ w'.cell? ⟨gx, 0 + u, none⟩ = some (.int .i64 (ex u)) ∧ w'.cell? ⟨sb, 0, none⟩ = some (.int .i64 lo)) (fun q => Nat.beq q 8) 9 rfl (fun K hK => ?_)
  have hS : w1.drew.cell? ⟨bx, 0, none⟩ = some (.slice (some ⟨gx, 0, none⟩) V V) ∧ w1.drew.cell? ⟨gx, 0 + u, none⟩ = some (.int .i64 (ex u)) ∧ w1.drew.cell? ⟨sb, 0, none⟩ = some (.int .i64 lo) := ⟨htr.xb, htr.ex.c0 hu, hs0⟩
  refine wpd_take 0 (by kernel_rfl) rfl hS (fun w hw => Ex_load one22 rfl hw.1) (by intro h; cases h) ?_
  refine wpd_pure 1 (by kernel_rfl) rfl (fun w => Ex_move (by conv => lhs; whnf)) (by intro h; cases h) ?_
  refine wpd_pure 2 (by kernel_rfl) rfl (fun w => Ex_index1 Try.underlying22 size_22 rfl rfl hu) (by intro h; cases h) ?_
  refine wpd_take 3 (by kernel_rfl) rfl hS (fun w hw => Ex_load one3 rfl hw.2.1) (by intro h; cases h) ?_
  refine wpd_pure 4 (by kernel_rfl) rfl (fun w => Ex_field fld41_0 rfl) (by intro h; cases h) ?_
  refine wpd_take 5 (by kernel_rfl) rfl hS (fun w hw => Ex_load one3 rfl hw.2.2) (by intro h; cases h) ?_
  refine wpd_pure 6 (by kernel_rfl) rfl (fun w => Ex_sub rfl rfl (by have := hex2 _ hu; omega) (by have := hex2 _ hu; omega)) (by intro h; cases h) ?_
  refine wpd_pure 7 (by kernel_rfl) rfl (fun w => Ex_index1 Try.underlying22 size_22 rfl rfl hu) (by intro h; cases h) ?_
  refine wpd_one 8 (by kernel_rfl) rfl (Ex_store one3 rfl (by conv => lhs; whnf) rfl hS.2.1 htr.ex.open_) (by intro _ h; cases h) ?_
  refine wpd_nil (by kernel_rfl) (hK _ _ ?_)
  clear hK K
  rw [Nat.zero_add]
  have htr2 := htr.drew.put hu (ex u - lo)
  have hs02 := (Keep.setCell w1.drew (l := [gx]) (g := gx) (i := u) (by simp) (.int .i64 (ex u - lo))).cell (b := sb) hs0 (by simpa using Ne.symm hsg)
  have hs12 := (Keep.setCell w1.drew (l := [gx]) (g := gx) (i := u) (by simp) (.int .i64 (ex u - lo))).cell (b := sb) hs1 (by simpa using Ne.symm hsg)
  have hkp2 : Kept (V + 2) [g, go, gx] w rv (w1.drew.setCell ⟨gx, u, none⟩ (.int .i64 (ex u - lo))) rv := hkp.trans (show Kept _ _ w1 rv _ rv from ⟨(hgxl w1.drew _ _).os, (hgxl w1.drew _ _).tape, (hgxl w1.drew _ _).output, (hgxl w1.drew _ _).size, (hgxl w1.drew _ _).old⟩)
  refine wp_gen (fun w2 => Tr w2 B bx bg gx g go V rv es (set1 ex u (ex u - lo)) ∧ w2.cell? ⟨sb, 0, none⟩ = some (.int .i64 lo) ∧ w2.cell? ⟨sb, 1, none⟩ = some (.int .i64 hi) ∧ Kept (V + 2) [g, go, gx] w rv w2 rv) ⟨htr2, hs02, hs12, hkp2⟩ (fun w2 hg2 => ?_)
  clear htr htr2 hs0 hs1 hs02 hs12 hkp hkp2 hS
  obtain ⟨htr, hs0, hs1, hkp⟩ := hg2
  have hexu := hex u hu
  replace hex2 : ∀ i, i < V → -1000001000000 ≤ set1 ex u (ex u - lo) i ∧ set1 ex u (ex u - lo) i ≤ 1000000000000 := fun i hi => by
    by_cases e : i = u
    · subst e; rw [set1_at]; omega
    · rw [set1_ne _ _ e]; have := hex i hi; omega
  generalize set1 ex u (ex u - lo) = ex1 at *
  refine wp_draw_seq (by kernel_rfl) (fun w' => w'.cell? ⟨bx, 0, none⟩ = some (.slice (some ⟨gx, 0, none⟩) V V) ∧ w'.cell? ⟨gx, 0 + v, none⟩ = some (.int .i64 (ex1 v)) ∧ w'.cell? ⟨sb, 0, none⟩ = some (.int .i64 lo)) (fun q => Nat.beq q 8) 9 rfl (fun K hK => ?_)
  have hS : w2.drew.cell? ⟨bx, 0, none⟩ = some (.slice (some ⟨gx, 0, none⟩) V V) ∧ w2.drew.cell? ⟨gx, 0 + v, none⟩ = some (.int .i64 (ex1 v)) ∧ w2.drew.cell? ⟨sb, 0, none⟩ = some (.int .i64 lo) := ⟨htr.xb, htr.ex.c0 hv, hs0⟩
  refine wpd_take 0 (by kernel_rfl) rfl hS (fun w hw => Ex_load one22 rfl hw.1) (by intro h; cases h) ?_
  refine wpd_pure 1 (by kernel_rfl) rfl (fun w => Ex_move (by conv => lhs; whnf)) (by intro h; cases h) ?_
  refine wpd_pure 2 (by kernel_rfl) rfl (fun w => Ex_index1 Try.underlying22 size_22 rfl rfl hv) (by intro h; cases h) ?_
  refine wpd_take 3 (by kernel_rfl) rfl hS (fun w hw => Ex_load one3 rfl hw.2.1) (by intro h; cases h) ?_
  refine wpd_pure 4 (by kernel_rfl) rfl (fun w => Ex_field fld41_0 rfl) (by intro h; cases h) ?_
  refine wpd_take 5 (by kernel_rfl) rfl hS (fun w hw => Ex_load one3 rfl hw.2.2) (by intro h; cases h) ?_
  refine wpd_pure 6 (by kernel_rfl) rfl (fun w => Ex_add rfl rfl (by have := hex2 _ hv; omega) (by have := hex2 _ hv; omega)) (by intro h; cases h) ?_
  refine wpd_pure 7 (by kernel_rfl) rfl (fun w => Ex_index1 Try.underlying22 size_22 rfl rfl hv) (by intro h; cases h) ?_
  refine wpd_one 8 (by kernel_rfl) rfl (Ex_store one3 rfl (by conv => lhs; whnf) rfl hS.2.1 htr.ex.open_) (by intro _ h; cases h) ?_
  refine wpd_nil (by kernel_rfl) (hK _ _ ?_)
  clear hK K
  rw [Nat.zero_add]
  have htr2 := htr.drew.put hv (ex1 v + lo)
  have hs02 := (Keep.setCell w2.drew (l := [gx]) (g := gx) (i := v) (by simp) (.int .i64 (ex1 v + lo))).cell (b := sb) hs0 (by simpa using Ne.symm hsg)
  have hs12 := (Keep.setCell w2.drew (l := [gx]) (g := gx) (i := v) (by simp) (.int .i64 (ex1 v + lo))).cell (b := sb) hs1 (by simpa using Ne.symm hsg)
  have hkp2 : Kept (V + 2) [g, go, gx] w rv (w2.drew.setCell ⟨gx, v, none⟩ (.int .i64 (ex1 v + lo))) rv := hkp.trans (show Kept _ _ w2 rv _ rv from ⟨(hgxl w2.drew _ _).os, (hgxl w2.drew _ _).tape, (hgxl w2.drew _ _).output, (hgxl w2.drew _ _).size, (hgxl w2.drew _ _).old⟩)
  refine wp_gen (fun w3 => Tr w3 B bx bg gx g go V rv es (set1 ex1 v (ex1 v + lo)) ∧ w3.cell? ⟨sb, 0, none⟩ = some (.int .i64 lo) ∧ w3.cell? ⟨sb, 1, none⟩ = some (.int .i64 hi) ∧ Kept (V + 2) [g, go, gx] w rv w3 rv) ⟨htr2, hs02, hs12, hkp2⟩ (fun w3 hg3 => ?_)
  clear htr htr2 hs0 hs1 hs02 hs12 hkp hkp2 hS
  obtain ⟨htr, hs0, hs1, hkp⟩ := hg3
  refine wp_region_seq (fun K hK => ?_)
  refine wpl_op rfl (Ex_load one48 rfl htr.gb) ?_
  refine wpl_op rfl (Ex_move (by conv => lhs; whnf)) ?_
  refine wpl_op rfl (Ex_move (by conv => lhs; whnf)) ?_
  refine wpl_op rfl (Ex_field fld41_1 rfl) ?_
  refine wpl_op rfl (Ex_load one3 rfl hs1) ?_
  refine wpl_op rfl (Ex_field fld41_0 rfl) ?_
  refine wpl_op rfl (Ex_load one3 rfl hs0) ?_
  refine wpl_op rfl (Ex_sub rfl rfl (by omega) (by omega)) ?_
  refine wpl_call rfl (ExC_func ent36 rfl rfl) (add_ret B g go V rv es ⟨u, v, hi - lo⟩ hu hv hl _ htr.bld) ?_
  rintro r w4 ⟨rfl, rv', hbld, hkept⟩
  refine wpl_op rfl (Ex_assign (by conv => lhs; whnf)) ?_
  refine wpl_nil (hK _ _ ?_)
  clear hK K
  have hfo := htr.bld.fam
  have n1 := htr.n1
  have n2 := htr.n2
  simp only [List.mem_cons, List.not_mem_nil, or_false, not_or] at n1 n2
  refine wp_ret ?_
  repeat (first | refine out_block ?_ | refine out_then ?_)
  refine ret_tmp Try.results35 ⟨rfl, rv', ⟨Kept.cell hkept htr.xb (by simp [n1]) (hfo.out (.inl htr.xB)), Kept.cell hkept htr.gb (by simp [n2]) (hfo.out (.inl htr.gB)), htr.ex.kept hkept htr.n3 (hfo.out (.inl htr.eB)), hbld, htr.xB, htr.gB, htr.eB, htr.n1, htr.n2, htr.n3⟩, hkp.trans (hkept.mono (fun k hk => by simp at hk ⊢; omega))⟩
end Go.Proofs.Qxb6613837a.Sp
