import Derived.Test.Qxb6613837aRows
import Derived.Test.Qxb6613837aGen
import Derived.Test.Qxb6613837aPl
namespace Go.Proofs.Qxb6613837a.Sp
open Go.Fr Go.RowKit Go.Sp

theorem one3 : One Try.prog 3 := ⟨fun w => by simp [go_sem], fun w => by simp [go_sem]⟩
theorem one4 : One Try.prog 4 := ⟨fun w => by simp [go_sem], fun w => by simp [go_sem]⟩
theorem one22 : One Try.prog 22 := ⟨fun w => by simp [go_sem], fun w => by simp [go_sem]⟩
theorem one27 : One Try.prog 27 := ⟨fun w => by simp [go_sem], fun w => by simp [go_sem]⟩
theorem one48 : One Try.prog 48 := ⟨fun w => by simp [go_sem], fun w => by simp [go_sem]⟩
theorem one9 : One Try.prog 9 := ⟨fun w => by simp [go_sem], fun w => by simp [go_sem]⟩
theorem size_22 : ∀ w, (sizeOf 3).run Try.prog w = .ok 1 w := one3.2
theorem size_27 : ∀ w, (sizeOf 22).run Try.prog w = .ok 1 w := one22.2
theorem info3 : (Try.prog.info? 3).map (fun i => (i.zero, i.size, i.bytes)) = some (some (.int .i64 0), 1, 8) := by kernel_rfl
theorem isz3 : (Try.prog.info? 3).map (·.size) = some 1 := by kernel_rfl
theorem info22 : (Try.prog.info? 22).map (fun i => (i.zero, i.size, i.bytes)) = some (some (.slice none 0 0), 1, 24) := by kernel_rfl
theorem zero3 : ∀ w, (zeroValue 3).run Try.prog w = .ok (.int .i64 0) w := fun w => by simp [go_sem]
theorem fld56_0 : FieldAt Try.prog 56 0 0 := fun b o w => by simp [go_sem]
theorem fld56_1 : FieldAt Try.prog 56 1 1 := fun b o w => by simp [go_sem]
theorem fld56_2 : FieldAt Try.prog 56 2 2 := fun b o w => by simp [go_sem]
theorem fld41_0 : FieldAt Try.prog 41 0 0 := fun b o w => by simp [go_sem]
theorem fld41_1 : FieldAt Try.prog 41 1 1 := fun b o w => by simp [go_sem]
theorem ent7 : Enters Try.prog 7 := enters Try.func7 (by rfl) rfl
theorem ent8 : Enters Try.prog 8 := enters Try.func8 (by rfl) rfl
theorem ent9 : Enters Try.prog 9 := enters Try.func9 (by rfl) rfl
theorem ent10 : Enters Try.prog 10 := enters Try.func10 (by rfl) rfl
theorem ent11 : Enters Try.prog 11 := enters Try.func11 (by rfl) rfl
theorem ent12 : Enters Try.prog 12 := enters Try.func12 (by rfl) rfl
theorem ent13 : Enters Try.prog 13 := enters Try.func13 (by rfl) rfl
theorem ent14 : Enters Try.prog 14 := enters Try.func14 (by rfl) rfl
theorem ent15 : Enters Try.prog 15 := enters Try.func15 (by rfl) rfl
theorem ent16 : Enters Try.prog 16 := enters Try.func16 (by rfl) rfl
theorem ent17 : Enters Try.prog 17 := enters Try.func17 (by rfl) rfl
theorem ent18 : Enters Try.prog 18 := enters Try.func18 (by rfl) rfl
theorem ent19 : Enters Try.prog 19 := enters Try.func19 (by rfl) rfl
theorem ent20 : Enters Try.prog 20 := enters Try.func20 (by rfl) rfl
theorem ent21 : Enters Try.prog 21 := enters Try.func21 (by rfl) rfl
theorem ent22 : Enters Try.prog 22 := enters Try.func22 (by rfl) rfl
theorem ent23 : Enters Try.prog 23 := enters Try.func23 (by rfl) rfl
theorem ent24 : Enters Try.prog 24 := enters Try.func24 (by rfl) rfl
theorem ent25 : Enters Try.prog 25 := enters Try.func25 (by rfl) rfl
theorem ent26 : Enters Try.prog 26 := enters Try.func26 (by rfl) rfl
theorem ent27 : Enters Try.prog 27 := enters Try.func27 (by rfl) rfl
theorem ent28 : Enters Try.prog 28 := enters Try.func28 (by rfl) rfl
theorem ent29 : Enters Try.prog 29 := enters Try.func29 (by rfl) rfl
theorem ent30 : Enters Try.prog 30 := enters Try.func30 (by rfl) rfl
theorem ent31 : Enters Try.prog 31 := enters Try.func31 (by rfl) rfl
theorem ent32 : Enters Try.prog 32 := enters Try.func32 (by rfl) rfl
theorem ent33 : Enters Try.prog 33 := enters Try.func33 (by rfl) rfl
theorem ent34 : Enters Try.prog 34 := enters Try.func34 (by rfl) rfl
theorem ent35 : Enters Try.prog 35 := enters Try.func35 (by rfl) rfl
theorem ent36 : Enters Try.prog 36 := enters Try.func36 (by rfl) rfl
theorem ent37 : Enters Try.prog 37 := enters Try.func37 (by rfl) rfl
theorem ent38 : Enters Try.prog 38 := enters Try.func38 (by rfl) rfl
theorem ent39 : Enters Try.prog 39 := enters Try.func39 (by rfl) rfl
theorem ent40 : Enters Try.prog 40 := enters Try.func40 (by rfl) rfl

theorem Ex_rev {P : Program} {ρ : Operand → Value} {ty : TypeId} {w : World} {x y : Operand} {t t' : TypeId} {e : Nat} (hx : ρ x = .int .i64 (e : Int)) (hy : ρ y = .int .i64 1) (he : e < 4611686018427387904) : Ex P ρ (.binOp .xor t x y t') ty w (.int .i64 ((rev e : Nat) : Int)) w := by
  have h := Ex_xor1 (P := P) (ρ := ρ) (ty := ty) (w := w) (t := t) (t' := t') hx hy he
  rw [xor_one] at h
  exact h

/-- Where a network lies. -/
structure Lay where
  G : Gr
  g : Nat
  go : Nat
  gh : Nat
  gr : Nat
  cO : Nat
  cH : Nat
  cR : Nat
  ov : Nat → Option Addr
  ob : Nat → Nat
  oc : Nat → Nat
structure Net (w : World) (L : Lay) (r : Nat → Int) : Prop where
  c0 : w.cell? ⟨L.g, 0, none⟩ = some (.slice (some ⟨L.go, 0, none⟩) L.G.V L.cO)
  c1 : w.cell? ⟨L.g, 1, none⟩ = some (.slice (some ⟨L.gh, 0, none⟩) L.G.M L.cH)
  c2 : w.cell? ⟨L.g, 2, none⟩ = some (.slice (some ⟨L.gr, 0, none⟩) L.G.M L.cR)
  out : ∀ u, u < L.G.V → w.cell? ⟨L.go, 0 + u, none⟩ = some (.slice (L.ov u) (L.G.deg u) (L.oc u))
  ovb : ∀ u, u < L.G.V → 0 < L.G.deg u → L.ov u = some ⟨L.ob u, 0, none⟩
  ed : ∀ u j, u < L.G.V → j < L.G.deg u → w.cell? ⟨L.ob u, 0 + j, none⟩ = some (.int .i64 (L.G.E u j : Int))
  hd : ∀ e, e < L.G.M → w.cell? ⟨L.gh, 0 + e, none⟩ = some (.int .i64 (L.G.hd e : Int))
  rm : Own w L.gr 3 L.cR L.G.M (fun e => .int .i64 (r e))
  cap : L.G.M ≤ L.cR
  s0 : L.gr ≠ L.g
  s1 : L.gr ≠ L.go
  s2 : L.gr ≠ L.gh
  s3 : ∀ u, u < L.G.V → 0 < L.G.deg u → L.gr ≠ L.ob u
def Lay.Free (L : Lay) (b : Nat) : Prop := b ≠ L.g ∧ b ≠ L.go ∧ b ≠ L.gh ∧ b ≠ L.gr ∧ ∀ u, u < L.G.V → 0 < L.G.deg u → b ≠ L.ob u
theorem Net.keep {w w' : World} {L : Lay} {r : Nat → Int} {l : List Nat} (h : Net w L r) (hk : Keep l w w') (hl : ∀ b, b ∈ l → L.Free b) : Net w' L r where
  c0 := hk.cell h.c0 (fun hm => (hl _ hm).1 rfl)
  c1 := hk.cell h.c1 (fun hm => (hl _ hm).1 rfl)
  c2 := hk.cell h.c2 (fun hm => (hl _ hm).1 rfl)
  out u hu := hk.cell (h.out u hu) (fun hm => (hl _ hm).2.1 rfl)
  ovb := h.ovb
  ed u j hu hj := hk.cell (h.ed u j hu hj) (fun hm => (hl _ hm).2.2.2.2 u hu (by omega) rfl)
  hd e he := hk.cell (h.hd e he) (fun hm => (hl _ hm).2.2.1 rfl)
  rm := h.rm.keep hk (fun hm => (hl _ hm).2.2.2.1 rfl)
  cap := h.cap
  s0 := h.s0
  s1 := h.s1
  s2 := h.s2
  s3 := h.s3
theorem Net.later {w w' : World} {L : Lay} {r : Nat → Int} (h : Net w L r) (hb : Below w.heap.size w w') : Net w' L r := h.keep (Keep.of_below hb []) (by intro b hb; cases hb)
theorem Net.room {w : World} {L : Lay} {r r' : Nat → Int} (h : Net w L r) {e : Nat} (he : e < L.G.M) {x : Int} (hr : ∀ i, i < L.G.M → r' i = if i = e then x else r i) : Net (w.setCell ⟨L.gr, e, none⟩ (.int .i64 x)) L r' := by
  have hk := Keep.setCell w (l := [L.gr]) (g := L.gr) (i := e) (by simp) (.int .i64 x)
  have hn : ∀ b, b ≠ L.gr → b ∉ [L.gr] := fun b hb hm => hb (by simpa using hm)
  have hc := h.cap
  exact {
    c0 := hk.cell h.c0 (hn _ h.s0.symm)
    c1 := hk.cell h.c1 (hn _ h.s0.symm)
    c2 := hk.cell h.c2 (hn _ h.s0.symm)
    out := fun u hu => hk.cell (h.out u hu) (hn _ h.s1.symm)
    ovb := h.ovb
    ed := fun u j hu hj => hk.cell (h.ed u j hu hj) (hn _ (h.s3 u hu (by omega)).symm)
    hd := fun e he => hk.cell (h.hd e he) (hn _ h.s2.symm)
    rm := h.rm.set (by omega) (fun j hj => by
      rw [hr j hj]
      by_cases hje : j = e
      · exact .inl ⟨hje, by simp [hje]⟩
      · exact .inr ⟨hje, hj, by simp [hje]⟩)
    cap := h.cap
    s0 := h.s0
    s1 := h.s1
    s2 := h.s2
    s3 := h.s3 }
theorem Net.rmc {w : World} {L : Lay} {r : Nat → Int} (h : Net w L r) {e : Nat} (he : e < L.G.M) : w.cell? ⟨L.gr, 0 + e, none⟩ = some (.int .i64 (r e)) := by rw [Nat.zero_add]; exact h.rm.cell he
end Go.Proofs.Qxb6613837a.Sp
namespace Go.Fr
open Go.RowKit Go.Fr Go.Sp
theorem Own.c0 {w : World} {g : Nat} {t : TypeId} {n k i : Nat} {f : Nat → Value} (h : Own w g t n k f) (hi : i < k) : w.cell? ⟨g, 0 + i, none⟩ = Option.some (f i) := by rw [Nat.zero_add]; exact h.cell hi
end Go.Fr
namespace Go.Proofs.Qxb6613837a.Sp
open Go.Fr Go.RowKit Go.Sp
end Go.Proofs.Qxb6613837a.Sp
namespace Go.Fr
open Go.RowKit Go.Fr Go.Sp
theorem Own.later {w w' : World} {g : Nat} {t : TypeId} {n k : Nat} {f : Nat → Value} (h : Own w g t n k f) (hb : Below w.heap.size w w') : Own w' g t n k f := h.keep (Keep.of_below hb []) (by simp)
end Go.Fr
namespace Go.Proofs.Qxb6613837a.Sp
open Go.Fr Go.RowKit Go.Sp
/-- The levels' and the marks' rows. -/
structure Lv (w : World) (L : Lay) (gl gn cl cn : Nat) (lv : Nat → Int) (nx : Nat → Nat) : Prop where
  lo : Own w gl 3 cl L.G.V (fun v => .int .i64 (lv v))
  no : Own w gn 3 cn L.G.V (fun v => .int .i64 (nx v : Int))
  lc : L.G.V ≤ cl
  nc : L.G.V ≤ cn
  ne : gl ≠ gn
  lf : L.Free gl
  nf : L.Free gn
theorem Lv.keep {w w' : World} {L : Lay} {gl gn cl cn : Nat} {lv : Nat → Int} {nx : Nat → Nat} (h : Lv w L gl gn cl cn lv nx) {l : List Nat} (hk : Keep l w w') (h1 : gl ∉ l) (h2 : gn ∉ l) : Lv w' L gl gn cl cn lv nx :=
  ⟨h.lo.keep hk h1, h.no.keep hk h2, h.lc, h.nc, h.ne, h.lf, h.nf⟩
theorem Lv.later {w w' : World} {L : Lay} {gl gn cl cn : Nat} {lv : Nat → Int} {nx : Nat → Nat} (h : Lv w L gl gn cl cn lv nx) (hb : Below w.heap.size w w') : Lv w' L gl gn cl cn lv nx := h.keep (Keep.of_below hb []) (by simp) (by simp)
theorem Lv.mark {w : World} {L : Lay} {gl gn cl cn : Nat} {lv : Nat → Int} {nx nx' : Nat → Nat} (h : Lv w L gl gn cl cn lv nx) {u : Nat} (hu : u < L.G.V) {x : Nat} (hx : ∀ v, v < L.G.V → nx' v = if v = u then x else nx v) : Lv (w.setCell ⟨gn, u, none⟩ (.int .i64 (x : Int))) L gl gn cl cn lv nx' := by
  have hc := h.nc
  exact ⟨h.lo.other h.ne _, h.no.set (by omega) (fun j hj => by
      rw [hx j hj]
      by_cases hje : j = u
      · exact .inl ⟨hje, by simp [hje]⟩
      · exact .inr ⟨hje, hj, by simp [hje]⟩), h.lc, h.nc, h.ne, h.lf, h.nf⟩
theorem Lv.room {w : World} {L : Lay} {gl gn cl cn : Nat} {lv : Nat → Int} {nx : Nat → Nat} (h : Lv w L gl gn cl cn lv nx) (e : Nat) (x : Value) : Lv (w.setCell ⟨L.gr, e, none⟩ x) L gl gn cl cn lv nx :=
  ⟨h.lo.other h.lf.2.2.2.1 _, h.no.other h.nf.2.2.2.1 _, h.lc, h.nc, h.ne, h.lf, h.nf⟩
theorem Net.mark {w : World} {L : Lay} {r : Nat → Int} (h : Net w L r) {b : Nat} (hb : L.Free b) (i : Nat) (x : Value) : Net (w.setCell ⟨b, i, none⟩ x) L r :=
  h.keep (Keep.setCell w (l := [b]) (by simp) x) (fun b' hb' => by rw [show b' = b by simpa using hb']; exact hb)

def bump (nx : Nat → Nat) (u x : Nat) : Nat := if x = u then nx u + 1 else nx x
theorem bump_at (nx : Nat → Nat) (u : Nat) : bump nx u u = nx u + 1 := by simp [bump]
theorem bump_ne (nx : Nat → Nat) {u x : Nat} (h : x ≠ u) : bump nx u x = nx x := by simp [bump, h]
theorem bump_le {nx d : Nat → Nat} {u V : Nat} (h : ∀ x, x < V → nx x ≤ d x) (hu : nx u < d u) : ∀ x, x < V → bump nx u x ≤ d x := by
  intro x hx
  by_cases hxu : x = u
  · subst hxu; rw [bump_at]; omega
  · rw [bump_ne _ hxu]; exact h x hx
theorem bump_low {nx nx0 : Nat → Nat} {lv : Nat → Int} {u V : Nat} (h : ∀ x, x < V → lv x < lv u → nx x = nx0 x) : ∀ x, x < V → lv x < lv u → bump nx u x = nx0 x := by
  intro x hx hl
  rw [bump_ne _ (by intro e; subst e; omega)]
  exact h x hx hl
theorem bump_dead {G : Gr} {r lv : Nat → Int} {t u : Nat} {nx : Nat → Nat} (h : G.Dead r lv t nx) (hd : G.adm r lv u (G.E u (nx u)) → ¬ G.Path r lv t (G.hd (G.E u (nx u)))) : G.Dead r lv t (bump nx u) := by
  intro x hx j hj ha
  by_cases hxu : x = u
  · subst hxu
    rw [bump_at] at hj
    by_cases hj2 : j < nx x
    · exact h x hx j hj2 ha
    · obtain rfl : j = nx x := by omega
      exact hd ha
  · rw [bump_ne _ hxu] at hj
    exact h x hx j hj ha
/-- What 'push' answers. -/
def Pushed (L : Lay) (gl gn cl cn : Nat) (c r lv : Nat → Int) (nx : Nat → Nat) (u t : Nat) (lim : Int) (w : World) (v : Value) (w' : World) : Prop :=
  ∃ nx', Lv w' L gl gn cl cn lv nx' ∧ Keep [L.gr, gn] w w' ∧ (∀ x, x < L.G.V → nx' x ≤ L.G.deg x) ∧ (∀ x, x < L.G.V → lv x < lv u → nx' x = nx x) ∧
    ((v = .int .i64 0 ∧ Net w' L r ∧ (L.G.Dead r lv t nx → L.G.Dead r lv t nx' ∧ ¬ L.G.Path r lv t u)) ∨
     (∃ f r', v = .int .i64 f ∧ 0 < f ∧ f ≤ lim ∧ Net w' L r' ∧ L.G.Went c r lv u t f r'))


theorem push_ret (L : Lay) (hG : L.G.WF) (gl gn cl cn cL cN t : Nat) (c lv : Nat → Int) (H : Int) (ht : t < L.G.V) (hc : ∀ e, e < L.G.M → c e ≤ 1000000000000) (hlv : ∀ v, v < L.G.V → -1 ≤ lv v ∧ lv v ≤ H) (hH : H ≤ 1000000000) :
    ∀ (n : Nat) (u : Nat) (lim : Int) (r : Nat → Int) (nx : Nat → Nat) (w : World), H - lv u ≤ (n : Int) → u < L.G.V → 0 < lim → L.G.Ok c r → Net w L r → Lv w L gl gn cl cn lv nx → (∀ x, x < L.G.V → nx x ≤ L.G.deg x) →
    Ret Try.prog 40 #[.pointer (some ⟨L.g, 0, none⟩), .int .i64 u, .int .i64 t, .int .i64 lim, .slice (some ⟨gl, 0, none⟩) L.G.V cL, .slice (some ⟨gn, 0, none⟩) L.G.V cN] w (Pushed L gl gn cl cn c r lv nx u t lim w) := by
  intro n
  induction n using Nat.strongRecOn with
  | ind n IH =>
  intro u lim r nx w hn hu hlim hok hnet hrow hnx
  refine Ret.of_body (vs := [.pointer (some ⟨L.g, 0, none⟩), .int .i64 u, .int .i64 t, .int .i64 lim, .slice (some ⟨gl, 0, none⟩) L.G.V cL, .slice (some ⟨gn, 0, none⟩) L.G.V cN]) Try.func40 rfl Try.ntmps40 rfl ?_
  have hM := hG.big
  refine wp_region_seq (fun K hK => ?_)
  refine wpl_op rfl (Ex_assign (by conv => lhs; whnf)) ?_
  refine wpl_nil (hK _ _ ?_)
  clear hK K
  by_cases hut : u = t
  · subst hut
    refine wp_seq_k (fun KK hKK => ?_)
    refine wp_region_seq (fun K hK => ?_)
    refine wpl_op rfl (Ex_move (by conv => lhs; whnf)) ?_
    refine wpl_op rfl (Ex_move (by conv => lhs; whnf)) ?_
    refine wpl_op rfl (Ex_eql rfl rfl (decide_eq_true rfl)) ?_
    refine wpl_nil (hK _ _ ?_)
    clear hK K
    refine wp_if_true rfl ?_
    clear hKK
    refine wp_region_seq (fun K hK => ?_)
    refine wpl_op rfl (Ex_move (by conv => lhs; whnf)) ?_
    refine wpl_op rfl (Ex_assign (by conv => lhs; whnf)) ?_
    refine wpl_nil (hK _ _ ?_)
    clear hK K
    refine wp_ret ?_
    repeat (first | refine out_block ?_ | refine out_then ?_)
    refine ret_tmp Try.results40 ⟨nx, hrow, Keep.refl _ _, hnx, fun _ _ _ => rfl, .inr ⟨lim, r, rfl, hlim, Int.le_refl _, hnet, Gr.Went.here hok⟩⟩
  refine wp_seq_k (fun KK hKK => ?_)
  refine wp_region_seq (fun K hK => ?_)
  refine wpl_op rfl (Ex_move (by conv => lhs; whnf)) ?_
  refine wpl_op rfl (Ex_move (by conv => lhs; whnf)) ?_
  refine wpl_op rfl (Ex_eql rfl rfl (decide_eq_false (by omega))) ?_
  refine wpl_nil (hK _ _ ?_)
  clear hK K
  refine wp_if_false rfl ?_
  refine wp_skip (hKK _ _ ?_)
  clear hKK KK
  refine wp_seq_k (fun K1 hK1 => ?_)
  refine wp_block ?_
  refine wp_loop_st (fun _ : Nat → Nat => [(0, .pointer (some ⟨L.g, 0, none⟩)), (1, .int .i64 u), (2, .int .i64 t), (3, .int .i64 lim), (4, .slice (some ⟨gl, 0, none⟩) L.G.V cL), (5, .slice (some ⟨gn, 0, none⟩) L.G.V cN)])
    (fun nx' w' => Net w' L r ∧ Lv w' L gl gn cl cn lv nx' ∧ Keep [L.gr, gn] w w' ∧ (∀ x, x < L.G.V → nx' x ≤ L.G.deg x) ∧ (∀ x, x < L.G.V → lv x < lv u → nx' x = nx x) ∧ (L.G.Dead r lv t nx → L.G.Dead r lv t nx'))
    (fun nx' => L.G.deg u - nx' u) nx ⟨rfl, rfl, rfl, rfl, rfl, rfl, trivial⟩ ⟨hnet, hrow, Keep.refl _ _, hnx, fun _ _ _ => rfl, id⟩ ?_
  clear hnet hrow
  rintro nx1 uu w1 ⟨hnet, hrow, hkeep, hnx1, hlow1, hdead1⟩ R hR
  have hnu := hnx1 u hu
  have hdM := hG.degM u hu
  by_cases hlt : nx1 u < L.G.deg u
  · have heM := hG.eM u (nx1 u) hu hlt
    have hhV := hG.hdV _ heM
    have hrV := rev_lt heM hG.ev
    obtain ⟨hr0, hr1⟩ := hok _ heM
    obtain ⟨hr2, _⟩ := hok _ hrV
    have hcE := hc _ heM
    have hlvu := hlv u hu
    have hlvv := hlv _ hhV
    have hovb := hnet.ovb u hu (by omega)
    refine wp_seq_k (fun KK hKK => ?_)
    refine wp_quiet_seq (by kernel_rfl) (by kernel_rfl) (fun K hK => ?_)
    refine wpq_op (fun w hw => Ex_move (by conv => lhs; whnf)) ?_
    refine wpq_op (fun w hw => Ex_move (by conv => lhs; whnf)) ?_
    refine wpq_op (fun w hw => Ex_index1 Try.underlying22 size_22 rfl rfl hu) ?_
    refine wpq_op (fun w hw => Ex_load one3 rfl ((hrow.later hw).no.c0 hu)) ?_
    refine wpq_op (fun w hw => Ex_move (by conv => lhs; whnf)) ?_
    refine wpq_op (fun w hw => Ex_nil rfl) ?_
    refine wpq_op (fun w hw => Ex_field fld56_0 rfl) ?_
    refine wpq_op (fun w hw => Ex_load one27 rfl (hnet.later hw).c0) ?_
    refine wpq_op (fun w hw => Ex_move (by conv => lhs; whnf)) ?_
    refine wpq_op (fun w hw => Ex_index1 Try.underlying27 size_27 rfl rfl hu) ?_
    refine wpq_op (fun w hw => Ex_load one22 rfl ((hnet.later hw).out u hu)) ?_
    refine wpq_op (fun w hw => Ex_len Try.underlying22 rfl) ?_
    refine wpq_op (fun w hw => Ex_lss rfl rfl (decide_eq_true (by omega))) ?_
    refine wpq_nil (fun w2 hw2 => hK _ _ ?_)
    clear hK K
    refine wp_if_true rfl ?_
    refine wp_skip (hKK _ _ ?_)
    clear hKK KK
    replace hnet := hnet.later hw2
    replace hrow := hrow.later hw2
    replace hkeep := hkeep.trans (Keep.of_below hw2 _)
    clear hw2
    refine wp_seq_k (fun K' hK' => ?_)
    refine wp_block ?_
    refine wp_quiet_seq (by kernel_rfl) (by kernel_rfl) (fun K hK => ?_)
    refine wpq_op (fun w hw => Ex_move (by conv => lhs; whnf)) ?_
    refine wpq_op (fun w hw => Ex_nil rfl) ?_
    refine wpq_op (fun w hw => Ex_field fld56_0 rfl) ?_
    refine wpq_op (fun w hw => Ex_load one27 rfl (hnet.later hw).c0) ?_
    refine wpq_op (fun w hw => Ex_move (by conv => lhs; whnf)) ?_
    refine wpq_op (fun w hw => Ex_index1 Try.underlying27 size_27 rfl rfl hu) ?_
    refine wpq_op (fun w hw => Ex_load one22 rfl ((hnet.later hw).out u hu)) ?_
    refine wpq_op (fun w hw => Ex_move (by conv => lhs; whnf)) ?_
    refine wpq_op (fun w hw => Ex_move (by conv => lhs; whnf)) ?_
    refine wpq_op (fun w hw => Ex_index1 Try.underlying22 size_22 rfl rfl hu) ?_
    refine wpq_op (fun w hw => Ex_load one3 rfl ((hrow.later hw).no.c0 hu)) ?_
    refine wpq_op (fun w hw => Ex_index1 Try.underlying22 size_22 (by rw [← hovb]; rfl) rfl hlt) ?_
    refine wpq_op (fun w hw => Ex_load one3 rfl ((hnet.later hw).ed u _ hu hlt)) ?_
    refine wpq_op (fun w hw => Ex_assign (by conv => lhs; whnf)) ?_
    refine wpq_nil (fun w3 hw3 => hK _ _ ?_)
    clear hK K
    replace hnet := hnet.later hw3
    replace hrow := hrow.later hw3
    replace hkeep := hkeep.trans (Keep.of_below hw3 _)
    clear hw3
    refine wp_region_seq (fun K hK => ?_)
    refine wpl_op rfl (Ex_move (by conv => lhs; whnf)) ?_
    refine wpl_op rfl (Ex_nil rfl) ?_
    refine wpl_op rfl (Ex_field fld56_1 rfl) ?_
    refine wpl_op rfl (Ex_load one22 rfl hnet.c1) ?_
    refine wpl_op rfl (Ex_move (by conv => lhs; whnf)) ?_
    refine wpl_op rfl (Ex_index1 Try.underlying22 size_22 rfl rfl heM) ?_
    refine wpl_op rfl (Ex_load one3 rfl (hnet.hd _ heM)) ?_
    refine wpl_op rfl (Ex_assign (by conv => lhs; whnf)) ?_
    refine wpl_nil (hK _ _ ?_)
    clear hK K
    generalize hev : L.G.E u (nx1 u) = e at *
    generalize hvv : L.G.hd e = v at *
    refine wp_seq_k (fun KK hKK => ?_)
    by_cases hr00 : r e = 0
    · skip
      refine wp_quiet_seq (by kernel_rfl) (by kernel_rfl) (fun K hK => ?_)
      refine wpq_op (fun w hw => Ex_move (by conv => lhs; whnf)) ?_
      refine wpq_op (fun w hw => Ex_nil rfl) ?_
      refine wpq_op (fun w hw => Ex_field fld56_2 rfl) ?_
      refine wpq_op (fun w hw => Ex_load one22 rfl (hnet.later hw).c2) ?_
      refine wpq_op (fun w hw => Ex_move (by conv => lhs; whnf)) ?_
      refine wpq_op (fun w hw => Ex_index1 Try.underlying22 size_22 rfl rfl heM) ?_
      refine wpq_op (fun w hw => Ex_load one3 rfl ((hnet.later hw).rmc heM)) ?_
      refine wpq_op (fun w hw => Ex_eql rfl rfl (decide_eq_true hr00)) ?_
      refine wpq_op (fun w hw => Ex_move (by conv => lhs; whnf)) ?_
      refine wpq_pass (by exact rfl) (by exact rfl) ?_
      refine wpq_pass (by exact rfl) (by exact rfl) ?_
      refine wpq_pass (by exact rfl) (by exact rfl) ?_
      refine wpq_pass (by exact rfl) (by exact rfl) ?_
      refine wpq_pass (by exact rfl) (by exact rfl) ?_
      refine wpq_pass (by exact rfl) (by exact rfl) ?_
      refine wpq_pass (by exact rfl) (by exact rfl) ?_
      refine wpq_pass (by exact rfl) (by exact rfl) ?_
      refine wpq_pass (by exact rfl) (by exact rfl) ?_
      refine wpq_pass (by exact rfl) (by exact rfl) ?_
      refine wpq_op (fun w hw => Ex_pick rfl (by conv => lhs; whnf)) ?_
      refine wpq_nil (fun w4 hw4 => hK _ _ ?_)
      clear hK K
      refine wp_if_true rfl ?_
      refine wp_exit ?_
      clear hKK
      replace hnet := hnet.later hw4
      replace hrow := hrow.later hw4
      replace hkeep := hkeep.trans (Keep.of_below hw4 _)
      clear hw4
      refine hK' _ _ ?_
      refine wp_region_last ?_
      refine wpl_op rfl (Ex_move (by conv => lhs; whnf)) ?_
      refine wpl_op rfl (Ex_move (by conv => lhs; whnf)) ?_
      refine wpl_op rfl (Ex_index1 Try.underlying22 size_22 rfl rfl hu) ?_
      refine wpl_op rfl (Ex_load one3 rfl (hrow.no.c0 hu)) ?_
      refine wpl_op rfl (Ex_inc rfl rfl (by omega)) ?_
      refine wpl_op rfl (Ex_index1 Try.underlying22 size_22 rfl rfl hu) ?_
      refine wpl_op rfl (Ex_store one3 rfl (by conv => lhs; whnf) rfl (hrow.no.c0 hu) hrow.no.open_) ?_
      refine wpl_nil ?_
      rw [Nat.zero_add]
      exact hR _ _ _ (bump nx1 u) ⟨rfl, rfl, rfl, rfl, rfl, rfl, trivial⟩ ⟨hnet.mark hrow.nf _ _, hrow.mark hu (fun _ _ => rfl), hkeep.trans (Keep.setCell _ (by simp) _), bump_le hnx1 (by omega), bump_low hlow1, fun hd => bump_dead (hdead1 hd) (fun ha => absurd hr00 (by rw [← hev]; exact ha.1))⟩ (by rw [bump_at]; omega)
    by_cases hlvne : lv v = lv u + 1
    rotate_left
    · skip
      refine wp_quiet_seq (by kernel_rfl) (by kernel_rfl) (fun K hK => ?_)
      refine wpq_op (fun w hw => Ex_move (by conv => lhs; whnf)) ?_
      refine wpq_op (fun w hw => Ex_nil rfl) ?_
      refine wpq_op (fun w hw => Ex_field fld56_2 rfl) ?_
      refine wpq_op (fun w hw => Ex_load one22 rfl (hnet.later hw).c2) ?_
      refine wpq_op (fun w hw => Ex_move (by conv => lhs; whnf)) ?_
      refine wpq_op (fun w hw => Ex_index1 Try.underlying22 size_22 rfl rfl heM) ?_
      refine wpq_op (fun w hw => Ex_load one3 rfl ((hnet.later hw).rmc heM)) ?_
      refine wpq_op (fun w hw => Ex_eql rfl rfl (decide_eq_false hr00)) ?_
      refine wpq_op (fun w hw => Ex_move (by conv => lhs; whnf)) ?_
      refine wpq_opg (by exact rfl) (by exact rfl) (fun w hw => Ex_move (by conv => lhs; whnf)) ?_
      refine wpq_opg (by exact rfl) (by exact rfl) (fun w hw => Ex_move (by conv => lhs; whnf)) ?_
      refine wpq_opg (by exact rfl) (by exact rfl) (fun w hw => Ex_index1 Try.underlying22 size_22 rfl rfl hhV) ?_
      refine wpq_opg (by exact rfl) (by exact rfl) (fun w hw => Ex_load one3 rfl ((hrow.later hw).lo.c0 hhV)) ?_
      refine wpq_opg (by exact rfl) (by exact rfl) (fun w hw => Ex_move (by conv => lhs; whnf)) ?_
      refine wpq_opg (by exact rfl) (by exact rfl) (fun w hw => Ex_move (by conv => lhs; whnf)) ?_
      refine wpq_opg (by exact rfl) (by exact rfl) (fun w hw => Ex_index1 Try.underlying22 size_22 rfl rfl hu) ?_
      refine wpq_opg (by exact rfl) (by exact rfl) (fun w hw => Ex_load one3 rfl ((hrow.later hw).lo.c0 hu)) ?_
      refine wpq_opg (by exact rfl) (by exact rfl) (fun w hw => Ex_add rfl rfl (by omega) (by omega)) ?_
      refine wpq_opg (by exact rfl) (by exact rfl) (fun w hw => Ex_neq rfl rfl (by rw [decide_eq_false hlvne]; first | done | rfl)) ?_
      refine wpq_op (fun w hw => Ex_pick rfl (by conv => lhs; whnf)) ?_
      refine wpq_nil (fun w4 hw4 => hK _ _ ?_)
      clear hK K
      refine wp_if_true rfl ?_
      refine wp_exit ?_
      clear hKK
      replace hnet := hnet.later hw4
      replace hrow := hrow.later hw4
      replace hkeep := hkeep.trans (Keep.of_below hw4 _)
      clear hw4
      refine hK' _ _ ?_
      refine wp_region_last ?_
      refine wpl_op rfl (Ex_move (by conv => lhs; whnf)) ?_
      refine wpl_op rfl (Ex_move (by conv => lhs; whnf)) ?_
      refine wpl_op rfl (Ex_index1 Try.underlying22 size_22 rfl rfl hu) ?_
      refine wpl_op rfl (Ex_load one3 rfl (hrow.no.c0 hu)) ?_
      refine wpl_op rfl (Ex_inc rfl rfl (by omega)) ?_
      refine wpl_op rfl (Ex_index1 Try.underlying22 size_22 rfl rfl hu) ?_
      refine wpl_op rfl (Ex_store one3 rfl (by conv => lhs; whnf) rfl (hrow.no.c0 hu) hrow.no.open_) ?_
      refine wpl_nil ?_
      rw [Nat.zero_add]
      exact hR _ _ _ (bump nx1 u) ⟨rfl, rfl, rfl, rfl, rfl, rfl, trivial⟩ ⟨hnet.mark hrow.nf _ _, hrow.mark hu (fun _ _ => rfl), hkeep.trans (Keep.setCell _ (by simp) _), bump_le hnx1 (by omega), bump_low hlow1, fun hd => bump_dead (hdead1 hd) (fun ha => absurd (by rw [← hvv, ← hev]; exact ha.2) hlvne)⟩ (by rw [bump_at]; omega)
    refine wp_quiet_seq (by kernel_rfl) (by kernel_rfl) (fun K hK => ?_)
    refine wpq_op (fun w hw => Ex_move (by conv => lhs; whnf)) ?_
    refine wpq_op (fun w hw => Ex_nil rfl) ?_
    refine wpq_op (fun w hw => Ex_field fld56_2 rfl) ?_
    refine wpq_op (fun w hw => Ex_load one22 rfl (hnet.later hw).c2) ?_
    refine wpq_op (fun w hw => Ex_move (by conv => lhs; whnf)) ?_
    refine wpq_op (fun w hw => Ex_index1 Try.underlying22 size_22 rfl rfl heM) ?_
    refine wpq_op (fun w hw => Ex_load one3 rfl ((hnet.later hw).rmc heM)) ?_
    refine wpq_op (fun w hw => Ex_eql rfl rfl (decide_eq_false hr00)) ?_
    refine wpq_op (fun w hw => Ex_move (by conv => lhs; whnf)) ?_
    refine wpq_opg (by exact rfl) (by exact rfl) (fun w hw => Ex_move (by conv => lhs; whnf)) ?_
    refine wpq_opg (by exact rfl) (by exact rfl) (fun w hw => Ex_move (by conv => lhs; whnf)) ?_
    refine wpq_opg (by exact rfl) (by exact rfl) (fun w hw => Ex_index1 Try.underlying22 size_22 rfl rfl hhV) ?_
    refine wpq_opg (by exact rfl) (by exact rfl) (fun w hw => Ex_load one3 rfl ((hrow.later hw).lo.c0 hhV)) ?_
    refine wpq_opg (by exact rfl) (by exact rfl) (fun w hw => Ex_move (by conv => lhs; whnf)) ?_
    refine wpq_opg (by exact rfl) (by exact rfl) (fun w hw => Ex_move (by conv => lhs; whnf)) ?_
    refine wpq_opg (by exact rfl) (by exact rfl) (fun w hw => Ex_index1 Try.underlying22 size_22 rfl rfl hu) ?_
    refine wpq_opg (by exact rfl) (by exact rfl) (fun w hw => Ex_load one3 rfl ((hrow.later hw).lo.c0 hu)) ?_
    refine wpq_opg (by exact rfl) (by exact rfl) (fun w hw => Ex_add rfl rfl (by omega) (by omega)) ?_
    refine wpq_opg (by exact rfl) (by exact rfl) (fun w hw => Ex_neq rfl rfl (by rw [decide_eq_true hlvne]; first | done | rfl)) ?_
    refine wpq_op (fun w hw => Ex_pick rfl (by conv => lhs; whnf)) ?_
    refine wpq_nil (fun w4 hw4 => hK _ _ ?_)
    clear hK K
    refine wp_if_false rfl ?_
    refine wp_skip (hKK _ _ ?_)
    clear hKK KK
    replace hnet := hnet.later hw4
    replace hrow := hrow.later hw4
    replace hkeep := hkeep.trans (Keep.of_below hw4 _)
    clear hw4
    have hadm : L.G.adm r lv u (L.G.E u (nx1 u)) := by rw [hev]; exact ⟨hr00, by rw [hvv]; exact hlvne⟩
    have hn1 : 0 < n := by omega
    refine wp_region_seq (fun K hK => ?_)
    refine wpl_op rfl (Ex_move (by conv => lhs; whnf)) ?_
    refine wpl_op rfl (Ex_move (by conv => lhs; whnf)) ?_
    refine wpl_op rfl (Ex_move (by conv => lhs; whnf)) ?_
    refine wpl_op rfl (Ex_move (by conv => lhs; whnf)) ?_
    refine wpl_op rfl (Ex_move (by conv => lhs; whnf)) ?_
    refine wpl_op rfl (Ex_nil rfl) ?_
    refine wpl_op rfl (Ex_field fld56_2 rfl) ?_
    refine wpl_op rfl (Ex_load one22 rfl hnet.c2) ?_
    refine wpl_op rfl (Ex_move (by conv => lhs; whnf)) ?_
    refine wpl_op rfl (Ex_index1 Try.underlying22 size_22 rfl rfl heM) ?_
    refine wpl_op rfl (Ex_load one3 rfl (hnet.rmc heM)) ?_
    refine wpl_op rfl (Ex_min2 rfl rfl) ?_
    refine wpl_op rfl (Ex_move (by conv => lhs; whnf)) ?_
    refine wpl_op rfl (Ex_move (by conv => lhs; whnf)) ?_
    refine wpl_call rfl (ExC_func ent40 rfl rfl) (IH (n - 1) (by omega) v (min lim (r e)) r nx1 _ (by omega) hhV (by omega) hok hnet hrow hnx1) ?_
    rintro v2 w5 ⟨nx2, hrow2, hkeep2, hnx2, hlow2, hcase⟩
    have hnu2 := hlow2 u hu (by omega)
    refine wpl_op rfl (Ex_assign (by conv => lhs; whnf)) ?_
    refine wpl_nil (hK _ _ ?_)
    clear hK K
    replace hkeep := hkeep.trans hkeep2
    clear hkeep2 hrow hnet
    rename Lv w5 L gl gn cl cn lv nx2 => hrow
    rcases hcase with ⟨rfl, hnet, hdead2⟩ | ⟨f, r2, rfl, hf0, hfl, hnet, hwent⟩
    · skip
      refine wp_region_seq (fun K hK => ?_)
      refine wpl_op rfl (Ex_move (by conv => lhs; whnf)) ?_
      refine wpl_op rfl (Ex_gtr rfl rfl rfl) ?_
      refine wpl_nil (hK _ _ ?_)
      clear hK K
      refine wp_if_false rfl ?_
      refine wp_skip ?_
      refine hK' _ _ ?_
      refine wp_region_last ?_
      refine wpl_op rfl (Ex_move (by conv => lhs; whnf)) ?_
      refine wpl_op rfl (Ex_move (by conv => lhs; whnf)) ?_
      refine wpl_op rfl (Ex_index1 Try.underlying22 size_22 rfl rfl hu) ?_
      refine wpl_op rfl (Ex_load one3 rfl (hrow.no.c0 hu)) ?_
      refine wpl_op rfl (Ex_inc rfl rfl (by omega)) ?_
      refine wpl_op rfl (Ex_index1 Try.underlying22 size_22 rfl rfl hu) ?_
      refine wpl_op rfl (Ex_store one3 rfl (by conv => lhs; whnf) rfl (hrow.no.c0 hu) hrow.no.open_) ?_
      refine wpl_nil ?_
      rw [Nat.zero_add]
      exact hR _ _ _ (bump nx2 u) ⟨rfl, rfl, rfl, rfl, rfl, rfl, trivial⟩ ⟨hnet.mark hrow.nf _ _, hrow.mark hu (fun _ _ => rfl), hkeep.trans (Keep.setCell _ (by simp) _), bump_le hnx2 (by omega), bump_low (fun x hx hl => (hlow2 x hx (by omega)).trans (hlow1 x hx hl)), fun hd => bump_dead ((fun hd => (hdead2 (hdead1 hd)).1) hd) (by rw [hnu2, hev, hvv]; exact fun _ => (hdead2 (hdead1 hd)).2)⟩ (by rw [bump_at]; omega)
    · skip
      refine wp_region_seq (fun K hK => ?_)
      refine wpl_op rfl (Ex_move (by conv => lhs; whnf)) ?_
      refine wpl_op rfl (Ex_gtr rfl rfl (decide_eq_true hf0)) ?_
      refine wpl_nil (hK _ _ ?_)
      clear hK K
      refine wp_if_true rfl ?_
      have hsame : r2 e = r e := hwent.low e heM (by rw [← hev, hG.et u _ hu hlt]; omega)
      have hb1 : r2 e ≤ 1000000000000 := by rw [hsame]; omega
      obtain ⟨hq0, hq1⟩ := hwent.ok _ hrV
      obtain ⟨hq2, hq3⟩ := hwent.ok _ heM
      refine wp_region_seq (fun K hK => ?_)
      refine wpl_op rfl (Ex_move (by conv => lhs; whnf)) ?_
      refine wpl_op rfl (Ex_nil rfl) ?_
      refine wpl_op rfl (Ex_field fld56_2 rfl) ?_
      refine wpl_op rfl (Ex_load one22 rfl hnet.c2) ?_
      refine wpl_op rfl (Ex_move (by conv => lhs; whnf)) ?_
      refine wpl_op rfl (Ex_index1 Try.underlying22 size_22 rfl rfl heM) ?_
      refine wpl_op rfl (Ex_load one3 rfl (hnet.rmc heM)) ?_
      refine wpl_op rfl (Ex_move (by conv => lhs; whnf)) ?_
      refine wpl_op rfl (Ex_sub rfl rfl (by omega) (by omega)) ?_
      refine wpl_op rfl (Ex_index1 Try.underlying22 size_22 rfl rfl heM) ?_
      refine wpl_op rfl (Ex_store one3 rfl (by conv => lhs; whnf) rfl (hnet.rmc heM) hnet.rm.open_) ?_
      refine wpl_nil (hK _ _ ?_)
      clear hK K
      rw [Nat.zero_add]
      refine wp_gen (fun w6 => Net w6 L (fun i => if i = e then r2 e - f else r2 i) ∧ Lv w6 L gl gn cl cn lv nx2 ∧ Keep [L.gr, gn] w w6) ⟨hnet.room heM (fun _ _ => rfl), hrow.room _ _, hkeep.trans (Keep.setCell _ (by simp) _)⟩ (fun w6 hg6 => ?_)
      clear hnet hrow hkeep
      obtain ⟨hnet, hrow, hkeep⟩ := hg6
      have hrc := hnet.rmc hrV
      have hne := rev_ne e
      rw [if_neg hne] at hrc
      refine wp_region_seq (fun K hK => ?_)
      refine wpl_op rfl (Ex_move (by conv => lhs; whnf)) ?_
      refine wpl_op rfl (Ex_nil rfl) ?_
      refine wpl_op rfl (Ex_field fld56_2 rfl) ?_
      refine wpl_op rfl (Ex_load one22 rfl hnet.c2) ?_
      refine wpl_op rfl (Ex_move (by conv => lhs; whnf)) ?_
      refine wpl_op rfl (Ex_rev rfl rfl (by omega)) ?_
      refine wpl_op rfl (Ex_index1 Try.underlying22 size_22 rfl rfl hrV) ?_
      refine wpl_op rfl (Ex_load one3 rfl hrc) ?_
      refine wpl_op rfl (Ex_move (by conv => lhs; whnf)) ?_
      refine wpl_op rfl (Ex_add rfl rfl (by omega) (by omega)) ?_
      refine wpl_op rfl (Ex_index1 Try.underlying22 size_22 rfl rfl hrV) ?_
      refine wpl_op rfl (Ex_store one3 rfl (by conv => lhs; whnf) rfl hrc hnet.rm.open_) ?_
      refine wpl_nil (hK _ _ ?_)
      clear hK K
      rw [Nat.zero_add]
      refine wp_region_seq (fun K hK => ?_)
      refine wpl_op rfl (Ex_move (by conv => lhs; whnf)) ?_
      refine wpl_op rfl (Ex_assign (by conv => lhs; whnf)) ?_
      refine wpl_nil (hK _ _ ?_)
      clear hK K
      have hstep := Gr.Went.step hG hu hlt hadm (by rw [hev, hvv]; exact hwent) (Int.le_of_lt hf0) (by rw [hev]; exact hfl)
      rw [hev] at hstep
      refine wp_ret ?_
      repeat (first | refine out_block ?_ | refine out_then ?_)
      refine ret_tmp Try.results40 ⟨nx2, hrow.room _ _, hkeep.trans (Keep.setCell _ (by simp) _), hnx2, fun x hx hl => (hlow2 x hx (by omega)).trans (hlow1 x hx hl), .inr ⟨f, over r2 e f, rfl, hf0, by omega, hnet.room hrV (fun i _ => ?_), hstep⟩⟩
      unfold over
      by_cases h1 : i = e
      · subst h1; simp [hne.symm]
      · by_cases h2 : i = rev e
        · simp [h2, hne]
        · simp [h1, h2]
  · skip
    refine wp_seq_k (fun KK hKK => ?_)
    refine wp_quiet_seq (by kernel_rfl) (by kernel_rfl) (fun K hK => ?_)
    refine wpq_op (fun w hw => Ex_move (by conv => lhs; whnf)) ?_
    refine wpq_op (fun w hw => Ex_move (by conv => lhs; whnf)) ?_
    refine wpq_op (fun w hw => Ex_index1 Try.underlying22 size_22 rfl rfl hu) ?_
    refine wpq_op (fun w hw => Ex_load one3 rfl ((hrow.later hw).no.c0 hu)) ?_
    refine wpq_op (fun w hw => Ex_move (by conv => lhs; whnf)) ?_
    refine wpq_op (fun w hw => Ex_nil rfl) ?_
    refine wpq_op (fun w hw => Ex_field fld56_0 rfl) ?_
    refine wpq_op (fun w hw => Ex_load one27 rfl (hnet.later hw).c0) ?_
    refine wpq_op (fun w hw => Ex_move (by conv => lhs; whnf)) ?_
    refine wpq_op (fun w hw => Ex_index1 Try.underlying27 size_27 rfl rfl hu) ?_
    refine wpq_op (fun w hw => Ex_load one22 rfl ((hnet.later hw).out u hu)) ?_
    refine wpq_op (fun w hw => Ex_len Try.underlying22 rfl) ?_
    refine wpq_op (fun w hw => Ex_lss rfl rfl (decide_eq_false (by omega))) ?_
    refine wpq_nil (fun w2 hw2 => hK _ _ ?_)
    clear hK K
    refine wp_if_false rfl ?_
    refine wp_exit ?_
    clear hKK
    refine hK1 _ _ ?_
    refine wp_region_seq (fun K hK => ?_)
    refine wpl_op rfl (Ex_assign (by conv => lhs; whnf)) ?_
    refine wpl_nil (hK _ _ ?_)
    clear hK K
    refine wp_ret ?_
    repeat (first | refine out_block ?_ | refine out_then ?_)
    refine ret_tmp Try.results40 ⟨nx1, hrow.later hw2, hkeep.trans (Keep.of_below hw2 _), hnx1, hlow1, .inl ⟨rfl, hnet.later hw2, fun hd => ⟨hdead1 hd, (hdead1 hd).ends hu hut (by omega)⟩⟩⟩
end Go.Proofs.Qxb6613837a.Sp
