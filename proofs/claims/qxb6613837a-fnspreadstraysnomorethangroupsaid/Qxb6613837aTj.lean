import Derived.Test.Qxb6613837aTh
namespace Go.Proofs.Qxb6613837a.Sp
open Go.Fr Go.RowKit Go.Sp

theorem Rd.start {I : Inst} {w0 w w' : World} {B ib bx bg gx g go gE gL : Nat} {tE tL : Nat → Nat} {rv : Nat → Value} {i e l : Nat} (fx : Fx w0 B ib bx bg gx g go gE gL) (bel : Below w0.heap.size w0 w) (htr : Tr w B bx bg gx g go (2 * I.k + 4) rv ((I.pre i 0).map BArc.arc) (exOf (I.pre i 0)))
    (ht : Tabs w (2 * I.k + 4) B I.k gE gL tE tL rv (eixv I) (lowv I) i) (h0 : w.cell? ⟨ib, 0, none⟩ = some (.int .i64 I.ilo)) (h1 : w.cell? ⟨ib, 1, none⟩ = some (.int .i64 I.ihi)) (h : Two w w' I.k i gE gL e l tE tL) : Rd I w0 w' B ib bx bg gx g go gE gL tE tL rv i 0 e l := by
  have hB := fx.hB
  have hW := fx.hW
  have hsz := htr.bld.fam.szB
  have en := h.en
  have ln := h.ln
  have hnb : ∀ b, B ≤ b → b ∉ [gE, gL] := fun b hb hm => by simp at hm; omega
  refine ⟨bel.trans (h.kp.below bel.size (fun b hb => by simp at hb; omega)), ?_, h.oE, h.oL, fun q hq => (ht.e.row q hq).keep h.kp (hnb _ (ht.eo q hq).1), fun q hq => (ht.l.row q hq).keep h.kp (hnb _ (ht.lo q hq).1), h.e0.congr (fun q _ => by simp), h.l0.congr (fun q _ => by simp),
    fun q hq => ⟨⟨(ht.eo q hq).1, by have := (ht.e.row q hq).lt; omega, by have := (ht.e.row q hq).lt; omega⟩, (ht.eo q hq).2⟩, fun q hq => ⟨⟨(ht.lo q hq).1, by have := (ht.l.row q hq).lt; omega, by have := (ht.l.row q hq).lt; omega⟩, (ht.lo q hq).2⟩,
    ⟨by omega, htr.bld.fam.out (.inr en)⟩, ⟨by omega, htr.bld.fam.out (.inr ln)⟩, h.ne, h.kp.cell h0 (by have := fx.nIE; simp; omega), h.kp.cell h1 (by have := fx.nIE; simp; omega)⟩
  refine htr.keep h.kp (fun b hb => ?_)
  rcases (by simpa using hb : b = gE ∨ b = gL) with rfl | rfl
  · exact ⟨fx.nE, htr.bld.fam.out (.inl hB.2.2.2.1)⟩
  · exact ⟨fx.nL, htr.bld.fam.out (.inl hB.2.2.2.2.1)⟩
theorem Rd.fin {I : Inst} {w0 w : World} {B ib bx bg gx g go gE gL : Nat} {tE tL : Nat → Nat} {rv : Nat → Value} {i e l : Nat} (fx : Fx w0 B ib bx bg gx g go gE gL) (h : Rd I w0 w B ib bx bg gx g go gE gL tE tL rv i I.k e l) : Tabs w (2 * I.k + 4) B I.k gE gL (upd tE i e) (upd tL i l) rv (eixv I) (lowv I) (i + 1) := by
  have hB := fx.hB
  refine ⟨⟨h.oE, fun q hq => ?_⟩, ⟨h.oL, fun q hq => ?_⟩, hB.2.2.2.1, hB.2.2.2.2.1, fun q hq => ?_, fun q hq => ?_⟩
  · by_cases e : q = i
    · subst e; rw [upd_at]; exact h.e0.congr (fun p hp => by rw [if_pos hp])
    · rw [upd_ne _ _ e]; exact h.rE q (by omega)
  · by_cases e : q = i
    · subst e; rw [upd_at]; exact h.l0.congr (fun p hp => by rw [if_pos hp])
    · rw [upd_ne _ _ e]; exact h.rL q (by omega)
  · by_cases e : q = i
    · subst e; rw [upd_at]; exact h.xe
    · rw [upd_ne _ _ e]; exact ⟨(h.xE q (by omega)).1.1, (h.xE q (by omega)).2⟩
  · by_cases e : q = i
    · subst e; rw [upd_at]; exact h.xl
    · rw [upd_ne _ _ e]; exact ⟨(h.xL q (by omega)).1.1, (h.xL q (by omega)).2⟩
theorem keep_drew0 (l : List Nat) (w : World) : Keep l w w.drew := ⟨rfl, rfl, rfl, Nat.le_refl _, fun _ _ _ => rfl⟩
/-- The three orders in which the two rows may be made and the first be laid. -/
theorem two_a {w : World} {k i gE gL : Nat} {tE tL : Nat → Nat} (hi : i < k) (hE : Own w gE 22 k i (fun q => sl (tE q) k)) (hL : Own w gL 22 k i (fun q => sl (tL q) k)) (hne : gE ≠ gL) :
    Two w ((((w.drew.alloc (zrow k)).alloc (zrow k)).setCell ⟨gE, i, none⟩ (sl w.heap.size k)).setCell ⟨gL, i, none⟩ (sl (w.drew.alloc (zrow k)).heap.size k)) k i gE gL w.heap.size (w.drew.alloc (zrow k)).heap.size tE tL := by
  have h1 := hE.lt
  have h2 := hL.lt
  have hs : (w.drew.alloc (zrow k)).heap.size = w.heap.size + 1 := by simp
  have kA := (keep_drew0 [gE, gL] w).trans (Keep.alloc [gE, gL] w.drew (zrow k))
  have kB := kA.trans (Keep.alloc [gE, gL] _ (zrow k))
  have kC := kB.trans (Keep.setCell _ (l := [gE, gL]) (g := gE) (i := i) (by simp) (sl w.heap.size k))
  have kD := kC.trans (Keep.setCell _ (l := [gE, gL]) (g := gL) (i := i) (by simp) (sl (w.drew.alloc (zrow k)).heap.size k))
  have kB0 : Keep [] w ((w.drew.alloc (zrow k)).alloc (zrow k)) := ((keep_drew0 [] w).trans (Keep.alloc [] w.drew (zrow k))).trans (Keep.alloc [] _ (zrow k))
  have e0 : Own ((w.drew.alloc (zrow k)).alloc (zrow k)) w.heap.size 3 k k (fun _ => .int .i64 0) := (own_zrow w.drew k).keep (Keep.alloc [] _ (zrow k)) (by simp)
  have l0 := own_zrow (w.drew.alloc (zrow k)) k
  exact ⟨kD, (own_next (hE.keep kB0 (by simp)) hi _).other hne _, own_next ((hL.keep kB0 (by simp)).other (Ne.symm hne) _) hi _, (e0.other (by omega) _).other (by omega) _, (l0.other (by omega) _).other (by omega) _, Nat.le_refl _, by omega, by omega⟩
theorem two_b {w : World} {k i gE gL : Nat} {tE tL : Nat → Nat} (hi : i < k) (hE : Own w gE 22 k i (fun q => sl (tE q) k)) (hL : Own w gL 22 k i (fun q => sl (tL q) k)) (hne : gE ≠ gL) :
    Two w ((((w.drew.alloc (zrow k)).setCell ⟨gE, i, none⟩ (sl w.heap.size k)).alloc (zrow k)).setCell ⟨gL, i, none⟩ (sl ((w.drew.alloc (zrow k)).setCell ⟨gE, i, none⟩ (sl w.heap.size k)).heap.size k)) k i gE gL w.heap.size ((w.drew.alloc (zrow k)).setCell ⟨gE, i, none⟩ (sl w.heap.size k)).heap.size tE tL := by
  have h1 := hE.lt
  have h2 := hL.lt
  have hs : (w.drew.alloc (zrow k)).heap.size = w.heap.size + 1 := by simp
  have hs2 := (Keep.setCell (w.drew.alloc (zrow k)) (l := [gE]) (g := gE) (i := i) (by simp) (sl w.heap.size k)).size
  have kA := (keep_drew0 [gE, gL] w).trans (Keep.alloc [gE, gL] w.drew (zrow k))
  have kC := kA.trans (Keep.setCell _ (l := [gE, gL]) (g := gE) (i := i) (by simp) (sl w.heap.size k))
  have kB := kC.trans (Keep.alloc [gE, gL] _ (zrow k))
  have kD := kB.trans (Keep.setCell _ (l := [gE, gL]) (g := gL) (i := i) (by simp) (sl ((w.drew.alloc (zrow k)).setCell ⟨gE, i, none⟩ (sl w.heap.size k)).heap.size k))
  have kA0 : Keep [] w (w.drew.alloc (zrow k)) := (keep_drew0 [] w).trans (Keep.alloc [] w.drew (zrow k))
  have e0 := (own_zrow w.drew k).other (g' := gE) (i := i) (by show w.heap.size ≠ gE; omega) (sl w.heap.size k)
  have l0 := own_zrow ((w.drew.alloc (zrow k)).setCell ⟨gE, i, none⟩ (sl w.heap.size k)) k
  have ka := Keep.alloc [] ((w.drew.alloc (zrow k)).setCell ⟨gE, i, none⟩ (sl w.heap.size k)) (zrow k)
  exact ⟨kD, ((own_next (hE.keep kA0 (by simp)) hi _).keep ka (by simp)).other hne _, own_next (((hL.keep kA0 (by simp)).other (Ne.symm hne) _).keep ka (by simp)) hi _, (e0.keep ka (by simp)).other (by show w.heap.size ≠ gL; omega) _, l0.other (by omega) _, Nat.le_refl _, by omega, by omega⟩
theorem two_c {w : World} {k i gE gL : Nat} {tE tL : Nat → Nat} (hi : i < k) (hE : Own w gE 22 k i (fun q => sl (tE q) k)) (hL : Own w gL 22 k i (fun q => sl (tL q) k)) (hne : gE ≠ gL) :
    Two w ((((w.drew.alloc (zrow k)).alloc (zrow k)).setCell ⟨gE, i, none⟩ (sl (w.drew.alloc (zrow k)).heap.size k)).setCell ⟨gL, i, none⟩ (sl w.heap.size k)) k i gE gL (w.drew.alloc (zrow k)).heap.size w.heap.size tE tL := by
  have h1 := hE.lt
  have h2 := hL.lt
  have hs : (w.drew.alloc (zrow k)).heap.size = w.heap.size + 1 := by simp
  have kA := (keep_drew0 [gE, gL] w).trans (Keep.alloc [gE, gL] w.drew (zrow k))
  have kB := kA.trans (Keep.alloc [gE, gL] _ (zrow k))
  have kC := kB.trans (Keep.setCell _ (l := [gE, gL]) (g := gE) (i := i) (by simp) (sl (w.drew.alloc (zrow k)).heap.size k))
  have kD := kC.trans (Keep.setCell _ (l := [gE, gL]) (g := gL) (i := i) (by simp) (sl w.heap.size k))
  have kB0 : Keep [] w ((w.drew.alloc (zrow k)).alloc (zrow k)) := ((keep_drew0 [] w).trans (Keep.alloc [] w.drew (zrow k))).trans (Keep.alloc [] _ (zrow k))
  have e0 : Own ((w.drew.alloc (zrow k)).alloc (zrow k)) w.heap.size 3 k k (fun _ => .int .i64 0) := (own_zrow w.drew k).keep (Keep.alloc [] _ (zrow k)) (by simp)
  have l0 := own_zrow (w.drew.alloc (zrow k)) k
  exact ⟨kD, (own_next (hE.keep kB0 (by simp)) hi _).other hne _, own_next ((hL.keep kB0 (by simp)).other (Ne.symm hne) _) hi _, (l0.other (by omega) _).other (by omega) _, (e0.other (by omega) _).other (by omega) _, by omega, Nat.le_refl _, by omega⟩

end Go.Proofs.Qxb6613837a.Sp
