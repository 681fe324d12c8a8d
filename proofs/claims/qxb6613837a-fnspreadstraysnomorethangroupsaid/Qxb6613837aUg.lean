import Derived.Test.Qxb6613837aUf
import Derived.Test.Qxb6613837aVb
namespace Go.Proofs.Qxb6613837a.Sp
open Go.Fr Go.RowKit Go.Sp

theorem zero43 : ∀ w, (zeroValue 43).run Try.prog w = .ok .nilFunc w := fun w => by simp [go_sem]
/-- How many of the first n are apart from i. -/
def ap (h : Nat → ByteArray) (i : Nat) : Nat → Nat
  | 0 => 0
  | n + 1 => ap h i n + if wlnk h i n then 1 else 0
theorem ap_le (h : Nat → ByteArray) (i : Nat) : ∀ n, ap h i n ≤ n
  | 0 => Nat.le_refl _
  | n + 1 => by have := ap_le h i n; show ap h i n + _ ≤ _; split <;> omega
theorem ap_pos {h : Nat → ByteArray} {i j : Nat} : ∀ {n : Nat}, j < n → wlnk h i j = true → 0 < ap h i n
  | 0, hj, _ => by omega
  | n + 1, hj, hl => by
    show 0 < ap h i n + _
    by_cases e : j = n
    · subst e; rw [if_pos hl]; omega
    · have := ap_pos (n := n) (by omega) hl; omega
/-- What transport's answer tells: no solution, or one. -/
def Ans (I : Inst) (w0 : World) (v : Value) (w : World) : Prop :=
  ∃ gX xb x, v = sl gX I.k ∧ Sq w I.k gX xb x I.k ∧ w0.heap.size ≤ gX ∧ (∀ q, q < I.k → gX < xb q) ∧ (∀ p q, p < q → q < I.k → xb p < xb q) ∧ I.Feas x
end Go.Proofs.Qxb6613837a.Sp
namespace Go.Sp
open Go.RowKit Go.Fr Go.Sp
/-- Hoffman's condition holds everywhere, and no link is shut. -/
def Inst.Okay (I : Inst) : Prop := (∀ i j, i < I.k → j < I.k → I.lnk i j = true → I.lo i j ≤ I.hi i j) ∧ ∀ R, Hoff I.bs (2 * I.k + 4) R
end Go.Sp
namespace Go.Proofs.Qxb6613837a.Sp
open Go.Fr Go.RowKit Go.Sp
end Go.Proofs.Qxb6613837a.Sp
namespace Go.Sp
open Go.RowKit Go.Fr Go.Sp
theorem Inst.Feas.okay {I : Inst} (hI : I.Fine) {x : Nat → Nat → Int} (hx : I.Feas x) : I.Okay :=
  ⟨fun i j hi hj hl => (by have := hx.link i j hi hj hl; omega), fun R => I.hoff_of_feas hI hx R⟩
end Go.Sp
namespace Go.Proofs.Qxb6613837a.Sp
open Go.Fr Go.RowKit Go.Sp
theorem TRes.tells {I : Inst} {w0 : World} {v : Value} {w : World} (h : TRes I w0 v w) : (v = .slice none 0 0 ∧ ¬ I.Okay) ∨ (∃ b l c, v = .slice (some b) l c ∧ (∃ x, I.Feas x) ∧ Ans I w0 v w) := by
  rcases h.2 with ⟨e, h1⟩ | ⟨gX, xb, x, e, h1, h2, h3, h4, h5⟩
  · refine .inl ⟨e, fun hok => ?_⟩
    rcases h1 with ⟨i, j, hi, hj, hl, hgt⟩ | ⟨R, hR⟩
    · have := hok.1 i j hi hj hl; omega
    · exact hR (hok.2 R)
  · exact .inr ⟨_, _, _, e, ⟨x, h5⟩, gX, xb, x, e, h1, h2, h3, h4, h5⟩
theorem Ans.later {I : Inst} {w0 : World} {v : Value} {w w' : World} (h : Ans I w0 v w) (hb : Below w.heap.size w w') : Ans I w0 v w' := by
  obtain ⟨gX, xb, x, e, h1, h2⟩ := h
  exact ⟨gX, xb, x, e, h1.later hb, h2⟩
theorem Ans.from {I : Inst} {w0 w1 : World} {v : Value} {w : World} (h : Ans I w1 v w) (hb : w0.heap.size ≤ w1.heap.size) : Ans I w0 v w := by
  obtain ⟨gX, xb, x, e, h1, h2, h3⟩ := h
  exact ⟨gX, xb, x, e, h1, Nat.le_trans hb h2, h3⟩
/-- A wider stray lets the same shares. -/
theorem SI_mono {k : Nat} {h : Nat → ByteArray} {s p : Nat → Nat} {d d' most most' : Nat} {ilo ihi : Int} (hd : d ≤ d') (hm : most ≤ most') {x : Nat → Nat → Int} (hx : (SI k h s p d most ilo ihi).Feas x) : (SI k h s p d' most' ilo ihi).Feas x := by
  refine ⟨fun i j hi hj hl => ?_, hx.none, hx.row, hx.col⟩
  have h1 := hx.link i j hi hj hl
  have hl' : wlnk h i j = true := hl
  have e1 : (SI k h s p d most ilo ihi).lo i j = max 0 ((evlo s p i : Int) - d) := by show wlo h s p d i j = _; simp [wlo, hl']
  have e2 : (SI k h s p d' most' ilo ihi).lo i j = max 0 ((evlo s p i : Int) - d') := by show wlo h s p d' i j = _; simp [wlo, hl']
  have e3 : (SI k h s p d most ilo ihi).hi i j = min (min (s i : Int) ((evhi s p i : Int) + d)) most := by show whi h s p d most i j = _; simp [whi, hl']
  have e4 : (SI k h s p d' most' ilo ihi).hi i j = min (min (s i : Int) ((evhi s p i : Int) + d')) most' := by show whi h s p d' most' i j = _; simp [whi, hl']
  rw [e1, e3] at h1
  rw [e2, e4]
  omega

end Go.Proofs.Qxb6613837a.Sp
