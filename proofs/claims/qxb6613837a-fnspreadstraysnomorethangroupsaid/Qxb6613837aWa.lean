import Derived.Test.Qxb6613837aVc
namespace Go.Proofs.Qxb6613837a.Sp
open Go.Fr Go.RowKit Go.Sp

theorem info9 : (Try.prog.info? 9).map (fun i => (i.zero, i.size, i.bytes)) = some (some (.string ByteArray.empty), 1, 16) := by kernel_rfl
theorem isz9 : (Try.prog.info? 9).map (·.size) = some 1 := by kernel_rfl
theorem copy_i {P : Program} {ρ : Operand → Value} {ty dT sT e t : TypeId} {w w0 : World} {x y : Operand} {g n c c' k0 : Nat} {a : Option Addr} {z : Nat → Int} {f0 : Nat → Value} (hu : P.underlying dT = some (.slice e)) (hs : (P.info? e).map (·.size) = some 1)
    (hx : ρ x = .slice (some ⟨g, 0, none⟩) n c) (hy : ρ y = .slice a n c') (hown : Own w g t n k0 f0) (ha : IntsAt w a n z) (hb : Below w0.heap.size w0 w) (hg : w0.heap.size ≤ g) :
    ∃ v w', Ex P ρ (.call { callee := .builtin .copy, args := #[x, y], argTypes := #[dT, sT] }) ty w v w' ∧ Own w' g t n n (fun i => .int .i64 (z i)) ∧ Below w0.heap.size w0 w' := by
  obtain ⟨w', h1, h2, h3⟩ := Ex_copy (P := P) (ρ := ρ) (ty := ty) (f := fun i => .int .i64 (z i)) hu hs hx hy hown ha (fun _ => rfl)
  exact ⟨_, w', h1, h2, h3 _ _ hb hg⟩
theorem copy_s {P : Program} {ρ : Operand → Value} {ty dT sT e t : TypeId} {w w0 : World} {x y : Operand} {g n c c' k0 : Nat} {a : Option Addr} {z : Nat → ByteArray} {f0 : Nat → Value} (hu : P.underlying dT = some (.slice e)) (hs : (P.info? e).map (·.size) = some 1)
    (hx : ρ x = .slice (some ⟨g, 0, none⟩) n c) (hy : ρ y = .slice a n c') (hown : Own w g t n k0 f0) (ha : StrsAt w a n z) (hb : Below w0.heap.size w0 w) (hg : w0.heap.size ≤ g) :
    ∃ v w', Ex P ρ (.call { callee := .builtin .copy, args := #[x, y], argTypes := #[dT, sT] }) ty w v w' ∧ Own w' g t n n (fun i => .string (z i)) ∧ Below w0.heap.size w0 w' := by
  obtain ⟨w', h1, h2, h3⟩ := Ex_copy (P := P) (ρ := ρ) (ty := ty) (f := fun i => .string (z i)) hu hs hx hy hown ha (fun _ => rfl)
  exact ⟨_, w', h1, h2, h3 _ _ hb hg⟩
/-- The supplies, as plain numbers. -/
theorem supplies {k : Nat} {z : Nat → Int} (hk : 0 < k) (h1 : ∀ i, i < k → 0 ≤ z i ∧ z i ≤ 16384) (h2 : sm z k = 16384) : ∃ (s : Nat → Nat) (W : Nat), (∀ q, q < k → z q = (s q : Int)) ∧ (∀ q, q < k → s q ≤ 16384) ∧ sm (fun q => (s q : Int)) k = 16384 ∧ mxs (fun q => (s q : Int)) k = (W : Int) ∧ W ≤ 16384 ∧ ∀ q, q < k → s q ≤ W := by
  have e : ∀ q, q < k → z q = ((z q).toNat : Int) := fun q hq => by have := h1 q hq; omega
  have hs : ∀ q, q < k → (z q).toNat ≤ 16384 := fun q hq => by have := h1 q hq; omega
  have hmx0 : 0 ≤ mxs (fun q => ((z q).toNat : Int)) k := by
    have := mxs_ge (fun q => ((z q).toNat : Int)) k 0 hk
    omega
  have hmx1 : mxs (fun q => ((z q).toNat : Int)) k ≤ 16384 := mxs_le _ _ _ (by have := hs 0 hk; omega) (fun i hi => by have := hs i hi; omega)
  refine ⟨fun q => (z q).toNat, (mxs (fun q => ((z q).toNat : Int)) k).toNat, e, hs, ?_, by dsimp only; omega, by omega, fun q hq => ?_⟩
  · rw [← h2]; exact sm_congr (fun q hq => (e q hq).symm)
  · have := mxs_ge (fun q => ((z q).toNat : Int)) k q hq
    dsimp only at this ⊢
    omega
end Go.Proofs.Qxb6613837a.Sp
