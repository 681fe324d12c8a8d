import Derived.Test.Qxb6613837aWc
import Derived.ProofKit
import Derived.OpenShut
import Derived.ChangeOld
import Derived.Below
import Derived.SliceStrings
import Derived.Deep.Grids
namespace Go.Proofs.Qxb6613837a.law6
open Go.ChangeShapes Go.WideShapes Go.ChangeAt Go.RowKit Go.Fr Go.Deep
open Go.ChangeMaps (open_string shut_string)

theorem own : ownKnob Try.prog.godebug = none := by kernel_rfl
theorem laidOut : laidOutB Try.prog = true := by kernel_rfl
theorem getD_mem {α : Type} (l : List α) (d : α) {i : Nat} (h : i < l.length) : l.getD i d ∈ l := by
  rw [List.getD_eq_getElem?_getD, List.getElem?_eq_getElem h]
  exact List.getElem_mem h
theorem add_at (w : World) (x : Addr) (n : Nat) (f : Nat → Value) (h : ∀ i, i < n → w.cell? (x.add i) = some (f i)) : n = 0 ∨ ∃ b o, x = ⟨b, o, none⟩ ∧ ∀ i, i < n → w.cell? ⟨b, o + i, none⟩ = some (f i) := by
  by_cases hn : n = 0
  · exact .inl hn
  · obtain ⟨b, o, s⟩ := x
    have hs : s = none := by simpa [Addr.add] using World.cell?_spot (h 0 (by omega))
    subst hs
    exact .inr ⟨b, o, rfl, fun i hi => by rw [← Addr.add_lit]; exact h i hi⟩

set_option maxRecDepth 100000 in
theorem lifted (os : Os) (started : os.Started) (H : Type) (enc : TypeId × Value → H) :
    ReturnsInHanded {} Try.checked os 6 .any (Rows.fnSpreadStraysNoMoreThanGroupSpec.pre6 enc Try.prog Try.f6 Rows.fnSpreadStraysNoMoreThanGroupRow.domain false) (Rows.fnSpreadStraysNoMoreThanGroupSpec.post enc Try.prog Try.f6 false true false false) := by
  refine returnsInHanded_of_change (C := Try.checked) own started (by kernel_rfl) Try.func6
    (ChangeSpec.witness6 (enc := enc) (C := Try.checked) false ⟨#[], #[.slice none 0 0, .slice none 0 0], []⟩ 8 (by kernel_rfl) (by kernel_rfl) (by kernel_rfl) (by kernel_rfl)) ?_
  intro W base args ds gs before hval0 hW hcnd _
  have hval : ∀ (j : Nat) t v, Try.f6.params[j]? = some t → args[j]? = some v → Value.okWide Try.prog W .any base t v := hval0
  have hW' := hW
  obtain ⟨p, q, hA0, hV, rfl, hfz, hnd⟩ := hW
  have hA : DataW.TrodAll enc Try.prog W 0 (fun _ => true) true Try.f6.params.toList args.toList ds p := hA0
  rw [Try.params6] at hA hval
  obtain ⟨v0, vs0, d0, ds0, p0, q0, hargs, rfl, rfl, h0, r0⟩ := trodAll_cons hA
  obtain ⟨v1, vs1, d1, ds1, p1, q1, rfl, rfl, rfl, h1, r1⟩ := trodAll_cons r0
  obtain ⟨rfl, rfl, rfl⟩ := trodAll_nil r1
  obtain rfl : args = #[v0, v1] := by cases args; simp_all
  obtain ⟨rfl, rfl⟩ := trodVars_none hV
  obtain ⟨a0, len0, cap0, rfl⟩ := okWide_slice Try.underlying22 (hval 0 22 v0 rfl rfl)
  have k0 := h0
  have lt0 : ∀ x ∈ p0, x.block < W.heap.size := by obtain ⟨m, hm⟩ := k0; exact DataW.trod_lt m _ _ _ hm
  obtain ⟨z0, w0, m0⟩ : ∃ z : Nat → Int, IntsAt W a0 len0 z ∧ len0 ≤ maxLen ∧ ∀ i, i < len0 → -9223372036854775808 ≤ z i ∧ z i ≤ 9223372036854775807 := by
    obtain ⟨fuel, hf⟩ := h0
    rcases open_ints Try.underlying22 Try.underlying3 (by kernel_rfl) hf with ⟨hcs, _⟩ | ⟨x, l, c, zs, hcs, _, hl, hm, hz, _, hcell, hwz⟩
    · simp [Value.cells] at hcs
      obtain ⟨rfl, rfl, rfl⟩ := hcs
      exact ⟨fun _ => 0, .inl rfl, Nat.zero_le _, by intro i hi; omega⟩
    · simp [Value.cells] at hcs
      obtain ⟨rfl, rfl, rfl⟩ := hcs
      simp at hz
      refine ⟨fun i => zs.getD i 0, ?_, Nat.le_trans hl hm, ?_⟩
      · rcases add_at W x len0 _ (fun i hi => hcell i (by omega)) with h | ⟨b, o, rfl, h⟩
        · exact .inl h
        · exact .inr ⟨b, o, rfl, h⟩
      · intro i hi
        exact bounds_i64 (hwz (zs.getD i 0) (getD_mem zs 0 (by omega)))
  obtain ⟨a1, len1, cap1, rfl⟩ := okWide_slice Try.underlying23 (hval 1 23 v1 rfl rfl)
  have k1 := h1
  have lt1 : ∀ x ∈ p1, x.block < W.heap.size := by obtain ⟨m, hm⟩ := k1; exact DataW.trod_lt m _ _ _ hm
  obtain ⟨z1, w1, m1⟩ : ∃ z : Nat → ByteArray, StrsAt W a1 len1 z ∧ len1 ≤ maxLen ∧ ∀ i, i < len1 → (z i).size ≤ maxLen := by
    obtain ⟨fuel, hf⟩ := h1
    rcases open_strings Try.underlying23 Try.underlying9 (by kernel_rfl) hf with ⟨hcs, _⟩ | ⟨x, l, c, ss, hcs, _, hl, hm, hz, _, hcell, hws⟩
    · simp [Value.cells] at hcs
      obtain ⟨rfl, rfl, rfl⟩ := hcs
      exact ⟨fun _ => ByteArray.empty, .inl rfl, Nat.zero_le _, by intro i hi; omega⟩
    · simp [Value.cells] at hcs
      obtain ⟨rfl, rfl, rfl⟩ := hcs
      simp at hz
      refine ⟨fun i => ss.getD i ByteArray.empty, ?_, Nat.le_trans hl hm, ?_⟩
      · rcases add_at W x len1 _ (fun i hi => hcell i (by omega)) with h | ⟨b, o, rfl, h⟩
        · exact .inl h
        · exact .inr ⟨b, o, rfl, h⟩
      · intro i hi
        exact hws _ (getD_mem ss _ (by omega))
  clear hA0 hval0
  refine Calls.mono (Sp.walk6 a0 a1 len0 cap0 len1 cap1 z0 z1 W w0 w1) fun e W' ⟨v, he, hv, bel⟩ => ?_
  subst he hv
  exact ⟨_, rfl, _, _, _, [], _, [], hW', trodAll_mk1 (shut_bool Try.underlying4 _), (trodAll_cons_mk (Below.trod laidOut (by kernel_rfl) (of_decide_eq_true (by kernel_rfl)) k0 bel lt0) (trodAll_cons_mk (Below.trod laidOut (by kernel_rfl) (of_decide_eq_true (by kernel_rfl)) k1 bel lt1) trodAll_mk0)), rfl, bel.frame _, fun h => by cases h⟩

theorem over : Rows.fnSpreadStraysNoMoreThanGroupRow.holds Try.pinned (OpenSpec.ofChange Rows.fnSpreadStraysNoMoreThanGroupSpec) :=
  OpenClaim.holds_of_wide 6 Try.f6 rfl rfl rfl rfl rfl rfl rfl ⟨rfl, rfl, rfl, rfl, rfl⟩ rfl rfl rfl rfl rfl (by kernel_rfl) Try.func6 (by kernel_rfl)
    (of_decide_eq_true (by kernel_rfl)) (by unfold Func.isWrapper; first | (rw [if_pos (by decide +kernel)]; kernel_rfl) | (rw [if_neg (by decide +kernel)]; exact ⟨rfl, rfl⟩))
    (fun os started H enc _ => lifted os started H enc)

/-- The statement. -/
theorem proved : Rows.FnSpreadStraysNoMoreThanGroupSaid := over
#print axioms proved
end Go.Proofs.Qxb6613837a.law6
