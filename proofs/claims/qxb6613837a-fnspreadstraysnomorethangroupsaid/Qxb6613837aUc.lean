import Derived.Test.Qxb6613837aUb
namespace Go.Fr
open Go.RowKit
theorem ret_cell {P : Program} {N : Nat} {u : Nat → Value} {l : List (Nat × Value)} {w : World} {fn : Func} {Φ : Value → World → Prop} {t s : Tmp} {ty : TypeId} {b o n : Nat} {cs : List Value} (hr : fn.results = #[.cell t ty, .tmp s]) (hA : Agg P ty n) (hx : ev N u l (.tmp t) = .pointer (some ⟨b, o, none⟩)) (hl : cs.length = n)
    (hc : ∀ j v, cs[j]? = some v → w.cell? ⟨b, o + j, none⟩ = some v) (h : Φ (.tuple #[.agg cs.toArray, ev N u l (.tmp s)]) w) : post P fn Φ .ret (fr N u l) w := by
  subst hl
  have hrun : (loadCells ⟨b, o, none⟩ cs.length).run P w = .ok cs.toArray w :=
    run_loadCells_list (P := P) w ⟨b, o, none⟩ cs (fun j v hv => by rw [Addr.add_lit]; exact hc j v hv)
  have hx2 : (fr N u l).tmps.getD t undef = .pointer (some ⟨b, o, none⟩) := by
    have := congrFun (eval_fr N u l) (.tmp t)
    rw [← hx, ← this]; rfl
  have hs2 : (fr N u l).tmps.getD s undef = ev N u l (.tmp s) := by
    have := congrFun (eval_fr N u l) (.tmp s)
    rw [← this]; rfl
  have hx3 : (fr N u l).tmps[t]?.getD undef = .pointer (some ⟨b, o, none⟩) := by simpa using hx2
  have hs3 : (fr N u l).tmps[s]?.getD undef = ev N u l (.tmp s) := by simpa using hs2
  refine ⟨rfl, _, ?_, _, rfl, h⟩
  simp [results, hr, hx3, hs3, loadVar, hA.1, hA.2, asAddr, hrun, Result.andThen]
end Go.Fr
