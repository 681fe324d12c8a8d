import Derived.Test.Qxb6613837aDraw
import Derived.Laws.CopyOwn
namespace Go.Fr
open Go.RowKit

/-! ### Structs in memory -/
def Agg (P : Program) (t : TypeId) (n : Nat) : Prop := (∀ w, (isAgg t).run P w = .ok true w) ∧ (∀ w, (sizeOf t).run P w = .ok n w)
section
variable {P : Program} {ρ : Operand → Value} {ty : TypeId} {w : World} {x y : Operand}
theorem Ex_loadagg {t : TypeId} {n b o : Nat} {cs : List Value} (h : Agg P t n) (hx : ρ x = .pointer (some ⟨b, o, none⟩)) (hl : cs.length = n) (hc : ∀ j v, cs[j]? = some v → w.cell? ⟨b, o + j, none⟩ = some v) :
    Ex P ρ (.load t x) ty w (.agg cs.toArray) w := ex_val fun oo ho _ => by
  subst hl
  have hr : (loadCells ⟨b, o, none⟩ cs.length).run P w = .ok cs.toArray w :=
    run_loadCells_list (P := P) w ⟨b, o, none⟩ cs (fun j v hv => by rw [Addr.add_lit]; exact hc j v hv)
  simp [execOp, ho, hx, Instr.loadAt, Instr.sureAddr, loadVar, h.1, h.2, hr, Result.andThen]
theorem Ex_storeagg {t e : TypeId} {n g o : Nat} {cs : List Value} {cur : Array Value} (h : Agg P t n) (hx : ρ x = .pointer (some ⟨g, o, none⟩)) (hy : ρ y = .agg cs.toArray) (hl : cs.length = n) (h1 : cs.all Value.oneCell' = true)
    (hg : w.heap[g]? = some (.cells cur e (0, 0))) (hfit : o + n ≤ cur.size) :
    Ex P ρ (.store t x y) ty w undef (w.setRow g (cur.toList.take o ++ cs ++ cur.toList.drop (o + n)).toArray) := fun oo ho _ => .inr (by
  subst hl
  have hr := run_storeCells_at (P := P) g o e cs 0 cur w hg (by simpa using hfit) (by simpa using h1)
  simp only [Nat.add_zero] at hr
  refine ⟨?_, rfl⟩
  simp [execOp, ho, hx, hy, Instr.storeAt, Instr.sureAddr, storeVar, h.2, Value.cells, hr, Result.andThen])
end

/-! ### Slices of numbers, bools and strings that came in -/
def IntsAt (w : World) (a : Option Addr) (n : Nat) (z : Nat → Int) : Prop :=
  n = 0 ∨ ∃ b o, a = some ⟨b, o, none⟩ ∧ ∀ i, i < n → w.cell? ⟨b, o + i, none⟩ = some (.int .i64 (z i))
def BoolsAt (w : World) (a : Option Addr) (n : Nat) (z : Nat → Bool) : Prop :=
  n = 0 ∨ ∃ b o, a = some ⟨b, o, none⟩ ∧ ∀ i, i < n → w.cell? ⟨b, o + i, none⟩ = some (.bool (z i))
def StrsAt (w : World) (a : Option Addr) (n : Nat) (z : Nat → ByteArray) : Prop :=
  n = 0 ∨ ∃ b o, a = some ⟨b, o, none⟩ ∧ ∀ i, i < n → w.cell? ⟨b, o + i, none⟩ = some (.string (z i))
theorem IntsAt.get {w : World} {a : Option Addr} {n : Nat} {z : Nat → Int} (h : IntsAt w a n z) {i : Nat} (hi : i < n) : ∃ b o, a = some ⟨b, o, none⟩ ∧ ∀ i, i < n → w.cell? ⟨b, o + i, none⟩ = some (.int .i64 (z i)) := by
  rcases h with h | h
  · omega
  · exact h
theorem BoolsAt.get {w : World} {a : Option Addr} {n : Nat} {z : Nat → Bool} (h : BoolsAt w a n z) {i : Nat} (hi : i < n) : ∃ b o, a = some ⟨b, o, none⟩ ∧ ∀ i, i < n → w.cell? ⟨b, o + i, none⟩ = some (.bool (z i)) := by
  rcases h with h | h
  · omega
  · exact h
theorem StrsAt.get {w : World} {a : Option Addr} {n : Nat} {z : Nat → ByteArray} (h : StrsAt w a n z) {i : Nat} (hi : i < n) : ∃ b o, a = some ⟨b, o, none⟩ ∧ ∀ i, i < n → w.cell? ⟨b, o + i, none⟩ = some (.string (z i)) := by
  rcases h with h | h
  · omega
  · exact h
theorem IntsAt.below {w w' : World} {a : Option Addr} {n : Nat} {z : Nat → Int} (h : IntsAt w a n z) (hb : Below w.heap.size w w') : IntsAt w' a n z := by
  rcases h with h | ⟨b, o, ha, hc⟩
  · exact .inl h
  · exact .inr ⟨b, o, ha, fun i hi => cell_later hb (hc i hi)⟩
theorem BoolsAt.below {w w' : World} {a : Option Addr} {n : Nat} {z : Nat → Bool} (h : BoolsAt w a n z) (hb : Below w.heap.size w w') : BoolsAt w' a n z := by
  rcases h with h | ⟨b, o, ha, hc⟩
  · exact .inl h
  · exact .inr ⟨b, o, ha, fun i hi => cell_later hb (hc i hi)⟩
theorem StrsAt.below {w w' : World} {a : Option Addr} {n : Nat} {z : Nat → ByteArray} (h : StrsAt w a n z) (hb : Below w.heap.size w w') : StrsAt w' a n z := by
  rcases h with h | ⟨b, o, ha, hc⟩
  · exact .inl h
  · exact .inr ⟨b, o, ha, fun i hi => cell_later hb (hc i hi)⟩

/-- A row of the call's own: block g holds n cells of type t, the i-th being f i for i below k. -/
def Own (w : World) (g : Nat) (t : TypeId) (n k : Nat) (f : Nat → Value) : Prop :=
  ∃ arr, w.heap[g]? = some (.cells arr t (0, 0)) ∧ arr.size = n ∧ ∀ i, i < k → arr[i]? = some (f i)
theorem Own.cell {w : World} {g : Nat} {t : TypeId} {n k i : Nat} {f : Nat → Value} (h : Own w g t n k f) (hi : i < k) : w.cell? ⟨g, i, none⟩ = some (f i) := by
  obtain ⟨arr, h1, h2, h3⟩ := h
  exact cell_at h1 (h3 i hi)
theorem Own.some {w : World} {g : Nat} {t : TypeId} {n k i : Nat} {f : Nat → Value} (h : Own w g t n k f) (hi : i < n) : ∃ v, w.cell? ⟨g, i, none⟩ = some v := by
  obtain ⟨arr, h1, h2, h3⟩ := h
  exact ⟨arr[i], cell_at h1 (by simp [h2, hi])⟩
theorem Own.open_ {w : World} {g : Nat} {t : TypeId} {n k i : Nat} {f : Nat → Value} (h : Own w g t n k f) : w.frozen? ⟨g, i, none⟩ = false := by
  obtain ⟨arr, h1, h2, h3⟩ := h
  exact frozen_at h1
theorem Own.lt {w : World} {g : Nat} {t : TypeId} {n k : Nat} {f : Nat → Value} (h : Own w g t n k f) : g < w.heap.size := by
  obtain ⟨arr, h1, _⟩ := h
  exact lt_of_heap h1
theorem Own.set {w : World} {g : Nat} {t : TypeId} {n k i : Nat} {f f' : Nat → Value} (h : Own w g t n k f) (hi : i < n) {v : Value} {k' : Nat} (hk : ∀ j, j < k' → (j = i ∧ f' j = v) ∨ (j ≠ i ∧ j < k ∧ f' j = f j)) :
    Own (w.setCell ⟨g, i, none⟩ v) g t n k' f' := by
  obtain ⟨arr, h1, h2, h3⟩ := h
  refine ⟨_, heap_set_same v h1, by simp [h2], ?_⟩
  intro j hj
  rw [Array.getElem?_setIfInBounds]
  rcases hk j hj with ⟨rfl, e⟩ | ⟨hne, hlt, e⟩
  · simp [h2, hi, e]
  · rw [if_neg (by omega), h3 j hlt, e]
theorem Own.other {w : World} {g g' : Nat} {t : TypeId} {n k i : Nat} {f : Nat → Value} (h : Own w g t n k f) (hne : g ≠ g') (v : Value) : Own (w.setCell ⟨g', i, none⟩ v) g t n k f := by
  obtain ⟨arr, h1, h2, h3⟩ := h
  exact ⟨arr, by rw [heap_set_other v hne]; exact h1, h2, h3⟩
theorem Own.below {w w' : World} {B g : Nat} {t : TypeId} {n k : Nat} {f : Nat → Value} (h : Own w g t n k f) (hb : Below B w w') (hg : g < B) : Own w' g t n k f := by
  obtain ⟨arr, h1, h2, h3⟩ := h
  exact ⟨arr, by rw [hb.block g hg]; exact h1, h2, h3⟩
theorem Own.made (w : World) (t : TypeId) (n : Nat) (z : Value) (f : Nat → Value) : Own (w.alloc (.cells (madeCells #[z] n) t)) w.heap.size t n 0 f :=
  ⟨_, heap_new w _, size_madeCells _ _, by intro i hi; omega⟩
theorem IntsAt.of_own {w : World} {g n : Nat} {z : Nat → Int} {t : TypeId} (h : Own w g t n n fun i => .int .i64 (z i)) : IntsAt w (some ⟨g, 0, none⟩) n z :=
  .inr ⟨g, 0, rfl, fun i hi => by rw [Nat.zero_add]; exact h.cell hi⟩
theorem BoolsAt.of_own {w : World} {g n : Nat} {z : Nat → Bool} {t : TypeId} (h : Own w g t n n fun i => .bool (z i)) : BoolsAt w (some ⟨g, 0, none⟩) n z :=
  .inr ⟨g, 0, rfl, fun i hi => by rw [Nat.zero_add]; exact h.cell hi⟩
theorem StrsAt.of_own {w : World} {g n : Nat} {z : Nat → ByteArray} {t : TypeId} (h : Own w g t n n fun i => .string (z i)) : StrsAt w (some ⟨g, 0, none⟩) n z :=
  .inr ⟨g, 0, rfl, fun i hi => by rw [Nat.zero_add]; exact h.cell hi⟩

/-- From here on the world is known by these facts alone. -/
theorem wp_gen {P : Program} {c : Code} {Q : Exit → Act → World → Prop} {a : Act} {w : World} (Φ : World → Prop) (h : Φ w) (k : ∀ w', Φ w' → c.wp P Q a w') : c.wp P Q a w := k w h
theorem wpl_gen {P : Program} {ops : Array Oper} {K : Act → World → Prop} {Q : Exit → Act → World → Prop} {r : List Oper} {a : Act} {w : World} (Φ : World → Prop) (h : Φ w) (k : ∀ w', Φ w' → wpl P ops K Q r a w') : wpl P ops K Q r a w := k w h
theorem wpd_gen {P : Program} {ol : List Oper} {K : Act → World → Prop} {S : World → Prop} {tl : Nat → Bool} {fuel : Nat} {L : Array Bool} {a : Act} {w : World} (Φ : World → Prop) (h : Φ w) (k : ∀ w', Φ w' → wpd P ol K S tl fuel L a w') : wpd P ol K S tl fuel L a w := k w h
theorem Ret.of_calls {P : Program} {f : FuncId} {args : Array Value} {w : World} {v : Value} {Φ : World → Prop} (h : Calls P f args w fun e w' => e = .returned v ∧ Φ w') : Ret P f args w fun v' w' => v' = v ∧ Φ w' :=
  Calls.mono h fun _ _ ⟨e, hv⟩ => ⟨v, e, rfl, hv⟩
end Go.Fr
