import Derived.Test.Qxb6613837aMore
import Derived.ArgAppend
import Derived.Lib.SliceRun
import Derived.Maps.AppendAt
namespace Go.Fr
open Go.RowKit

/-! ### Worlds that differ at named blocks alone, and in new ones -/
structure Keep (l : List Nat) (w w' : World) : Prop where
  os : w'.os = w.os
  tape : w'.tape = w.tape
  output : w'.output = w.output
  size : w.heap.size ≤ w'.heap.size
  block : ∀ k, k < w.heap.size → k ∉ l → w'.heap[k]? = w.heap[k]?
theorem Keep.refl (l : List Nat) (w : World) : Keep l w w := ⟨rfl, rfl, rfl, Nat.le_refl _, fun _ _ _ => rfl⟩
theorem Keep.trans {l : List Nat} {a b c : World} (h : Keep l a b) (h' : Keep l b c) : Keep l a c :=
  ⟨h'.os.trans h.os, h'.tape.trans h.tape, h'.output.trans h.output, Nat.le_trans h.size h'.size, fun k hk hl => (h'.block k (Nat.lt_of_lt_of_le hk h.size) hl).trans (h.block k hk hl)⟩
theorem Keep.mono {l l' : List Nat} {a b : World} (h : Keep l a b) (hs : ∀ k, k ∈ l → k < a.heap.size → k ∈ l') : Keep l' a b :=
  ⟨h.os, h.tape, h.output, h.size, fun k hk hl => h.block k hk (fun hm => hl (hs k hm hk))⟩
theorem Keep.alloc (l : List Nat) (w : World) (o : Obj) : Keep l w (w.alloc o) := ⟨rfl, rfl, rfl, by simp, fun k hk _ => ((Below.refl _ _).alloc (Nat.le_refl _) o).block k hk⟩
theorem Keep.setCell {l : List Nat} (w : World) {g i : Nat} (hg : g ∈ l) (v : Value) : Keep l w (w.setCell ⟨g, i, none⟩ v) :=
  have h := (Below.refl g w).setCell (p := ⟨g, i, none⟩) (Nat.le_refl _) v
  ⟨h.os, h.tape, h.output, h.size, fun _ _ hl => heap_set_other v (fun e => hl (e ▸ hg))⟩
theorem Keep.setCells {l : List Nat} (w : World) {g : Nat} (hg : g ∈ l) : ∀ (vs : List Value) (o : Nat) (w' : World), Keep l w w' → Keep l w (w'.setCells g o vs)
  | [], _, _, h => h
  | v :: vs, o, w', h => Keep.setCells w hg vs (o + 1) _ (h.trans (Keep.setCell w' hg v))
theorem Keep.of_below {w w' : World} (h : Below w.heap.size w w') (l : List Nat) : Keep l w w' := ⟨h.os, h.tape, h.output, h.size, fun k hk _ => h.block k hk⟩
theorem Keep.below {l : List Nat} {B : Nat} {w w' : World} (h : Keep l w w') (hB : B ≤ w.heap.size) (hl : ∀ k, k ∈ l → B ≤ k) : Below B w w' :=
  ⟨h.os, h.tape, h.output, h.size, fun k hk => h.block k (by omega) (fun hm => by have := hl k hm; omega)⟩
theorem Keep.of_grown {w w' : World} {row : Option Nat} (h : w.grownBy w' row) {l : List Nat} (hr : ∀ k, row = some k → k ∈ l) : Keep l w w' :=
  ⟨h.os, h.tape, h.output, h.size, fun k hk hl => h.block k hk (fun e => hl (hr k e.symm))⟩
theorem Keep.cell {l : List Nat} {w w' : World} (h : Keep l w w') {b o : Nat} {v : Value} (hc : w.cell? ⟨b, o, none⟩ = some v) (hb : b ∉ l) : w'.cell? ⟨b, o, none⟩ = some v := by
  have hlt : b < w.heap.size := World.block_lt_of_cell? w _ hc
  exact (World.cell?_of_block (h.block b hlt hb)).trans hc
theorem Own.keep {l : List Nat} {w w' : World} {g : Nat} {t : TypeId} {n k : Nat} {f : Nat → Value} (h : Own w g t n k f) (hk : Keep l w w') (hg : g ∉ l) : Own w' g t n k f := by
  have hlt := h.lt
  obtain ⟨arr, h1, h2, h3⟩ := h
  exact ⟨arr, by rw [hk.block g hlt hg]; exact h1, h2, h3⟩

/-! ### Operations -/
theorem xor_one (e : Nat) : e ^^^ 1 = if e % 2 = 0 then e + 1 else e - 1 := by
  have h1 : (e ^^^ 1) / 2 = e / 2 := by rw [Nat.xor_div_two]; simp
  have h2 : (e ^^^ 1) % 2 = (e + 1) % 2 := by
    have h := Nat.testBit_xor e 1 0
    rw [Nat.testBit_zero, Nat.testBit_zero, Nat.testBit_zero] at h
    have h3 : (decide ((e ^^^ 1) % 2 = 1)) = !(decide (e % 2 = 1)) := by rw [h]; simp
    clear h
    generalize e ^^^ 1 = q at *
    by_cases he : e % 2 = 1 <;> by_cases hq : q % 2 = 1
    · rw [decide_eq_true he, decide_eq_true hq] at h3; cases h3
    · omega
    · omega
    · rw [decide_eq_false he, decide_eq_false hq] at h3; cases h3
  split <;> omega
section
variable {P : Program} {ρ : Operand → Value} {ty : TypeId} {w : World} {x y : Operand} {v : Value}
theorem Ex_xor1 {t t' : TypeId} {e : Nat} (hx : ρ x = .int .i64 (e : Int)) (hy : ρ y = .int .i64 1) (he : e < 4611686018427387904) : Ex P ρ (.binOp .xor t x y t') ty w (.int .i64 ((e ^^^ 1 : Nat) : Int)) w := ex_val fun o ho _ => by
  have hx1 := xor_one e
  have hlt : e ^^^ 1 < 9223372036854775808 := by rw [hx1]; split <;> omega
  have h1 : (BitVec.ofInt 64 (e : Int)) = BitVec.ofNat 64 e := by simp
  have hv : (BitVec.ofInt 64 (e : Int) ^^^ BitVec.ofInt 64 1).toNat = e ^^^ 1 := by
    rw [h1]
    show (BitVec.ofNat 64 e ^^^ 1#64).toNat = _
    rw [BitVec.toNat_xor, BitVec.toNat_ofNat, Nat.mod_eq_of_lt (by omega)]
    rfl
  have hw : IntKind.i64.wrap ((e ^^^ 1 : Nat) : Int) = ((e ^^^ 1 : Nat) : Int) := by rw [IntKind.wrap_i64]; omega
  have hb : IntKind.i64.bits = 64 := rfl
  have hr : (Op.intBits .xor .i64 (e : Int) 1).run P w = .ok (.int .i64 ((e ^^^ 1 : Nat) : Int)) w := by
    show (pure (Value.int .i64 (IntKind.i64.wrap ((BitVec.ofInt 64 (e : Int) ^^^ BitVec.ofInt 64 1).toNat : Int))) : Sem Value).run P w = _
    rw [hv, hw]; rfl
  simp [execOp, ho, hx, hy, binOp, eqGuard, hr, Result.andThen]
theorem Ex_min2 {t : TypeId} {m n : Int} (hx : ρ x = .int .i64 m) (hy : ρ y = .int .i64 n) : Ex P ρ (.call { callee := .builtin .min, args := #[x, y], argTypes := #[t, t] }) ty w (.int .i64 (min m n)) w := ex_val fun o ho _ => by
  have e : (if n < m then n else m) = min m n := by rw [Int.min_def]; split <;> split <;> omega
  simp [execOp, ho, resolve, invoke, builtin, hx, hy, Builtin.min_, Builtin.min2, e]
theorem Ex_min3 {t : TypeId} {z : Operand} {m n q : Int} (hx : ρ x = .int .i64 m) (hy : ρ y = .int .i64 n) (hz : ρ z = .int .i64 q) : Ex P ρ (.call { callee := .builtin .min, args := #[x, y, z], argTypes := #[t, t, t] }) ty w (.int .i64 (min (min m n) q)) w := ex_val fun o ho _ => by
  have e : ∀ m n : Int, (if n < m then n else m) = min m n := fun m n => by rw [Int.min_def]; split <;> split <;> omega
  simp [execOp, ho, resolve, invoke, builtin, hx, hy, hz, Builtin.min_, Builtin.min2, e]
theorem Ex_max2 {t : TypeId} {m n : Int} (hx : ρ x = .int .i64 m) (hy : ρ y = .int .i64 n) : Ex P ρ (.call { callee := .builtin .max, args := #[x, y], argTypes := #[t, t] }) ty w (.int .i64 (max m n)) w := ex_val fun o ho _ => by
  have e : (if m < n then n else m) = max m n := by rw [Int.max_def]; split <;> split <;> omega
  simp [execOp, ho, resolve, invoke, builtin, hx, hy, Builtin.max_, Builtin.max2, e]
/-- 'clear' of a row of numbers. -/
theorem Ex_clear {t : TypeId} {g n c k c' : Nat} {f : Nat → Value} (hu : P.underlying t = some (.slice 3)) (hv : ∀ w, (zeroValue 3).run P w = .ok (.int .i64 0) w) (hx : ρ x = .slice (some ⟨g, 0, none⟩) n c) (hown : Own w g 3 c' k f) (hn : 0 < n) (hc : n ≤ c') :
    ∃ v w', Ex P ρ (.call { callee := .builtin .clear, args := #[x], argTypes := #[t] }) ty w v w' ∧ Own w' g 3 c' n (fun _ => .int .i64 0) ∧ Keep [g] w w' := by
  obtain ⟨arr, h1, h2, _⟩ := hown
  have hcell : ∀ j, j < n → (w.cell? ⟨g, 0 + j, none⟩).isSome = true := fun j hj => by
    rw [Nat.zero_add, cell_at h1 (v := arr[j]) (by simp [show j < arr.size by omega])]; rfl
  refine ⟨.tuple #[], w.setCells g 0 (List.replicate n (.int .i64 0)), ex_val fun o ho _ => ?_, ?_, Keep.setCells w (by simp) _ _ _ (Keep.refl _ _)⟩
  · have hr := fun ty => Lib.run_clear_slice (P := P) w t 3 ty _ hu hv rfl rfl g 0 n c hn hcell (fun j hj => frozen_at h1)
    simp [execOp, ho, resolve, invoke, builtin, hx, hr, Result.andThen]
  · have gen : ∀ (m o : Nat) (w : World) (arr : Array Value), w.heap[g]? = some (.cells arr 3 (0, 0)) → arr.size = c' → o + m ≤ c' → ∃ arr', (w.setCells g o (List.replicate m (.int .i64 0))).heap[g]? = some (.cells arr' 3 (0, 0)) ∧ arr'.size = c' ∧ ∀ i, (o ≤ i ∧ i < o + m → arr'[i]? = some (.int .i64 0)) ∧ (i < o → arr'[i]? = arr[i]?) := by
      intro m
      induction m with
      | zero => intro o w arr h1 h2 _; exact ⟨arr, h1, h2, fun i => ⟨fun h => by omega, fun _ => rfl⟩⟩
      | succ m ih =>
        intro o w arr h1 h2 h3
        have hs : (w.setCell ⟨g, o, none⟩ (.int .i64 0)).heap[g]? = some (.cells (arr.setIfInBounds o (.int .i64 0)) 3 (0, 0)) := heap_set_same _ h1
        obtain ⟨arr', e1, e2, e3⟩ := ih (o + 1) _ _ hs (by simp [h2]) (by omega)
        refine ⟨arr', e1, e2, fun i => ⟨fun h => ?_, fun h => ?_⟩⟩
        · by_cases hi : i = o
          · subst hi
            rw [(e3 i).2 (by omega), Array.getElem?_setIfInBounds]
            simp [h2, show i < c' by omega]
          · exact (e3 i).1 ⟨by omega, by omega⟩
        · rw [(e3 i).2 (by omega), Array.getElem?_setIfInBounds, if_neg (by omega)]
    obtain ⟨arr', e1, e2, e3⟩ := gen n 0 w arr h1 h2 (by omega)
    exact ⟨arr', e1, e2, fun i hi => (e3 i).1 ⟨Nat.zero_le _, by omega⟩⟩

/-- A queue: numbers that lie from a place on in a row of the call's own. -/
def Que (w : World) (B : Nat) (a : Option Addr) (c : Nat) (xs : List Int) : Prop :=
  xs.length ≤ c ∧ (xs ≠ [] → ∃ q o arr, a = some ⟨q, o, none⟩ ∧ B ≤ q ∧ w.heap[q]? = some (.cells arr 3 (0, 0)) ∧ arr.size = o + c ∧ ∀ i, i < xs.length → arr[o + i]? = some (.int .i64 (xs.getD i 0)))
theorem Que.keep {l : List Nat} {w w' : World} {B : Nat} {a : Option Addr} {c : Nat} {xs : List Int} (h : Que w B a c xs) (hk : Keep l w w') (hl : ∀ k, k ∈ l → k < B) : Que w' B a c xs := by
  refine ⟨h.1, fun hne => ?_⟩
  obtain ⟨q, o, arr, h1, h2, h3, h4, h5⟩ := h.2 hne
  exact ⟨q, o, arr, h1, h2, by rw [hk.block q (lt_of_heap h3) (fun hm => by have := hl q hm; omega)]; exact h3, h4, h5⟩
theorem Que.head {w : World} {B : Nat} {a : Option Addr} {c : Nat} {x : Int} {xs : List Int} (h : Que w B a c (x :: xs)) : ∃ q o, a = some ⟨q, o, none⟩ ∧ w.cell? ⟨q, o, none⟩ = some (.int .i64 x) := by
  obtain ⟨q, o, arr, h1, h2, h3, h4, h5⟩ := h.2 (by simp)
  have := h5 0 (by simp)
  exact ⟨q, o, h1, cell_at h3 (by simpa using this)⟩
theorem Ex_quetail {t : TypeId} {B : Nat} {a : Option Addr} {c : Nat} {z : Int} {xs : List Int} (hu : P.underlying t = some (.slice 3)) (hs : ∀ w, (sizeOf 3).run P w = .ok 1 w) (h : Que w B a c (z :: xs)) (hx : ρ x = .slice a (xs.length + 1) c) (hy : ρ y = .int .i64 1) :
    ∃ v w', Ex P ρ (.slice t x (some y) none none) ty w v w' ∧ (∃ a', v = .slice a' xs.length (c - 1) ∧ Que w B a' (c - 1) xs) ∧ w' = w := by
  have hc := h.1
  simp at hc
  obtain ⟨a', h1, h2⟩ := Ex_slicel (P := P) (ρ := ρ) (ty := ty) (k := 1) hu hs hx (by simpa using hy) (by omega) hc
  refine ⟨_, w, h1 w, ⟨a', by simp, ⟨by omega, fun hne => ?_⟩⟩, rfl⟩
  obtain ⟨q, o, arr, e1, e2, e3, e4, e5⟩ := h.2 (by simp)
  have hl : 0 < xs.length := List.length_pos_iff.2 hne
  refine ⟨q, o + 1 * 1, arr, h2 q o (by omega) e1, e2, e3, by omega, fun i hi => ?_⟩
  have := e5 (i + 1) (by simp; omega)
  rw [show o + 1 * 1 + i = o + (i + 1) by omega, this]
  simp
theorem Ex_quepush {t : TypeId} {B c d : Nat} {a : Option Addr} {ad : Addr} {k : Int} {xs : List Int} (hu : P.underlying t = some (.slice 3)) (hi : (P.info? 3).map (fun i => (i.zero, i.size, i.bytes)) = some (some (.int .i64 0), 1, 8))
    (h : Que w B a c xs) (hne : xs ≠ []) (hx : ρ x = .slice a xs.length c) (hy : ρ y = .slice (some ad) 1 d) (hcell : w.cell? ad = some (.int .i64 k)) (hlen : xs.length ≤ 10000001) (hB : B ≤ w.heap.size) :
    ∃ v w', Ex P ρ (.call { callee := .builtin .append, args := #[x, y], argTypes := #[t, t] }) ty w v w' ∧ (∃ a' c', v = .slice a' (xs.length + 1) c' ∧ Que w' B a' c' (xs ++ [k])) ∧ Below B w w' := by
  obtain ⟨i, hi1, hi2, hi3, hi4⟩ := info_parts hi
  obtain ⟨q, o, arr, e1, e2, e3, e4, e5⟩ := h.2 hne
  subst e1
  have hnews : ∀ j u, [Value.int .i64 k][j]? = some u → w.cell? (ad.add j) = some u := by
    intro j u hu
    cases j with
    | zero => simp at hu; subst hu; rw [Addr.add_zero']; exact hcell
    | succ j => simp at hu
  have hcl := h.1
  by_cases hroom : xs.length + 1 ≤ c
  · have hr := fun ty => run_append_room_cells (P := P) w t ty 3 i hu hi1 q o xs.length c ad 1 d [.int .i64 k] (by simp [hi3]) hnews (by simp [Value.oneCell']) hroom
      (fun j hj => by simp at hj; subst hj; rw [cell_at e3 (v := arr[o + xs.length * i.size + 0]'(by rw [hi3]; omega)) (by simp)]; rfl) (fun j hj => frozen_at e3)
    have hs : w.setCells q (o + xs.length * i.size) [.int .i64 k] = w.setCell ⟨q, o + xs.length, none⟩ (.int .i64 k) := by rw [hi3, Nat.mul_one]; rfl
    refine ⟨.slice (some ⟨q, o, none⟩) (xs.length + 1) c, w.setCell ⟨q, o + xs.length, none⟩ (.int .i64 k), ex_val fun oo ho ht => ?_, ⟨_, c, rfl, by simpa using hroom, fun _ => ⟨q, o, arr.setIfInBounds (o + xs.length) (.int .i64 k), rfl, e2, ?_, by simp [e4], fun j hj => ?_⟩⟩, ?_⟩
    · rw [hs] at hr
      simp [execOp, ho, resolve, invoke, builtin, hx, hy, hr, Result.andThen]
    · exact heap_set_same _ e3
    · rw [Array.getElem?_setIfInBounds]
      simp at hj
      by_cases hjj : j = xs.length
      · subst hjj
        simp [e4, show o + xs.length < o + c by omega, List.getD_eq_getElem?_getD]
      · rw [if_neg (by omega), e5 j (by omega), List.getD_eq_getElem?_getD, List.getD_eq_getElem?_getD, List.getElem?_append_left (by omega)]
    · exact (Below.refl _ _).setCell e2 _
  · obtain ⟨v', w', hr, ho, hg⟩ := run_append_arg_grows (P := P) w t ty 3 i _ 1 8 hu hi1 hi2 hi3 hi4 rfl (by decide) ⟨q, o, none⟩ xs.length c (xs.map (fun z => Value.int .i64 z)) (by simp)
      (fun j u hj => by
        rw [List.getElem?_map] at hj
        cases hxj : xs[j]? with
        | none => rw [hxj] at hj; simp at hj
        | some z =>
          rw [hxj] at hj
          simp at hj
          subst hj
          have hlt := (List.getElem?_eq_some_iff.1 hxj).1
          have := e5 j hlt
          rw [List.getD_eq_getElem?_getD, hxj] at this
          rw [Addr.add_lit]
          exact cell_at e3 this)
      ad 1 d [.int .i64 k] (by simp) hnews (by omega) (by unfold maxLen; omega) (by omega)
    have hgr := Keep.of_grown (l := []) hg (by intro k hk; cases hk)
    rcases ho.2 with ⟨_, h0⟩ | ⟨g, cap, cur, rfl, hgB, hgg, hnc, _, hsz, htk⟩
    · omega
    · refine ⟨_, w', ex_val fun oo ho ht => ?_, ⟨_, cap, rfl, by simpa using hnc, fun _ => ⟨g, 0, cur, rfl, by omega, hgg, by omega, fun j hj => ?_⟩⟩, hgr.below hB (by intro k hk; cases hk)⟩
      · subst ht
        simp [execOp, ho, resolve, invoke, builtin, hx, hy, hr, Result.andThen]
      · have h1 : (xs.map (fun z => Value.int .i64 z) ++ [Value.int .i64 k])[j]? = some (.int .i64 ((xs ++ [k]).getD j 0)) := by
          have : xs.map (fun z => Value.int .i64 z) ++ [Value.int .i64 k] = (xs ++ [k]).map (fun z => Value.int .i64 z) := by simp
          rw [this, List.getElem?_map, List.getElem?_eq_getElem hj, List.getD_eq_getElem?_getD, List.getElem?_eq_getElem hj]
          rfl
        rw [← htk, List.getElem?_take] at h1
        rw [Nat.zero_add]
        split at h1
        · simpa using h1
        · cases h1
end
end Go.Fr
