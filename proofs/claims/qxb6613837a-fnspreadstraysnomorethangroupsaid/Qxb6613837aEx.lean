import Derived.Test.Qxb6613837aFr
namespace Go.Fr
open Go.RowKit

/-- A type of one cell that is no struct and no array. -/
def One (P : Program) (t : TypeId) : Prop := (∀ w, (isAgg t).run P w = .ok false w) ∧ (∀ w, (sizeOf t).run P w = .ok 1 w)
/-- A field's offset. -/
def FieldAt (P : Program) (s : TypeId) (f off : Nat) : Prop := ∀ (b o : Nat) (w : World), (Instr.fieldAt s (.pointer (some ⟨b, o, none⟩)) f).run P w = .ok (.pointer (some ⟨b, o + off, none⟩)) w

section
variable {P : Program} {ρ : Operand → Value} {ty : TypeId} {w : World} {v : Value} {x y : Operand}

theorem ne_t {m n : Int} (h : m ≠ n) : (!decide (m = n)) = true := by simp [h]
theorem ne_f {m n : Int} (h : m = n) : (!decide (m = n)) = false := by simp [h]

theorem ex_val {op : Op} {w' : World} (h : ∀ o : Oper, o.op = op → o.type = ty → (execOp ρ o).run P w = .ok (.value v) w') : Ex P ρ op ty w v w' := fun o h1 h2 => .inl (h o h1 h2)

theorem Ex_move (h : ρ x = v) : Ex P ρ (.move x) ty w v w := ex_val fun o h1 _ => by simp [execOp, h1, h]
theorem Ex_assign (h : ρ x = v) : Ex P ρ (.assign x) ty w v w := ex_val fun o h1 _ => by simp [execOp, h1, h]
theorem Ex_pick {c : Operand} {t : Bool} (hc : ρ c = .bool t) (h : (bif t then ρ x else ρ y) = v) : Ex P ρ (.pick c x y) ty w v w := ex_val fun o h1 _ => by
  cases t <;> simp_all [execOp, asBool]
theorem Ex_load {t : TypeId} {p : Addr} (h1 : One P t) (hx : ρ x = .pointer (some p)) (hc : w.cell? p = some v) : Ex P ρ (.load t x) ty w v w := ex_val fun o ho _ => by
  simp [execOp, ho, hx, Instr.loadAt, Instr.sureAddr, loadVar, h1.1, hc, Result.andThen]
theorem Ex_store {t : TypeId} {p : Addr} {old : Value} (h1 : One P t) (hx : ρ x = .pointer (some p)) (hy : ρ y = v) (hv : v.oneCell' = true) (hc : w.cell? p = some old) (hf : w.frozen? p = false) :
    Ex P ρ (.store t x y) ty w undef (w.setCell p v) := fun o ho _ => .inr (by
  have hcs : v.cells = #[v] := by cases v <;> simp_all [Value.cells, Value.oneCell']
  refine ⟨?_, rfl⟩
  simp [execOp, ho, hx, hy, Instr.storeAt, Instr.sureAddr, storeVar, h1.2, hcs, storeCells, Addr.add_zero', run_store P w p v .plain hv, hc, hf, Result.andThen])
theorem Ex_index {t e : TypeId} {s : Nat} {b o n c : Nat} {i : Nat} {iop : Operand} (hu : P.underlying t = some (.slice e)) (hs : ∀ w, (sizeOf e).run P w = .ok s w) (hx : ρ x = .slice (some ⟨b, o, none⟩) n c) (hi : ρ iop = .int .i64 (i : Int)) (hlt : i < n) :
    Ex P ρ (.indexAddr t x iop) ty w (.pointer (some ⟨b, o + i * s, none⟩)) w := ex_val fun oo ho _ => by
  simp [execOp, ho, hx, hi, Instr.indexAt, asIntOf, run_underlying hu, hs, Result.andThen, hlt, Addr.add_lit]
theorem Ex_index1 {t e : TypeId} {b o n c : Nat} {i : Nat} {iop : Operand} (hu : P.underlying t = some (.slice e)) (hs : ∀ w, (sizeOf e).run P w = .ok 1 w) (hx : ρ x = .slice (some ⟨b, o, none⟩) n c) (hi : ρ iop = .int .i64 (i : Int)) (hlt : i < n) :
    Ex P ρ (.indexAddr t x iop) ty w (.pointer (some ⟨b, o + i, none⟩)) w := by
  have := Ex_index (ty := ty) (w := w) hu hs hx hi hlt
  simpa using this
theorem Ex_field {s : TypeId} {f off b o : Nat} (hF : FieldAt P s f off) (hx : ρ x = .pointer (some ⟨b, o, none⟩)) : Ex P ρ (.fieldAddr s x f) ty w (.pointer (some ⟨b, o + off, none⟩)) w := ex_val fun oo ho _ => by
  simp [execOp, ho, hx, hF b o w, Result.andThen]
theorem Ex_nil {p : Addr} (hx : ρ x = .pointer (some p)) : Ex P ρ (.nilCheck x) ty w (.pointer (some p)) w := ex_val fun o ho _ => by simp [execOp, ho, hx]

theorem Ex_add {t t' : TypeId} {m n : Int} (hx : ρ x = .int .i64 m) (hy : ρ y = .int .i64 n) (h1 : -9223372036854775808 ≤ m + n) (h2 : m + n ≤ 9223372036854775807) : Ex P ρ (.binOp .add t x y t') ty w (.int .i64 (m + n)) w := ex_val fun o ho _ => by
  have : IntKind.i64.wrap (m + n) = m + n := by rw [IntKind.wrap_i64]; omega
  simp [execOp, ho, hx, hy, go_sem, this]
theorem Ex_addw {t t' : TypeId} {m n : Int} (hx : ρ x = .int .i64 m) (hy : ρ y = .int .i64 n) : Ex P ρ (.binOp .add t x y t') ty w (.int .i64 (IntKind.i64.wrap (m + n))) w := ex_val fun o ho _ => by
  simp [execOp, ho, hx, hy, go_sem]
theorem Ex_sub {t t' : TypeId} {m n : Int} (hx : ρ x = .int .i64 m) (hy : ρ y = .int .i64 n) (h1 : -9223372036854775808 ≤ m - n) (h2 : m - n ≤ 9223372036854775807) : Ex P ρ (.binOp .sub t x y t') ty w (.int .i64 (m - n)) w := ex_val fun o ho _ => by
  have : IntKind.i64.wrap (m - n) = m - n := by rw [IntKind.wrap_i64]; omega
  simp [execOp, ho, hx, hy, go_sem, this]
theorem Ex_mul {t t' : TypeId} {m n : Int} (hx : ρ x = .int .i64 m) (hy : ρ y = .int .i64 n) (h1 : -9223372036854775808 ≤ m * n) (h2 : m * n ≤ 9223372036854775807) : Ex P ρ (.binOp .mul t x y t') ty w (.int .i64 (m * n)) w := ex_val fun o ho _ => by
  have : IntKind.i64.wrap (m * n) = m * n := by rw [IntKind.wrap_i64]; omega
  simp [execOp, ho, hx, hy, go_sem, this]
theorem Ex_lss {t t' : TypeId} {m n : Int} {b : Bool} (hx : ρ x = .int .i64 m) (hy : ρ y = .int .i64 n) (hb : decide (m < n) = b) : Ex P ρ (.binOp .lss t x y t') ty w (.bool b) w := ex_val fun o ho _ => by
  subst hb
  simp [execOp, ho, hx, hy, go_sem]
theorem Ex_gtr {t t' : TypeId} {m n : Int} {b : Bool} (hx : ρ x = .int .i64 m) (hy : ρ y = .int .i64 n) (hb : decide (n < m) = b) : Ex P ρ (.binOp .gtr t x y t') ty w (.bool b) w := ex_val fun o ho _ => by
  subst hb
  simp [execOp, ho, hx, hy, go_sem]
theorem Ex_leq {t t' : TypeId} {m n : Int} {b : Bool} (hx : ρ x = .int .i64 m) (hy : ρ y = .int .i64 n) (hb : decide (m ≤ n) = b) : Ex P ρ (.binOp .leq t x y t') ty w (.bool b) w := ex_val fun o ho _ => by
  subst hb
  simp [execOp, ho, hx, hy, go_sem]
theorem Ex_geq {t t' : TypeId} {m n : Int} {b : Bool} (hx : ρ x = .int .i64 m) (hy : ρ y = .int .i64 n) (hb : decide (n ≤ m) = b) : Ex P ρ (.binOp .geq t x y t') ty w (.bool b) w := ex_val fun o ho _ => by
  subst hb
  simp [execOp, ho, hx, hy, go_sem]
theorem Ex_eql {t t' : TypeId} {m n : Int} {b : Bool} (hx : ρ x = .int .i64 m) (hy : ρ y = .int .i64 n) (hb : decide (m = n) = b) : Ex P ρ (.binOp .eql t x y t') ty w (.bool b) w := ex_val fun o ho _ => by
  subst hb
  simp [execOp, ho, hx, hy, go_sem]; rfl
theorem Ex_neq {t t' : TypeId} {m n : Int} {b : Bool} (hx : ρ x = .int .i64 m) (hy : ρ y = .int .i64 n) (hb : (!decide (m = n)) = b) : Ex P ρ (.binOp .neq t x y t') ty w (.bool b) w := ex_val fun o ho _ => by
  subst hb
  simp [execOp, ho, hx, hy, go_sem, bne]; rfl
theorem Ex_not {t : TypeId} {b c : Bool} (hx : ρ x = .bool b) (hb : (!b) = c) : Ex P ρ (.unOp .not t x) ty w (.bool c) w := ex_val fun o ho _ => by
  subst hb
  simp [execOp, ho, hx, go_sem]
/-- '==' on bools. -/
theorem Ex_eqlb {t t' : TypeId} {m n b : Bool} (hu : P.underlying t = some .bool) (hx : ρ x = .bool m) (hy : ρ y = .bool n) (hb : (m == n) = b) : Ex P ρ (.binOp .eql t x y t') ty w (.bool b) w := ex_val fun o ho _ => by
  subst hb
  simp [execOp, ho, hx, hy, go_sem, hu]
theorem Ex_neqb {t t' : TypeId} {m n b : Bool} (hu : P.underlying t = some .bool) (hx : ρ x = .bool m) (hy : ρ y = .bool n) (hb : (m != n) = b) : Ex P ρ (.binOp .neq t x y t') ty w (.bool b) w := ex_val fun o ho _ => by
  subst hb
  simp [execOp, ho, hx, hy, go_sem, binOp, run_equal_bool _ _ _ _ hu, Result.andThen]
  cases m <;> cases n <;> rfl
theorem Ex_inc {t t' : TypeId} {k : Nat} (hx : ρ x = .int .i64 (k : Int)) (hy : ρ y = .int .i64 1) (h : k < 9223372036854775807) : Ex P ρ (.binOp .add t x y t') ty w (.int .i64 ((k + 1 : Nat) : Int)) w :=
  Ex_add hx hy (by omega) (by omega)
theorem Ex_len {t e : TypeId} {a : Option Addr} {n c : Nat} (hu : P.underlying t = some (.slice e)) (hx : ρ x = .slice a n c) : Ex P ρ (.call { callee := .builtin .len, args := #[x], argTypes := #[t] }) ty w (.int .i64 (n : Int)) w := ex_val fun o ho _ => by
  simp [execOp, ho, hx, resolve, invoke, builtin, Builtin.len_, run_underlying hu, goInt, Result.andThen]
theorem Ex_lens {t : TypeId} {s : ByteArray} (hu : P.underlying t = some .string) (hx : ρ x = .string s) : Ex P ρ (.call { callee := .builtin .len, args := #[x], argTypes := #[t] }) ty w (.int .i64 (s.size : Int)) w := ex_val fun o ho _ => by
  simp [execOp, ho, hx, resolve, invoke, builtin, Builtin.len_, run_underlying hu, goInt, Result.andThen]
theorem Ex_make {t e : TypeId} {i : TypeInfo} {z : Value} {n : Nat} (hu : P.underlying t = some (.slice e)) (hi : P.info? e = some i) (hz : i.zero = some z) (hx : ρ x = .int .i64 (n : Int)) (hy : ρ y = .int .i64 (n : Int))
    (hb : i.bytes * n ≤ 281474976710656) (hn : n ≤ 9223372036854775807) : Ex P ρ (.makeSlice t x y) ty w (.slice (some ⟨w.heap.size, 0, none⟩) n n) (w.alloc (.cells (madeCells z.cells (n * i.size)) e)) := ex_val fun o ho _ => by
  have h := run_make (P := P) w t e i z hu hi hz .i64 .i64 n n (by omega) (by omega) (by rw [← Int.natCast_mul]; omega) (by omega)
  simp only [Int.toNat_natCast] at h
  simp [execOp, ho, hx, hy, h, Result.andThen]
/-- The same, out of the element type's row of the table. -/
theorem Ex_mk {t e : TypeId} {z : Value} {size bytes n : Nat} (hu : P.underlying t = some (.slice e)) (hi : (P.info? e).map (fun i => (i.zero, i.size, i.bytes)) = some (some z, size, bytes)) (hx : ρ x = .int .i64 (n : Int)) (hy : ρ y = .int .i64 (n : Int))
    (hb : bytes * n ≤ 281474976710656) (hn : n ≤ 9223372036854775807) : Ex P ρ (.makeSlice t x y) ty w (.slice (some ⟨w.heap.size, 0, none⟩) n n) (w.alloc (.cells (madeCells z.cells (n * size)) e)) := by
  obtain ⟨i, h1, h2, h3, h4⟩ := info_parts hi
  subst h3 h4
  exact Ex_make hu h1 h2 hx hy hb hn
theorem made_get {z : Value} {n i : Nat} (h : i < n) : (madeCells #[z] n)[i]? = some z := by
  simp [madeCells, h, Nat.mod_one]
theorem Ex_box {t : TypeId} (hx : ρ x = v) : Ex P ρ (.box t x) ty w (.pointer (some ⟨w.heap.size, 0, none⟩)) (w.alloc (.cells v.cells t)) := ex_val fun o ho _ => by
  simp [execOp, ho, hx, Instr.box, newVar, newRow, Result.andThen]
theorem Ex_alloc {t : TypeId} {z : Value} (hz : ∀ w, (zeroValue t).run P w = .ok z w) : Ex P ρ (.alloc t) ty w (.pointer (some ⟨w.heap.size, 0, none⟩)) (w.alloc (.cells z.cells t)) := ex_val fun o ho _ => by
  simp [execOp, ho, Instr.alloc, hz, newVar, newRow, Result.andThen]
theorem Ex_extract {i : Nat} {vs : Array Value} (hx : ρ x = .tuple vs) (hv : vs[i]? = some v) : Ex P ρ (.extract x i) ty w v w := ex_val fun o ho _ => by
  simp [execOp, ho, hx, Instr.extract, hv]
theorem Ex_eqlnil {t t' e : TypeId} {a : Option Addr} {n c n' c' : Nat} {b : Bool} (hu : P.underlying t = some (.slice e)) (hx : ρ x = .slice a n c) (hy : ρ y = .slice none n' c') (hb : a.isNone = b) : Ex P ρ (.binOp .eql t x y t') ty w (.bool b) w := ex_val fun o ho _ => by
  subst hb
  simp [execOp, ho, hx, hy, go_sem, Lib.run_eql_slice_nil w t e a n c n' c' hu]
theorem Ex_neqnil {t t' e : TypeId} {a : Option Addr} {n c n' c' : Nat} {b : Bool} (hu : P.underlying t = some (.slice e)) (hx : ρ x = .slice a n c) (hy : ρ y = .slice none n' c') (hb : (!a.isNone) = b) : Ex P ρ (.binOp .neq t x y t') ty w (.bool b) w := ex_val fun o ho _ => by
  subst hb
  simp [execOp, ho, hx, hy, go_sem, run_neq_slice_nil_any w t e a n c n' c' hu]
def pevs (ρ : Operand → Value) : List (Nat × Operand) → List (Nat × Value)
  | [] => []
  | (i, o) :: r => (i, ρ o) :: pevs ρ r
theorem pevs_eq (ρ : Operand → Value) : ∀ pl : List (Nat × Operand), pevs ρ pl = pl.map fun (i, x) => (i, ρ x)
  | [] => rfl
  | (i, o) :: r => by rw [pevs, pevs_eq ρ r, List.map_cons]
theorem Ex_build {t : TypeId} {pl : List (Nat × Operand)} {pv : List (Nat × Value)} (hp : pevs ρ pl = pv) (hb : (Instr.build t pv.toArray).run P w = .ok v w) : Ex P ρ (.build t pl.toArray) ty w v w := ex_val fun o ho _ => by
  rw [pevs_eq] at hp
  simp only [execOp, ho]
  have e : (Array.map (fun (x : Nat × Operand) => match x with | (i, x) => (i, ρ x)) pl.toArray) = pv.toArray := by rw [← hp]; simp
  rw [e]
  simp [hb, Result.andThen]
/-- A call of function f enters it. -/
def Enters (P : Program) (f : FuncId) : Prop := ∀ (vs : Array Value) (w : World), (callFunc f vs).run P w = .ok (.enter f vs) w
theorem enters {f : FuncId} {fn : Func} (h1 : P.funcs[f]? = some fn) (h2 : (fn.name == "runtime.NumGoroutine") = false) (h3 : fn.body.isSome = true) : Enters P f := fun vs w => by
  obtain ⟨c, h3⟩ := Option.isSome_iff_exists.1 h3
  have h2' : ¬ fn.name = "runtime.NumGoroutine" := by simpa using h2
  simp [callFunc, h1, h2', h3]
def evs (ρ : Operand → Value) : List Operand → List Value
  | [] => []
  | o :: r => ρ o :: evs ρ r
theorem evs_eq (ρ : Operand → Value) : ∀ ol : List Operand, evs ρ ol = ol.map ρ
  | [] => rfl
  | o :: r => by rw [evs, evs_eq ρ r, List.map_cons]
theorem ExC_func {f : FuncId} {ol : List Operand} {ats : Array TypeId} {vs : List Value} (hf : Enters P f) (hx : ρ (.func f) = .func (.func f) #[] #[]) (ha : evs ρ ol = vs) :
    ExC P ρ (.call { callee := .value (.func f), args := ol.toArray, argTypes := ats }) ty w f vs.toArray := fun o ho _ => by
  rw [evs_eq] at ha
  simp [execOp, ho, resolve, hx, ha, invoke, Deferred.ofValue, hf vs.toArray w]
/-- A closure: a plain function with what it captured. -/
theorem ExC_closure {f : FuncId} {fo : Operand} {cap : List Value} {ol : List Operand} {ats : Array TypeId} {vs : List Value} (hf : Enters P f) (hx : ρ fo = .func (.func f) #[] cap.toArray) (ha : evs ρ ol ++ cap = vs) :
    ExC P ρ (.call { callee := .value fo, args := ol.toArray, argTypes := ats }) ty w f vs.toArray := fun o ho _ => by
  rw [evs_eq] at ha
  simp only [execOp, ho, resolve, hx, invoke, Deferred.ofValue]
  simp only [← ha]
  simpa using hf (ol.map ρ ++ cap).toArray w
end

/-! ### Blocks -/
theorem heap_set_same {w : World} {g i : Nat} {arr : Array Value} {t : TypeId} {fz : Nat × Nat} (v : Value) (h : w.heap[g]? = some (.cells arr t fz)) : (w.setCell ⟨g, i, none⟩ v).heap[g]? = some (.cells (arr.setIfInBounds i v) t fz) := by
  simp only [World.setCell, Array.getElem?_modify, h]
  simp
theorem heap_set_other {w : World} {g g' i : Nat} (v : Value) (h : g' ≠ g) : (w.setCell ⟨g, i, none⟩ v).heap[g']? = w.heap[g']? := Below.heap_setCell w ⟨g, i, none⟩ v g' h
theorem heap_new (w : World) (o : Obj) : (w.alloc o).heap[w.heap.size]? = some o := by
  show (w.heap.push o)[w.heap.size]? = some o
  simp
theorem heap_old {w : World} {g : Nat} {o : Obj} (o' : Obj) (h : w.heap[g]? = some o) : (w.alloc o').heap[g]? = some o := by
  have hg : g < w.heap.size := (Array.getElem?_eq_some_iff.1 h).1
  rw [Below.heap_alloc w o' g hg, h]
theorem lt_of_heap {w : World} {g : Nat} {o : Obj} (h : w.heap[g]? = some o) : g < w.heap.size := (Array.getElem?_eq_some_iff.1 h).1
theorem cell_at {w : World} {g i : Nat} {arr : Array Value} {t : TypeId} {fz : Nat × Nat} {v : Value} (h : w.heap[g]? = some (.cells arr t fz)) (hv : arr[i]? = some v) : w.cell? ⟨g, i, none⟩ = some v := by
  simp [World.cell?, h, hv]
theorem frozen_at {w : World} {g i : Nat} {arr : Array Value} {t : TypeId} (h : w.heap[g]? = some (.cells arr t (0, 0))) : w.frozen? ⟨g, i, none⟩ = false := by
  simp [World.frozen?, h]
end Go.Fr
