import Derived.Test.Qxb6613839aPeekA
import Derived.Test.Qxb6613839aMem
namespace Go.Proofs.Qxb6613839a.Peek
open Go.Fr Go.RowKit

theorem one3 : One Try.prog 3 := ⟨fun w => by simp [go_sem], fun w => by simp [go_sem]⟩
theorem one9 : One Try.prog 9 := ⟨fun w => by simp [go_sem], fun w => by simp [go_sem]⟩
theorem agg42 : Agg Try.prog 42 3 := ⟨fun w => by simp [go_sem], fun w => by simp [go_sem]⟩
theorem size_37 : ∀ w, (sizeOf 3).run Try.prog w = .ok 1 w := one3.2
theorem size_22 : ∀ w, (sizeOf 9).run Try.prog w = .ok 1 w := one9.2
theorem size_39 : ∀ w, (sizeOf 42).run Try.prog w = .ok 3 w := agg42.2
theorem info42 : (Try.prog.info? 42).map (fun i => (i.zero, i.size, i.bytes)) = some (some (.agg #[.int .i64 0, .string ⟨#[]⟩, .int .i64 0]), 3, 32) := by kernel_rfl
theorem zero42 : ∀ w, (zeroValue 42).run Try.prog w = .ok (.agg #[.int .i64 0, .string ⟨#[]⟩, .int .i64 0]) w := fun w => by simp [go_sem]
theorem ent14 : Enters Try.prog 14 := enters Try.func14 (by rfl) rfl
theorem ent15 : Enters Try.prog 15 := enters Try.func15 (by rfl) rfl
theorem ent16 : Enters Try.prog 16 := enters Try.func16 (by rfl) rfl
theorem ent17 : Enters Try.prog 17 := enters Try.func17 (by rfl) rfl
theorem ent18 : Enters Try.prog 18 := enters Try.func18 (by rfl) rfl
theorem ent19 : Enters Try.prog 19 := enters Try.func19 (by rfl) rfl
theorem ent20 : Enters Try.prog 20 := enters Try.func20 (by rfl) rfl

theorem bytes_ret (a0 a1 a2 a3 : Option Addr) (l0 c0 l1 c1 l2 c2 l3 c3 : Nat) (w : World) (z : Nat → ByteArray) (h1 : l1 ≤ maxLen) (hs : StrsAt w a1 l1 z) :
    Ret Try.prog 14 #[.slice a0 l0 c0, .slice a1 l1 c1, .slice a2 l2 c2, .slice a3 l3 c3] w fun v w' => (∃ b, v = .bool b) ∧ w = w' := by
  refine Calls.mono (bytes_any a0 a1 a2 a3 l0 c0 l1 c1 l2 c2 l3 c3 w h1 ?_) ?_
  · rcases hs with h | ⟨b, o, ha, hc⟩
    · exact .inl h
    · exact .inr ⟨b, o, ha, fun i hi => ⟨_, hc i hi⟩⟩
  · rintro e w' ⟨⟨r, rfl⟩, rfl⟩
    exact ⟨_, rfl, ⟨r, rfl⟩, rfl⟩

/-- The made tokens: of n places the first k are filled. -/
def TokRow (w : World) (T n k : Nat) (zK : Nat → Int) (zT : Nat → ByteArray) (zC : Nat → Int) : Prop :=
  ∃ arr, w.heap[T]? = some (.cells arr 42 (0, 0)) ∧ arr.size = n * 3 ∧ ∀ i, i < k → arr[i * 3]? = some (.int .i64 (zK i)) ∧ arr[i * 3 + 1]? = some (.string (zT i)) ∧ arr[i * 3 + 2]? = some (.int .i64 (zC i))
theorem TokRow.below {w w' : World} {B T n k : Nat} {zK : Nat → Int} {zT : Nat → ByteArray} {zC : Nat → Int} (h : TokRow w T n k zK zT zC) (hb : Below B w w') (hT : T < B) : TokRow w' T n k zK zT zC := by
  obtain ⟨arr, h1, h2, h3⟩ := h
  exact ⟨arr, by rw [hb.block T hT]; exact h1, h2, h3⟩
theorem TokRow.lt {w : World} {T n k : Nat} {zK : Nat → Int} {zT : Nat → ByteArray} {zC : Nat → Int} (h : TokRow w T n k zK zT zC) : T < w.heap.size := by
  obtain ⟨arr, h1, _⟩ := h
  exact lt_of_heap h1
theorem TokRow.other {w : World} {g T n k : Nat} {zK : Nat → Int} {zT : Nat → ByteArray} {zC : Nat → Int} (h : TokRow w T n k zK zT zC) (hne : T ≠ g) (i : Nat) (v : Value) : TokRow (w.setCell ⟨g, i, none⟩ v) T n k zK zT zC := by
  obtain ⟨arr, h1, h2, h3⟩ := h
  exact ⟨arr, by rw [heap_set_other v hne]; exact h1, h2, h3⟩
theorem splice_get (cur cs : List Value) (o j : Nat) (ho : o + cs.length ≤ cur.length) : (cur.take o ++ cs ++ cur.drop (o + cs.length))[j]? = if j < o then cur[j]? else if j < o + cs.length then cs[j - o]? else cur[j]? := by
  rw [List.getElem?_append, List.getElem?_append, List.getElem?_take, List.getElem?_drop]
  simp only [List.length_append, List.length_take]
  have e : min o cur.length = o := by omega
  rw [e]
  by_cases h1 : j < o
  · simp [h1, show j < o + cs.length by omega]
  · by_cases h2 : j < o + cs.length
    · simp [h1, h2]
    · have e2 : o + cs.length + (j - (o + cs.length)) = j := by omega
      simp [h1, h2, e2]
theorem TokRow.put {w : World} {T n k : Nat} {zK : Nat → Int} {zT : Nat → ByteArray} {zC : Nat → Int} {cur : Array Value} (hk : k < n) (h1 : w.heap[T]? = some (.cells cur 42 (0, 0))) (h2 : cur.size = n * 3)
    (h3 : ∀ i, i < k → cur[i * 3]? = some (.int .i64 (zK i)) ∧ cur[i * 3 + 1]? = some (.string (zT i)) ∧ cur[i * 3 + 2]? = some (.int .i64 (zC i))) :
    TokRow (w.setRow T (cur.toList.take (0 + k * 3) ++ ([.int .i64 (zK k), .string (zT k), .int .i64 (zC k)] : List Value) ++ cur.toList.drop (0 + k * 3 + 3)).toArray) T n (k + 1) zK zT zC := by
  have hs := fun j => splice_get cur.toList [.int .i64 (zK k), .string (zT k), .int .i64 (zC k)] (0 + k * 3) j (by simp [h2]; omega)
  refine ⟨_, setRow_heap w T cur _ 42 (0, 0) h1, ?_, ?_⟩
  · simp [h2]; omega
  · intro i hi
    simp only [List.getElem?_toArray]
    have hs' := hs
    simp only [List.length_cons, List.length_nil] at hs'
    rw [hs', hs', hs']
    by_cases e : i = k
    · subst e
      have e1 : ¬ (i * 3 < 0 + i * 3) := by omega
      have e2 : ¬ (i * 3 + 1 < 0 + i * 3) := by omega
      have e3 : ¬ (i * 3 + 2 < 0 + i * 3) := by omega
      have f1 : i * 3 < 0 + i * 3 + (0 + 1 + 1 + 1) := by omega
      have f2 : i * 3 + 1 < 0 + i * 3 + (0 + 1 + 1 + 1) := by omega
      have f3 : i * 3 + 2 < 0 + i * 3 + (0 + 1 + 1 + 1) := by omega
      rw [if_neg e1, if_neg e2, if_neg e3, if_pos f1, if_pos f2, if_pos f3]
      have d1 : i * 3 - (0 + i * 3) = 0 := by omega
      have d2 : i * 3 + 1 - (0 + i * 3) = 1 := by omega
      have d3 : i * 3 + 2 - (0 + i * 3) = 2 := by omega
      rw [d1, d2, d3]
      exact ⟨rfl, rfl, rfl⟩
    · have hlt : i < k := by omega
      rw [if_pos (by omega), if_pos (by omega), if_pos (by omega)]
      simpa using h3 i hlt

/-- Behind the making: the tokens, the parser. -/
structure PSt (w₀ w : World) (T g n : Nat) (zK : Nat → Int) (zT : Nat → ByteArray) (zC : Nat → Int) (pos : Int) : Prop where
  bel : Below w₀.heap.size w₀ w
  tok : TokRow w T n n zK zT zC
  par : w.heap[g]? = some (.cells #[.slice (some ⟨T, 0, none⟩) n n, .int .i64 pos, .map none] 73 (0, 0))
  old : w₀.heap.size ≤ g
  ne : T ≠ g
theorem PSt.later {w₀ w w' : World} {T g n : Nat} {zK : Nat → Int} {zT : Nat → ByteArray} {zC : Nat → Int} {pos : Int} (h : PSt w₀ w T g n zK zT zC pos) (hb : Below w.heap.size w w') : PSt w₀ w' T g n zK zT zC pos :=
  ⟨h.bel.trans (hb.mono h.bel.size), h.tok.below hb h.tok.lt, by rw [hb.block g (lt_of_heap h.par)]; exact h.par, h.old, h.ne⟩
theorem PSt.at_ {w₀ w : World} {T g n : Nat} {zK : Nat → Int} {zT : Nat → ByteArray} {zC : Nat → Int} {pos : Int} (h : PSt w₀ w T g n zK zT zC pos) (p : Int) : PSt w₀ (w.setCell ⟨g, 1, none⟩ (.int .i64 p)) T g n zK zT zC p :=
  ⟨h.bel.setCell h.old _, h.tok.other h.ne _ _, by rw [heap_set_same _ h.par]; rfl, h.old, h.ne⟩
theorem PSt.peek {w₀ w : World} {T g n : Nat} {zK : Nat → Int} {zT : Nat → ByteArray} {zC : Nat → Int} {i : Nat} (h : PSt w₀ w T g n zK zT zC i) (hi : i < n) :
    Ret Try.prog 18 #[.pointer (some ⟨g, 0, none⟩)] w fun v w' => v = .agg #[.int .i64 (zK i), .string (zT i), .int .i64 (zC i)] ∧ Below w.heap.size w w' := by
  obtain ⟨arr, h1, h2, h3⟩ := h.tok
  obtain ⟨e1, e2, e3⟩ := h3 i hi
  exact Ret.of_calls (zpeek_any g T (zK i) (zT i) (zC i) n n i hi w (cell_at h.par rfl) (cell_at h.par rfl) (cell_at h1 e1) (cell_at h1 e2) (cell_at h1 e3))
theorem PSt.set_ret {w₀ w : World} {T g n : Nat} {zK : Nat → Int} {zT : Nat → ByteArray} {zC : Nat → Int} {pos : Int} (h : PSt w₀ w T g n zK zT zC pos) (p : Int) :
    Ret Try.prog 17 #[.pointer (some ⟨g, 0, none⟩), .int .i64 p] w fun _ w' => PSt w₀ w' T g n zK zT zC p :=
  (Ret.of_calls (setPos_any g p pos w (cell_at h.par rfl) (frozen_at h.par))).mono fun v w' ⟨_, e⟩ => by rw [e]; exact h.at_ p
theorem PSt.pos_ret {w₀ w : World} {T g n : Nat} {zK : Nat → Int} {zT : Nat → ByteArray} {zC : Nat → Int} {pos : Int} (h : PSt w₀ w T g n zK zT zC pos) :
    Ret Try.prog 20 #[.pointer (some ⟨g, 0, none⟩)] w fun v w' => v = .int .i64 pos ∧ w' = w :=
  Ret.of_calls (pos_any g pos w (cell_at h.par rfl))
theorem fields_ret (k : Int) (s : ByteArray) (c : Int) (w : World) : Ret Try.prog 19 #[.agg #[.int .i64 k, .string s, .int .i64 c]] w fun v w' => v = .tuple #[.int .i64 k, .string s, .int .i64 c] ∧ Below w.heap.size w w' :=
  Ret.of_calls (fields_any k s c w)
/-- A variable that holds a token. -/
def Var (w : World) (g : Nat) (k : Int) (s : ByteArray) (c : Int) : Prop := w.heap[g]? = some (.cells #[.int .i64 k, .string s, .int .i64 c] 42 (0, 0))
theorem Var.cells {w : World} {g : Nat} {k : Int} {s : ByteArray} {c : Int} (h : Var w g k s c) : ∀ j v, [Value.int .i64 k, .string s, .int .i64 c][j]? = some v → w.cell? ⟨g, 0 + j, none⟩ = some v := by
  intro j v hv
  rw [Nat.zero_add]
  exact cell_at h (by simpa using hv)
theorem Var.later {w w' : World} {g : Nat} {k : Int} {s : ByteArray} {c : Int} (h : Var w g k s c) (hb : Below w.heap.size w w') : Var w' g k s c := by
  unfold Var at *
  rw [hb.block g (lt_of_heap h)]; exact h
theorem Var.fresh (w : World) (k : Int) (s : ByteArray) (c : Int) :
    Var ((w.alloc (.cells (Value.agg #[.int .i64 0, .string ⟨#[]⟩, .int .i64 0]).cells 42)).setRow w.heap.size ((Value.agg #[.int .i64 0, .string ⟨#[]⟩, .int .i64 0]).cells.toList.take 0 ++ ([.int .i64 k, .string s, .int .i64 c] : List Value) ++ (Value.agg #[.int .i64 0, .string ⟨#[]⟩, .int .i64 0]).cells.toList.drop (0 + 3)).toArray) w.heap.size k s c :=
  setRow_heap _ _ _ _ 42 (0, 0) (heap_new w _)
theorem fresh_below (w : World) (z cs : Array Value) : Below w.heap.size w ((w.alloc (.cells z 42)).setRow w.heap.size cs) :=
  below_setRow ((Below.refl _ _).alloc (Nat.le_refl _) _) (Nat.le_refl _) _
theorem Ex_neqs_f {P : Program} {ρ : Operand → Value} {ty t t' : TypeId} {w : World} {x y : Operand} {s : ByteArray} (hx : ρ x = .string s) (hy : ρ y = .string s) : Ex P ρ (.binOp .neq t x y t') ty w (.bool false) w := ex_val fun o ho _ => by
  simp [execOp, ho, hx, hy, go_sem]


def codeAt : List Nat → Code → Code
  | [], c => c
  | 0 :: p, .seq x _ => codeAt p x
  | _ :: p, .seq _ y => codeAt p y
  | _, c => c
theorem walk2 (aK aT aC aP : Option Addr) (lK cK lT cT lC cC lP cP n : Nat) (zK : Nat → Int) (zT : Nat → ByteArray) (zC zP : Nat → Int) (w : World)
    (hK0 : IntsAt w aK lK zK) (hT0 : StrsAt w aT lT zT) (hC0 : IntsAt w aC lC zC) (hP0 : IntsAt w aP lP zP) (bK : lK ≤ 4096) (bP : lP ≤ 4096) (hnK : n ≤ lK) (hnT : n ≤ lT) (hnC : n ≤ lC) (u : Nat → Value) :
    Code.wp Try.prog (codeAt [1, 1, 1, 1, 1, 1, 1, 1] (Try.f5.body.getD .skip)) (post Try.prog Try.f5 fun v w' => v = .bool true ∧ Below w.heap.size w w') (fr 203 u [(0, .slice aK lK cK), (1, .slice aT lT cT), (2, .slice aC lC cC), (3, .slice aP lP cP), (11, .int .i64 (n : Int))]) w := by
  conv => arg 2; whnf
  refine wp_seq_k (fun K0 hK0' => ?_)
  refine wp_region_seq (fun K hK => ?_)
  refine wpl_op rfl (Ex_assign (by conv => lhs; whnf)) ?_
  refine wpl_nil (hK _ _ ?_)
  clear hK K
  refine wp_block ?_
  refine wp_loop_st (fun k : Nat => [(0, .slice aK lK cK), (1, .slice aT lT cT), (2, .slice aC lC cC), (3, .slice aP lP cP), (11, .int .i64 (n : Int)), (12, .int .i64 (k : Int))])
    (fun k w' => w = w' ∧ k ≤ lP ∧ ∀ j, j < k → 0 ≤ zP j ∧ zP j < n) (fun k => lP - k) 0 ⟨rfl, rfl, rfl, rfl, rfl, rfl, trivial⟩ ⟨rfl, Nat.zero_le _, by intro j hj; omega⟩ ?_
  rintro k u w' ⟨rfl, hk, hall⟩ R hR
  by_cases hlt : k < lP
  · obtain ⟨b0, o0, rfl, hc0⟩ := hP0.get hlt
    refine wp_seq_k (fun KK hKK => ?_)
    refine wp_region_seq (fun K hK => ?_)
    refine wpl_op rfl (Ex_move (by conv => lhs; whnf)) ?_
    refine wpl_op rfl (Ex_move (by conv => lhs; whnf)) ?_
    refine wpl_op rfl (Ex_len Try.underlying37 rfl) ?_
    refine wpl_op rfl (Ex_lss rfl rfl (decide_eq_true (by omega))) ?_
    refine wpl_nil (hK _ _ ?_)
    clear hK K
    refine wp_if_true rfl ?_
    refine wp_skip (hKK _ _ ?_)
    clear hKK KK
    refine wp_seq_k (fun K' hK' => ?_)
    refine wp_block ?_
    by_cases e1 : zP k < 0
    · skip
      refine wp_region_seq (fun K hK => ?_)
      refine wpl_op rfl (Ex_move (by conv => lhs; whnf)) ?_
      refine wpl_op rfl (Ex_move (by conv => lhs; whnf)) ?_
      refine wpl_op rfl (Ex_index1 Try.underlying37 size_37 rfl rfl hlt) ?_
      refine wpl_op rfl (Ex_load one3 rfl (hc0 k hlt)) ?_
      refine wpl_op rfl (Ex_lss rfl rfl (decide_eq_true e1)) ?_
      refine wpl_op rfl (Ex_move (by conv => lhs; whnf)) ?_
      refine wpl_pass (by exact rfl) (by exact rfl) ?_
      refine wpl_pass (by exact rfl) (by exact rfl) ?_
      refine wpl_pass (by exact rfl) (by exact rfl) ?_
      refine wpl_pass (by exact rfl) (by exact rfl) ?_
      refine wpl_pass (by exact rfl) (by exact rfl) ?_
      refine wpl_pass (by exact rfl) (by exact rfl) ?_
      refine wpl_op rfl (Ex_pick rfl (by conv => lhs; whnf)) ?_
      refine wpl_nil (hK _ _ ?_)
      clear hK K
      refine wp_if_true rfl ?_
      refine wp_region_seq (fun K hK => ?_)
      refine wpl_op rfl (Ex_assign (by conv => lhs; whnf)) ?_
      refine wpl_nil (hK _ _ ?_)
      clear hK K
      refine wp_ret ?_
      repeat (first | refine out_block ?_ | refine out_then ?_)
      refine ret_tmp Try.results5 ⟨rfl, Below.refl _ _⟩
    by_cases e2 : (n : Int) ≤ zP k
    · skip
      refine wp_region_seq (fun K hK => ?_)
      refine wpl_op rfl (Ex_move (by conv => lhs; whnf)) ?_
      refine wpl_op rfl (Ex_move (by conv => lhs; whnf)) ?_
      refine wpl_op rfl (Ex_index1 Try.underlying37 size_37 rfl rfl hlt) ?_
      refine wpl_op rfl (Ex_load one3 rfl (hc0 k hlt)) ?_
      refine wpl_op rfl (Ex_lss rfl rfl (decide_eq_false e1)) ?_
      refine wpl_op rfl (Ex_move (by conv => lhs; whnf)) ?_
      refine wpl_opg (by exact rfl) (by exact rfl) (Ex_move (by conv => lhs; whnf)) ?_
      refine wpl_opg (by exact rfl) (by exact rfl) (Ex_move (by conv => lhs; whnf)) ?_
      refine wpl_opg (by exact rfl) (by exact rfl) (Ex_index1 Try.underlying37 size_37 rfl rfl hlt) ?_
      refine wpl_opg (by exact rfl) (by exact rfl) (Ex_load one3 rfl (hc0 k hlt)) ?_
      refine wpl_opg (by exact rfl) (by exact rfl) (Ex_move (by conv => lhs; whnf)) ?_
      refine wpl_opg (by exact rfl) (by exact rfl) (Ex_geq rfl rfl (decide_eq_true e2)) ?_
      refine wpl_op rfl (Ex_pick rfl (by conv => lhs; whnf)) ?_
      refine wpl_nil (hK _ _ ?_)
      clear hK K
      refine wp_if_true rfl ?_
      refine wp_region_seq (fun K hK => ?_)
      refine wpl_op rfl (Ex_assign (by conv => lhs; whnf)) ?_
      refine wpl_nil (hK _ _ ?_)
      clear hK K
      refine wp_ret ?_
      repeat (first | refine out_block ?_ | refine out_then ?_)
      refine ret_tmp Try.results5 ⟨rfl, Below.refl _ _⟩
    refine wp_region_seq (fun K hK => ?_)
    refine wpl_op rfl (Ex_move (by conv => lhs; whnf)) ?_
    refine wpl_op rfl (Ex_move (by conv => lhs; whnf)) ?_
    refine wpl_op rfl (Ex_index1 Try.underlying37 size_37 rfl rfl hlt) ?_
    refine wpl_op rfl (Ex_load one3 rfl (hc0 k hlt)) ?_
    refine wpl_op rfl (Ex_lss rfl rfl (decide_eq_false e1)) ?_
    refine wpl_op rfl (Ex_move (by conv => lhs; whnf)) ?_
    refine wpl_opg (by exact rfl) (by exact rfl) (Ex_move (by conv => lhs; whnf)) ?_
    refine wpl_opg (by exact rfl) (by exact rfl) (Ex_move (by conv => lhs; whnf)) ?_
    refine wpl_opg (by exact rfl) (by exact rfl) (Ex_index1 Try.underlying37 size_37 rfl rfl hlt) ?_
    refine wpl_opg (by exact rfl) (by exact rfl) (Ex_load one3 rfl (hc0 k hlt)) ?_
    refine wpl_opg (by exact rfl) (by exact rfl) (Ex_move (by conv => lhs; whnf)) ?_
    refine wpl_opg (by exact rfl) (by exact rfl) (Ex_geq rfl rfl (decide_eq_false e2)) ?_
    refine wpl_op rfl (Ex_pick rfl (by conv => lhs; whnf)) ?_
    refine wpl_nil (hK _ _ ?_)
    clear hK K
    refine wp_if_false rfl ?_
    refine wp_skip ?_
    refine hK' _ _ ?_
    refine wp_region_last ?_
    refine wpl_op rfl (Ex_move (by conv => lhs; whnf)) ?_
    refine wpl_op rfl (Ex_inc rfl rfl (by omega)) ?_
    refine wpl_op rfl (Ex_assign (by conv => lhs; whnf)) ?_
    refine wpl_nil ?_
    refine hR _ _ _ (k + 1) ⟨rfl, rfl, rfl, rfl, rfl, rfl, trivial⟩ ⟨rfl, by omega, ?_⟩ (by omega)
    intro j hj
    by_cases e : j = k
    · subst e; omega
    · exact hall j (by omega)
  · have hk' : k = lP := by omega
    subst hk'
    refine wp_seq_k (fun KK hKK => ?_)
    refine wp_region_seq (fun K hK => ?_)
    refine wpl_op rfl (Ex_move (by conv => lhs; whnf)) ?_
    refine wpl_op rfl (Ex_move (by conv => lhs; whnf)) ?_
    refine wpl_op rfl (Ex_len Try.underlying37 rfl) ?_
    refine wpl_op rfl (Ex_lss rfl rfl (decide_eq_false (by omega))) ?_
    refine wpl_nil (hK _ _ ?_)
    clear hK K
    refine wp_if_false rfl ?_
    refine wp_exit ?_
    clear hKK
    refine hK0' _ _ ?_
    clear hK0' hR
    refine wp_region_seq (fun K hK => ?_)
    refine wpl_op rfl (Ex_move (by conv => lhs; whnf)) ?_
    refine wpl_op rfl (Ex_mk Try.underlying39 info42 rfl rfl (by omega) (by omega)) ?_
    refine wpl_op rfl (Ex_assign (by conv => lhs; whnf)) ?_
    refine wpl_nil (hK _ _ ?_)
    clear hK K
    refine wp_seq_k (fun K1 hK1 => ?_)
    refine wp_region_seq (fun K hK => ?_)
    refine wpl_op rfl (Ex_assign (by conv => lhs; whnf)) ?_
    refine wpl_nil (hK _ _ ?_)
    clear hK K
    refine wp_block ?_
    refine wp_loop_st (fun j : Nat => [(0, .slice aK lK cK), (1, .slice aT lT cT), (2, .slice aC lC cC), (3, .slice aP k cP), (11, .int .i64 (n : Int)), (13, .slice (some ⟨w.heap.size, 0, none⟩) n n), (14, .int .i64 (j : Int))])
      (fun j w' => Below w.heap.size w w' ∧ j ≤ n ∧ TokRow w' w.heap.size n j zK zT zC) (fun j => n - j) 0 ⟨rfl, rfl, rfl, rfl, rfl, rfl, rfl, trivial⟩
      ⟨(Below.refl _ _).alloc (Nat.le_refl _) _, Nat.zero_le _, ⟨_, heap_new w _, size_madeCells _ _, by intro i hi; omega⟩⟩ ?_
    rintro j u w1 ⟨hb1, hj, htok⟩ R hR
    by_cases hjn : j < n
    · obtain ⟨bK, oK, rfl, hcK⟩ := hK0.get (show j < lK by omega)
      obtain ⟨bT, oT, rfl, hcT⟩ := hT0.get (show j < lT by omega)
      obtain ⟨bC, oC, rfl, hcC⟩ := hC0.get (show j < lC by omega)
      have kK := cell_later hb1 (hcK j (by omega))
      have kT := cell_later hb1 (hcT j (by omega))
      have kC := cell_later hb1 (hcC j (by omega))
      obtain ⟨arr, ht1, ht2, ht3⟩ := htok
      have hTlt : w.heap.size < w1.heap.size := lt_of_heap ht1
      refine wp_seq_k (fun KK hKK => ?_)
      refine wp_region_seq (fun K hK => ?_)
      refine wpl_op rfl (Ex_move (by conv => lhs; whnf)) ?_
      refine wpl_op rfl (Ex_move (by conv => lhs; whnf)) ?_
      refine wpl_op rfl (Ex_lss rfl rfl (decide_eq_true (by omega))) ?_
      refine wpl_nil (hK _ _ ?_)
      clear hK K
      refine wp_if_true rfl ?_
      refine wp_skip (hKK _ _ ?_)
      clear hKK KK
      refine wp_seq_k (fun K' hK' => ?_)
      refine wp_block ?_
      refine wp_draw_last (by kernel_rfl) (fun w' => Below w1.heap.size w1 w') (fun i => Nat.beq i 16) 17 rfl ?_
      have hS : Below w1.heap.size w1 w1.drew := (Below.refl _ _).drew
      refine wpd_take 0 (by kernel_rfl) rfl hS (fun w hw => Ex_move (by conv => lhs; whnf)) (by intro h; cases h) ?_
      refine wpd_take 1 (by kernel_rfl) rfl hS (fun w hw => Ex_move (by conv => lhs; whnf)) (by intro h; cases h) ?_
      refine wpd_take 2 (by kernel_rfl) rfl hS (fun w hw => Ex_move (by conv => lhs; whnf)) (by intro h; cases h) ?_
      refine wpd_take 3 (by kernel_rfl) rfl hS (fun w hw => Ex_move (by conv => lhs; whnf)) (by intro h; cases h) ?_
      refine wpd_take 4 (by kernel_rfl) rfl hS (fun w hw => Ex_index1 Try.underlying37 size_37 rfl rfl (by omega)) (by intro h; cases h) ?_
      refine wpd_take 5 (by kernel_rfl) rfl hS (fun w hw => Ex_load one3 rfl (cell_later hw kK)) (by intro h; cases h) ?_
      refine wpd_take 6 (by kernel_rfl) rfl hS (fun w hw => Ex_move (by conv => lhs; whnf)) (by intro h; cases h) ?_
      refine wpd_take 7 (by kernel_rfl) rfl hS (fun w hw => Ex_move (by conv => lhs; whnf)) (by intro h; cases h) ?_
      refine wpd_take 8 (by kernel_rfl) rfl hS (fun w hw => Ex_index1 Try.underlying22 size_22 rfl rfl (by omega)) (by intro h; cases h) ?_
      refine wpd_take 9 (by kernel_rfl) rfl hS (fun w hw => Ex_load one9 rfl (cell_later hw kT)) (by intro h; cases h) ?_
      refine wpd_take 10 (by kernel_rfl) rfl hS (fun w hw => Ex_move (by conv => lhs; whnf)) (by intro h; cases h) ?_
      refine wpd_take 11 (by kernel_rfl) rfl hS (fun w hw => Ex_move (by conv => lhs; whnf)) (by intro h; cases h) ?_
      refine wpd_take 12 (by kernel_rfl) rfl hS (fun w hw => Ex_index1 Try.underlying37 size_37 rfl rfl (by omega)) (by intro h; cases h) ?_
      refine wpd_take 13 (by kernel_rfl) rfl hS (fun w hw => Ex_load one3 rfl (cell_later hw kC)) (by intro h; cases h) ?_
      refine wpd_call 14 (by kernel_rfl) rfl (ExC_func ent15 rfl rfl) (Ret.of_calls (newToken_any _ _ _ _)) ?_
      rintro v w2 ⟨rfl, rfl⟩
      have hS2 : Below w1.heap.size w1 (w1.drew.alloc (.cells #[.int .i64 (zK j), .string (zT j), .int .i64 (zC j)] 42)) := (Below.refl _ _).drew.alloc (Nat.le_refl _) _
      refine ⟨fun _ => hS2, wpd_gen (fun w2 => Below w1.heap.size w1 w2) hS2 (fun w2 hS2 => ?_)⟩
      have hT2 : w2.heap[w.heap.size]? = some (.cells arr 42 (0, 0)) := by rw [hS2.block _ hTlt]; exact ht1
      refine wpd_one 15 (by kernel_rfl) rfl (Ex_index Try.underlying39 size_39 rfl rfl hjn) (fun _ => hS2) ?_
      refine wpd_one 16 (by kernel_rfl) rfl (Ex_storeagg agg42 rfl rfl rfl rfl hT2 (by omega)) (by intro h; cases h) ?_
      refine wpd_nil (by kernel_rfl) ?_
      refine hK' _ _ ?_
      refine wp_region_last ?_
      refine wpl_op rfl (Ex_move (by conv => lhs; whnf)) ?_
      refine wpl_op rfl (Ex_inc rfl rfl (by omega)) ?_
      refine wpl_op rfl (Ex_assign (by conv => lhs; whnf)) ?_
      refine wpl_nil ?_
      exact hR _ _ _ (j + 1) ⟨rfl, rfl, rfl, rfl, rfl, rfl, rfl, trivial⟩ ⟨below_setRow (hb1.trans (hS2.mono hb1.size)) (Nat.le_refl _) _, by omega, TokRow.put hjn hT2 ht2 ht3⟩ (by omega)
    · have hj' : j = n := by omega
      subst hj'
      refine wp_seq_k (fun KK hKK => ?_)
      refine wp_region_seq (fun K hK => ?_)
      refine wpl_op rfl (Ex_move (by conv => lhs; whnf)) ?_
      refine wpl_op rfl (Ex_move (by conv => lhs; whnf)) ?_
      refine wpl_op rfl (Ex_lss rfl rfl (decide_eq_false (by omega))) ?_
      refine wpl_nil (hK _ _ ?_)
      clear hK K
      refine wp_if_false rfl ?_
      refine wp_exit ?_
      clear hKK
      refine hK1 _ _ ?_
      clear hK1 hR
      refine wp_region_seq (fun K hK => ?_)
      refine wpl_op rfl (Ex_move (by conv => lhs; whnf)) ?_
      refine wpl_call rfl (ExC_func ent16 rfl rfl) (Ret.of_calls (newParser_any _ _ _ _ _)) ?_
      rintro v w2 ⟨rfl, rfl⟩
      refine wpl_op rfl (Ex_assign (by conv => lhs; whnf)) ?_
      refine wpl_nil (hK _ _ ?_)
      clear hK K
      refine wp_gen (fun w2 => PSt w w2 w.heap.size w1.heap.size j zK zT zC 0) ⟨hb1.alloc hb1.size _, htok.below ((Below.refl _ _).alloc (Nat.le_refl _) _) htok.lt, heap_new w1 _, hb1.size, by have := htok.lt; omega⟩ (fun w2 hst => ?_)
      refine wp_seq_k (fun K1 hK1 => ?_)
      refine wp_region_seq (fun K hK => ?_)
      refine wpl_op rfl (Ex_assign (by conv => lhs; whnf)) ?_
      refine wpl_nil (hK _ _ ?_)
      clear hK K
      refine wp_block ?_
      refine wp_loop_st (fun q : Nat => [(0, .slice aK lK cK), (1, .slice aT lT cT), (2, .slice aC lC cC), (3, .slice aP k cP), (15, .pointer (some ⟨w1.heap.size, 0, none⟩)), (16, .int .i64 (q : Int))])
        (fun q w' => q ≤ k ∧ ∃ p, PSt w w' w.heap.size w1.heap.size j zK zT zC p) (fun q => k - q) 0 ⟨rfl, rfl, rfl, rfl, rfl, rfl, trivial⟩ ⟨Nat.zero_le _, _, hst⟩ ?_
      rintro q u w3 ⟨hq, p, hst3⟩ R hR
      by_cases hqk : q < k
      · obtain ⟨bP, oP, rfl, hcP⟩ := hP0.get hqk
        obtain ⟨hp0, hp1⟩ := hall q hqk
        obtain ⟨i, hi⟩ := Int.eq_ofNat_of_zero_le hp0
        have hij : i < j := by omega
        obtain ⟨bK, oK, rfl, hcK⟩ := hK0.get (show i < lK by omega)
        obtain ⟨bT, oT, rfl, hcT⟩ := hT0.get (show i < lT by omega)
        obtain ⟨bC, oC, rfl, hcC⟩ := hC0.get (show i < lC by omega)
        have kP : w3.cell? ⟨bP, oP + q, none⟩ = some (.int .i64 (i : Int)) := by rw [← hi]; exact cell_later hst3.bel (hcP q hqk)
        refine wp_seq_k (fun KK hKK => ?_)
        refine wp_region_seq (fun K hK => ?_)
        refine wpl_op rfl (Ex_move (by conv => lhs; whnf)) ?_
        refine wpl_op rfl (Ex_move (by conv => lhs; whnf)) ?_
        refine wpl_op rfl (Ex_len Try.underlying37 rfl) ?_
        refine wpl_op rfl (Ex_lss rfl rfl (decide_eq_true (by omega))) ?_
        refine wpl_nil (hK _ _ ?_)
        clear hK K
        refine wp_if_true rfl ?_
        refine wp_skip (hKK _ _ ?_)
        clear hKK KK
        refine wp_seq_k (fun K' hK' => ?_)
        refine wp_block ?_
        refine wp_region_seq (fun K hK => ?_)
        refine wpl_op rfl (Ex_move (by conv => lhs; whnf)) ?_
        refine wpl_op rfl (Ex_move (by conv => lhs; whnf)) ?_
        refine wpl_op rfl (Ex_index1 Try.underlying37 size_37 rfl rfl hqk) ?_
        refine wpl_op rfl (Ex_load one3 rfl kP) ?_
        refine wpl_op rfl (Ex_assign (by conv => lhs; whnf)) ?_
        refine wpl_nil (hK _ _ ?_)
        clear hK K
        refine wp_region_seq (fun K hK => ?_)
        refine wpl_op rfl (Ex_move (by conv => lhs; whnf)) ?_
        refine wpl_op rfl (Ex_move (by conv => lhs; whnf)) ?_
        refine wpl_call rfl (ExC_func ent17 rfl rfl) (hst3.set_ret i) ?_
        rintro v w4 hst4
        refine wpl_nil (hK _ _ ?_)
        clear hK K
        refine wp_region_seq (fun K hK => ?_)
        refine wpl_op rfl (Ex_move (by conv => lhs; whnf)) ?_
        refine wpl_call rfl (ExC_func ent18 rfl rfl) (hst4.peek hij) ?_
        rintro v w5 ⟨rfl, hb5⟩
        refine wpl_op rfl (Ex_alloc zero42) ?_
        refine wpl_op rfl (Ex_storeagg agg42 rfl rfl rfl rfl (heap_new _ _) (by decide)) ?_
        refine wpl_nil (hK _ _ ?_)
        clear hK K
        refine wp_gen (fun w6 => Var w6 w5.heap.size (zK i) (zT i) (zC i) ∧ Below w5.heap.size w5 w6) ⟨Var.fresh w5 (zK i) (zT i) (zC i), fresh_below w5 _ _⟩ (fun w6 hg6 => ?_)
        obtain ⟨hv1, hb6⟩ := hg6
        have hst6 := (hst4.later hb5).later hb6
        refine wp_region_seq (fun K hK => ?_)
        refine wpl_op rfl (Ex_move (by conv => lhs; whnf)) ?_
        refine wpl_call rfl (ExC_func ent18 rfl rfl) (hst6.peek hij) ?_
        rintro v w7 ⟨rfl, hb7⟩
        refine wpl_op rfl (Ex_alloc zero42) ?_
        refine wpl_op rfl (Ex_storeagg agg42 rfl rfl rfl rfl (heap_new _ _) (by decide)) ?_
        refine wpl_nil (hK _ _ ?_)
        clear hK K
        refine wp_gen (fun w8 => Var w8 w7.heap.size (zK i) (zT i) (zC i) ∧ Below w7.heap.size w7 w8) ⟨Var.fresh w7 (zK i) (zT i) (zC i), fresh_below w7 _ _⟩ (fun w8 hg8 => ?_)
        obtain ⟨hv2, hb8⟩ := hg8
        have hst8 := (hst6.later hb7).later hb8
        have hv1' := (hv1.later hb7).later hb8
        refine wp_region_seq (fun K hK => ?_)
        refine wpl_op rfl (Ex_loadagg (cs := [.int .i64 (zK i), .string (zT i), .int .i64 (zC i)]) agg42 rfl rfl hv1'.cells) ?_
        refine wpl_call rfl (ExC_func ent19 rfl rfl) (fields_ret _ _ _ _) ?_
        rintro v w9 ⟨rfl, hb9⟩
        refine wpl_op rfl (Ex_move (by conv => lhs; whnf)) ?_
        refine wpl_op rfl (Ex_extract rfl rfl) ?_
        refine wpl_op rfl (Ex_extract rfl rfl) ?_
        refine wpl_op rfl (Ex_extract rfl rfl) ?_
        refine wpl_op rfl (Ex_assign (by conv => lhs; whnf)) ?_
        refine wpl_op rfl (Ex_assign (by conv => lhs; whnf)) ?_
        refine wpl_op rfl (Ex_assign (by conv => lhs; whnf)) ?_
        refine wpl_nil (hK _ _ ?_)
        clear hK K
        have hst9 := hst8.later hb9
        have hv2' := hv2.later hb9
        have kK := cell_later hst9.bel (hcK i (by omega))
        have kT := cell_later hst9.bel (hcT i (by omega))
        have kC := cell_later hst9.bel (hcC i (by omega))
        refine wp_seq_k (fun K3 hK3 => ?_)
        refine wp_region_seq (fun K hK => ?_)
        refine wpl_op rfl (Ex_move (by conv => lhs; whnf)) ?_
        refine wpl_op rfl (Ex_move (by conv => lhs; whnf)) ?_
        refine wpl_op rfl (Ex_move (by conv => lhs; whnf)) ?_
        refine wpl_op rfl (Ex_index1 Try.underlying37 size_37 rfl rfl (by omega)) ?_
        refine wpl_op rfl (Ex_load one3 rfl kK) ?_
        refine wpl_op rfl (Ex_neq rfl rfl (ne_f rfl)) ?_
        refine wpl_op rfl (Ex_move (by conv => lhs; whnf)) ?_
        refine wpl_opg (by exact rfl) (by exact rfl) (Ex_move (by conv => lhs; whnf)) ?_
        refine wpl_opg (by exact rfl) (by exact rfl) (Ex_move (by conv => lhs; whnf)) ?_
        refine wpl_opg (by exact rfl) (by exact rfl) (Ex_move (by conv => lhs; whnf)) ?_
        refine wpl_opg (by exact rfl) (by exact rfl) (Ex_index1 Try.underlying22 size_22 rfl rfl (by omega)) ?_
        refine wpl_opg (by exact rfl) (by exact rfl) (Ex_load one9 rfl kT) ?_
        refine wpl_opg (by exact rfl) (by exact rfl) (Ex_neqs_f rfl rfl) ?_
        refine wpl_op rfl (Ex_pick rfl (by conv => lhs; whnf)) ?_
        refine wpl_op rfl (Ex_move (by conv => lhs; whnf)) ?_
        refine wpl_opg (by exact rfl) (by exact rfl) (Ex_move (by conv => lhs; whnf)) ?_
        refine wpl_opg (by exact rfl) (by exact rfl) (Ex_move (by conv => lhs; whnf)) ?_
        refine wpl_opg (by exact rfl) (by exact rfl) (Ex_move (by conv => lhs; whnf)) ?_
        refine wpl_opg (by exact rfl) (by exact rfl) (Ex_index1 Try.underlying37 size_37 rfl rfl (by omega)) ?_
        refine wpl_opg (by exact rfl) (by exact rfl) (Ex_load one3 rfl kC) ?_
        refine wpl_opg (by exact rfl) (by exact rfl) (Ex_neq rfl rfl (ne_f rfl)) ?_
        refine wpl_op rfl (Ex_pick rfl (by conv => lhs; whnf)) ?_
        refine wpl_nil (hK _ _ ?_)
        clear hK K
        refine wp_if_false rfl ?_
        refine wp_skip (hK3 _ _ ?_)
        clear hK3 K3
        refine wp_region_seq (fun K hK => ?_)
        refine wpl_op rfl (Ex_loadagg (cs := [.int .i64 (zK i), .string (zT i), .int .i64 (zC i)]) agg42 rfl rfl hv2'.cells) ?_
        refine wpl_call rfl (ExC_func ent19 rfl rfl) (fields_ret _ _ _ _) ?_
        rintro v w10 ⟨rfl, hb10⟩
        refine wpl_op rfl (Ex_move (by conv => lhs; whnf)) ?_
        refine wpl_op rfl (Ex_extract rfl rfl) ?_
        refine wpl_op rfl (Ex_extract rfl rfl) ?_
        refine wpl_op rfl (Ex_extract rfl rfl) ?_
        refine wpl_op rfl (Ex_assign (by conv => lhs; whnf)) ?_
        refine wpl_op rfl (Ex_assign (by conv => lhs; whnf)) ?_
        refine wpl_op rfl (Ex_assign (by conv => lhs; whnf)) ?_
        refine wpl_nil (hK _ _ ?_)
        clear hK K
        refine wp_seq_k (fun K3 hK3 => ?_)
        refine wp_region_seq (fun K hK => ?_)
        refine wpl_op rfl (Ex_move (by conv => lhs; whnf)) ?_
        refine wpl_op rfl (Ex_move (by conv => lhs; whnf)) ?_
        refine wpl_op rfl (Ex_neq rfl rfl (ne_f rfl)) ?_
        refine wpl_op rfl (Ex_move (by conv => lhs; whnf)) ?_
        refine wpl_opg (by exact rfl) (by exact rfl) (Ex_move (by conv => lhs; whnf)) ?_
        refine wpl_opg (by exact rfl) (by exact rfl) (Ex_move (by conv => lhs; whnf)) ?_
        refine wpl_opg (by exact rfl) (by exact rfl) (Ex_neqs_f rfl rfl) ?_
        refine wpl_op rfl (Ex_pick rfl (by conv => lhs; whnf)) ?_
        refine wpl_op rfl (Ex_move (by conv => lhs; whnf)) ?_
        refine wpl_opg (by exact rfl) (by exact rfl) (Ex_move (by conv => lhs; whnf)) ?_
        refine wpl_opg (by exact rfl) (by exact rfl) (Ex_move (by conv => lhs; whnf)) ?_
        refine wpl_opg (by exact rfl) (by exact rfl) (Ex_neq rfl rfl (ne_f rfl)) ?_
        refine wpl_op rfl (Ex_pick rfl (by conv => lhs; whnf)) ?_
        refine wpl_nil (hK _ _ ?_)
        clear hK K
        refine wp_if_false rfl ?_
        refine wp_skip (hK3 _ _ ?_)
        clear hK3 K3
        have hst10 := hst9.later hb10
        refine wp_region_seq (fun K hK => ?_)
        refine wpl_op rfl (Ex_move (by conv => lhs; whnf)) ?_
        refine wpl_call rfl (ExC_func ent20 rfl rfl) (hst10.pos_ret) ?_
        rintro v w11 ⟨rfl, rfl⟩
        refine wpl_op rfl (Ex_move (by conv => lhs; whnf)) ?_
        refine wpl_op rfl (Ex_neq rfl rfl (ne_f rfl)) ?_
        refine wpl_nil (hK _ _ ?_)
        clear hK K
        refine wp_if_false rfl ?_
        refine wp_skip ?_
        refine hK' _ _ ?_
        refine wp_region_last ?_
        refine wpl_op rfl (Ex_move (by conv => lhs; whnf)) ?_
        refine wpl_op rfl (Ex_inc rfl rfl (by omega)) ?_
        refine wpl_op rfl (Ex_assign (by conv => lhs; whnf)) ?_
        refine wpl_nil ?_
        exact hR _ _ _ (q + 1) ⟨rfl, rfl, rfl, rfl, rfl, rfl, trivial⟩ ⟨by omega, _, hst10⟩ (by omega)
      · skip
        refine wp_seq_k (fun KK hKK => ?_)
        refine wp_region_seq (fun K hK => ?_)
        refine wpl_op rfl (Ex_move (by conv => lhs; whnf)) ?_
        refine wpl_op rfl (Ex_move (by conv => lhs; whnf)) ?_
        refine wpl_op rfl (Ex_len Try.underlying37 rfl) ?_
        refine wpl_op rfl (Ex_lss rfl rfl (decide_eq_false (by omega))) ?_
        refine wpl_nil (hK _ _ ?_)
        clear hK K
        refine wp_if_false rfl ?_
        refine wp_exit ?_
        clear hKK
        refine hK1 _ _ ?_
        refine wp_region_seq (fun K hK => ?_)
        refine wpl_op rfl (Ex_assign (by conv => lhs; whnf)) ?_
        refine wpl_nil (hK _ _ ?_)
        clear hK K
        refine wp_ret ?_
        repeat (first | refine out_block ?_ | refine out_then ?_)
        refine ret_tmp Try.results5 ⟨rfl, hst3.bel⟩

theorem walk (aK aT aC aP : Option Addr) (lK cK lT cT lC cC lP cP : Nat) (zK : Nat → Int) (zT : Nat → ByteArray) (zC zP : Nat → Int) (w : World)
    (hK0 : IntsAt w aK lK zK) (hT0 : StrsAt w aT lT zT) (hC0 : IntsAt w aC lC zC) (hP0 : IntsAt w aP lP zP) (mT : lT ≤ maxLen) :
    Ret Try.prog 5 #[.slice aK lK cK, .slice aT lT cT, .slice aC lC cC, .slice aP lP cP] w fun v w' => v = .bool true ∧ Below w.heap.size w w' := by
  refine Ret.of_body (vs := [.slice aK lK cK, .slice aT lT cT, .slice aC lC cC, .slice aP lP cP]) Try.func5 rfl Try.ntmps5 rfl ?_
  refine wp_region_seq (fun K hK => ?_)
  refine wpl_op rfl (Ex_assign (by conv => lhs; whnf)) ?_
  refine wpl_nil (hK _ _ ?_)
  clear hK K
  refine wp_seq_k (fun KK hKK => ?_)
  refine wp_region_seq (fun K hK => ?_)
  refine wpl_op rfl (Ex_move (by conv => lhs; whnf)) ?_
  refine wpl_op rfl (Ex_move (by conv => lhs; whnf)) ?_
  refine wpl_op rfl (Ex_move (by conv => lhs; whnf)) ?_
  refine wpl_op rfl (Ex_move (by conv => lhs; whnf)) ?_
  refine wpl_call rfl (ExC_func ent14 rfl rfl) (bytes_ret aK aT aC aP lK cK lT cT lC cC lP cP w zT mT hT0) ?_
  rintro v w' ⟨⟨b, rfl⟩, rfl⟩
  refine wpl_op rfl (Ex_not rfl rfl) ?_
  refine wpl_nil (hK _ _ ?_)
  clear hK K
  refine wp_if rfl (fun ht => ?_) (fun hf => ?_)
  · clear hKK
    refine wp_region_seq (fun K hK => ?_)
    refine wpl_op rfl (Ex_assign (by conv => lhs; whnf)) ?_
    refine wpl_nil (hK _ _ ?_)
    clear hK K
    refine wp_ret ?_
    repeat (first | refine out_block ?_ | refine out_then ?_)
    refine ret_tmp Try.results5 ⟨rfl, Below.refl _ _⟩
  refine wp_skip (hKK _ _ ?_)
  clear hKK KK
  clear hf
  by_cases g0 : (4096 : Int) < lK
  · skip
    refine wp_seq_k (fun KK hKK => ?_)
    refine wp_region_seq (fun K hK => ?_)
    refine wpl_op rfl (Ex_move (by conv => lhs; whnf)) ?_
    refine wpl_op rfl (Ex_len Try.underlying37 rfl) ?_
    refine wpl_op rfl (Ex_gtr rfl rfl (decide_eq_true g0)) ?_
    refine wpl_op rfl (Ex_move (by conv => lhs; whnf)) ?_
    refine wpl_pass (by exact rfl) (by exact rfl) ?_
    refine wpl_pass (by exact rfl) (by exact rfl) ?_
    refine wpl_pass (by exact rfl) (by exact rfl) ?_
    refine wpl_op rfl (Ex_pick rfl (by conv => lhs; whnf)) ?_
    refine wpl_op rfl (Ex_move (by conv => lhs; whnf)) ?_
    refine wpl_pass (by exact rfl) (by exact rfl) ?_
    refine wpl_pass (by exact rfl) (by exact rfl) ?_
    refine wpl_pass (by exact rfl) (by exact rfl) ?_
    refine wpl_op rfl (Ex_pick rfl (by conv => lhs; whnf)) ?_
    refine wpl_op rfl (Ex_move (by conv => lhs; whnf)) ?_
    refine wpl_pass (by exact rfl) (by exact rfl) ?_
    refine wpl_pass (by exact rfl) (by exact rfl) ?_
    refine wpl_pass (by exact rfl) (by exact rfl) ?_
    refine wpl_op rfl (Ex_pick rfl (by conv => lhs; whnf)) ?_
    refine wpl_nil (hK _ _ ?_)
    clear hK K
    refine wp_if_true rfl ?_
    clear hKK
    refine wp_region_seq (fun K hK => ?_)
    refine wpl_op rfl (Ex_assign (by conv => lhs; whnf)) ?_
    refine wpl_nil (hK _ _ ?_)
    clear hK K
    refine wp_ret ?_
    repeat (first | refine out_block ?_ | refine out_then ?_)
    refine ret_tmp Try.results5 ⟨rfl, Below.refl _ _⟩
  by_cases g1 : (4096 : Int) < lT
  · skip
    refine wp_seq_k (fun KK hKK => ?_)
    refine wp_region_seq (fun K hK => ?_)
    refine wpl_op rfl (Ex_move (by conv => lhs; whnf)) ?_
    refine wpl_op rfl (Ex_len Try.underlying37 rfl) ?_
    refine wpl_op rfl (Ex_gtr rfl rfl (decide_eq_false g0)) ?_
    refine wpl_op rfl (Ex_move (by conv => lhs; whnf)) ?_
    refine wpl_opg (by exact rfl) (by exact rfl) (Ex_move (by conv => lhs; whnf)) ?_
    refine wpl_opg (by exact rfl) (by exact rfl) (Ex_len Try.underlying22 rfl) ?_
    refine wpl_opg (by exact rfl) (by exact rfl) (Ex_gtr rfl rfl (decide_eq_true g1)) ?_
    refine wpl_op rfl (Ex_pick rfl (by conv => lhs; whnf)) ?_
    refine wpl_op rfl (Ex_move (by conv => lhs; whnf)) ?_
    refine wpl_pass (by exact rfl) (by exact rfl) ?_
    refine wpl_pass (by exact rfl) (by exact rfl) ?_
    refine wpl_pass (by exact rfl) (by exact rfl) ?_
    refine wpl_op rfl (Ex_pick rfl (by conv => lhs; whnf)) ?_
    refine wpl_op rfl (Ex_move (by conv => lhs; whnf)) ?_
    refine wpl_pass (by exact rfl) (by exact rfl) ?_
    refine wpl_pass (by exact rfl) (by exact rfl) ?_
    refine wpl_pass (by exact rfl) (by exact rfl) ?_
    refine wpl_op rfl (Ex_pick rfl (by conv => lhs; whnf)) ?_
    refine wpl_nil (hK _ _ ?_)
    clear hK K
    refine wp_if_true rfl ?_
    clear hKK
    refine wp_region_seq (fun K hK => ?_)
    refine wpl_op rfl (Ex_assign (by conv => lhs; whnf)) ?_
    refine wpl_nil (hK _ _ ?_)
    clear hK K
    refine wp_ret ?_
    repeat (first | refine out_block ?_ | refine out_then ?_)
    refine ret_tmp Try.results5 ⟨rfl, Below.refl _ _⟩
  by_cases g2 : (4096 : Int) < lC
  · skip
    refine wp_seq_k (fun KK hKK => ?_)
    refine wp_region_seq (fun K hK => ?_)
    refine wpl_op rfl (Ex_move (by conv => lhs; whnf)) ?_
    refine wpl_op rfl (Ex_len Try.underlying37 rfl) ?_
    refine wpl_op rfl (Ex_gtr rfl rfl (decide_eq_false g0)) ?_
    refine wpl_op rfl (Ex_move (by conv => lhs; whnf)) ?_
    refine wpl_opg (by exact rfl) (by exact rfl) (Ex_move (by conv => lhs; whnf)) ?_
    refine wpl_opg (by exact rfl) (by exact rfl) (Ex_len Try.underlying22 rfl) ?_
    refine wpl_opg (by exact rfl) (by exact rfl) (Ex_gtr rfl rfl (decide_eq_false g1)) ?_
    refine wpl_op rfl (Ex_pick rfl (by conv => lhs; whnf)) ?_
    refine wpl_op rfl (Ex_move (by conv => lhs; whnf)) ?_
    refine wpl_opg (by exact rfl) (by exact rfl) (Ex_move (by conv => lhs; whnf)) ?_
    refine wpl_opg (by exact rfl) (by exact rfl) (Ex_len Try.underlying37 rfl) ?_
    refine wpl_opg (by exact rfl) (by exact rfl) (Ex_gtr rfl rfl (decide_eq_true g2)) ?_
    refine wpl_op rfl (Ex_pick rfl (by conv => lhs; whnf)) ?_
    refine wpl_op rfl (Ex_move (by conv => lhs; whnf)) ?_
    refine wpl_pass (by exact rfl) (by exact rfl) ?_
    refine wpl_pass (by exact rfl) (by exact rfl) ?_
    refine wpl_pass (by exact rfl) (by exact rfl) ?_
    refine wpl_op rfl (Ex_pick rfl (by conv => lhs; whnf)) ?_
    refine wpl_nil (hK _ _ ?_)
    clear hK K
    refine wp_if_true rfl ?_
    clear hKK
    refine wp_region_seq (fun K hK => ?_)
    refine wpl_op rfl (Ex_assign (by conv => lhs; whnf)) ?_
    refine wpl_nil (hK _ _ ?_)
    clear hK K
    refine wp_ret ?_
    repeat (first | refine out_block ?_ | refine out_then ?_)
    refine ret_tmp Try.results5 ⟨rfl, Below.refl _ _⟩
  by_cases g3 : (4096 : Int) < lP
  · skip
    refine wp_seq_k (fun KK hKK => ?_)
    refine wp_region_seq (fun K hK => ?_)
    refine wpl_op rfl (Ex_move (by conv => lhs; whnf)) ?_
    refine wpl_op rfl (Ex_len Try.underlying37 rfl) ?_
    refine wpl_op rfl (Ex_gtr rfl rfl (decide_eq_false g0)) ?_
    refine wpl_op rfl (Ex_move (by conv => lhs; whnf)) ?_
    refine wpl_opg (by exact rfl) (by exact rfl) (Ex_move (by conv => lhs; whnf)) ?_
    refine wpl_opg (by exact rfl) (by exact rfl) (Ex_len Try.underlying22 rfl) ?_
    refine wpl_opg (by exact rfl) (by exact rfl) (Ex_gtr rfl rfl (decide_eq_false g1)) ?_
    refine wpl_op rfl (Ex_pick rfl (by conv => lhs; whnf)) ?_
    refine wpl_op rfl (Ex_move (by conv => lhs; whnf)) ?_
    refine wpl_opg (by exact rfl) (by exact rfl) (Ex_move (by conv => lhs; whnf)) ?_
    refine wpl_opg (by exact rfl) (by exact rfl) (Ex_len Try.underlying37 rfl) ?_
    refine wpl_opg (by exact rfl) (by exact rfl) (Ex_gtr rfl rfl (decide_eq_false g2)) ?_
    refine wpl_op rfl (Ex_pick rfl (by conv => lhs; whnf)) ?_
    refine wpl_op rfl (Ex_move (by conv => lhs; whnf)) ?_
    refine wpl_opg (by exact rfl) (by exact rfl) (Ex_move (by conv => lhs; whnf)) ?_
    refine wpl_opg (by exact rfl) (by exact rfl) (Ex_len Try.underlying37 rfl) ?_
    refine wpl_opg (by exact rfl) (by exact rfl) (Ex_gtr rfl rfl (decide_eq_true g3)) ?_
    refine wpl_op rfl (Ex_pick rfl (by conv => lhs; whnf)) ?_
    refine wpl_nil (hK _ _ ?_)
    clear hK K
    refine wp_if_true rfl ?_
    clear hKK
    refine wp_region_seq (fun K hK => ?_)
    refine wpl_op rfl (Ex_assign (by conv => lhs; whnf)) ?_
    refine wpl_nil (hK _ _ ?_)
    clear hK K
    refine wp_ret ?_
    repeat (first | refine out_block ?_ | refine out_then ?_)
    refine ret_tmp Try.results5 ⟨rfl, Below.refl _ _⟩
  refine wp_seq_k (fun KK hKK => ?_)
  refine wp_region_seq (fun K hK => ?_)
  refine wpl_op rfl (Ex_move (by conv => lhs; whnf)) ?_
  refine wpl_op rfl (Ex_len Try.underlying37 rfl) ?_
  refine wpl_op rfl (Ex_gtr rfl rfl (decide_eq_false g0)) ?_
  refine wpl_op rfl (Ex_move (by conv => lhs; whnf)) ?_
  refine wpl_opg (by exact rfl) (by exact rfl) (Ex_move (by conv => lhs; whnf)) ?_
  refine wpl_opg (by exact rfl) (by exact rfl) (Ex_len Try.underlying22 rfl) ?_
  refine wpl_opg (by exact rfl) (by exact rfl) (Ex_gtr rfl rfl (decide_eq_false g1)) ?_
  refine wpl_op rfl (Ex_pick rfl (by conv => lhs; whnf)) ?_
  refine wpl_op rfl (Ex_move (by conv => lhs; whnf)) ?_
  refine wpl_opg (by exact rfl) (by exact rfl) (Ex_move (by conv => lhs; whnf)) ?_
  refine wpl_opg (by exact rfl) (by exact rfl) (Ex_len Try.underlying37 rfl) ?_
  refine wpl_opg (by exact rfl) (by exact rfl) (Ex_gtr rfl rfl (decide_eq_false g2)) ?_
  refine wpl_op rfl (Ex_pick rfl (by conv => lhs; whnf)) ?_
  refine wpl_op rfl (Ex_move (by conv => lhs; whnf)) ?_
  refine wpl_opg (by exact rfl) (by exact rfl) (Ex_move (by conv => lhs; whnf)) ?_
  refine wpl_opg (by exact rfl) (by exact rfl) (Ex_len Try.underlying37 rfl) ?_
  refine wpl_opg (by exact rfl) (by exact rfl) (Ex_gtr rfl rfl (decide_eq_false g3)) ?_
  refine wpl_op rfl (Ex_pick rfl (by conv => lhs; whnf)) ?_
  refine wpl_nil (hK _ _ ?_)
  clear hK K
  refine wp_if_false rfl ?_
  refine wp_skip (hKK _ _ ?_)
  clear hKK KK
  refine wp_region_seq (fun K hK => ?_)
  refine wpl_op rfl (Ex_move (by conv => lhs; whnf)) ?_
  refine wpl_op rfl (Ex_len Try.underlying37 rfl) ?_
  refine wpl_op rfl (Ex_mul rfl rfl (by omega) (by omega)) ?_
  refine wpl_op rfl (Ex_move (by conv => lhs; whnf)) ?_
  refine wpl_op rfl (Ex_len Try.underlying37 rfl) ?_
  refine wpl_op rfl (Ex_mul rfl rfl (by omega) (by omega)) ?_
  refine wpl_op rfl (Ex_add rfl rfl (by omega) (by omega)) ?_
  refine wpl_op rfl (Ex_move (by conv => lhs; whnf)) ?_
  refine wpl_op rfl (Ex_len Try.underlying37 rfl) ?_
  refine wpl_op rfl (Ex_mul rfl rfl (by omega) (by omega)) ?_
  refine wpl_op rfl (Ex_add rfl rfl (by omega) (by omega)) ?_
  refine wpl_op rfl (Ex_assign (by conv => lhs; whnf)) ?_
  refine wpl_nil (hK _ _ ?_)
  clear hK K
  refine wp_norm [(0, .slice aK lK cK), (1, .slice aT lT cT), (2, .slice aC lC cC), (3, .slice aP lP cP), (9, .int .i64 (8 * (lK : Int) + 8 * lC + 8 * lP))] ⟨rfl, rfl, rfl, rfl, rfl, trivial⟩ (fun u => ?_)
  refine wp_seq_k (fun K0 hK0' => ?_)
  refine wp_region_seq (fun K hK => ?_)
  refine wpl_op rfl (Ex_assign (by conv => lhs; whnf)) ?_
  refine wpl_nil (hK _ _ ?_)
  clear hK K
  refine wp_block ?_
  refine wp_loop_st (fun s : Nat × Int => [(0, .slice aK lK cK), (1, .slice aT lT cT), (2, .slice aC lC cC), (3, .slice aP lP cP), (9, .int .i64 s.2), (10, .int .i64 (s.1 : Int))])
    (fun s w' => w = w' ∧ s.1 ≤ lT) (fun s => lT - s.1) (0, _) ⟨rfl, rfl, rfl, rfl, rfl, rfl, trivial⟩ ⟨rfl, Nat.zero_le _⟩ ?_
  rintro ⟨k, z⟩ u w' ⟨rfl, hk⟩ R hR
  by_cases hlt : k < lT
  · obtain ⟨b0, o0, rfl, hc0⟩ := hT0.get hlt
    refine wp_seq_k (fun KK hKK => ?_)
    refine wp_region_seq (fun K hK => ?_)
    refine wpl_op rfl (Ex_move (by conv => lhs; whnf)) ?_
    refine wpl_op rfl (Ex_move (by conv => lhs; whnf)) ?_
    refine wpl_op rfl (Ex_len Try.underlying22 rfl) ?_
    refine wpl_op rfl (Ex_lss rfl rfl (decide_eq_true (by dsimp only at *; omega))) ?_
    refine wpl_nil (hK _ _ ?_)
    clear hK K
    refine wp_if_true rfl ?_
    refine wp_skip (hKK _ _ ?_)
    clear hKK KK
    refine wp_seq_k (fun K' hK' => ?_)
    refine wp_block ?_
    refine wp_region_seq (fun K hK => ?_)
    refine wpl_op rfl (Ex_move (by conv => lhs; whnf)) ?_
    refine wpl_op rfl (Ex_move (by conv => lhs; whnf)) ?_
    refine wpl_op rfl (Ex_move (by conv => lhs; whnf)) ?_
    refine wpl_op rfl (Ex_index1 Try.underlying22 size_22 rfl rfl hlt) ?_
    refine wpl_op rfl (Ex_load one9 rfl (hc0 k hlt)) ?_
    refine wpl_op rfl (Ex_lens Try.underlying9 rfl) ?_
    refine wpl_op rfl (Ex_addw rfl rfl) ?_
    refine wpl_op rfl (Ex_addw rfl rfl) ?_
    refine wpl_op rfl (Ex_assign (by conv => lhs; whnf)) ?_
    refine wpl_nil (hK _ _ ?_)
    clear hK K
    refine wp_region_seq (fun K hK => ?_)
    refine wpl_op rfl (Ex_move (by conv => lhs; whnf)) ?_
    refine wpl_op rfl (Ex_gtr rfl rfl rfl) ?_
    refine wpl_nil (hK _ _ ?_)
    clear hK K
    refine wp_if rfl (fun ht => ?_) (fun hf => ?_)
    · skip
      refine wp_region_seq (fun K hK => ?_)
      refine wpl_op rfl (Ex_assign (by conv => lhs; whnf)) ?_
      refine wpl_nil (hK _ _ ?_)
      clear hK K
      refine wp_ret ?_
      repeat (first | refine out_block ?_ | refine out_then ?_)
      refine ret_tmp Try.results5 ⟨rfl, Below.refl _ _⟩
    · refine wp_skip ?_
      refine hK' _ _ ?_
      refine wp_region_last ?_
      refine wpl_op rfl (Ex_move (by conv => lhs; whnf)) ?_
      refine wpl_op rfl (Ex_inc rfl rfl (by dsimp only at *; omega)) ?_
      refine wpl_op rfl (Ex_assign (by conv => lhs; whnf)) ?_
      refine wpl_nil ?_
      exact hR _ _ _ (k + 1, _) ⟨rfl, rfl, rfl, rfl, rfl, rfl, trivial⟩ ⟨rfl, by dsimp only at *; omega⟩ (by dsimp only at *; omega)
  · skip
    refine wp_seq_k (fun KK hKK => ?_)
    refine wp_region_seq (fun K hK => ?_)
    refine wpl_op rfl (Ex_move (by conv => lhs; whnf)) ?_
    refine wpl_op rfl (Ex_move (by conv => lhs; whnf)) ?_
    refine wpl_op rfl (Ex_len Try.underlying22 rfl) ?_
    refine wpl_op rfl (Ex_lss rfl rfl (decide_eq_false (by dsimp only at *; omega))) ?_
    refine wpl_nil (hK _ _ ?_)
    clear hK K
    refine wp_if_false rfl ?_
    refine wp_exit ?_
    clear hKK
    refine hK0' _ _ ?_
    clear hK0' hR
    refine wp_norm [(0, .slice aK lK cK), (1, .slice aT lT cT), (2, .slice aC lC cC), (3, .slice aP lP cP)] ⟨rfl, rfl, rfl, rfl, trivial⟩ (fun u => ?_)
    clear hlt hk z k
    refine wp_region_seq (fun K hK => ?_)
    refine wpl_op rfl (Ex_move (by conv => lhs; whnf)) ?_
    refine wpl_op rfl (Ex_len Try.underlying37 rfl) ?_
    refine wpl_op rfl (Ex_assign (by conv => lhs; whnf)) ?_
    refine wpl_nil (hK _ _ ?_)
    clear hK K
    refine wp_seq_k (fun K1 hK1 => ?_)
    have h2 : ∀ uu ll (m : Nat), m ≤ lK → m ≤ lT → Agree uu ll [(0, .slice aK lK cK), (1, .slice aT lT cT), (2, .slice aC lC cC), (3, .slice aP lP cP), (11, .int .i64 (m : Int))] → K1 (fr 203 uu ll) w := by
      intro uu ll m hmK hmT hag
      refine hK1 _ _ ?_
      rw [fr_norm _ hag]
      generalize Fr.look uu ll = uu
      clear hK1 hag
      refine wp_seq_k (fun K2 hK2 => ?_)
      have h3 : ∀ uu ll (n : Nat), n ≤ lK → n ≤ lT → n ≤ lC → Agree uu ll [(0, .slice aK lK cK), (1, .slice aT lT cT), (2, .slice aC lC cC), (3, .slice aP lP cP), (11, .int .i64 (n : Int))] → K2 (fr 203 uu ll) w := by
        intro uu ll n hnK hnT hnC hag
        refine hK2 _ _ ?_
        rw [fr_norm _ hag]
        generalize Fr.look uu ll = uu
        clear hK2 hag hmK hmT m
        exact walk2 aK aT aC aP lK cK lT cT lC cC lP cP n zK zT zC zP w hK0 hT0 hC0 hP0 (by omega) (by omega) hnK hnT hnC uu
      by_cases e : (lC : Int) < m
      · skip
        refine wp_region_seq (fun K hK => ?_)
        refine wpl_op rfl (Ex_move (by conv => lhs; whnf)) ?_
        refine wpl_op rfl (Ex_len Try.underlying37 rfl) ?_
        refine wpl_op rfl (Ex_move (by conv => lhs; whnf)) ?_
        refine wpl_op rfl (Ex_lss rfl rfl (decide_eq_true e)) ?_
        refine wpl_nil (hK _ _ ?_)
        clear hK K
        refine wp_if_true rfl ?_
        refine wp_region_last ?_
        refine wpl_op rfl (Ex_move (by conv => lhs; whnf)) ?_
        refine wpl_op rfl (Ex_len Try.underlying37 rfl) ?_
        refine wpl_op rfl (Ex_assign (by conv => lhs; whnf)) ?_
        refine wpl_nil ?_
        exact h3 _ _ lC (by omega) (by omega) (Nat.le_refl _) ⟨rfl, rfl, rfl, rfl, rfl, trivial⟩
      · skip
        refine wp_region_seq (fun K hK => ?_)
        refine wpl_op rfl (Ex_move (by conv => lhs; whnf)) ?_
        refine wpl_op rfl (Ex_len Try.underlying37 rfl) ?_
        refine wpl_op rfl (Ex_move (by conv => lhs; whnf)) ?_
        refine wpl_op rfl (Ex_lss rfl rfl (decide_eq_false e)) ?_
        refine wpl_nil (hK _ _ ?_)
        clear hK K
        refine wp_if_false rfl ?_
        refine wp_skip ?_
        exact h3 _ _ m (by omega) (by omega) (by omega) ⟨rfl, rfl, rfl, rfl, rfl, trivial⟩
    by_cases e : (lT : Int) < lK
    · skip
      refine wp_region_seq (fun K hK => ?_)
      refine wpl_op rfl (Ex_move (by conv => lhs; whnf)) ?_
      refine wpl_op rfl (Ex_len Try.underlying22 rfl) ?_
      refine wpl_op rfl (Ex_move (by conv => lhs; whnf)) ?_
      refine wpl_op rfl (Ex_lss rfl rfl (decide_eq_true e)) ?_
      refine wpl_nil (hK _ _ ?_)
      clear hK K
      refine wp_if_true rfl ?_
      refine wp_region_last ?_
      refine wpl_op rfl (Ex_move (by conv => lhs; whnf)) ?_
      refine wpl_op rfl (Ex_len Try.underlying22 rfl) ?_
      refine wpl_op rfl (Ex_assign (by conv => lhs; whnf)) ?_
      refine wpl_nil ?_
      exact h2 _ _ lT (by omega) (Nat.le_refl _) ⟨rfl, rfl, rfl, rfl, rfl, trivial⟩
    · skip
      refine wp_region_seq (fun K hK => ?_)
      refine wpl_op rfl (Ex_move (by conv => lhs; whnf)) ?_
      refine wpl_op rfl (Ex_len Try.underlying22 rfl) ?_
      refine wpl_op rfl (Ex_move (by conv => lhs; whnf)) ?_
      refine wpl_op rfl (Ex_lss rfl rfl (decide_eq_false e)) ?_
      refine wpl_nil (hK _ _ ?_)
      clear hK K
      refine wp_if_false rfl ?_
      refine wp_skip ?_
      exact h2 _ _ lK (Nat.le_refl _) (by omega) ⟨rfl, rfl, rfl, rfl, rfl, trivial⟩
end Go.Proofs.Qxb6613839a.Peek
