import Derived.Test.Qxb6613881aOAb
namespace Go.Proofs.Qxb6613881a.OA
open Go.Fr Go.RowKit

theorem bne_ff (b : Bool) : (b != b) = false := by cases b <;> rfl
theorem size62 : ∀ w, (sizeOf 62).run Try.prog w = .ok 21 w := fun w => by simp [go_sem]
theorem zero33 : ∀ w, (zeroValue 33).run Try.prog w = .ok (.agg #[.pointer none, .int .i64 0, .slice none 0 0, .slice none 0 0, .pointer none, .int .i64 0, .bool false, .int .i64 0, .pointer none]) w := fun w => by simp [go_sem]
theorem Ex_addn {P : Program} {ρ : Operand → Value} {ty t t' : TypeId} {w : World} {x y : Operand} {m n : Nat} (hx : ρ x = .int .i64 (m : Int)) (hy : ρ y = .int .i64 (n : Int)) (h : m + n ≤ 9223372036854775807) : Ex P ρ (.binOp .add t x y t') ty w (.int .i64 ((m + n : Nat) : Int)) w :=
  Ex_add hx hy (by omega) (by omega)
theorem tally_b (g n k : Nat) (p : Nat → Addr) (w : World) (hv : View w g n p) (hk : k < n) : Ret Try.prog 14 #[.pointer (some ⟨g, 0, none⟩), .int .i64 k] w fun v w' => v = .pointer (some (p k)) ∧ Below w.heap.size w w' :=
  (tally_ret g n k p w hv hk).mono fun _ _ ⟨e, h⟩ => ⟨e, h ▸ Below.refl _ _⟩
theorem count_b (a0 : Option Addr) (n c0 : Nat) (z : Nat → Int) (w : World) (h0 : IntsAt w a0 n z) (hn : n ≤ 1000000) : Ret Try.prog 10 #[.slice a0 n c0] w fun v w' => v = .int .i64 (cnt z n : Int) ∧ Below w.heap.size w w' :=
  (count_ret a0 n c0 z w h0 hn).mono fun _ _ ⟨e, h⟩ => ⟨e, h ▸ Below.refl _ _⟩
theorem cnt_split (z : Nat → Int) (c d : Nat) : cnt z (c + d) = cnt z c + cnt (fun i => z (i + c)) d := by
  rw [← posL_len, ← posL_len, ← posL_len, posL_split]; simp
theorem kd_head (z : Nat → Int) (c d i : Nat) (h : i < cnt z c) : kd z (c + d) i = kd z c i := by
  unfold kd
  rw [posL_split, List.getD_eq_getElem?_getD, List.getD_eq_getElem?_getD, List.getElem?_append_left (by rw [posL_len]; exact h)]
theorem kd_tail (z : Nat → Int) (c d j : Nat) (h : j < cnt (fun i => z (i + c)) d) : kd z (c + d) (cnt z c + j) = kd (fun i => z (i + c)) d j + c := by
  have hg := kd_get h
  unfold kd
  rw [posL_split, List.getD_eq_getElem?_getD, List.getElem?_append_right (by rw [posL_len]; omega), posL_len, Nat.add_sub_cancel_left, List.getElem?_map, hg]
  simp [kd]
/-- The kind before number i; -1 ahead of the first. -/
def prv (z : Nat → Int) (n : Nat) : Nat → Int
  | 0 => -1
  | i + 1 => (kd z n i : Int)
theorem prv_lt (z : Nat → Int) (n i : Nat) (h : i < cnt z n) : prv z n i < (kd z n i : Int) := by
  cases i with
  | zero => show (-1 : Int) < _; omega
  | succ i => have := kd_mono z n i h; show (kd z n i : Int) < _; omega
/-- A variable that holds an amount. -/
def Hold (w : World) (g : Nat) (cs : List Value) : Prop := w.heap[g]? = some (.cells cs.toArray 33 (0, 0))
theorem Hold.cells {w : World} {g : Nat} {cs : List Value} (h : Hold w g cs) : ∀ j u, cs[j]? = some u → w.cell? ⟨g, 0 + j, none⟩ = some u := by
  intro j v hv
  rw [Nat.zero_add]
  exact cell_at h (by simpa using hv)
theorem Hold.later {w w' : World} {g : Nat} {cs : List Value} (h : Hold w g cs) (hb : Below w.heap.size w w') : Hold w' g cs := by
  unfold Hold at *
  rw [hb.block g (lt_of_heap h)]; exact h
theorem Hold.fresh (w : World) (z : Array Value) (cs : List Value) (hz : z.size = 9) : Hold ((w.alloc (.cells z 33)).setRow w.heap.size (z.toList.take 0 ++ cs ++ z.toList.drop (0 + 9)).toArray) w.heap.size cs := by
  have hd : z.toList.drop 9 = [] := List.drop_of_length_le (by simp [hz])
  have e : (z.toList.take 0 ++ cs ++ z.toList.drop (0 + 9)) = cs := by simp [hd]
  rw [e]
  exact setRow_heap _ _ _ _ 33 (0, 0) (heap_new w _)
theorem fresh_below (w : World) (z cs : Array Value) : Below w.heap.size w ((w.alloc (.cells z 33)).setRow w.heap.size cs) :=
  below_setRow ((Below.refl _ _).alloc (Nat.le_refl _) _) (Nat.le_refl _) _
theorem Amts.get {w : World} {a : Option Addr} {p : Nat → Addr} {z : Nat → Int} {n i : Nat} (h : Amts w a p z n) (hi : i < cnt z n) : ∃ g, a = some ⟨g, 0, none⟩ ∧ ∀ i, i < cnt z n → ∀ j u, (amt (p (kd z n i)) (z (kd z n i)) (kd z n i) (decide (0 < i)))[j]? = some u → w.cell? ⟨g, 0 + i * 9 + j, none⟩ = some u := by
  rcases h with h | ⟨g, ha, hc⟩
  · omega
  · exact ⟨g, ha, fun i hi j u hu => by rw [Nat.zero_add]; exact hc i hi j u hu⟩


/-- want[:k], as a slice of numbers. -/
theorem slice_h {P : Program} {ρ : Operand → Value} {ty t e : TypeId} {w : World} {x y : Operand} {a : Option Addr} {n c k : Nat} {z : Nat → Int} (hu : P.underlying t = some (.slice e)) (hs : ∀ w, (sizeOf e).run P w = .ok 1 w) (hx : ρ x = .slice a n c) (hy : ρ y = .int .i64 (k : Int)) (hk : k ≤ n) (hc : n ≤ c) (h : IntsAt w a n z) :
    ∃ v w', Ex P ρ (.slice t x none (some y) none) ty w v w' ∧ (∃ a', v = .slice a' k c ∧ IntsAt w a' k z) ∧ w = w' := by
  obtain ⟨a', h1, h2⟩ := Ex_sliceh (P := P) (ρ := ρ) (ty := ty) hu hs hx hy (Nat.le_trans hk hc)
  refine ⟨_, w, h1 w, ⟨a', rfl, ?_⟩, rfl⟩
  rcases h with h | ⟨b, o, ha, hcell⟩
  · exact .inl (by omega)
  · exact .inr ⟨b, o, h2 b o ha, fun i hi => hcell i (by omega)⟩
/-- want[k:], as a slice of numbers. -/
theorem slice_l {P : Program} {ρ : Operand → Value} {ty t e : TypeId} {w : World} {x y : Operand} {a : Option Addr} {n c k : Nat} {z : Nat → Int} (hu : P.underlying t = some (.slice e)) (hs : ∀ w, (sizeOf e).run P w = .ok 1 w) (hx : ρ x = .slice a n c) (hy : ρ y = .int .i64 (k : Int)) (hk : k ≤ n) (hc : n ≤ c) (h : IntsAt w a n z) :
    ∃ v w', Ex P ρ (.slice t x (some y) none none) ty w v w' ∧ (∃ a', v = .slice a' (n - k) (c - k) ∧ IntsAt w a' (n - k) (fun i => z (i + k))) ∧ w = w' := by
  obtain ⟨a', h1, h2⟩ := Ex_slicel (P := P) (ρ := ρ) (ty := ty) hu hs hx hy hk hc
  refine ⟨_, w, h1 w, ⟨a', rfl, ?_⟩, rfl⟩
  by_cases hnk : n - k = 0
  · exact .inl hnk
  · rcases h with h | ⟨b, o, ha, hcell⟩
    · exact .inl (by omega)
    · refine .inr ⟨b, o + k * 1, h2 b o (by omega) ha, fun i hi => ?_⟩
      have := hcell (i + k) (by omega)
      rw [show o + k * 1 + i = o + (i + k) by omega]
      exact this
/-- 'copy' of a slice of numbers into a row of the call's own. -/
theorem copy_i {P : Program} {ρ : Operand → Value} {ty dT sT e t : TypeId} {w w0 : World} {x y : Operand} {g n c c' k0 : Nat} {a : Option Addr} {z : Nat → Int} {f0 : Nat → Value} (hu : P.underlying dT = some (.slice e)) (hs : (P.info? e).map (·.size) = some 1)
    (hx : ρ x = .slice (some ⟨g, 0, none⟩) n c) (hy : ρ y = .slice a n c') (hown : Own w g t n k0 f0) (ha : IntsAt w a n z) (hb : Below w0.heap.size w0 w) (hg : w0.heap.size ≤ g) :
    ∃ v w', Ex P ρ (.call { callee := .builtin .copy, args := #[x, y], argTypes := #[dT, sT] }) ty w v w' ∧ Own w' g t n n (fun i => .int .i64 (z i)) ∧ Below w0.heap.size w0 w' := by
  obtain ⟨w', h1, h2, h3⟩ := Ex_copy (P := P) (ρ := ρ) (ty := ty) (f := fun i => .int .i64 (z i)) hu hs hx hy hown ha (fun _ => rfl)
  exact ⟨_, w', h1, h2, h3 _ _ hb hg⟩

def codeAt : List Nat → Code → Code
  | [], c => c
  | 0 :: p, .seq x _ => codeAt p x
  | _ :: p, .seq _ y => codeAt p y
  | _, c => c


theorem rest3b (aW aHd aTl a1 : Option Addr) (cut d c1 gv cW cHd cTl : Nat) (z : Nat → Int) (p : Nat → Addr) (w0 w : World) (hb : Below w0.heap.size w0 w) (hW : Amts w aW p z (cut + d)) (hH : Amts w aHd p z cut) (hT : Amts w aTl p (fun i => z (i + cut)) d)
    (hv : View w gv (cut + d) p) (hn : cut + d ≤ 65536) (u : Nat → Value) :
    Code.wp Try.prog (codeAt [1, 1, 1, 1, 1, 1, 1] (codeAt [1, 1, 1, 1, 1] (Try.f3.body.getD .skip))) (post Try.prog Try.f3 fun v w' => v = .bool true ∧ Below w0.heap.size w0 w') (fr 369 u [(0, .slice a1 (cut + d : Nat) c1), (1, .int .i64 cut), (6, .pointer (some ⟨gv, 0, none⟩)), (7, .slice aW (cnt z (cut + d)) cW), (8, .slice aHd (cnt z cut) cHd), (9, .slice aTl (cnt (fun i => z (i + cut)) d) cTl)]) w := by
  conv => arg 2; whnf
  have hsplit := cnt_split z cut d
  have hcl := cnt_le z (cut + d)
  refine wp_seq_k (fun K1 hK1 => ?_)
  refine wp_region_seq (fun K hK => ?_)
  refine wpl_op rfl (Ex_assign (by conv => lhs; whnf)) ?_
  refine wpl_nil (hK _ _ ?_)
  clear hK K
  refine wp_block ?_
  refine wp_loop_st (fun i : Nat => [(0, .slice a1 (cut + d : Nat) c1), (1, .int .i64 cut), (6, .pointer (some ⟨gv, 0, none⟩)), (7, .slice aW (cnt z (cut + d)) cW), (8, .slice aHd (cnt z cut) cHd), (9, .slice aTl (cnt (fun i => z (i + cut)) d) cTl), (13, .int .i64 (i : Int))])
    (fun i w' => Below w.heap.size w w' ∧ i ≤ cnt z cut) (fun i => cnt z cut - i) 0 ⟨rfl, rfl, rfl, rfl, rfl, rfl, rfl, trivial⟩ ⟨Below.refl _ _, Nat.zero_le _⟩ ?_
  rintro i u w6 ⟨hb6, hi⟩ R hR
  by_cases hlt : i < cnt z cut
  · have hltW : i < cnt z (cut + d) := by omega
    obtain ⟨gW, rfl, hWc⟩ := (hW.later hb6).get hltW
    obtain ⟨gH, rfl, hHc⟩ := (hH.later hb6).get hlt
    have hwi := hWc i hltW
    have hhi := hHc i hlt
    rw [kd_head z cut d i hlt] at hwi
    refine wp_seq_k (fun KK hKK => ?_)
    refine wp_region_seq (fun K hK => ?_)
    refine wpl_op rfl (Ex_move (by conv => lhs; whnf)) ?_
    refine wpl_op rfl (Ex_move (by conv => lhs; whnf)) ?_
    refine wpl_op rfl (Ex_len Try.underlying26 rfl) ?_
    refine wpl_op rfl (Ex_lss rfl rfl (decide_eq_true (by omega))) ?_
    refine wpl_nil (hK _ _ ?_)
    clear hK K
    refine wp_if_true rfl ?_
    refine wp_skip (hKK _ _ ?_)
    clear hKK KK
    refine wp_seq_k (fun K' hK' => ?_)
    refine wp_block ?_
    refine wp_seq_k (fun KK hKK => ?_)
    refine wp_quiet_seq (by kernel_rfl) (by kernel_rfl) (fun K hK => ?_)
    refine wpq_op (fun w hw => Ex_move (by conv => lhs; whnf)) ?_
    refine wpq_op (fun w hw => Ex_move (by conv => lhs; whnf)) ?_
    refine wpq_op (fun w hw => Ex_index Try.underlying26 size_26 rfl rfl hlt) ?_
    refine wpq_op (fun w hw => Ex_loadagg (cs := amt (p (kd z cut i)) (z (kd z cut i)) (kd z cut i) (decide (0 < i))) agg33 rfl rfl (fun j u hu => cell_later hw (hhi j u hu))) ?_
    refine wpq_call (fun w => ExC_func ent11 rfl rfl) (fun w hw => kind_ret _ _ _ _ w) ?_
    refine wpq_op (fun w hw => Ex_move (by conv => lhs; whnf)) ?_
    refine wpq_op (fun w hw => Ex_move (by conv => lhs; whnf)) ?_
    refine wpq_op (fun w hw => Ex_index Try.underlying26 size_26 rfl rfl hltW) ?_
    refine wpq_op (fun w hw => Ex_loadagg (cs := amt (p (kd z cut i)) (z (kd z cut i)) (kd z cut i) (decide (0 < i))) agg33 rfl rfl (fun j u hu => cell_later hw (hwi j u hu))) ?_
    refine wpq_call (fun w => ExC_func ent11 rfl rfl) (fun w hw => kind_ret _ _ _ _ w) ?_
    refine wpq_op (fun w hw => Ex_neq rfl rfl (ne_f (by first | rfl | omega))) ?_
    refine wpq_op (fun w hw => Ex_move (by conv => lhs; whnf)) ?_
    refine wpq_opg (by exact rfl) (by exact rfl) (fun w hw => Ex_move (by conv => lhs; whnf)) ?_
    refine wpq_opg (by exact rfl) (by exact rfl) (fun w hw => Ex_move (by conv => lhs; whnf)) ?_
    refine wpq_opg (by exact rfl) (by exact rfl) (fun w hw => Ex_index Try.underlying26 size_26 rfl rfl hlt) ?_
    refine wpq_opg (by exact rfl) (by exact rfl) (fun w hw => Ex_loadagg (cs := amt (p (kd z cut i)) (z (kd z cut i)) (kd z cut i) (decide (0 < i))) agg33 rfl rfl (fun j u hu => cell_later hw (hhi j u hu))) ?_
    refine wpq_callg (by exact rfl) (by exact rfl) (fun w => ExC_func ent12 rfl rfl) (fun w hw => want_ret _ _ _ _ w) ?_
    refine wpq_opg (by exact rfl) (by exact rfl) (fun w hw => Ex_move (by conv => lhs; whnf)) ?_
    refine wpq_opg (by exact rfl) (by exact rfl) (fun w hw => Ex_move (by conv => lhs; whnf)) ?_
    refine wpq_opg (by exact rfl) (by exact rfl) (fun w hw => Ex_index Try.underlying26 size_26 rfl rfl hltW) ?_
    refine wpq_opg (by exact rfl) (by exact rfl) (fun w hw => Ex_loadagg (cs := amt (p (kd z cut i)) (z (kd z cut i)) (kd z cut i) (decide (0 < i))) agg33 rfl rfl (fun j u hu => cell_later hw (hwi j u hu))) ?_
    refine wpq_callg (by exact rfl) (by exact rfl) (fun w => ExC_func ent12 rfl rfl) (fun w hw => want_ret _ _ _ _ w) ?_
    refine wpq_opg (by exact rfl) (by exact rfl) (fun w hw => Ex_neq rfl rfl (ne_f (by first | rfl | omega))) ?_
    refine wpq_op (fun w hw => Ex_pick rfl (by conv => lhs; whnf)) ?_
    refine wpq_op (fun w hw => Ex_move (by conv => lhs; whnf)) ?_
    refine wpq_opg (by exact rfl) (by exact rfl) (fun w hw => Ex_move (by conv => lhs; whnf)) ?_
    refine wpq_opg (by exact rfl) (by exact rfl) (fun w hw => Ex_move (by conv => lhs; whnf)) ?_
    refine wpq_opg (by exact rfl) (by exact rfl) (fun w hw => Ex_index Try.underlying26 size_26 rfl rfl hlt) ?_
    refine wpq_opg (by exact rfl) (by exact rfl) (fun w hw => Ex_loadagg (cs := amt (p (kd z cut i)) (z (kd z cut i)) (kd z cut i) (decide (0 < i))) agg33 rfl rfl (fun j u hu => cell_later hw (hhi j u hu))) ?_
    refine wpq_callg (by exact rfl) (by exact rfl) (fun w => ExC_func ent15 rfl rfl) (fun w hw => linked_ret _ _ _ _ w) ?_
    refine wpq_opg (by exact rfl) (by exact rfl) (fun w hw => Ex_move (by conv => lhs; whnf)) ?_
    refine wpq_opg (by exact rfl) (by exact rfl) (fun w hw => Ex_move (by conv => lhs; whnf)) ?_
    refine wpq_opg (by exact rfl) (by exact rfl) (fun w hw => Ex_index Try.underlying26 size_26 rfl rfl hltW) ?_
    refine wpq_opg (by exact rfl) (by exact rfl) (fun w hw => Ex_loadagg (cs := amt (p (kd z cut i)) (z (kd z cut i)) (kd z cut i) (decide (0 < i))) agg33 rfl rfl (fun j u hu => cell_later hw (hwi j u hu))) ?_
    refine wpq_callg (by exact rfl) (by exact rfl) (fun w => ExC_func ent15 rfl rfl) (fun w hw => linked_ret _ _ _ _ w) ?_
    refine wpq_opg (by exact rfl) (by exact rfl) (fun w hw => Ex_neqb Try.underlying4 rfl rfl (bne_ff _)) ?_
    refine wpq_op (fun w hw => Ex_pick rfl (by conv => lhs; whnf)) ?_
    refine wpq_op (fun w hw => Ex_move (by conv => lhs; whnf)) ?_
    refine wpq_opg (by exact rfl) (by exact rfl) (fun w hw => Ex_move (by conv => lhs; whnf)) ?_
    refine wpq_opg (by exact rfl) (by exact rfl) (fun w hw => Ex_move (by conv => lhs; whnf)) ?_
    refine wpq_opg (by exact rfl) (by exact rfl) (fun w hw => Ex_index Try.underlying26 size_26 rfl rfl hlt) ?_
    refine wpq_opg (by exact rfl) (by exact rfl) (fun w hw => Ex_loadagg (cs := amt (p (kd z cut i)) (z (kd z cut i)) (kd z cut i) (decide (0 < i))) agg33 rfl rfl (fun j u hu => cell_later hw (hhi j u hu))) ?_
    refine wpq_callg (by exact rfl) (by exact rfl) (fun w => ExC_func ent13 rfl rfl) (fun w hw => units_ret _ _ _ _ w) ?_
    refine wpq_opg (by exact rfl) (by exact rfl) (fun w hw => Ex_move (by conv => lhs; whnf)) ?_
    refine wpq_opg (by exact rfl) (by exact rfl) (fun w hw => Ex_move (by conv => lhs; whnf)) ?_
    refine wpq_opg (by exact rfl) (by exact rfl) (fun w hw => Ex_index Try.underlying26 size_26 rfl rfl hltW) ?_
    refine wpq_opg (by exact rfl) (by exact rfl) (fun w hw => Ex_loadagg (cs := amt (p (kd z cut i)) (z (kd z cut i)) (kd z cut i) (decide (0 < i))) agg33 rfl rfl (fun j u hu => cell_later hw (hwi j u hu))) ?_
    refine wpq_callg (by exact rfl) (by exact rfl) (fun w => ExC_func ent13 rfl rfl) (fun w hw => units_ret _ _ _ _ w) ?_
    refine wpq_opg (by exact rfl) (by exact rfl) (fun w hw => Ex_neqp_same Try.underlying30 size62 rfl rfl) ?_
    refine wpq_op (fun w hw => Ex_pick rfl (by conv => lhs; whnf)) ?_
    refine wpq_nil (fun w7 hw7 => hK _ _ ?_)
    clear hK K
    refine wp_if_false rfl ?_
    refine wp_skip (hKK _ _ ?_)
    clear hKK KK
    replace hhi := fun j u hu => cell_later hw7 (hhi j u hu)
    refine wp_sq_seq (fun K hK => ?_)
    refine wpq_op (fun w hw => Ex_move (by conv => lhs; whnf)) ?_
    refine wpq_op (fun w hw => Ex_move (by conv => lhs; whnf)) ?_
    refine wpq_op (fun w hw => Ex_index Try.underlying26 size_26 rfl rfl hlt) ?_
    refine wpq_op (fun w hw => Ex_loadagg (cs := amt (p (kd z cut i)) (z (kd z cut i)) (kd z cut i) (decide (0 < i))) agg33 rfl rfl (fun j u hu => cell_later hw (hhi j u hu))) ?_
    refine wpq_call (fun w => ExC_func ent16 rfl rfl) (fun w hw => reused_ret _ _ _ _ w) ?_
    refine wpq_op (fun w hw => Ex_neqnil Try.underlying22 rfl rfl rfl) ?_
    refine wpq_op (fun w hw => Ex_move (by conv => lhs; whnf)) ?_
    refine wpq_opg (by exact rfl) (by exact rfl) (fun w hw => Ex_move (by conv => lhs; whnf)) ?_
    refine wpq_opg (by exact rfl) (by exact rfl) (fun w hw => Ex_move (by conv => lhs; whnf)) ?_
    refine wpq_opg (by exact rfl) (by exact rfl) (fun w hw => Ex_index Try.underlying26 size_26 rfl rfl hlt) ?_
    refine wpq_opg (by exact rfl) (by exact rfl) (fun w hw => Ex_loadagg (cs := amt (p (kd z cut i)) (z (kd z cut i)) (kd z cut i) (decide (0 < i))) agg33 rfl rfl (fun j u hu => cell_later hw (hhi j u hu))) ?_
    refine wpq_callg (by exact rfl) (by exact rfl) (fun w => ExC_func ent17 rfl rfl) (fun w hw => among_ret _ _ _ _ w) ?_
    refine wpq_opg (by exact rfl) (by exact rfl) (fun w hw => Ex_neqnil Try.underlying22 rfl rfl rfl) ?_
    refine wpq_op (fun w hw => Ex_pick rfl (by conv => lhs; whnf)) ?_
    refine wpq_op (fun w hw => Ex_move (by conv => lhs; whnf)) ?_
    refine wpq_opg (by exact rfl) (by exact rfl) (fun w hw => Ex_move (by conv => lhs; whnf)) ?_
    refine wpq_opg (by exact rfl) (by exact rfl) (fun w hw => Ex_move (by conv => lhs; whnf)) ?_
    refine wpq_opg (by exact rfl) (by exact rfl) (fun w hw => Ex_index Try.underlying26 size_26 rfl rfl hlt) ?_
    refine wpq_opg (by exact rfl) (by exact rfl) (fun w hw => Ex_loadagg (cs := amt (p (kd z cut i)) (z (kd z cut i)) (kd z cut i) (decide (0 < i))) agg33 rfl rfl (fun j u hu => cell_later hw (hhi j u hu))) ?_
    refine wpq_callg (by exact rfl) (by exact rfl) (fun w => ExC_func ent18 rfl rfl) (fun w hw => groups_ret _ _ _ _ w) ?_
    refine wpq_opg (by exact rfl) (by exact rfl) (fun w hw => Ex_neqp_nil Try.underlying24 rfl rfl) ?_
    refine wpq_op (fun w hw => Ex_pick rfl (by conv => lhs; whnf)) ?_
    refine wpq_op (fun w hw => Ex_move (by conv => lhs; whnf)) ?_
    refine wpq_opg (by exact rfl) (by exact rfl) (fun w hw => Ex_move (by conv => lhs; whnf)) ?_
    refine wpq_opg (by exact rfl) (by exact rfl) (fun w hw => Ex_move (by conv => lhs; whnf)) ?_
    refine wpq_opg (by exact rfl) (by exact rfl) (fun w hw => Ex_index Try.underlying26 size_26 rfl rfl hlt) ?_
    refine wpq_opg (by exact rfl) (by exact rfl) (fun w hw => Ex_loadagg (cs := amt (p (kd z cut i)) (z (kd z cut i)) (kd z cut i) (decide (0 < i))) agg33 rfl rfl (fun j u hu => cell_later hw (hhi j u hu))) ?_
    refine wpq_callg (by exact rfl) (by exact rfl) (fun w => ExC_func ent19 rfl rfl) (fun w hw => fewest_ret _ _ _ _ w) ?_
    refine wpq_opg (by exact rfl) (by exact rfl) (fun w hw => Ex_neq rfl rfl (ne_f (by first | rfl | omega))) ?_
    refine wpq_op (fun w hw => Ex_pick rfl (by conv => lhs; whnf)) ?_
    refine wpq_op (fun w hw => Ex_move (by conv => lhs; whnf)) ?_
    refine wpq_opg (by exact rfl) (by exact rfl) (fun w hw => Ex_move (by conv => lhs; whnf)) ?_
    refine wpq_opg (by exact rfl) (by exact rfl) (fun w hw => Ex_move (by conv => lhs; whnf)) ?_
    refine wpq_opg (by exact rfl) (by exact rfl) (fun w hw => Ex_index Try.underlying26 size_26 rfl rfl hlt) ?_
    refine wpq_opg (by exact rfl) (by exact rfl) (fun w hw => Ex_loadagg (cs := amt (p (kd z cut i)) (z (kd z cut i)) (kd z cut i) (decide (0 < i))) agg33 rfl rfl (fun j u hu => cell_later hw (hhi j u hu))) ?_
    refine wpq_callg (by exact rfl) (by exact rfl) (fun w => ExC_func ent20 rfl rfl) (fun w hw => sockets_ret _ _ _ _ w) ?_
    refine wpq_opg (by exact rfl) (by exact rfl) (fun w hw => Ex_neqp_nil Try.underlying31 rfl rfl) ?_
    refine wpq_op (fun w hw => Ex_pick rfl (by conv => lhs; whnf)) ?_
    refine wpq_nil (fun w8 hw8 => hK _ _ ?_)
    clear hK K
    refine wp_if_false rfl ?_
    refine wp_skip ?_
    refine hK' _ _ ?_
    refine wp_region_last ?_
    refine wpl_op rfl (Ex_move (by conv => lhs; whnf)) ?_
    refine wpl_op rfl (Ex_inc rfl rfl (by omega)) ?_
    refine wpl_op rfl (Ex_assign (by conv => lhs; whnf)) ?_
    refine wpl_nil ?_
    exact hR _ _ _ (i + 1) ⟨rfl, rfl, rfl, rfl, rfl, rfl, rfl, trivial⟩ ⟨(hb6.trans (hw7.mono hb6.size)).trans (hw8.mono (Nat.le_trans hb6.size hw7.size)), by omega⟩ (by omega)
  · skip
    refine wp_seq_k (fun KK hKK => ?_)
    refine wp_region_seq (fun K hK => ?_)
    refine wpl_op rfl (Ex_move (by conv => lhs; whnf)) ?_
    refine wpl_op rfl (Ex_move (by conv => lhs; whnf)) ?_
    refine wpl_op rfl (Ex_len Try.underlying26 rfl) ?_
    refine wpl_op rfl (Ex_lss rfl rfl (decide_eq_false (by omega))) ?_
    refine wpl_nil (hK _ _ ?_)
    clear hK K
    refine wp_if_false rfl ?_
    refine wp_exit ?_
    clear hKK
    refine hK1 _ _ ?_
    clear hK1 hR
    have hW := hW.later hb6
    have hT := hT.later hb6
    have hv := hv.later hb6
    replace hb := hb.trans (hb6.mono hb.size)
    refine wp_norm [(0, .slice a1 (cut + d : Nat) c1), (1, .int .i64 cut), (6, .pointer (some ⟨gv, 0, none⟩)), (7, .slice aW (cnt z (cut + d)) cW), (8, .slice aHd (cnt z cut) cHd), (9, .slice aTl (cnt (fun i => z (i + cut)) d) cTl)] ⟨rfl, rfl, rfl, rfl, rfl, rfl, trivial⟩ (fun u => ?_)
    clear hb6 hi hlt hH
    refine wp_seq_k (fun K1 hK1 => ?_)
    refine wp_region_seq (fun K hK => ?_)
    refine wpl_op rfl (Ex_assign (by conv => lhs; whnf)) ?_
    refine wpl_nil (hK _ _ ?_)
    clear hK K
    refine wp_block ?_
    refine wp_loop_st (fun j : Nat => [(0, .slice a1 (cut + d : Nat) c1), (1, .int .i64 cut), (6, .pointer (some ⟨gv, 0, none⟩)), (7, .slice aW (cnt z (cut + d)) cW), (8, .slice aHd (cnt z cut) cHd), (9, .slice aTl (cnt (fun i => z (i + cut)) d) cTl), (14, .int .i64 (j : Int))])
      (fun j w' => Below w6.heap.size w6 w' ∧ j ≤ cnt (fun i => z (i + cut)) d) (fun j => cnt (fun i => z (i + cut)) d - j) 0 ⟨rfl, rfl, rfl, rfl, rfl, rfl, rfl, trivial⟩ ⟨Below.refl _ _, Nat.zero_le _⟩ ?_
    rintro j u w7 ⟨hb7, hj⟩ R hR
    by_cases hlt : j < cnt (fun i => z (i + cut)) d
    · have hltW : cnt z cut + j < cnt z (cut + d) := by omega
      obtain ⟨gW, rfl, hWc⟩ := (hW.later hb7).get hltW
      obtain ⟨gT, rfl, hTc⟩ := (hT.later hb7).get hlt
      obtain ⟨hk1, hk2⟩ := kd_lt hlt
      have hwi := hWc (cnt z cut + j) hltW
      have hti := hTc j hlt
      have hv7 := hv.later hb7
      rw [kd_tail z cut d j hlt] at hwi
      generalize kd (fun i => z (i + cut)) d j = k at *
      replace hti : ∀ jj u, (amt (p k) (z (k + cut)) (k : Int) (decide (0 < j)))[jj]? = some u → w7.cell? ⟨gT, 0 + j * 9 + jj, none⟩ = some u := hti
      have hkn : k < cut + d := by omega
      refine wp_seq_k (fun KK hKK => ?_)
      refine wp_region_seq (fun K hK => ?_)
      refine wpl_op rfl (Ex_move (by conv => lhs; whnf)) ?_
      refine wpl_op rfl (Ex_move (by conv => lhs; whnf)) ?_
      refine wpl_op rfl (Ex_len Try.underlying26 rfl) ?_
      refine wpl_op rfl (Ex_lss rfl rfl (decide_eq_true (by omega))) ?_
      refine wpl_nil (hK _ _ ?_)
      clear hK K
      refine wp_if_true rfl ?_
      refine wp_skip (hKK _ _ ?_)
      clear hKK KK
      refine wp_seq_k (fun K' hK' => ?_)
      refine wp_block ?_
      by_cases hj0 : 0 < j
      · rw [decide_eq_true hj0] at hti
        rw [decide_eq_true (show 0 < cnt z cut + j by omega)] at hwi
        refine wp_region_seq (fun K hK => ?_)
        refine wpl_op rfl (Ex_move (by conv => lhs; whnf)) ?_
        refine wpl_op rfl (Ex_move (by conv => lhs; whnf)) ?_
        refine wpl_op rfl (Ex_len Try.underlying26 rfl) ?_
        refine wpl_op rfl (Ex_move (by conv => lhs; whnf)) ?_
        refine wpl_op rfl (Ex_addn rfl rfl (by omega)) ?_
        refine wpl_op rfl (Ex_index Try.underlying26 size_26 rfl rfl hltW) ?_
        refine wpl_op rfl (Ex_loadagg (cs := amt (p (k + cut)) (z (k + cut)) ((k + cut : Nat) : Int) true) agg33 rfl rfl hwi) ?_
        refine wpl_op rfl (Ex_alloc zero33) ?_
        refine wpl_op rfl (Ex_storeagg agg33 rfl rfl rfl rfl (heap_new _ _) (by decide)) ?_
        refine wpl_nil (hK _ _ ?_)
        clear hK K
        refine wp_gen (fun w8 => Hold w8 w7.heap.size (amt (p (k + cut)) (z (k + cut)) ((k + cut : Nat) : Int) true) ∧ Below w7.heap.size w7 w8) ⟨Hold.fresh w7 _ _ rfl, fresh_below w7 _ _⟩ (fun w8 hg8 => ?_)
        obtain ⟨hold, hb8⟩ := hg8
        replace hti := fun j u hu => cell_later hb8 (hti j u hu)
        replace hv7 := hv7.later hb8
        replace hb7 := hb7.trans (hb8.mono hb7.size)
        refine wp_sq_seq (fun K hK => ?_)
        refine wpq_op (fun w hw => Ex_loadagg (cs := amt (p (k + cut)) (z (k + cut)) ((k + cut : Nat) : Int) true) agg33 rfl rfl (fun j u hu => cell_later hw (hold.cells j u hu))) ?_
        refine wpq_call (fun w => ExC_func ent11 rfl rfl) (fun w hw => kind_ret _ _ _ _ w) ?_
        refine wpq_op (fun w hw => Ex_assign (by conv => lhs; whnf)) ?_
        refine wpq_nil (fun w9 hw9 => hK _ _ ?_)
        clear hK K
        replace hti := fun j u hu => cell_later hw9 (hti j u hu)
        replace hv7 := hv7.later hw9
        replace hb7 := hb7.trans (hw9.mono hb7.size)
        replace hold := hold.later hw9
        refine wp_sq_seq (fun K hK => ?_)
        refine wpq_op (fun w hw => Ex_move (by conv => lhs; whnf)) ?_
        refine wpq_op (fun w hw => Ex_move (by conv => lhs; whnf)) ?_
        refine wpq_op (fun w hw => Ex_index Try.underlying26 size_26 rfl rfl hlt) ?_
        refine wpq_op (fun w hw => Ex_loadagg (cs := amt (p k) (z (k + cut)) (k : Int) true) agg33 rfl rfl (fun j u hu => cell_later hw (hti j u hu))) ?_
        refine wpq_call (fun w => ExC_func ent11 rfl rfl) (fun w hw => kind_ret _ _ _ _ w) ?_
        refine wpq_op (fun w hw => Ex_assign (by conv => lhs; whnf)) ?_
        refine wpq_nil (fun w10 hw10 => hK _ _ ?_)
        clear hK K
        replace hti := fun j u hu => cell_later hw10 (hti j u hu)
        replace hv7 := hv7.later hw10
        replace hb7 := hb7.trans (hw10.mono hb7.size)
        replace hold := hold.later hw10
        refine wp_seq_k (fun KK hKK => ?_)
        refine wp_region_seq (fun K hK => ?_)
        refine wpl_op rfl (Ex_move (by conv => lhs; whnf)) ?_
        refine wpl_op rfl (Ex_move (by conv => lhs; whnf)) ?_
        refine wpl_op rfl (Ex_move (by conv => lhs; whnf)) ?_
        refine wpl_op rfl (Ex_addn rfl rfl (by omega)) ?_
        refine wpl_op rfl (Ex_neq rfl rfl (ne_f rfl)) ?_
        refine wpl_nil (hK _ _ ?_)
        clear hK K
        refine wp_if_false rfl ?_
        refine wp_skip (hKK _ _ ?_)
        clear hKK KK
        refine wp_seq_k (fun KK hKK => ?_)
        refine wp_quiet_seq (by kernel_rfl) (by kernel_rfl) (fun K hK => ?_)
        refine wpq_op (fun w hw => Ex_move (by conv => lhs; whnf)) ?_
        refine wpq_op (fun w hw => Ex_move (by conv => lhs; whnf)) ?_
        refine wpq_op (fun w hw => Ex_index Try.underlying26 size_26 rfl rfl hlt) ?_
        refine wpq_op (fun w hw => Ex_loadagg (cs := amt (p k) (z (k + cut)) (k : Int) true) agg33 rfl rfl (fun j u hu => cell_later hw (hti j u hu))) ?_
        refine wpq_call (fun w => ExC_func ent12 rfl rfl) (fun w hw => want_ret _ _ _ _ w) ?_
        refine wpq_op (fun w hw => Ex_loadagg (cs := amt (p (k + cut)) (z (k + cut)) ((k + cut : Nat) : Int) true) agg33 rfl rfl (fun j u hu => cell_later hw (hold.cells j u hu))) ?_
        refine wpq_call (fun w => ExC_func ent12 rfl rfl) (fun w hw => want_ret _ _ _ _ w) ?_
        refine wpq_op (fun w hw => Ex_neq rfl rfl (ne_f (by first | rfl | omega))) ?_
        refine wpq_nil (fun w11 hw11 => hK _ _ ?_)
        clear hK K
        refine wp_if_false rfl ?_
        refine wp_skip (hKK _ _ ?_)
        clear hKK KK
        replace hti := fun j u hu => cell_later hw11 (hti j u hu)
        replace hv7 := hv7.later hw11
        replace hb7 := hb7.trans (hw11.mono hb7.size)
        replace hold := hold.later hw11
        refine wp_seq_k (fun KK hKK => ?_)
        refine wp_sq_seq (fun K hK => ?_)
        refine wpq_op (fun w hw => Ex_move (by conv => lhs; whnf)) ?_
        refine wpq_op (fun w hw => Ex_move (by conv => lhs; whnf)) ?_
        refine wpq_op (fun w hw => Ex_index Try.underlying26 size_26 rfl rfl hlt) ?_
        refine wpq_op (fun w hw => Ex_loadagg (cs := amt (p k) (z (k + cut)) (k : Int) true) agg33 rfl rfl (fun j u hu => cell_later hw (hti j u hu))) ?_
        refine wpq_call (fun w => ExC_func ent13 rfl rfl) (fun w hw => units_ret _ _ _ _ w) ?_
        refine wpq_op (fun w hw => Ex_move (by conv => lhs; whnf)) ?_
        refine wpq_op (fun w hw => Ex_move (by conv => lhs; whnf)) ?_
        refine wpq_call (fun w => ExC_func ent14 rfl rfl) (fun w hw => tally_b gv (cut + d) _ p w (hv7.later hw) hkn) ?_
        refine wpq_op (fun w hw => Ex_neqp_same Try.underlying30 size62 rfl rfl) ?_
        refine wpq_nil (fun w12 hw12 => hK _ _ ?_)
        clear hK K
        refine wp_if_false rfl ?_
        refine wp_skip (hKK _ _ ?_)
        clear hKK KK
        replace hti := fun j u hu => cell_later hw12 (hti j u hu)
        replace hv7 := hv7.later hw12
        replace hb7 := hb7.trans (hw12.mono hb7.size)
        replace hold := hold.later hw12
        refine wp_sq_seq (fun K hK => ?_)
        refine wpq_op (fun w hw => Ex_move (by conv => lhs; whnf)) ?_
        refine wpq_op (fun w hw => Ex_move (by conv => lhs; whnf)) ?_
        refine wpq_op (fun w hw => Ex_index Try.underlying26 size_26 rfl rfl hlt) ?_
        refine wpq_op (fun w hw => Ex_loadagg (cs := amt (p k) (z (k + cut)) (k : Int) true) agg33 rfl rfl (fun j u hu => cell_later hw (hti j u hu))) ?_
        refine wpq_call (fun w => ExC_func ent15 rfl rfl) (fun w hw => linked_ret _ _ _ _ w) ?_
        refine wpq_op (fun w hw => Ex_move (by conv => lhs; whnf)) ?_
        refine wpq_pass (by exact rfl) (by exact rfl) ?_
        refine wpq_pass (by exact rfl) (by exact rfl) ?_
        refine wpq_pass (by exact rfl) (by exact rfl) ?_
        refine wpq_pass (by exact rfl) (by exact rfl) ?_
        refine wpq_pass (by exact rfl) (by exact rfl) ?_
        refine wpq_pass (by exact rfl) (by exact rfl) ?_
        refine wpq_pass (by exact rfl) (by exact rfl) ?_
        refine wpq_op (fun w hw => Ex_pick rfl (by conv => lhs; whnf)) ?_
        refine wpq_op (fun w hw => Ex_assign (by conv => lhs; whnf)) ?_
        refine wpq_nil (fun w13 hw13 => hK _ _ ?_)
        clear hK K
        replace hti := fun j u hu => cell_later hw13 (hti j u hu)
        replace hv7 := hv7.later hw13
        replace hb7 := hb7.trans (hw13.mono hb7.size)
        replace hold := hold.later hw13
        refine wp_seq_k (fun KK hKK => ?_)
        refine wp_sq_seq (fun K hK => ?_)
        refine wpq_op (fun w hw => Ex_loadagg (cs := amt (p (k + cut)) (z (k + cut)) ((k + cut : Nat) : Int) true) agg33 rfl rfl (fun j u hu => cell_later hw (hold.cells j u hu))) ?_
        refine wpq_call (fun w => ExC_func ent15 rfl rfl) (fun w hw => linked_ret _ _ _ _ w) ?_
        refine wpq_op (fun w hw => Ex_move (by conv => lhs; whnf)) ?_
        refine wpq_op (fun w hw => Ex_neqb Try.underlying4 rfl rfl (bne_ff _)) ?_
        refine wpq_op (fun w hw => Ex_move (by conv => lhs; whnf)) ?_
        refine wpq_opg (by exact rfl) (by exact rfl) (fun w hw => Ex_move (by conv => lhs; whnf)) ?_
        refine wpq_opg (by exact rfl) (by exact rfl) (fun w hw => Ex_move (by conv => lhs; whnf)) ?_
        refine wpq_opg (by exact rfl) (by exact rfl) (fun w hw => Ex_index Try.underlying26 size_26 rfl rfl hlt) ?_
        refine wpq_opg (by exact rfl) (by exact rfl) (fun w hw => Ex_loadagg (cs := amt (p k) (z (k + cut)) (k : Int) true) agg33 rfl rfl (fun j u hu => cell_later hw (hti j u hu))) ?_
        refine wpq_callg (by exact rfl) (by exact rfl) (fun w => ExC_func ent15 rfl rfl) (fun w hw => linked_ret _ _ _ _ w) ?_
        refine wpq_opg (by exact rfl) (by exact rfl) (fun w hw => Ex_move (by conv => lhs; whnf)) ?_
        refine wpq_opg (by exact rfl) (by exact rfl) (fun w hw => Ex_gtr rfl rfl (decide_eq_true (by omega))) ?_
        refine wpq_opg (by exact rfl) (by exact rfl) (fun w hw => Ex_neqb Try.underlying4 rfl rfl (bne_ff _)) ?_
        refine wpq_op (fun w hw => Ex_pick rfl (by conv => lhs; whnf)) ?_
        refine wpq_nil (fun w14 hw14 => hK _ _ ?_)
        clear hK K
        refine wp_if_false rfl ?_
        refine wp_skip (hKK _ _ ?_)
        clear hKK KK
        replace hti := fun j u hu => cell_later hw14 (hti j u hu)
        replace hv7 := hv7.later hw14
        replace hb7 := hb7.trans (hw14.mono hb7.size)
        replace hold := hold.later hw14
        refine wp_sq_seq (fun K hK => ?_)
        refine wpq_op (fun w hw => Ex_move (by conv => lhs; whnf)) ?_
        refine wpq_op (fun w hw => Ex_move (by conv => lhs; whnf)) ?_
        refine wpq_op (fun w hw => Ex_index Try.underlying26 size_26 rfl rfl hlt) ?_
        refine wpq_op (fun w hw => Ex_loadagg (cs := amt (p k) (z (k + cut)) (k : Int) true) agg33 rfl rfl (fun j u hu => cell_later hw (hti j u hu))) ?_
        refine wpq_call (fun w => ExC_func ent16 rfl rfl) (fun w hw => reused_ret _ _ _ _ w) ?_
        refine wpq_op (fun w hw => Ex_neqnil Try.underlying22 rfl rfl rfl) ?_
        refine wpq_op (fun w hw => Ex_move (by conv => lhs; whnf)) ?_
        refine wpq_opg (by exact rfl) (by exact rfl) (fun w hw => Ex_move (by conv => lhs; whnf)) ?_
        refine wpq_opg (by exact rfl) (by exact rfl) (fun w hw => Ex_move (by conv => lhs; whnf)) ?_
        refine wpq_opg (by exact rfl) (by exact rfl) (fun w hw => Ex_index Try.underlying26 size_26 rfl rfl hlt) ?_
        refine wpq_opg (by exact rfl) (by exact rfl) (fun w hw => Ex_loadagg (cs := amt (p k) (z (k + cut)) (k : Int) true) agg33 rfl rfl (fun j u hu => cell_later hw (hti j u hu))) ?_
        refine wpq_callg (by exact rfl) (by exact rfl) (fun w => ExC_func ent17 rfl rfl) (fun w hw => among_ret _ _ _ _ w) ?_
        refine wpq_opg (by exact rfl) (by exact rfl) (fun w hw => Ex_neqnil Try.underlying22 rfl rfl rfl) ?_
        refine wpq_op (fun w hw => Ex_pick rfl (by conv => lhs; whnf)) ?_
        refine wpq_op (fun w hw => Ex_move (by conv => lhs; whnf)) ?_
        refine wpq_opg (by exact rfl) (by exact rfl) (fun w hw => Ex_move (by conv => lhs; whnf)) ?_
        refine wpq_opg (by exact rfl) (by exact rfl) (fun w hw => Ex_move (by conv => lhs; whnf)) ?_
        refine wpq_opg (by exact rfl) (by exact rfl) (fun w hw => Ex_index Try.underlying26 size_26 rfl rfl hlt) ?_
        refine wpq_opg (by exact rfl) (by exact rfl) (fun w hw => Ex_loadagg (cs := amt (p k) (z (k + cut)) (k : Int) true) agg33 rfl rfl (fun j u hu => cell_later hw (hti j u hu))) ?_
        refine wpq_callg (by exact rfl) (by exact rfl) (fun w => ExC_func ent18 rfl rfl) (fun w hw => groups_ret _ _ _ _ w) ?_
        refine wpq_opg (by exact rfl) (by exact rfl) (fun w hw => Ex_neqp_nil Try.underlying24 rfl rfl) ?_
        refine wpq_op (fun w hw => Ex_pick rfl (by conv => lhs; whnf)) ?_
        refine wpq_op (fun w hw => Ex_move (by conv => lhs; whnf)) ?_
        refine wpq_opg (by exact rfl) (by exact rfl) (fun w hw => Ex_move (by conv => lhs; whnf)) ?_
        refine wpq_opg (by exact rfl) (by exact rfl) (fun w hw => Ex_move (by conv => lhs; whnf)) ?_
        refine wpq_opg (by exact rfl) (by exact rfl) (fun w hw => Ex_index Try.underlying26 size_26 rfl rfl hlt) ?_
        refine wpq_opg (by exact rfl) (by exact rfl) (fun w hw => Ex_loadagg (cs := amt (p k) (z (k + cut)) (k : Int) true) agg33 rfl rfl (fun j u hu => cell_later hw (hti j u hu))) ?_
        refine wpq_callg (by exact rfl) (by exact rfl) (fun w => ExC_func ent19 rfl rfl) (fun w hw => fewest_ret _ _ _ _ w) ?_
        refine wpq_opg (by exact rfl) (by exact rfl) (fun w hw => Ex_neq rfl rfl (ne_f (by first | rfl | omega))) ?_
        refine wpq_op (fun w hw => Ex_pick rfl (by conv => lhs; whnf)) ?_
        refine wpq_op (fun w hw => Ex_move (by conv => lhs; whnf)) ?_
        refine wpq_opg (by exact rfl) (by exact rfl) (fun w hw => Ex_move (by conv => lhs; whnf)) ?_
        refine wpq_opg (by exact rfl) (by exact rfl) (fun w hw => Ex_move (by conv => lhs; whnf)) ?_
        refine wpq_opg (by exact rfl) (by exact rfl) (fun w hw => Ex_index Try.underlying26 size_26 rfl rfl hlt) ?_
        refine wpq_opg (by exact rfl) (by exact rfl) (fun w hw => Ex_loadagg (cs := amt (p k) (z (k + cut)) (k : Int) true) agg33 rfl rfl (fun j u hu => cell_later hw (hti j u hu))) ?_
        refine wpq_callg (by exact rfl) (by exact rfl) (fun w => ExC_func ent20 rfl rfl) (fun w hw => sockets_ret _ _ _ _ w) ?_
        refine wpq_opg (by exact rfl) (by exact rfl) (fun w hw => Ex_neqp_nil Try.underlying31 rfl rfl) ?_
        refine wpq_op (fun w hw => Ex_pick rfl (by conv => lhs; whnf)) ?_
        refine wpq_nil (fun w15 hw15 => hK _ _ ?_)
        clear hK K
        refine wp_if_false rfl ?_
        refine wp_skip ?_
        replace hti := fun j u hu => cell_later hw15 (hti j u hu)
        replace hv7 := hv7.later hw15
        replace hb7 := hb7.trans (hw15.mono hb7.size)
        replace hold := hold.later hw15
        refine hK' _ _ ?_
        refine wp_region_last ?_
        refine wpl_op rfl (Ex_move (by conv => lhs; whnf)) ?_
        refine wpl_op rfl (Ex_inc rfl rfl (by omega)) ?_
        refine wpl_op rfl (Ex_assign (by conv => lhs; whnf)) ?_
        refine wpl_nil ?_
        exact hR _ _ _ (j + 1) ⟨rfl, rfl, rfl, rfl, rfl, rfl, rfl, trivial⟩ ⟨hb7, by omega⟩ (by omega)
      · rw [decide_eq_false hj0] at hti
        have hj00 : j = 0 := by omega
        have hbw : decide (0 < cnt z cut + j) = decide ((0 : Int) < (cnt z cut : Int)) := by subst hj00; simp
        rw [hbw] at hwi
        refine wp_region_seq (fun K hK => ?_)
        refine wpl_op rfl (Ex_move (by conv => lhs; whnf)) ?_
        refine wpl_op rfl (Ex_move (by conv => lhs; whnf)) ?_
        refine wpl_op rfl (Ex_len Try.underlying26 rfl) ?_
        refine wpl_op rfl (Ex_move (by conv => lhs; whnf)) ?_
        refine wpl_op rfl (Ex_addn rfl rfl (by omega)) ?_
        refine wpl_op rfl (Ex_index Try.underlying26 size_26 rfl rfl hltW) ?_
        refine wpl_op rfl (Ex_loadagg (cs := amt (p (k + cut)) (z (k + cut)) ((k + cut : Nat) : Int) (decide ((0 : Int) < (cnt z cut : Int)))) agg33 rfl rfl hwi) ?_
        refine wpl_op rfl (Ex_alloc zero33) ?_
        refine wpl_op rfl (Ex_storeagg agg33 rfl rfl rfl rfl (heap_new _ _) (by decide)) ?_
        refine wpl_nil (hK _ _ ?_)
        clear hK K
        refine wp_gen (fun w8 => Hold w8 w7.heap.size (amt (p (k + cut)) (z (k + cut)) ((k + cut : Nat) : Int) (decide ((0 : Int) < (cnt z cut : Int)))) ∧ Below w7.heap.size w7 w8) ⟨Hold.fresh w7 _ _ rfl, fresh_below w7 _ _⟩ (fun w8 hg8 => ?_)
        obtain ⟨hold, hb8⟩ := hg8
        replace hti := fun j u hu => cell_later hb8 (hti j u hu)
        replace hv7 := hv7.later hb8
        replace hb7 := hb7.trans (hb8.mono hb7.size)
        refine wp_sq_seq (fun K hK => ?_)
        refine wpq_op (fun w hw => Ex_loadagg (cs := amt (p (k + cut)) (z (k + cut)) ((k + cut : Nat) : Int) (decide ((0 : Int) < (cnt z cut : Int)))) agg33 rfl rfl (fun j u hu => cell_later hw (hold.cells j u hu))) ?_
        refine wpq_call (fun w => ExC_func ent11 rfl rfl) (fun w hw => kind_ret _ _ _ _ w) ?_
        refine wpq_op (fun w hw => Ex_assign (by conv => lhs; whnf)) ?_
        refine wpq_nil (fun w9 hw9 => hK _ _ ?_)
        clear hK K
        replace hti := fun j u hu => cell_later hw9 (hti j u hu)
        replace hv7 := hv7.later hw9
        replace hb7 := hb7.trans (hw9.mono hb7.size)
        replace hold := hold.later hw9
        refine wp_sq_seq (fun K hK => ?_)
        refine wpq_op (fun w hw => Ex_move (by conv => lhs; whnf)) ?_
        refine wpq_op (fun w hw => Ex_move (by conv => lhs; whnf)) ?_
        refine wpq_op (fun w hw => Ex_index Try.underlying26 size_26 rfl rfl hlt) ?_
        refine wpq_op (fun w hw => Ex_loadagg (cs := amt (p k) (z (k + cut)) (k : Int) false) agg33 rfl rfl (fun j u hu => cell_later hw (hti j u hu))) ?_
        refine wpq_call (fun w => ExC_func ent11 rfl rfl) (fun w hw => kind_ret _ _ _ _ w) ?_
        refine wpq_op (fun w hw => Ex_assign (by conv => lhs; whnf)) ?_
        refine wpq_nil (fun w10 hw10 => hK _ _ ?_)
        clear hK K
        replace hti := fun j u hu => cell_later hw10 (hti j u hu)
        replace hv7 := hv7.later hw10
        replace hb7 := hb7.trans (hw10.mono hb7.size)
        replace hold := hold.later hw10
        refine wp_seq_k (fun KK hKK => ?_)
        refine wp_region_seq (fun K hK => ?_)
        refine wpl_op rfl (Ex_move (by conv => lhs; whnf)) ?_
        refine wpl_op rfl (Ex_move (by conv => lhs; whnf)) ?_
        refine wpl_op rfl (Ex_move (by conv => lhs; whnf)) ?_
        refine wpl_op rfl (Ex_addn rfl rfl (by omega)) ?_
        refine wpl_op rfl (Ex_neq rfl rfl (ne_f rfl)) ?_
        refine wpl_nil (hK _ _ ?_)
        clear hK K
        refine wp_if_false rfl ?_
        refine wp_skip (hKK _ _ ?_)
        clear hKK KK
        refine wp_seq_k (fun KK hKK => ?_)
        refine wp_quiet_seq (by kernel_rfl) (by kernel_rfl) (fun K hK => ?_)
        refine wpq_op (fun w hw => Ex_move (by conv => lhs; whnf)) ?_
        refine wpq_op (fun w hw => Ex_move (by conv => lhs; whnf)) ?_
        refine wpq_op (fun w hw => Ex_index Try.underlying26 size_26 rfl rfl hlt) ?_
        refine wpq_op (fun w hw => Ex_loadagg (cs := amt (p k) (z (k + cut)) (k : Int) false) agg33 rfl rfl (fun j u hu => cell_later hw (hti j u hu))) ?_
        refine wpq_call (fun w => ExC_func ent12 rfl rfl) (fun w hw => want_ret _ _ _ _ w) ?_
        refine wpq_op (fun w hw => Ex_loadagg (cs := amt (p (k + cut)) (z (k + cut)) ((k + cut : Nat) : Int) (decide ((0 : Int) < (cnt z cut : Int)))) agg33 rfl rfl (fun j u hu => cell_later hw (hold.cells j u hu))) ?_
        refine wpq_call (fun w => ExC_func ent12 rfl rfl) (fun w hw => want_ret _ _ _ _ w) ?_
        refine wpq_op (fun w hw => Ex_neq rfl rfl (ne_f (by first | rfl | omega))) ?_
        refine wpq_nil (fun w11 hw11 => hK _ _ ?_)
        clear hK K
        refine wp_if_false rfl ?_
        refine wp_skip (hKK _ _ ?_)
        clear hKK KK
        replace hti := fun j u hu => cell_later hw11 (hti j u hu)
        replace hv7 := hv7.later hw11
        replace hb7 := hb7.trans (hw11.mono hb7.size)
        replace hold := hold.later hw11
        refine wp_seq_k (fun KK hKK => ?_)
        refine wp_sq_seq (fun K hK => ?_)
        refine wpq_op (fun w hw => Ex_move (by conv => lhs; whnf)) ?_
        refine wpq_op (fun w hw => Ex_move (by conv => lhs; whnf)) ?_
        refine wpq_op (fun w hw => Ex_index Try.underlying26 size_26 rfl rfl hlt) ?_
        refine wpq_op (fun w hw => Ex_loadagg (cs := amt (p k) (z (k + cut)) (k : Int) false) agg33 rfl rfl (fun j u hu => cell_later hw (hti j u hu))) ?_
        refine wpq_call (fun w => ExC_func ent13 rfl rfl) (fun w hw => units_ret _ _ _ _ w) ?_
        refine wpq_op (fun w hw => Ex_move (by conv => lhs; whnf)) ?_
        refine wpq_op (fun w hw => Ex_move (by conv => lhs; whnf)) ?_
        refine wpq_call (fun w => ExC_func ent14 rfl rfl) (fun w hw => tally_b gv (cut + d) _ p w (hv7.later hw) hkn) ?_
        refine wpq_op (fun w hw => Ex_neqp_same Try.underlying30 size62 rfl rfl) ?_
        refine wpq_nil (fun w12 hw12 => hK _ _ ?_)
        clear hK K
        refine wp_if_false rfl ?_
        refine wp_skip (hKK _ _ ?_)
        clear hKK KK
        replace hti := fun j u hu => cell_later hw12 (hti j u hu)
        replace hv7 := hv7.later hw12
        replace hb7 := hb7.trans (hw12.mono hb7.size)
        replace hold := hold.later hw12
        refine wp_sq_seq (fun K hK => ?_)
        refine wpq_op (fun w hw => Ex_move (by conv => lhs; whnf)) ?_
        refine wpq_op (fun w hw => Ex_move (by conv => lhs; whnf)) ?_
        refine wpq_op (fun w hw => Ex_index Try.underlying26 size_26 rfl rfl hlt) ?_
        refine wpq_op (fun w hw => Ex_loadagg (cs := amt (p k) (z (k + cut)) (k : Int) false) agg33 rfl rfl (fun j u hu => cell_later hw (hti j u hu))) ?_
        refine wpq_call (fun w => ExC_func ent15 rfl rfl) (fun w hw => linked_ret _ _ _ _ w) ?_
        refine wpq_op (fun w hw => Ex_move (by conv => lhs; whnf)) ?_
        refine wpq_opg (by exact rfl) (by exact rfl) (fun w hw => Ex_move (by conv => lhs; whnf)) ?_
        refine wpq_opg (by exact rfl) (by exact rfl) (fun w hw => Ex_eql rfl rfl (decide_eq_true (by omega))) ?_
        refine wpq_opg (by exact rfl) (by exact rfl) (fun w hw => Ex_move (by conv => lhs; whnf)) ?_
        refine wpq_opg (by exact rfl) (by exact rfl) (fun w hw => Ex_move (by conv => lhs; whnf)) ?_
        refine wpq_opg (by exact rfl) (by exact rfl) (fun w hw => Ex_len Try.underlying26 rfl) ?_
        refine wpq_opg (by exact rfl) (by exact rfl) (fun w hw => Ex_gtr rfl rfl rfl) ?_
        refine wpq_opg (by exact rfl) (by exact rfl) (fun w hw => Ex_pick rfl (by conv => lhs; whnf)) ?_
        refine wpq_op (fun w hw => Ex_pick rfl (by conv => lhs; whnf)) ?_
        refine wpq_op (fun w hw => Ex_assign (by conv => lhs; whnf)) ?_
        refine wpq_nil (fun w13 hw13 => hK _ _ ?_)
        clear hK K
        replace hti := fun j u hu => cell_later hw13 (hti j u hu)
        replace hv7 := hv7.later hw13
        replace hb7 := hb7.trans (hw13.mono hb7.size)
        replace hold := hold.later hw13
        refine wp_seq_k (fun KK hKK => ?_)
        refine wp_sq_seq (fun K hK => ?_)
        refine wpq_op (fun w hw => Ex_loadagg (cs := amt (p (k + cut)) (z (k + cut)) ((k + cut : Nat) : Int) (decide ((0 : Int) < (cnt z cut : Int)))) agg33 rfl rfl (fun j u hu => cell_later hw (hold.cells j u hu))) ?_
        refine wpq_call (fun w => ExC_func ent15 rfl rfl) (fun w hw => linked_ret _ _ _ _ w) ?_
        refine wpq_op (fun w hw => Ex_move (by conv => lhs; whnf)) ?_
        refine wpq_op (fun w hw => Ex_neqb Try.underlying4 rfl rfl (bne_ff _)) ?_
        refine wpq_op (fun w hw => Ex_move (by conv => lhs; whnf)) ?_
        refine wpq_opg (by exact rfl) (by exact rfl) (fun w hw => Ex_move (by conv => lhs; whnf)) ?_
        refine wpq_opg (by exact rfl) (by exact rfl) (fun w hw => Ex_move (by conv => lhs; whnf)) ?_
        refine wpq_opg (by exact rfl) (by exact rfl) (fun w hw => Ex_index Try.underlying26 size_26 rfl rfl hlt) ?_
        refine wpq_opg (by exact rfl) (by exact rfl) (fun w hw => Ex_loadagg (cs := amt (p k) (z (k + cut)) (k : Int) false) agg33 rfl rfl (fun j u hu => cell_later hw (hti j u hu))) ?_
        refine wpq_callg (by exact rfl) (by exact rfl) (fun w => ExC_func ent15 rfl rfl) (fun w hw => linked_ret _ _ _ _ w) ?_
        refine wpq_opg (by exact rfl) (by exact rfl) (fun w hw => Ex_move (by conv => lhs; whnf)) ?_
        refine wpq_opg (by exact rfl) (by exact rfl) (fun w hw => Ex_gtr rfl rfl (decide_eq_false (by omega))) ?_
        refine wpq_opg (by exact rfl) (by exact rfl) (fun w hw => Ex_neqb Try.underlying4 rfl rfl (bne_ff _)) ?_
        refine wpq_op (fun w hw => Ex_pick rfl (by conv => lhs; whnf)) ?_
        refine wpq_nil (fun w14 hw14 => hK _ _ ?_)
        clear hK K
        refine wp_if_false rfl ?_
        refine wp_skip (hKK _ _ ?_)
        clear hKK KK
        replace hti := fun j u hu => cell_later hw14 (hti j u hu)
        replace hv7 := hv7.later hw14
        replace hb7 := hb7.trans (hw14.mono hb7.size)
        replace hold := hold.later hw14
        refine wp_sq_seq (fun K hK => ?_)
        refine wpq_op (fun w hw => Ex_move (by conv => lhs; whnf)) ?_
        refine wpq_op (fun w hw => Ex_move (by conv => lhs; whnf)) ?_
        refine wpq_op (fun w hw => Ex_index Try.underlying26 size_26 rfl rfl hlt) ?_
        refine wpq_op (fun w hw => Ex_loadagg (cs := amt (p k) (z (k + cut)) (k : Int) false) agg33 rfl rfl (fun j u hu => cell_later hw (hti j u hu))) ?_
        refine wpq_call (fun w => ExC_func ent16 rfl rfl) (fun w hw => reused_ret _ _ _ _ w) ?_
        refine wpq_op (fun w hw => Ex_neqnil Try.underlying22 rfl rfl rfl) ?_
        refine wpq_op (fun w hw => Ex_move (by conv => lhs; whnf)) ?_
        refine wpq_opg (by exact rfl) (by exact rfl) (fun w hw => Ex_move (by conv => lhs; whnf)) ?_
        refine wpq_opg (by exact rfl) (by exact rfl) (fun w hw => Ex_move (by conv => lhs; whnf)) ?_
        refine wpq_opg (by exact rfl) (by exact rfl) (fun w hw => Ex_index Try.underlying26 size_26 rfl rfl hlt) ?_
        refine wpq_opg (by exact rfl) (by exact rfl) (fun w hw => Ex_loadagg (cs := amt (p k) (z (k + cut)) (k : Int) false) agg33 rfl rfl (fun j u hu => cell_later hw (hti j u hu))) ?_
        refine wpq_callg (by exact rfl) (by exact rfl) (fun w => ExC_func ent17 rfl rfl) (fun w hw => among_ret _ _ _ _ w) ?_
        refine wpq_opg (by exact rfl) (by exact rfl) (fun w hw => Ex_neqnil Try.underlying22 rfl rfl rfl) ?_
        refine wpq_op (fun w hw => Ex_pick rfl (by conv => lhs; whnf)) ?_
        refine wpq_op (fun w hw => Ex_move (by conv => lhs; whnf)) ?_
        refine wpq_opg (by exact rfl) (by exact rfl) (fun w hw => Ex_move (by conv => lhs; whnf)) ?_
        refine wpq_opg (by exact rfl) (by exact rfl) (fun w hw => Ex_move (by conv => lhs; whnf)) ?_
        refine wpq_opg (by exact rfl) (by exact rfl) (fun w hw => Ex_index Try.underlying26 size_26 rfl rfl hlt) ?_
        refine wpq_opg (by exact rfl) (by exact rfl) (fun w hw => Ex_loadagg (cs := amt (p k) (z (k + cut)) (k : Int) false) agg33 rfl rfl (fun j u hu => cell_later hw (hti j u hu))) ?_
        refine wpq_callg (by exact rfl) (by exact rfl) (fun w => ExC_func ent18 rfl rfl) (fun w hw => groups_ret _ _ _ _ w) ?_
        refine wpq_opg (by exact rfl) (by exact rfl) (fun w hw => Ex_neqp_nil Try.underlying24 rfl rfl) ?_
        refine wpq_op (fun w hw => Ex_pick rfl (by conv => lhs; whnf)) ?_
        refine wpq_op (fun w hw => Ex_move (by conv => lhs; whnf)) ?_
        refine wpq_opg (by exact rfl) (by exact rfl) (fun w hw => Ex_move (by conv => lhs; whnf)) ?_
        refine wpq_opg (by exact rfl) (by exact rfl) (fun w hw => Ex_move (by conv => lhs; whnf)) ?_
        refine wpq_opg (by exact rfl) (by exact rfl) (fun w hw => Ex_index Try.underlying26 size_26 rfl rfl hlt) ?_
        refine wpq_opg (by exact rfl) (by exact rfl) (fun w hw => Ex_loadagg (cs := amt (p k) (z (k + cut)) (k : Int) false) agg33 rfl rfl (fun j u hu => cell_later hw (hti j u hu))) ?_
        refine wpq_callg (by exact rfl) (by exact rfl) (fun w => ExC_func ent19 rfl rfl) (fun w hw => fewest_ret _ _ _ _ w) ?_
        refine wpq_opg (by exact rfl) (by exact rfl) (fun w hw => Ex_neq rfl rfl (ne_f (by first | rfl | omega))) ?_
        refine wpq_op (fun w hw => Ex_pick rfl (by conv => lhs; whnf)) ?_
        refine wpq_op (fun w hw => Ex_move (by conv => lhs; whnf)) ?_
        refine wpq_opg (by exact rfl) (by exact rfl) (fun w hw => Ex_move (by conv => lhs; whnf)) ?_
        refine wpq_opg (by exact rfl) (by exact rfl) (fun w hw => Ex_move (by conv => lhs; whnf)) ?_
        refine wpq_opg (by exact rfl) (by exact rfl) (fun w hw => Ex_index Try.underlying26 size_26 rfl rfl hlt) ?_
        refine wpq_opg (by exact rfl) (by exact rfl) (fun w hw => Ex_loadagg (cs := amt (p k) (z (k + cut)) (k : Int) false) agg33 rfl rfl (fun j u hu => cell_later hw (hti j u hu))) ?_
        refine wpq_callg (by exact rfl) (by exact rfl) (fun w => ExC_func ent20 rfl rfl) (fun w hw => sockets_ret _ _ _ _ w) ?_
        refine wpq_opg (by exact rfl) (by exact rfl) (fun w hw => Ex_neqp_nil Try.underlying31 rfl rfl) ?_
        refine wpq_op (fun w hw => Ex_pick rfl (by conv => lhs; whnf)) ?_
        refine wpq_nil (fun w15 hw15 => hK _ _ ?_)
        clear hK K
        refine wp_if_false rfl ?_
        refine wp_skip ?_
        replace hti := fun j u hu => cell_later hw15 (hti j u hu)
        replace hv7 := hv7.later hw15
        replace hb7 := hb7.trans (hw15.mono hb7.size)
        replace hold := hold.later hw15
        refine hK' _ _ ?_
        refine wp_region_last ?_
        refine wpl_op rfl (Ex_move (by conv => lhs; whnf)) ?_
        refine wpl_op rfl (Ex_inc rfl rfl (by omega)) ?_
        refine wpl_op rfl (Ex_assign (by conv => lhs; whnf)) ?_
        refine wpl_nil ?_
        exact hR _ _ _ (j + 1) ⟨rfl, rfl, rfl, rfl, rfl, rfl, rfl, trivial⟩ ⟨hb7, by omega⟩ (by omega)
    · skip
      refine wp_seq_k (fun KK hKK => ?_)
      refine wp_region_seq (fun K hK => ?_)
      refine wpl_op rfl (Ex_move (by conv => lhs; whnf)) ?_
      refine wpl_op rfl (Ex_move (by conv => lhs; whnf)) ?_
      refine wpl_op rfl (Ex_len Try.underlying26 rfl) ?_
      refine wpl_op rfl (Ex_lss rfl rfl (decide_eq_false (by omega))) ?_
      refine wpl_nil (hK _ _ ?_)
      clear hK K
      refine wp_if_false rfl ?_
      refine wp_exit ?_
      clear hKK
      refine hK1 _ _ ?_
      refine wp_region_seq (fun K hK => ?_)
      refine wpl_op rfl (Ex_assign (by conv => lhs; whnf)) ?_
      refine wpl_nil (hK _ _ ?_)
      clear hK K
      refine wp_ret ?_
      repeat (first | refine out_block ?_ | refine out_then ?_)
      refine ret_tmp Try.results3 ⟨rfl, hb.trans (hb7.mono hb.size)⟩

theorem rest3 (a1 : Option Addr) (cut d c1 : Nat) (z : Nat → Int) (w0 w : World) (hb0 : Below w0.heap.size w0 w) (h0 : IntsAt w a1 (cut + d) z) (hn : cut + d ≤ 65536) (hc : cut + d ≤ c1) (u : Nat → Value) :
    Code.wp Try.prog (codeAt [1, 1, 1, 1, 1] (Try.f3.body.getD .skip)) (post Try.prog Try.f3 fun v w' => v = .bool true ∧ Below w0.heap.size w0 w') (fr 369 u [(0, .slice a1 (cut + d : Nat) c1), (1, .int .i64 cut)]) w := by
  conv => arg 2; whnf
  have hsplit := cnt_split z cut d
  have hcl := cnt_le z (cut + d)
  refine wp_region_seq (fun K hK => ?_)
  refine wpl_op rfl (Ex_move (by conv => lhs; whnf)) ?_
  refine wpl_op rfl (Ex_len Try.underlying22 rfl) ?_
  refine wpl_call rfl (ExC_func ent8 rfl rfl) (newView_ret (cut + d) w (by omega)) ?_
  rintro v w1 ⟨gv, p, rfl, hv, hb1⟩
  refine wpl_op rfl (Ex_assign (by conv => lhs; whnf)) ?_
  refine wpl_nil (hK _ _ ?_)
  clear hK K
  have h01 := h0.below hb1
  refine wp_region_seq (fun K hK => ?_)
  refine wpl_op rfl (Ex_move (by conv => lhs; whnf)) ?_
  refine wpl_op rfl (Ex_move (by conv => lhs; whnf)) ?_
  refine wpl_call rfl (ExC_func ent9 rfl rfl) (zOpen_ret gv (cut + d) p a1 (cut + d) c1 z w1 hv h01 (Nat.le_refl _) (by omega)) ?_
  rintro v w2 ⟨aW, cW, rfl, hW2, hb2⟩
  refine wpl_op rfl (Ex_assign (by conv => lhs; whnf)) ?_
  refine wpl_nil (hK _ _ ?_)
  clear hK K
  have h02 := h01.below hb2
  have hv2 := hv.later hb2
  refine wp_region_seq (fun K hK => ?_)
  refine wpl_op rfl (Ex_move (by conv => lhs; whnf)) ?_
  refine wpl_op rfl (Ex_move (by conv => lhs; whnf)) ?_
  refine wpl_op rfl (Ex_move (by conv => lhs; whnf)) ?_
  refine wpl_exop rfl (slice_h (w := w2) (k := cut) Try.underlying22 size_22 rfl rfl (by omega) hc h02) ?_
  rintro v w' ⟨⟨aH, rfl, h0H⟩, rfl⟩
  refine wpl_call rfl (ExC_func ent9 rfl rfl) (zOpen_ret gv (cut + d) p aH cut c1 z _ hv2 h0H (by omega) (by omega)) ?_
  rintro v w3 ⟨aHd, cHd, rfl, hH3, hb3⟩
  refine wpl_op rfl (Ex_assign (by conv => lhs; whnf)) ?_
  refine wpl_nil (hK _ _ ?_)
  clear hK K
  have h03 := h02.below hb3
  have hv3 := hv2.later hb3
  refine wp_region_seq (fun K hK => ?_)
  refine wpl_op rfl (Ex_move (by conv => lhs; whnf)) ?_
  refine wpl_op rfl (Ex_move (by conv => lhs; whnf)) ?_
  refine wpl_op rfl (Ex_move (by conv => lhs; whnf)) ?_
  refine wpl_exop rfl (slice_l (w := w3) (k := cut) Try.underlying22 size_22 rfl rfl (by omega) hc h03) ?_
  rintro v w' ⟨⟨aT, rfl, h0T⟩, rfl⟩
  refine wpl_call rfl (ExC_func ent9 rfl rfl) (zOpen_ret gv (cut + d) p aT (cut + d - cut) (c1 - cut) (fun i => z (i + cut)) _ hv3 h0T (by omega) (by omega)) ?_
  rintro v w4 ⟨aTl, cTl, rfl, hT4, hb4⟩
  refine wpl_op rfl (Ex_assign (by conv => lhs; whnf)) ?_
  refine wpl_nil (hK _ _ ?_)
  clear hK K
  rw [show cut + d - cut = d by omega] at hT4 ⊢
  have hW4 := (hW2.later hb3).later hb4
  have hH4 := hH3.later hb4
  have hv4 := hv3.later hb4
  have h04 := h03.below hb4
  have hb04 : Below w0.heap.size w0 w4 := (((hb0.trans (hb1.mono hb0.size)).trans (hb2.mono (Nat.le_trans hb0.size hb1.size))).trans (hb3.mono (Nat.le_trans (Nat.le_trans hb0.size hb1.size) hb2.size))).trans (hb4.mono (Nat.le_trans (Nat.le_trans (Nat.le_trans hb0.size hb1.size) hb2.size) hb3.size))
  clear h0H h0T hW2 hH3 hb0 hb1 hb2 hb3 hb4 hv hv2 hv3 h01 h02 h03 h0
  refine wp_seq_k (fun KK hKK => ?_)
  refine wp_sq_seq (fun K hK => ?_)
  refine wpq_op (fun w hw => Ex_move (by conv => lhs; whnf)) ?_
  refine wpq_op (fun w hw => Ex_len Try.underlying26 rfl) ?_
  refine wpq_op (fun w hw => Ex_move (by conv => lhs; whnf)) ?_
  refine wpq_call (fun w => ExC_func ent10 rfl rfl) (fun w hw => count_b a1 (cut + d) c1 z w (h04.below hw) (by omega)) ?_
  refine wpq_op (fun w hw => Ex_neq rfl rfl (ne_f rfl)) ?_
  refine wpq_op (fun w hw => Ex_move (by conv => lhs; whnf)) ?_
  refine wpq_opg (by exact rfl) (by exact rfl) (fun w hw => Ex_move (by conv => lhs; whnf)) ?_
  refine wpq_opg (by exact rfl) (by exact rfl) (fun w hw => Ex_len Try.underlying26 rfl) ?_
  refine wpq_opg (by exact rfl) (by exact rfl) (fun w hw => Ex_move (by conv => lhs; whnf)) ?_
  refine wpq_opg (by exact rfl) (by exact rfl) (fun w hw => Ex_len Try.underlying26 rfl) ?_
  refine wpq_opg (by exact rfl) (by exact rfl) (fun w hw => Ex_move (by conv => lhs; whnf)) ?_
  refine wpq_opg (by exact rfl) (by exact rfl) (fun w hw => Ex_len Try.underlying26 rfl) ?_
  refine wpq_opg (by exact rfl) (by exact rfl) (fun w hw => Ex_addn rfl rfl (by omega)) ?_
  refine wpq_opg (by exact rfl) (by exact rfl) (fun w hw => Ex_neq rfl rfl (ne_f (by omega))) ?_
  refine wpq_op (fun w hw => Ex_pick rfl (by conv => lhs; whnf)) ?_
  refine wpq_nil (fun w5 hw5 => hK _ _ ?_)
  clear hK K
  refine wp_if_false rfl ?_
  refine wp_skip (hKK _ _ ?_)
  clear hKK KK
  have hW := hW4.later hw5
  have hH := hH4.later hw5
  have hT := hT4.later hw5
  have hv := hv4.later hw5
  have h0 := h04.below hw5
  have hb := hb04.trans (hw5.mono hb04.size)
  clear hW4 hH4 hT4 hv4 h04 hb04 hw5
  refine wp_region_seq (fun K hK => ?_)
  refine wpl_op rfl (Ex_assign (by conv => lhs; whnf)) ?_
  refine wpl_nil (hK _ _ ?_)
  clear hK K
  refine wp_seq_k (fun K1 hK1 => ?_)
  refine wp_region_seq (fun K hK => ?_)
  refine wpl_op rfl (Ex_assign (by conv => lhs; whnf)) ?_
  refine wpl_nil (hK _ _ ?_)
  clear hK K
  refine wp_block ?_
  refine wp_loop_st (fun i : Nat => [(0, .slice a1 (cut + d : Nat) c1), (1, .int .i64 cut), (6, .pointer (some ⟨gv, 0, none⟩)), (7, .slice aW (cnt z (cut + d)) cW), (8, .slice aHd (cnt z cut) cHd), (9, .slice aTl (cnt (fun i => z (i + cut)) d) cTl), (10, .int .i64 (prv z (cut + d) i)), (11, .int .i64 (i : Int))])
    (fun i w' => Below w5.heap.size w5 w' ∧ i ≤ cnt z (cut + d)) (fun i => cnt z (cut + d) - i) 0 ⟨rfl, rfl, rfl, rfl, rfl, rfl, rfl, rfl, trivial⟩ ⟨Below.refl _ _, Nat.zero_le _⟩ ?_
  rintro i u w6 ⟨hb6, hi⟩ R hR
  by_cases hlt : i < cnt z (cut + d)
  · obtain ⟨gW, rfl, hWc⟩ := (hW.later hb6).get hlt
    obtain ⟨hk1, hk2⟩ := kd_lt hlt
    have hprv := prv_lt z (cut + d) i hlt
    obtain ⟨b0, o0, rfl, hz0⟩ := (h0.below hb6).get hk1
    have hwi := hWc i hlt
    have hzk := hz0 _ hk1
    have hv6 := hv.later hb6
    refine wp_seq_k (fun KK hKK => ?_)
    refine wp_region_seq (fun K hK => ?_)
    refine wpl_op rfl (Ex_move (by conv => lhs; whnf)) ?_
    refine wpl_op rfl (Ex_move (by conv => lhs; whnf)) ?_
    refine wpl_op rfl (Ex_len Try.underlying26 rfl) ?_
    refine wpl_op rfl (Ex_lss rfl rfl (decide_eq_true (by omega))) ?_
    refine wpl_nil (hK _ _ ?_)
    clear hK K
    refine wp_if_true rfl ?_
    refine wp_skip (hKK _ _ ?_)
    clear hKK KK
    refine wp_seq_k (fun K' hK' => ?_)
    refine wp_block ?_
    refine wp_sq_seq (fun K hK => ?_)
    refine wpq_op (fun w hw => Ex_move (by conv => lhs; whnf)) ?_
    refine wpq_op (fun w hw => Ex_move (by conv => lhs; whnf)) ?_
    refine wpq_op (fun w hw => Ex_index Try.underlying26 size_26 rfl rfl hlt) ?_
    refine wpq_op (fun w hw => Ex_loadagg (cs := amt (p (kd z (cut + d) i)) (z (kd z (cut + d) i)) (kd z (cut + d) i) (decide (0 < i))) agg33 rfl rfl (fun j u hu => cell_later hw (hwi j u hu))) ?_
    refine wpq_call (fun w => ExC_func ent11 rfl rfl) (fun w hw => kind_ret _ _ _ _ w) ?_
    refine wpq_op (fun w hw => Ex_assign (by conv => lhs; whnf)) ?_
    refine wpq_nil (fun w7 hw7 => hK _ _ ?_)
    clear hK K
    replace hwi := fun j u hu => cell_later hw7 (hwi j u hu)
    replace hzk := cell_later hw7 hzk
    replace hv6 := hv6.later hw7
    replace hb6 := hb6.trans (hw7.mono hb6.size)
    clear hw7
    refine wp_seq_k (fun KK hKK => ?_)
    refine wp_region_seq (fun K hK => ?_)
    refine wpl_op rfl (Ex_move (by conv => lhs; whnf)) ?_
    refine wpl_op rfl (Ex_move (by conv => lhs; whnf)) ?_
    refine wpl_op rfl (Ex_leq rfl rfl (decide_eq_false (by omega))) ?_
    refine wpl_op rfl (Ex_move (by conv => lhs; whnf)) ?_
    refine wpl_opg (by exact rfl) (by exact rfl) (Ex_move (by conv => lhs; whnf)) ?_
    refine wpl_opg (by exact rfl) (by exact rfl) (Ex_move (by conv => lhs; whnf)) ?_
    refine wpl_opg (by exact rfl) (by exact rfl) (Ex_len Try.underlying22 rfl) ?_
    refine wpl_opg (by exact rfl) (by exact rfl) (Ex_geq rfl rfl (decide_eq_false (by omega))) ?_
    refine wpl_op rfl (Ex_pick rfl (by conv => lhs; whnf)) ?_
    refine wpl_nil (hK _ _ ?_)
    clear hK K
    refine wp_if_false rfl ?_
    refine wp_skip (hKK _ _ ?_)
    clear hKK KK
    refine wp_region_seq (fun K hK => ?_)
    refine wpl_op rfl (Ex_move (by conv => lhs; whnf)) ?_
    refine wpl_op rfl (Ex_assign (by conv => lhs; whnf)) ?_
    refine wpl_nil (hK _ _ ?_)
    clear hK K
    refine wp_seq_k (fun KK hKK => ?_)
    refine wp_quiet_seq (by kernel_rfl) (by kernel_rfl) (fun K hK => ?_)
    refine wpq_op (fun w hw => Ex_move (by conv => lhs; whnf)) ?_
    refine wpq_op (fun w hw => Ex_move (by conv => lhs; whnf)) ?_
    refine wpq_op (fun w hw => Ex_index1 Try.underlying22 size_22 rfl rfl hk1) ?_
    refine wpq_op (fun w hw => Ex_load one3 rfl (cell_later hw (hzk))) ?_
    refine wpq_op (fun w hw => Ex_leq rfl rfl (decide_eq_false (by omega))) ?_
    refine wpq_op (fun w hw => Ex_move (by conv => lhs; whnf)) ?_
    refine wpq_opg (by exact rfl) (by exact rfl) (fun w hw => Ex_move (by conv => lhs; whnf)) ?_
    refine wpq_opg (by exact rfl) (by exact rfl) (fun w hw => Ex_move (by conv => lhs; whnf)) ?_
    refine wpq_opg (by exact rfl) (by exact rfl) (fun w hw => Ex_index Try.underlying26 size_26 rfl rfl hlt) ?_
    refine wpq_opg (by exact rfl) (by exact rfl) (fun w hw => Ex_loadagg (cs := amt (p (kd z (cut + d) i)) (z (kd z (cut + d) i)) (kd z (cut + d) i) (decide (0 < i))) agg33 rfl rfl (fun j u hu => cell_later hw (hwi j u hu))) ?_
    refine wpq_callg (by exact rfl) (by exact rfl) (fun w => ExC_func ent12 rfl rfl) (fun w hw => want_ret _ _ _ _ w) ?_
    refine wpq_opg (by exact rfl) (by exact rfl) (fun w hw => Ex_move (by conv => lhs; whnf)) ?_
    refine wpq_opg (by exact rfl) (by exact rfl) (fun w hw => Ex_move (by conv => lhs; whnf)) ?_
    refine wpq_opg (by exact rfl) (by exact rfl) (fun w hw => Ex_index1 Try.underlying22 size_22 rfl rfl hk1) ?_
    refine wpq_opg (by exact rfl) (by exact rfl) (fun w hw => Ex_load one3 rfl (cell_later hw (hzk))) ?_
    refine wpq_opg (by exact rfl) (by exact rfl) (fun w hw => Ex_neq rfl rfl (ne_f (by first | rfl | omega))) ?_
    refine wpq_op (fun w hw => Ex_pick rfl (by conv => lhs; whnf)) ?_
    refine wpq_nil (fun w8 hw8 => hK _ _ ?_)
    clear hK K
    refine wp_if_false rfl ?_
    refine wp_skip (hKK _ _ ?_)
    clear hKK KK
    replace hwi := fun j u hu => cell_later hw8 (hwi j u hu)
    replace hzk := cell_later hw8 hzk
    replace hv6 := hv6.later hw8
    replace hb6 := hb6.trans (hw8.mono hb6.size)
    clear hw8
    refine wp_seq_k (fun KK hKK => ?_)
    refine wp_sq_seq (fun K hK => ?_)
    refine wpq_op (fun w hw => Ex_move (by conv => lhs; whnf)) ?_
    refine wpq_op (fun w hw => Ex_move (by conv => lhs; whnf)) ?_
    refine wpq_op (fun w hw => Ex_index Try.underlying26 size_26 rfl rfl hlt) ?_
    refine wpq_op (fun w hw => Ex_loadagg (cs := amt (p (kd z (cut + d) i)) (z (kd z (cut + d) i)) (kd z (cut + d) i) (decide (0 < i))) agg33 rfl rfl (fun j u hu => cell_later hw (hwi j u hu))) ?_
    refine wpq_call (fun w => ExC_func ent13 rfl rfl) (fun w hw => units_ret _ _ _ _ w) ?_
    refine wpq_op (fun w hw => Ex_move (by conv => lhs; whnf)) ?_
    refine wpq_op (fun w hw => Ex_move (by conv => lhs; whnf)) ?_
    refine wpq_call (fun w => ExC_func ent14 rfl rfl) (fun w hw => tally_b gv (cut + d) _ p w (hv6.later hw) hk1) ?_
    refine wpq_op (fun w hw => Ex_neqp_same Try.underlying30 size62 rfl rfl) ?_
    refine wpq_nil (fun w9 hw9 => hK _ _ ?_)
    clear hK K
    refine wp_if_false rfl ?_
    refine wp_skip (hKK _ _ ?_)
    clear hKK KK
    replace hwi := fun j u hu => cell_later hw9 (hwi j u hu)
    replace hzk := cell_later hw9 hzk
    replace hv6 := hv6.later hw9
    replace hb6 := hb6.trans (hw9.mono hb6.size)
    clear hw9
    refine wp_seq_k (fun KK hKK => ?_)
    refine wp_sq_seq (fun K hK => ?_)
    refine wpq_op (fun w hw => Ex_move (by conv => lhs; whnf)) ?_
    refine wpq_op (fun w hw => Ex_move (by conv => lhs; whnf)) ?_
    refine wpq_op (fun w hw => Ex_index Try.underlying26 size_26 rfl rfl hlt) ?_
    refine wpq_op (fun w hw => Ex_loadagg (cs := amt (p (kd z (cut + d) i)) (z (kd z (cut + d) i)) (kd z (cut + d) i) (decide (0 < i))) agg33 rfl rfl (fun j u hu => cell_later hw (hwi j u hu))) ?_
    refine wpq_call (fun w => ExC_func ent15 rfl rfl) (fun w hw => linked_ret _ _ _ _ w) ?_
    refine wpq_op (fun w hw => Ex_move (by conv => lhs; whnf)) ?_
    refine wpq_op (fun w hw => Ex_gtr rfl rfl (show decide ((0 : Int) < (i : Int)) = decide (0 < i) from by simp)) ?_
    refine wpq_op (fun w hw => Ex_neqb Try.underlying4 rfl rfl (bne_ff _)) ?_
    refine wpq_nil (fun w10 hw10 => hK _ _ ?_)
    clear hK K
    refine wp_if_false rfl ?_
    refine wp_skip (hKK _ _ ?_)
    clear hKK KK
    replace hwi := fun j u hu => cell_later hw10 (hwi j u hu)
    replace hzk := cell_later hw10 hzk
    replace hv6 := hv6.later hw10
    replace hb6 := hb6.trans (hw10.mono hb6.size)
    clear hw10
    refine wp_sq_seq (fun K hK => ?_)
    refine wpq_op (fun w hw => Ex_move (by conv => lhs; whnf)) ?_
    refine wpq_op (fun w hw => Ex_move (by conv => lhs; whnf)) ?_
    refine wpq_op (fun w hw => Ex_index Try.underlying26 size_26 rfl rfl hlt) ?_
    refine wpq_op (fun w hw => Ex_loadagg (cs := amt (p (kd z (cut + d) i)) (z (kd z (cut + d) i)) (kd z (cut + d) i) (decide (0 < i))) agg33 rfl rfl (fun j u hu => cell_later hw (hwi j u hu))) ?_
    refine wpq_call (fun w => ExC_func ent16 rfl rfl) (fun w hw => reused_ret _ _ _ _ w) ?_
    refine wpq_op (fun w hw => Ex_neqnil Try.underlying22 rfl rfl rfl) ?_
    refine wpq_op (fun w hw => Ex_move (by conv => lhs; whnf)) ?_
    refine wpq_opg (by exact rfl) (by exact rfl) (fun w hw => Ex_move (by conv => lhs; whnf)) ?_
    refine wpq_opg (by exact rfl) (by exact rfl) (fun w hw => Ex_move (by conv => lhs; whnf)) ?_
    refine wpq_opg (by exact rfl) (by exact rfl) (fun w hw => Ex_index Try.underlying26 size_26 rfl rfl hlt) ?_
    refine wpq_opg (by exact rfl) (by exact rfl) (fun w hw => Ex_loadagg (cs := amt (p (kd z (cut + d) i)) (z (kd z (cut + d) i)) (kd z (cut + d) i) (decide (0 < i))) agg33 rfl rfl (fun j u hu => cell_later hw (hwi j u hu))) ?_
    refine wpq_callg (by exact rfl) (by exact rfl) (fun w => ExC_func ent17 rfl rfl) (fun w hw => among_ret _ _ _ _ w) ?_
    refine wpq_opg (by exact rfl) (by exact rfl) (fun w hw => Ex_neqnil Try.underlying22 rfl rfl rfl) ?_
    refine wpq_op (fun w hw => Ex_pick rfl (by conv => lhs; whnf)) ?_
    refine wpq_op (fun w hw => Ex_move (by conv => lhs; whnf)) ?_
    refine wpq_opg (by exact rfl) (by exact rfl) (fun w hw => Ex_move (by conv => lhs; whnf)) ?_
    refine wpq_opg (by exact rfl) (by exact rfl) (fun w hw => Ex_move (by conv => lhs; whnf)) ?_
    refine wpq_opg (by exact rfl) (by exact rfl) (fun w hw => Ex_index Try.underlying26 size_26 rfl rfl hlt) ?_
    refine wpq_opg (by exact rfl) (by exact rfl) (fun w hw => Ex_loadagg (cs := amt (p (kd z (cut + d) i)) (z (kd z (cut + d) i)) (kd z (cut + d) i) (decide (0 < i))) agg33 rfl rfl (fun j u hu => cell_later hw (hwi j u hu))) ?_
    refine wpq_callg (by exact rfl) (by exact rfl) (fun w => ExC_func ent18 rfl rfl) (fun w hw => groups_ret _ _ _ _ w) ?_
    refine wpq_opg (by exact rfl) (by exact rfl) (fun w hw => Ex_neqp_nil Try.underlying24 rfl rfl) ?_
    refine wpq_op (fun w hw => Ex_pick rfl (by conv => lhs; whnf)) ?_
    refine wpq_op (fun w hw => Ex_move (by conv => lhs; whnf)) ?_
    refine wpq_opg (by exact rfl) (by exact rfl) (fun w hw => Ex_move (by conv => lhs; whnf)) ?_
    refine wpq_opg (by exact rfl) (by exact rfl) (fun w hw => Ex_move (by conv => lhs; whnf)) ?_
    refine wpq_opg (by exact rfl) (by exact rfl) (fun w hw => Ex_index Try.underlying26 size_26 rfl rfl hlt) ?_
    refine wpq_opg (by exact rfl) (by exact rfl) (fun w hw => Ex_loadagg (cs := amt (p (kd z (cut + d) i)) (z (kd z (cut + d) i)) (kd z (cut + d) i) (decide (0 < i))) agg33 rfl rfl (fun j u hu => cell_later hw (hwi j u hu))) ?_
    refine wpq_callg (by exact rfl) (by exact rfl) (fun w => ExC_func ent19 rfl rfl) (fun w hw => fewest_ret _ _ _ _ w) ?_
    refine wpq_opg (by exact rfl) (by exact rfl) (fun w hw => Ex_neq rfl rfl (ne_f (by first | rfl | omega))) ?_
    refine wpq_op (fun w hw => Ex_pick rfl (by conv => lhs; whnf)) ?_
    refine wpq_op (fun w hw => Ex_move (by conv => lhs; whnf)) ?_
    refine wpq_opg (by exact rfl) (by exact rfl) (fun w hw => Ex_move (by conv => lhs; whnf)) ?_
    refine wpq_opg (by exact rfl) (by exact rfl) (fun w hw => Ex_move (by conv => lhs; whnf)) ?_
    refine wpq_opg (by exact rfl) (by exact rfl) (fun w hw => Ex_index Try.underlying26 size_26 rfl rfl hlt) ?_
    refine wpq_opg (by exact rfl) (by exact rfl) (fun w hw => Ex_loadagg (cs := amt (p (kd z (cut + d) i)) (z (kd z (cut + d) i)) (kd z (cut + d) i) (decide (0 < i))) agg33 rfl rfl (fun j u hu => cell_later hw (hwi j u hu))) ?_
    refine wpq_callg (by exact rfl) (by exact rfl) (fun w => ExC_func ent20 rfl rfl) (fun w hw => sockets_ret _ _ _ _ w) ?_
    refine wpq_opg (by exact rfl) (by exact rfl) (fun w hw => Ex_neqp_nil Try.underlying31 rfl rfl) ?_
    refine wpq_op (fun w hw => Ex_pick rfl (by conv => lhs; whnf)) ?_
    refine wpq_nil (fun w11 hw11 => hK _ _ ?_)
    clear hK K
    refine wp_if_false rfl ?_
    refine wp_skip ?_
    refine hK' _ _ ?_
    refine wp_region_last ?_
    refine wpl_op rfl (Ex_move (by conv => lhs; whnf)) ?_
    refine wpl_op rfl (Ex_inc rfl rfl (by omega)) ?_
    refine wpl_op rfl (Ex_assign (by conv => lhs; whnf)) ?_
    refine wpl_nil ?_
    exact hR _ _ _ (i + 1) ⟨rfl, rfl, rfl, rfl, rfl, rfl, rfl, rfl, trivial⟩ ⟨hb6.trans (hw11.mono hb6.size), by omega⟩ (by omega)
  · skip
    refine wp_seq_k (fun KK hKK => ?_)
    refine wp_region_seq (fun K hK => ?_)
    refine wpl_op rfl (Ex_move (by conv => lhs; whnf)) ?_
    refine wpl_op rfl (Ex_move (by conv => lhs; whnf)) ?_
    refine wpl_op rfl (Ex_len Try.underlying26 rfl) ?_
    refine wpl_op rfl (Ex_lss rfl rfl (decide_eq_false (by omega))) ?_
    refine wpl_nil (hK _ _ ?_)
    clear hK K
    refine wp_if_false rfl ?_
    refine wp_exit ?_
    clear hKK
    refine hK1 _ _ ?_
    clear hK1 hR
    have hW := hW.later hb6
    have hH := hH.later hb6
    have hT := hT.later hb6
    have hv := hv.later hb6
    replace hb := hb.trans (hb6.mono hb.size)
    refine wp_norm [(0, .slice a1 (cut + d : Nat) c1), (1, .int .i64 cut), (6, .pointer (some ⟨gv, 0, none⟩)), (7, .slice aW (cnt z (cut + d)) cW), (8, .slice aHd (cnt z cut) cHd), (9, .slice aTl (cnt (fun i => z (i + cut)) d) cTl)] ⟨rfl, rfl, rfl, rfl, rfl, rfl, trivial⟩ (fun u => ?_)
    exact rest3b aW aHd aTl a1 cut d c1 gv cW cHd cTl z p w0 w6 hb hW hH hT hv hn u

theorem walk3 (a0 : Option Addr) (n c0 : Nat) (x : Int) (z : Nat → Int) (w : World) (h0 : IntsAt w a0 n z) (hnil : a0 = none → n = 0) (hcap : n ≤ c0) :
    Ret Try.prog 3 #[.slice a0 n c0, .int .i64 x] w fun v w' => v = .bool true ∧ Below w.heap.size w w' := by
  refine Ret.of_body (vs := [.slice a0 n c0, .int .i64 x]) Try.func3 rfl Try.ntmps3 rfl ?_
  refine wp_region_seq (fun K hK => ?_)
  refine wpl_op rfl (Ex_assign (by conv => lhs; whnf)) ?_
  refine wpl_nil (hK _ _ ?_)
  clear hK K
  refine wp_seq_k (fun KK hKK => ?_)
  refine wp_region_seq (fun K hK => ?_)
  refine wpl_op rfl (Ex_move (by conv => lhs; whnf)) ?_
  refine wpl_op rfl (Ex_move (by conv => lhs; whnf)) ?_
  refine wpl_call rfl (ExC_func ent7 rfl rfl) (bytes7_ret a0 n c0 x w) ?_
  rintro v w' ⟨⟨b, rfl⟩, rfl⟩
  refine wpl_op rfl (Ex_not rfl rfl) ?_
  refine wpl_nil (hK _ _ ?_)
  clear hK K
  refine wp_if rfl (fun ht => ?_) (fun hf => ?_)
  · clear hKK
    refine wp_region_seq (fun K hK => ?_)
    refine wpl_op rfl (Ex_assign (by conv => lhs; whnf)) ?_
    refine wpl_nil (hK _ _ ?_)
    clear hK K
    refine wp_ret ?_
    repeat (first | refine out_block ?_ | refine out_then ?_)
    refine ret_tmp Try.results3 ⟨rfl, Below.refl _ _⟩
  refine wp_skip (hKK _ _ ?_)
  clear hKK KK
  refine wp_seq_k (fun KK hKK => ?_)
  refine wp_region_seq (fun K hK => ?_)
  refine wpl_op rfl (Ex_move (by conv => lhs; whnf)) ?_
  refine wpl_op rfl (Ex_len Try.underlying22 rfl) ?_
  refine wpl_op rfl (Ex_gtr rfl rfl rfl) ?_
  refine wpl_nil (hK _ _ ?_)
  clear hK K
  refine wp_if rfl (fun ht => ?_) (fun hf => ?_)
  · clear hKK
    refine wp_region_seq (fun K hK => ?_)
    refine wpl_op rfl (Ex_assign (by conv => lhs; whnf)) ?_
    refine wpl_nil (hK _ _ ?_)
    clear hK K
    refine wp_ret ?_
    repeat (first | refine out_block ?_ | refine out_then ?_)
    refine ret_tmp Try.results3 ⟨rfl, Below.refl _ _⟩
  refine wp_skip (hKK _ _ ?_)
  clear hKK KK
  have hn : n ≤ 65536 := by have := of_decide_eq_false hf; omega
  clear hf
  by_cases g1 : x < 0
  · skip
    refine wp_seq_k (fun KK hKK => ?_)
    refine wp_region_seq (fun K hK => ?_)
    refine wpl_op rfl (Ex_move (by conv => lhs; whnf)) ?_
    refine wpl_op rfl (Ex_lss rfl rfl (decide_eq_true g1)) ?_
    refine wpl_op rfl (Ex_move (by conv => lhs; whnf)) ?_
    refine wpl_pass (by exact rfl) (by exact rfl) ?_
    refine wpl_pass (by exact rfl) (by exact rfl) ?_
    refine wpl_pass (by exact rfl) (by exact rfl) ?_
    refine wpl_pass (by exact rfl) (by exact rfl) ?_
    refine wpl_op rfl (Ex_pick rfl (by conv => lhs; whnf)) ?_
    refine wpl_nil (hK _ _ ?_)
    clear hK K
    refine wp_if_true rfl ?_
    clear hKK
    refine wp_region_seq (fun K hK => ?_)
    refine wpl_op rfl (Ex_assign (by conv => lhs; whnf)) ?_
    refine wpl_nil (hK _ _ ?_)
    clear hK K
    refine wp_ret ?_
    repeat (first | refine out_block ?_ | refine out_then ?_)
    refine ret_tmp Try.results3 ⟨rfl, Below.refl _ _⟩
  by_cases g2 : (n : Int) < x
  · skip
    refine wp_seq_k (fun KK hKK => ?_)
    refine wp_region_seq (fun K hK => ?_)
    refine wpl_op rfl (Ex_move (by conv => lhs; whnf)) ?_
    refine wpl_op rfl (Ex_lss rfl rfl (decide_eq_false g1)) ?_
    refine wpl_op rfl (Ex_move (by conv => lhs; whnf)) ?_
    refine wpl_opg (by exact rfl) (by exact rfl) (Ex_move (by conv => lhs; whnf)) ?_
    refine wpl_opg (by exact rfl) (by exact rfl) (Ex_move (by conv => lhs; whnf)) ?_
    refine wpl_opg (by exact rfl) (by exact rfl) (Ex_len Try.underlying22 rfl) ?_
    refine wpl_opg (by exact rfl) (by exact rfl) (Ex_gtr rfl rfl (decide_eq_true g2)) ?_
    refine wpl_op rfl (Ex_pick rfl (by conv => lhs; whnf)) ?_
    refine wpl_nil (hK _ _ ?_)
    clear hK K
    refine wp_if_true rfl ?_
    clear hKK
    refine wp_region_seq (fun K hK => ?_)
    refine wpl_op rfl (Ex_assign (by conv => lhs; whnf)) ?_
    refine wpl_nil (hK _ _ ?_)
    clear hK K
    refine wp_ret ?_
    repeat (first | refine out_block ?_ | refine out_then ?_)
    refine ret_tmp Try.results3 ⟨rfl, Below.refl _ _⟩
  refine wp_seq_k (fun KK hKK => ?_)
  refine wp_region_seq (fun K hK => ?_)
  refine wpl_op rfl (Ex_move (by conv => lhs; whnf)) ?_
  refine wpl_op rfl (Ex_lss rfl rfl (decide_eq_false g1)) ?_
  refine wpl_op rfl (Ex_move (by conv => lhs; whnf)) ?_
  refine wpl_opg (by exact rfl) (by exact rfl) (Ex_move (by conv => lhs; whnf)) ?_
  refine wpl_opg (by exact rfl) (by exact rfl) (Ex_move (by conv => lhs; whnf)) ?_
  refine wpl_opg (by exact rfl) (by exact rfl) (Ex_len Try.underlying22 rfl) ?_
  refine wpl_opg (by exact rfl) (by exact rfl) (Ex_gtr rfl rfl (decide_eq_false g2)) ?_
  refine wpl_op rfl (Ex_pick rfl (by conv => lhs; whnf)) ?_
  refine wpl_nil (hK _ _ ?_)
  clear hK K
  refine wp_if_false rfl ?_
  refine wp_skip (hKK _ _ ?_)
  clear hKK KK
  obtain ⟨cut, rfl⟩ := Int.eq_ofNat_of_zero_le (show 0 ≤ x by omega)
  obtain ⟨d, rfl⟩ : ∃ d, n = cut + d := ⟨n - cut, by omega⟩
  refine wp_seq_k (fun K1 hK1 => ?_)
  have hrest : ∀ uu ll a1 c1 w1, Below w.heap.size w w1 → IntsAt w1 a1 (cut + d) z → cut + d ≤ c1 → Agree uu ll [(0, .slice a1 (cut + d : Nat) c1), (1, .int .i64 cut)] → K1 (fr 369 uu ll) w1 := by
    intro uu ll a1 c1 w1 hb1 h1 hc1 hag
    refine hK1 _ _ ?_
    rw [fr_norm _ hag]
    exact rest3 a1 cut d c1 z w w1 hb1 h1 hn hc1 _
  cases a0 with
  | none =>
    refine wp_region_seq (fun K hK => ?_)
    refine wpl_op rfl (Ex_move (by conv => lhs; whnf)) ?_
    refine wpl_op rfl (Ex_neqnil Try.underlying22 rfl rfl rfl) ?_
    refine wpl_nil (hK _ _ ?_)
    clear hK K
    refine wp_if_false rfl ?_
    refine wp_skip ?_
    exact hrest _ _ none c0 w (Below.refl _ _) h0 hcap ⟨rfl, rfl, trivial⟩
  | some a =>
    refine wp_region_seq (fun K hK => ?_)
    refine wpl_op rfl (Ex_move (by conv => lhs; whnf)) ?_
    refine wpl_op rfl (Ex_neqnil Try.underlying22 rfl rfl rfl) ?_
    refine wpl_nil (hK _ _ ?_)
    clear hK K
    refine wp_if_true rfl ?_
    refine wp_region_seq (fun K hK => ?_)
    refine wpl_op rfl (Ex_move (by conv => lhs; whnf)) ?_
    refine wpl_op rfl (Ex_len Try.underlying22 rfl) ?_
    refine wpl_op rfl (Ex_mk Try.underlying22 info3 rfl rfl (by omega) (by omega)) ?_
    refine wpl_op rfl (Ex_assign (by conv => lhs; whnf)) ?_
    refine wpl_nil (hK _ _ ?_)
    clear hK K
    have hbA : Below w.heap.size w (w.alloc (.cells (madeCells (Value.int .i64 0).cells ((cut + d) * 1)) 3)) := (Below.refl _ _).alloc (Nat.le_refl _) _
    have hownA : Own (w.alloc (.cells (madeCells (Value.int .i64 0).cells ((cut + d) * 1)) 3)) w.heap.size 3 (cut + d) 0 (fun _ => .int .i64 0) := by rw [Nat.mul_one]; exact Own.made w _ _ _ _
    have hA := h0.below hbA
    refine wp_region_seq (fun K hK => ?_)
    refine wpl_op rfl (Ex_move (by conv => lhs; whnf)) ?_
    refine wpl_op rfl (Ex_move (by conv => lhs; whnf)) ?_
    refine wpl_exop rfl (copy_i Try.underlying22 isz3 rfl rfl hownA hA hbA (Nat.le_refl _)) ?_
    rintro v w2 ⟨hown2, hb2⟩
    refine wpl_nil (hK _ _ ?_)
    clear hK K
    refine wp_region_last ?_
    refine wpl_op rfl (Ex_move (by conv => lhs; whnf)) ?_
    refine wpl_op rfl (Ex_assign (by conv => lhs; whnf)) ?_
    refine wpl_nil ?_
    exact hrest _ _ _ _ w2 hb2 (IntsAt.of_own hown2) (Nat.le_refl _) ⟨rfl, rfl, trivial⟩
end Go.Proofs.Qxb6613881a.OA
