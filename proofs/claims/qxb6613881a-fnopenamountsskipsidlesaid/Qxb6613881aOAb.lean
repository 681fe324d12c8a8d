import Derived.Test.Qxb6613881aOAa
namespace Go.Proofs.Qxb6613881a.OA
open Go.Fr Go.RowKit

/-! ### The kinds that ask for more than zero -/
def posL (z : Nat → Int) : Nat → List Nat
  | 0 => []
  | k + 1 => if 0 < z k then posL z k ++ [k] else posL z k
theorem posL_yes {z : Nat → Int} {k : Nat} (h : 0 < z k) : posL z (k + 1) = posL z k ++ [k] := by simp [posL, h]
theorem posL_no {z : Nat → Int} {k : Nat} (h : ¬ 0 < z k) : posL z (k + 1) = posL z k := by simp [posL, h]
theorem posL_len (z : Nat → Int) : ∀ k, (posL z k).length = cnt z k
  | 0 => rfl
  | k + 1 => by
    by_cases h : 0 < z k
    · rw [posL_yes h, cnt_yes h, List.length_append, posL_len z k]; rfl
    · rw [posL_no h, cnt_no h, posL_len z k]
theorem posL_mem (z : Nat → Int) : ∀ k, ∀ x ∈ posL z k, x < k ∧ 0 < z x
  | 0, x, h => by simp [posL] at h
  | k + 1, x, h => by
    by_cases hz : 0 < z k
    · rw [posL_yes hz, List.mem_append] at h
      rcases h with h | h
      · have := posL_mem z k x h; exact ⟨by omega, this.2⟩
      · simp at h; subst h; exact ⟨by omega, hz⟩
    · rw [posL_no hz] at h
      have := posL_mem z k x h; exact ⟨by omega, this.2⟩
theorem posL_split (z : Nat → Int) (c : Nat) : ∀ d, posL z (c + d) = posL z c ++ (posL (fun i => z (i + c)) d).map (· + c)
  | 0 => by simp [posL]
  | d + 1 => by
    have ih := posL_split z c d
    show posL z ((c + d) + 1) = _
    by_cases h : 0 < z (c + d)
    · have h' : 0 < (fun i => z (i + c)) d := by simpa [Nat.add_comm] using h
      rw [posL_yes h, posL_yes (z := fun i => z (i + c)) h', ih]
      simp [Nat.add_comm]
    · have h' : ¬ 0 < (fun i => z (i + c)) d := by simpa [Nat.add_comm] using h
      rw [posL_no h, posL_no (z := fun i => z (i + c)) h', ih]
/-- The i-th of them. -/
def kd (z : Nat → Int) (n i : Nat) : Nat := (posL z n).getD i 0
theorem kd_get {z : Nat → Int} {n i : Nat} (h : i < cnt z n) : (posL z n)[i]? = some (kd z n i) := by
  have hl : i < (posL z n).length := by rw [posL_len]; exact h
  simp [kd, List.getD_eq_getElem?_getD, List.getElem?_eq_getElem hl]
theorem kd_lt {z : Nat → Int} {n i : Nat} (h : i < cnt z n) : kd z n i < n ∧ 0 < z (kd z n i) := posL_mem z n _ (List.mem_of_getElem? (kd_get h))
theorem kd_mono (z : Nat → Int) : ∀ n i, i + 1 < cnt z n → kd z n i < kd z n (i + 1)
  | 0, i, h => by simp [cnt] at h
  | n + 1, i, h => by
    by_cases hz : 0 < z n
    · rw [cnt_yes hz] at h
      have e : posL z (n + 1) = posL z n ++ [n] := posL_yes hz
      have hl := posL_len z n
      by_cases hi : i + 1 < cnt z n
      · have h1 : kd z (n + 1) i = kd z n i := by unfold kd; rw [e, List.getD_eq_getElem?_getD, List.getD_eq_getElem?_getD, List.getElem?_append_left (by omega)]
        have h2 : kd z (n + 1) (i + 1) = kd z n (i + 1) := by unfold kd; rw [e, List.getD_eq_getElem?_getD, List.getD_eq_getElem?_getD, List.getElem?_append_left (by omega)]
        rw [h1, h2]
        exact kd_mono z n i hi
      · have hi' : i + 1 = cnt z n := by omega
        have h1 : kd z (n + 1) i = kd z n i := by unfold kd; rw [e, List.getD_eq_getElem?_getD, List.getD_eq_getElem?_getD, List.getElem?_append_left (by omega)]
        have h2 : kd z (n + 1) (i + 1) = n := by unfold kd; rw [e, List.getD_eq_getElem?_getD, List.getElem?_append_right (by omega), hl, hi']; simp
        rw [h1, h2]
        exact (kd_lt (by omega)).1
    · have e : posL z (n + 1) = posL z n := posL_no hz
      have h1 : ∀ j, kd z (n + 1) j = kd z n j := fun j => by unfold kd; rw [e]
      rw [h1, h1]
      rw [cnt_no hz] at h
      exact kd_mono z n i h

/-- The run of amounts as it lies in memory, the first being number i. -/
def rowsOf (p : Nat → Addr) (z : Nat → Int) : List Nat → Nat → List Value
  | [], _ => []
  | k :: r, i => amt (p k) (z k) k (decide (0 < i)) ++ rowsOf p z r (i + 1)
theorem rowsOf_snoc (p : Nat → Addr) (z : Nat → Int) (k : Nat) : ∀ (l : List Nat) (i : Nat), rowsOf p z (l ++ [k]) i = rowsOf p z l i ++ amt (p k) (z k) k (decide (0 < i + l.length))
  | [], i => by simp [rowsOf]
  | a :: l, i => by
    show amt _ _ _ _ ++ rowsOf p z (l ++ [k]) (i + 1) = _
    rw [rowsOf_snoc p z k l (i + 1)]
    simp only [rowsOf, List.append_assoc, List.length_cons]
    rw [show i + 1 + l.length = i + (l.length + 1) by omega]
theorem amt_len (p : Addr) (n k : Int) (b : Bool) : (amt p n k b).length = 9 := rfl
theorem rowsOf_get (p : Nat → Addr) (z : Nat → Int) : ∀ (l : List Nat) (i0 i k j : Nat) (u : Value), l[i]? = some k → (amt (p k) (z k) k (decide (0 < i0 + i)))[j]? = some u → (rowsOf p z l i0)[i * 9 + j]? = some u
  | [], i0, i, k, j, u, h, _ => by simp at h
  | a :: l, i0, 0, k, j, u, h, hu => by
    simp at h
    subst h
    have hj : j < 9 := by
      have := (List.getElem?_eq_some_iff.1 hu).1
      simpa [amt_len] using this
    show (amt _ _ _ _ ++ _)[0 * 9 + j]? = some u
    rw [Nat.zero_mul, Nat.zero_add, List.getElem?_append_left (by rw [amt_len]; exact hj)]
    simpa using hu
  | a :: l, i0, i + 1, k, j, u, h, hu => by
    show (amt _ _ _ _ ++ _)[(i + 1) * 9 + j]? = some u
    rw [List.getElem?_append_right (by rw [amt_len]; omega), amt_len, show (i + 1) * 9 + j - 9 = i * 9 + j by omega]
    refine rowsOf_get p z l (i0 + 1) i k j u (by simpa using h) ?_
    rw [show i0 + 1 + i = i0 + (i + 1) by omega]
    exact hu

/-- A slice of amounts: the run of z's positive kinds below n. -/
def Amts (w : World) (a : Option Addr) (p : Nat → Addr) (z : Nat → Int) (n : Nat) : Prop :=
  cnt z n = 0 ∨ ∃ g, a = some ⟨g, 0, none⟩ ∧ ∀ i, i < cnt z n → ∀ j u, (amt (p (kd z n i)) (z (kd z n i)) (kd z n i) (decide (0 < i)))[j]? = some u → w.cell? ⟨g, i * 9 + j, none⟩ = some u
theorem Amts.later {w w' : World} {a : Option Addr} {p : Nat → Addr} {z : Nat → Int} {n : Nat} (h : Amts w a p z n) (hb : Below w.heap.size w w') : Amts w' a p z n := by
  rcases h with h | ⟨g, ha, hc⟩
  · exact .inl h
  · exact .inr ⟨g, ha, fun i hi j u hu => cell_later hb (hc i hi j u hu)⟩
theorem owns_shape {w : World} {base : Nat} {e : TypeId} {size : Nat} {v : Value} {n : Nat} {xs : List Value} (h : w.ownsRow base e size v n xs) : ∃ a c, v = .slice a n c := by
  rcases h.2 with ⟨rfl, rfl⟩ | ⟨g, cap, cur, rfl, _⟩
  · exact ⟨none, 0, rfl⟩
  · exact ⟨_, cap, rfl⟩
theorem Amts.of_owns {w : World} {base : Nat} {a : Option Addr} {c : Nat} {p : Nat → Addr} {z : Nat → Int} {n : Nat} (h : w.ownsRow base 33 9 (.slice a (cnt z n) c) (cnt z n) (rowsOf p z (posL z n) 0)) : Amts w a p z n := by
  rcases h.2 with ⟨_, hn⟩ | ⟨g, cap, cur, hv, _, hg, _, _, hs, ht⟩
  · exact .inl hn
  · simp at hv
    obtain ⟨rfl, rfl⟩ := hv
    refine .inr ⟨g, rfl, fun i hi j u hu => ?_⟩
    have h1 := rowsOf_get p z (posL z n) 0 i (kd z n i) j u (kd_get hi) (by rw [Nat.zero_add]; exact hu)
    rw [← ht, List.getElem?_take] at h1
    split at h1
    · exact cell_at hg (by simpa using h1)
    · cases h1
theorem owns_block {w : World} {base : Nat} {e : TypeId} {size : Nat} {v : Value} {n : Nat} {xs : List Value} (h : w.ownsRow base e size v n xs) : ∀ k, v.ownBlock = some k → base ≤ k := fun k hk => (h.lt k hk).1


theorem appendRun_ret (gv N : Nat) (p : Nat → Addr) (a1 : Option Addr) (n c1 : Nat) (z : Nat → Int) (w : World) (hv : View w gv N p) (h1 : IntsAt w a1 n z) (hn : n ≤ N) (hN : N ≤ 1000000) :
    Ret Try.prog 32 #[.slice none 0 0, .slice a1 n c1, .func (.func 33) #[.pointer (some ⟨gv, 0, none⟩)] #[]] w fun v w' => ∃ a c, v = .slice a (cnt z n) c ∧ Amts w' a p z n ∧ Below w.heap.size w w' := by
  refine Ret.of_body (vs := [.slice none 0 0, .slice a1 n c1, .func (.func 33) #[.pointer (some ⟨gv, 0, none⟩)] #[]]) Try.func32 rfl Try.ntmps32 rfl ?_
  refine wp_region_seq (fun K hK => ?_)
  refine wpl_op rfl (Ex_assign (by conv => lhs; whnf)) ?_
  refine wpl_nil (hK _ _ ?_)
  clear hK K
  refine wp_region_seq (fun K hK => ?_)
  refine wpl_op rfl (Ex_move (by conv => lhs; whnf)) ?_
  refine wpl_op rfl (Ex_len Try.underlying26 rfl) ?_
  refine wpl_op rfl (Ex_assign (by conv => lhs; whnf)) ?_
  refine wpl_nil (hK _ _ ?_)
  clear hK K
  refine wp_seq_k (fun K hK => ?_)
  refine wp_region_seq (fun K hK => ?_)
  refine wpl_op rfl (Ex_move (by conv => lhs; whnf)) ?_
  refine wpl_op rfl (Ex_len Try.underlying22 rfl) ?_
  refine wpl_op rfl (Ex_move (by conv => lhs; whnf)) ?_
  refine wpl_nil (hK _ _ ?_)
  clear hK K
  refine wp_block ?_
  refine wp_loop_st (fun s : Nat × Value => [(0, s.2), (2, .func (.func 33) #[.pointer (some ⟨gv, 0, none⟩)] #[]), (7, .int .i64 ((0 : Nat) : Int)), (12, .slice a1 n c1), (13, .int .i64 n), (14, .int .i64 (s.1 : Int))])
    (fun s w' => s.1 ≤ n ∧ Below w.heap.size w w' ∧ w'.ownsRow w.heap.size 33 9 s.2 (cnt z s.1) (rowsOf p z (posL z s.1) 0)) (fun s => n - s.1) (0, .slice none 0 0) ⟨rfl, rfl, rfl, rfl, rfl, rfl, trivial⟩
    ⟨Nat.zero_le _, Below.refl _ _, World.ownsRow_nil _ _ _ _⟩ ?_
  rintro ⟨k, v0⟩ u w1 ⟨hk, hb, hown⟩ R hR
  dsimp only at hk hown
  obtain ⟨a, c, hv0⟩ := owns_shape hown
  subst hv0
  have hcl := cnt_le z k
  by_cases hlt : k < n
  · obtain ⟨b0, o0, rfl, hc0⟩ := h1.get hlt
    have hcz := cell_later hb (hc0 k hlt)
    refine wp_region_seq (fun K hK => ?_)
    refine wpl_op rfl (Ex_lss rfl rfl (decide_eq_true (by dsimp only at *; omega))) ?_
    refine wpl_nil (hK _ _ ?_)
    clear hK K
    refine wp_seq_k (fun K' hK' => ?_)
    refine wp_if_true rfl ?_
    refine wp_skip (hK' _ _ ?_)
    clear hK' K'
    refine wp_seq_k (fun K' hK' => ?_)
    refine wp_block ?_
    refine wp_region_seq (fun K hK => ?_)
    refine wpl_op rfl (Ex_move (by conv => lhs; whnf)) ?_
    refine wpl_op rfl (Ex_index1 Try.underlying22 size_22 rfl rfl hlt) ?_
    refine wpl_op rfl (Ex_load one3 rfl hcz) ?_
    refine wpl_op rfl (Ex_assign (by conv => lhs; whnf)) ?_
    refine wpl_op rfl (Ex_assign (by conv => lhs; whnf)) ?_
    refine wpl_nil (hK _ _ ?_)
    clear hK K
    by_cases hp : 0 < z k
    · skip
      refine wp_region_seq (fun K hK => ?_)
      refine wpl_op rfl (Ex_move (by conv => lhs; whnf)) ?_
      refine wpl_op rfl (Ex_gtr rfl rfl (decide_eq_true hp)) ?_
      refine wpl_nil (hK _ _ ?_)
      clear hK K
      refine wp_if_true rfl ?_
      refine wp_region_last ?_
      refine wpl_op rfl (Ex_move (by conv => lhs; whnf)) ?_
      refine wpl_op rfl (Ex_move (by conv => lhs; whnf)) ?_
      refine wpl_op rfl (Ex_move (by conv => lhs; whnf)) ?_
      refine wpl_call rfl (ExC_bound (first := [.pointer (some ⟨gv, 0, none⟩)]) ent33 rfl rfl) (open_ret gv N k p w1 (hv.later hb) (by omega)) ?_
      rintro v w2 ⟨rfl, rfl⟩
      refine wpl_op rfl (Ex_move (by conv => lhs; whnf)) ?_
      refine wpl_op rfl (Ex_move (by conv => lhs; whnf)) ?_
      refine wpl_op rfl (Ex_move (by conv => lhs; whnf)) ?_
      refine wpl_op rfl (Ex_len Try.underlying26 rfl) ?_
      refine wpl_op rfl (Ex_move (by conv => lhs; whnf)) ?_
      refine wpl_op rfl (Ex_gtr rfl rfl (show decide (((0 : Nat) : Int) < (cnt z k : Int)) = decide (0 < 0 + (posL z k).length) from by rw [posL_len]; simp)) ?_
      refine wpl_op rfl (Ex_build (pv := [(0, .pointer (some (p k))), (1, .int .i64 (z k)), (5, .int .i64 (k : Int)), (6, .bool (decide (0 < 0 + (posL z k).length)))]) rfl (bld33 _ _ _ _ _)) ?_
      refine wpl_op rfl (Ex_bsl (pv := [(0, .agg (amt (p k) (z k) k (decide (0 < 0 + (posL z k).length))).toArray)]) rfl (bsl33 _ _ _ _ _)) ?_
      refine wpl_exop rfl (Ex_append (n := cnt z k) (m := 1) (c := 1) (base := w.heap.size) (ad := ⟨w2.heap.size, 0, none⟩) (news := amt (p k) (z k) k (decide (0 < 0 + (posL z k).length))) Try.underlying26 info33 rfl (by decide) rfl (hown.alloc _) rfl rfl
        (fun j x hx => by rw [Addr.add_lit, Nat.zero_add]; exact cell_at (heap_new w2 _) (by simpa using hx)) rfl (by unfold maxLen; omega) (by omega) (Nat.le_trans hb.size (by simp))) ?_
      rintro v' w3 ⟨hown', hgr⟩
      refine wpl_op rfl (Ex_assign (by conv => lhs; whnf)) ?_
      refine wpl_nil ?_
      refine hK' _ _ ?_
      refine wp_region_last ?_
      refine wpl_op rfl (Ex_inc rfl rfl (by dsimp only at *; omega)) ?_
      refine wpl_op rfl (Ex_move (by conv => lhs; whnf)) ?_
      refine wpl_nil ?_
      rw [← rowsOf_snoc, ← posL_yes hp, ← cnt_yes hp] at hown'
      exact hR _ _ _ (k + 1, v') ⟨rfl, rfl, rfl, rfl, rfl, rfl, trivial⟩ ⟨by dsimp only at *; omega, (hb.alloc hb.size _).grown hgr (Nat.le_trans hb.size (by simp)) (owns_block hown), hown'⟩ (by dsimp only at *; omega)
    · skip
      refine wp_region_seq (fun K hK => ?_)
      refine wpl_op rfl (Ex_move (by conv => lhs; whnf)) ?_
      refine wpl_op rfl (Ex_gtr rfl rfl (decide_eq_false hp)) ?_
      refine wpl_nil (hK _ _ ?_)
      clear hK K
      refine wp_if_false rfl ?_
      refine wp_skip ?_
      refine hK' _ _ ?_
      refine wp_region_last ?_
      refine wpl_op rfl (Ex_inc rfl rfl (by dsimp only at *; omega)) ?_
      refine wpl_op rfl (Ex_move (by conv => lhs; whnf)) ?_
      refine wpl_nil ?_
      exact hR _ _ _ (k + 1, .slice a (cnt z k) c) ⟨rfl, rfl, rfl, rfl, rfl, rfl, trivial⟩ ⟨by dsimp only at *; omega, hb, by dsimp only; rw [posL_no hp, cnt_no hp]; exact hown⟩ (by dsimp only at *; omega)
  · have hk' : k = n := by dsimp only at *; omega
    subst hk'
    refine wp_region_seq (fun K hK => ?_)
    refine wpl_op rfl (Ex_lss rfl rfl (decide_eq_false (by dsimp only at *; omega))) ?_
    refine wpl_nil (hK _ _ ?_)
    clear hK K
    refine wp_seq_k (fun K' hK' => ?_)
    refine wp_if_false rfl ?_
    refine wp_exit ?_
    refine hK _ _ ?_
    refine wp_region_seq (fun K hK => ?_)
    refine wpl_op rfl (Ex_move (by conv => lhs; whnf)) ?_
    refine wpl_op rfl (Ex_assign (by conv => lhs; whnf)) ?_
    refine wpl_nil (hK _ _ ?_)
    clear hK K
    refine wp_ret ?_
    repeat (first | refine out_block ?_ | refine out_then ?_)
    refine ret_tmp Try.results32 ⟨a, c, rfl, Amts.of_owns hown, hb⟩

theorem openAmounts_ret (gv N : Nat) (p : Nat → Addr) (a1 : Option Addr) (n c1 : Nat) (z : Nat → Int) (w : World) (hv : View w gv N p) (h1 : IntsAt w a1 n z) (hn : n ≤ N) (hN : N ≤ 1000000) :
    Ret Try.prog 30 #[.pointer (some ⟨gv, 0, none⟩), .slice a1 n c1] w fun v w' => ∃ a c, v = .slice a (cnt z n) c ∧ Amts w' a p z n ∧ Below w.heap.size w w' := by
  refine Ret.of_body (vs := [.pointer (some ⟨gv, 0, none⟩), .slice a1 n c1]) Try.func30 rfl Try.ntmps30 rfl ?_
  refine wp_region_seq (fun K hK => ?_)
  refine wpl_op rfl (Ex_assign (by conv => lhs; whnf)) ?_
  refine wpl_nil (hK _ _ ?_)
  clear hK K
  refine wp_region_seq (fun K hK => ?_)
  refine wpl_op rfl (Ex_move (by conv => lhs; whnf)) ?_
  refine wpl_op rfl (Ex_move (by conv => lhs; whnf)) ?_
  refine wpl_op rfl (Ex_func (fv := [.pointer (some ⟨gv, 0, none⟩)]) (cv := []) rfl rfl) ?_
  refine wpl_call rfl (ExC_func ent32 rfl rfl) (appendRun_ret gv N p a1 n c1 z w hv h1 hn hN) ?_
  rintro v w' ⟨a, c, rfl, h⟩
  refine wpl_op rfl (Ex_assign (by conv => lhs; whnf)) ?_
  refine wpl_nil (hK _ _ ?_)
  clear hK K
  refine wp_ret ?_
  repeat (first | refine out_block ?_ | refine out_then ?_)
  refine ret_tmp Try.results30 ⟨a, c, rfl, h⟩

theorem zOpen_ret (gv N : Nat) (p : Nat → Addr) (a1 : Option Addr) (n c1 : Nat) (z : Nat → Int) (w : World) (hv : View w gv N p) (h1 : IntsAt w a1 n z) (hn : n ≤ N) (hN : N ≤ 1000000) :
    Ret Try.prog 9 #[.pointer (some ⟨gv, 0, none⟩), .slice a1 n c1] w fun v w' => ∃ a c, v = .slice a (cnt z n) c ∧ Amts w' a p z n ∧ Below w.heap.size w w' := by
  refine Ret.of_body (vs := [.pointer (some ⟨gv, 0, none⟩), .slice a1 n c1]) Try.func9 rfl Try.ntmps9 rfl ?_
  refine wp_region_seq (fun K hK => ?_)
  refine wpl_op rfl (Ex_assign (by conv => lhs; whnf)) ?_
  refine wpl_nil (hK _ _ ?_)
  clear hK K
  refine wp_region_seq (fun K hK => ?_)
  refine wpl_op rfl (Ex_move (by conv => lhs; whnf)) ?_
  refine wpl_op rfl (Ex_move (by conv => lhs; whnf)) ?_
  refine wpl_call rfl (ExC_func ent30 rfl rfl) (openAmounts_ret gv N p a1 n c1 z w hv h1 hn hN) ?_
  rintro v w' ⟨a, c, rfl, h⟩
  refine wpl_op rfl (Ex_assign (by conv => lhs; whnf)) ?_
  refine wpl_nil (hK _ _ ?_)
  clear hK K
  refine wp_ret ?_
  repeat (first | refine out_block ?_ | refine out_then ?_)
  refine ret_tmp Try.results9 ⟨a, c, rfl, h⟩
end Go.Proofs.Qxb6613881a.OA
