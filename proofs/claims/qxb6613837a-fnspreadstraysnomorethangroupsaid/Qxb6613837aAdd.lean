import Derived.Test.Qxb6613837aMax
import Derived.Test.Qxb6613837aEs
namespace Go.Proofs.Qxb6613837a.Sp
open Go.Fr Go.RowKit Go.Sp

end Go.Proofs.Qxb6613837a.Sp
namespace Go.Fr
open Go.RowKit Go.Fr Go.Sp
theorem Own.congr {w : World} {g : Nat} {t : TypeId} {n k : Nat} {f f' : Nat → Value} (h : Own w g t n k f) (e : ∀ i, i < k → f i = f' i) : Own w g t n k f' := by
  obtain ⟨arr, h1, h2, h3⟩ := h
  exact ⟨arr, h1, h2, fun i hi => by rw [← e i hi]; exact h3 i hi⟩
end Go.Fr
namespace Go.Proofs.Qxb6613837a.Sp
open Go.Fr Go.RowKit Go.Sp
/-! ### A family of rows of numbers, no two in one block -/
def ivs (l : List Int) : List Value := l.map (fun z => Value.int .i64 z)
theorem ivs_app (l l' : List Int) : ivs (l ++ l') = ivs l ++ ivs l' := by simp [ivs]
theorem ivs_len (l : List Int) : (ivs l).length = l.length := by simp [ivs]
structure Fam (w : World) (B n : Nat) (rv : Nat → Value) (rc : Nat → List Int) : Prop where
  own : ∀ a, a < n → w.ownsRow B 3 1 (rv a) (rc a).length (ivs (rc a))
  dis : ∀ a b, a < n → b < n → a ≠ b → ∀ k, (rv a).ownBlock = some k → (rv b).ownBlock ≠ some k
  szB : B ≤ w.heap.size
def upd {α : Type} (f : Nat → α) (a : Nat) (x : α) (i : Nat) : α := if i = a then x else f i
theorem upd_at {α : Type} (f : Nat → α) (a : Nat) (x : α) : upd f a x a = x := by simp [upd]
theorem upd_ne {α : Type} (f : Nat → α) {a i : Nat} (x : α) (h : i ≠ a) : upd f a x i = f i := by simp [upd, h]
theorem Fam.congr {w : World} {B n : Nat} {rv : Nat → Value} {rc rc' : Nat → List Int} (h : Fam w B n rv rc) (e : ∀ a, a < n → rc a = rc' a) : Fam w B n rv rc' :=
  ⟨fun a ha => by rw [← e a ha]; exact h.own a ha, h.dis, h.szB⟩
theorem owns_keep {w w' : World} {B n : Nat} {v : Value} {xs : List Value} {l : List Nat} (h : w.ownsRow B 3 1 v n xs) (hk : Keep l w w') (hl : ∀ k, v.ownBlock = some k → k ∉ l) : w'.ownsRow B 3 1 v n xs := by
  refine ⟨h.1, ?_⟩
  rcases h.2 with h | ⟨g, cap, cur, rfl, h1, h2, h3⟩
  · exact .inl h
  · exact .inr ⟨g, cap, cur, rfl, h1, by rw [hk.block g (lt_of_heap h2) (hl g rfl)]; exact h2, h3⟩
theorem Fam.keep {w w' : World} {B n : Nat} {rv : Nat → Value} {rc : Nat → List Int} {l : List Nat} (h : Fam w B n rv rc) (hk : Keep l w w') (hl : ∀ k, k ∈ l → k < B ∨ ∀ a, a < n → (rv a).ownBlock ≠ some k) : Fam w' B n rv rc :=
  ⟨fun a ha => owns_keep (h.own a ha) hk (fun k hb hm => by
    rcases hl k hm with h' | h'
    · have := ((h.own a ha).lt k hb).1; omega
    · exact h' a ha hb), h.dis, Nat.le_trans h.szB hk.size⟩
/-- What is neither of the network's two fixed blocks nor a row of the family stays as it is. -/
structure Kept (n : Nat) (l : List Nat) (w : World) (rv : Nat → Value) (w' : World) (rv' : Nat → Value) : Prop where
  os : w'.os = w.os
  tape : w'.tape = w.tape
  output : w'.output = w.output
  size : w.heap.size ≤ w'.heap.size
  old : ∀ b, b < w.heap.size → b ∉ l → (∀ a, a < n → (rv a).ownBlock ≠ some b) → w'.heap[b]? = w.heap[b]? ∧ ∀ a, a < n → (rv' a).ownBlock ≠ some b
theorem Kept.refl (n : Nat) (l : List Nat) (w : World) (rv : Nat → Value) : Kept n l w rv w rv := ⟨rfl, rfl, rfl, Nat.le_refl _, fun _ _ _ h => ⟨rfl, h⟩⟩
theorem Kept.mono {n : Nat} {l l' : List Nat} {w w' : World} {rv rv' : Nat → Value} (h : Kept n l w rv w' rv') (hl : ∀ k, k ∈ l → k ∈ l') : Kept n l' w rv w' rv' :=
  ⟨h.os, h.tape, h.output, h.size, fun b hb h1 h2 => h.old b hb (fun hm => h1 (hl b hm)) h2⟩
theorem Kept.trans {n : Nat} {l : List Nat} {a b c : World} {ra rb rc : Nat → Value} (h : Kept n l a ra b rb) (h' : Kept n l b rb c rc) : Kept n l a ra c rc :=
  ⟨h'.os.trans h.os, h'.tape.trans h.tape, h'.output.trans h.output, Nat.le_trans h.size h'.size, fun k hk h1 h3 => by
    obtain ⟨e1, e2⟩ := h.old k hk h1 h3
    obtain ⟨e3, e4⟩ := h'.old k (Nat.lt_of_lt_of_le hk h.size) h1 e2
    exact ⟨e3.trans e1, e4⟩⟩
theorem Kept.of_keep {n : Nat} {l l' : List Nat} {w w' : World} {rv : Nat → Value} (h : Keep l w w') (hl : ∀ k, k ∈ l → k ∈ l') : Kept n l' w rv w' rv :=
  ⟨h.os, h.tape, h.output, h.size, fun b hb h1 h3 => ⟨h.block b hb (fun hm => h1 (hl b hm)), h3⟩⟩
/-- append onto row a. -/
theorem Ex_famapp {ρ : Operand → Value} {ty : TypeId} {w : World} {x y : Operand} {B n a m c : Nat} {rv : Nat → Value} {rc : Nat → List Int} {ad : Addr} {news : List Int} {v : Value} (l : List Nat) (h : Fam w B n rv rc) (ha : a < n) (hv : rv a = v) (hx : ρ x = v) (hy : ρ y = .slice (some ad) m c) (hl : news.length = m)
    (hnews : ∀ j u, (ivs news)[j]? = some u → w.cell? (ad.add j) = some u) (hlen : (rc a).length + m ≤ 100000000) :
    ∃ v' w', Ex Try.prog ρ (.call { callee := .builtin .append, args := #[x, y], argTypes := #[22, 22] }) ty w v' w' ∧ Fam w' B n (upd rv a v') (upd rc a (rc a ++ news)) ∧ Kept n l w rv w' (upd rv a v') ∧ (∀ b, b < B → w'.heap[b]? = w.heap[b]?) ∧ (∃ a' c', v' = .slice a' ((rc a).length + m) c') := by
  subst hv
  obtain ⟨i, hi1, hi2, hi3, hi4⟩ := info_parts info3
  obtain ⟨v', w', hr, ho, hg, _, hat⟩ := run_append_own_at (P := Try.prog) w B 22 ty 3 i _ 1 8 Try.underlying22 hi1 hi2 hi3 hi4 rfl (by decide) (rv a) (rc a).length (ivs (rc a)) (h.own a ha) ad m c (ivs news) (by rw [ivs_len]; omega) hnews
    (fun u hu => by simp [ivs] at hu; obtain ⟨z, _, rfl⟩ := hu; rfl) (by unfold maxLen; omega) (by omega) h.szB
  have hkeep : Keep (rv a).ownBlock.toList w w' := Keep.of_grown hg (by intro k hk; simp [hk])
  have hother : ∀ b, b < n → b ≠ a → ∀ k, (rv b).ownBlock = some k → k ∉ (rv a).ownBlock.toList := fun b hb hne k hk hm => by
    have hm' : (rv a).ownBlock = some k := by simpa using hm
    exact h.dis b a hb ha hne k hk hm'
  refine ⟨v', w', ex_val fun o ho ht => ?_, ⟨fun b hb => ?_, fun b d hb hd hne k hk => ?_, Nat.le_trans h.szB hkeep.size⟩, ⟨hkeep.os, hkeep.tape, hkeep.output, hkeep.size, fun b hb h1 h3 => ⟨hkeep.block b hb ?_, fun d hd => ?_⟩⟩, fun b hb => ?_, ?_⟩
  · subst ht
    simp [execOp, ho, resolve, invoke, builtin, hx, hy, hr, Result.andThen]
  · by_cases e : b = a
    · subst e
      rw [upd_at, upd_at, List.length_append, hl, ivs_app]
      exact ho
    · rw [upd_ne _ _ e, upd_ne _ _ e]
      exact owns_keep (h.own b hb) hkeep (hother b hb e)
  · by_cases e : b = a
    · subst e
      rw [upd_at] at hk
      rw [upd_ne _ _ (Ne.symm hne)]
      intro hk'
      rcases hat with hat | hat
      · exact h.dis b d hb hd hne k (by rw [← hat]; exact hk) hk'
      · rw [hat] at hk
        have := ((h.own d hd).lt k hk').2
        simp at hk; omega
    · rw [upd_ne _ _ e] at hk
      by_cases e' : d = a
      · subst e'
        rw [upd_at]
        intro hk'
        rcases hat with hat | hat
        · exact h.dis b d hb hd hne k hk (by rw [← hat]; exact hk')
        · rw [hat] at hk'
          have := ((h.own b hb).lt k hk).2
          simp at hk'; omega
      · rw [upd_ne _ _ e']
        exact h.dis b d hb hd hne k hk
  · intro hm
    exact h3 a ha (by simpa using hm)
  · by_cases e : d = a
    · subst e
      rw [upd_at]
      rcases hat with hat | hat
      · rw [hat]; exact h3 d hd
      · rw [hat]; intro hk; simp at hk; omega
    · rw [upd_ne _ _ e]; exact h3 d hd
  · refine hkeep.block b (by have := h.szB; omega) (fun hm => ?_)
    have hm' : (rv a).ownBlock = some b := by simpa using hm
    have := ((h.own a ha).lt b hm').1
    omega
  · rcases ho.2 with ⟨rfl, hn⟩ | ⟨g, cap, cur, rfl, _⟩
    · exact ⟨none, 0, by rw [hn]⟩
    · exact ⟨_, cap, rfl⟩

/-! ### A network being built -/
def ni (l : List Nat) : List Int := l.map (fun x : Nat => (x : Int))
theorem ni_app (l l' : List Nat) : ni (l ++ l') = ni l ++ ni l' := by simp [ni]
theorem ni_len (l : List Nat) : (ni l).length = l.length := by simp [ni]
def rcOf (V : Nat) (es : List Arc) (a : Nat) : List Int := if a < V then ni (outs a 0 es) else if a = V then ni (heads es) else rooms es
def stc (go V : Nat) (rv : Nat → Value) (j : Nat) : Value := if j = 0 then .slice (some ⟨go, 0, none⟩) V V else if j = 1 then rv V else rv (V + 1)
structure Bld (w : World) (B g go V : Nat) (rv : Nat → Value) (rc : Nat → List Int) : Prop where
  st : Own w g 56 3 3 (stc go V rv)
  ot : Own w go 22 V V rv
  fam : Fam w B (V + 2) rv rc
  gB : g < B
  goB : go < B
  ne : g ≠ go
theorem Bld.below {w w' : World} {B g go V : Nat} {rv : Nat → Value} {rc : Nat → List Int} (h : Bld w B g go V rv rc) (hk : Below w.heap.size w w') : Bld w' B g go V rv rc :=
  ⟨h.st.later hk, h.ot.later hk, h.fam.keep (Keep.of_below hk []) (by intro k hk; cases hk), h.gB, h.goB, h.ne⟩
theorem rcOf_snoc {V : Nat} {es : List Arc} {x : Arc} (ha : x.a < V) (hb : x.b < V) (i : Nat) (hi : i < V + 2) :
    upd (upd (upd (upd (rcOf V es) V (ni (heads es) ++ [(x.b : Int), (x.a : Int)])) (V + 1) (rooms es ++ [x.c, 0])) x.a (ni (outs x.a 0 es) ++ [((2 * es.length : Nat) : Int)])) x.b
      ((if x.b = x.a then ni (outs x.a 0 es) ++ [((2 * es.length : Nat) : Int)] else ni (outs x.b 0 es)) ++ [((2 * es.length + 1 : Nat) : Int)]) i = rcOf V (es ++ [x]) i := by
  by_cases h1 : i < V
  · have e : rcOf V (es ++ [x]) i = ni (outs i 0 (es ++ [x])) := by simp [rcOf, h1]
    rw [e, outs_snoc, ni_app, ni_app, Nat.zero_add]
    by_cases hib : i = x.b
    · subst hib
      rw [upd_at]
      by_cases hba : x.b = x.a
      · rw [if_pos hba, ← hba]; simp [ni]
      · rw [if_neg hba, if_neg (Ne.symm hba)]; simp [ni]
    · rw [upd_ne _ _ hib]
      by_cases hia : i = x.a
      · subst hia
        rw [upd_at]; simp [ni, Ne.symm hib]
      · rw [upd_ne _ _ hia, upd_ne _ _ (by omega), upd_ne _ _ (by omega)]
        simp [rcOf, h1, Ne.symm hia, Ne.symm hib, ni]
  · rw [upd_ne _ _ (by omega), upd_ne _ _ (by omega)]
    by_cases h2 : i = V
    · subst h2
      rw [upd_ne _ _ (by omega), upd_at]
      simp [rcOf, heads_snoc, ni]
    · obtain rfl : i = V + 1 := by omega
      rw [upd_at]
      simp [rcOf, rooms_snoc, show ¬ V + 1 < V by omega]
theorem Own.putv {w : World} {g c n i : Nat} {t : TypeId} {f f' : Nat → Value} (h : Own w g t c n f) (hi : i < n) (hc : n ≤ c) {x : Value} (he : ∀ j, j < n → f' j = if j = i then x else f j) : Own (w.setCell ⟨g, i, none⟩ x) g t c n f' :=
  h.set (by omega) (fun j hj => by
    rw [he j hj]
    by_cases hje : j = i
    · exact .inl ⟨hje, by simp [hje]⟩
    · exact .inr ⟨hje, hj, by simp [hje]⟩)
theorem bsl3_2 (k l : Int) (w : World) : (Instr.buildSlice 22 2 #[(0, .int .i64 k), (1, .int .i64 l)]).run Try.prog w = .ok (.slice (some ⟨w.heap.size, 0, none⟩) 2 2) (w.alloc (.cells #[.int .i64 k, .int .i64 l] 3)) := by
  simp [go_sem]
theorem Fam.ne {w : World} {B n a : Nat} {rv : Nat → Value} {rc : Nat → List Int} (h : Fam w B n rv rc) (ha : a < n) : rv a ≠ undef := by
  rcases (h.own a ha).2 with ⟨e, _⟩ | ⟨g, cap, cur, e, _⟩ <;> rw [e] <;> intro h <;> cases h
theorem keep_drew (w : World) (o : Obj) : Keep [] w (w.drew.alloc o) := ⟨rfl, rfl, rfl, by simp, fun k hk _ => (Keep.alloc [] w.drew o).block k hk (by simp)⟩
theorem own_over {w w' : World} {o : Obj} {B g n k : Nat} {t : TypeId} {f : Nat → Value} (h : Own w g t n k f) (hg : g < B) (hbel : ∀ b, b < B → w'.heap[b]? = (w.alloc o).heap[b]?) : Own w' g t n k f := by
  obtain ⟨arr, h1, h2, h3⟩ := h.keep (Keep.alloc [] w o) (by simp)
  exact ⟨arr, by rw [hbel g hg]; exact h1, h2, h3⟩
theorem fresh_news (w : World) (news : List Int) : ∀ j u, (ivs news)[j]? = some u → (w.alloc (.cells (ivs news).toArray 3)).cell? ((⟨w.heap.size, 0, none⟩ : Addr).add j) = some u := by
  intro j u hu
  rw [Addr.add_lit, Nat.zero_add]
  exact cell_at (heap_new w _) (by simpa using hu)


theorem Bld.len {w : World} {B g go V : Nat} {rv : Nat → Value} {rc : Nat → List Int} (h : Bld w B g go V rv rc) {a : Nat} (ha : a < V + 2) : ∃ ad c, rv a = .slice ad (rc a).length c := by
  rcases (h.fam.own a ha).2 with ⟨e, hn⟩ | ⟨k, cap, cur, e, _⟩
  · exact ⟨none, 0, by rw [e, hn]⟩
  · exact ⟨_, cap, e⟩
theorem add_ret (B g go V : Nat) (rv : Nat → Value) (es : List Arc) (x : Arc) (ha : x.a < V) (hb : x.b < V) (hl : es.length ≤ 10000000) (w : World) (h : Bld w B g go V rv (rcOf V es)) :
    Ret Try.prog 36 #[.pointer (some ⟨g, 0, none⟩), .int .i64 x.a, .int .i64 x.b, .int .i64 x.c] w fun v w' =>
      v = .int .i64 ((2 * es.length : Nat) : Int) ∧ ∃ rv', Bld w' B g go V rv' (rcOf V (es ++ [x])) ∧ Kept (V + 2) [g, go] w rv w' rv' := by
  refine Ret.of_body (vs := [.pointer (some ⟨g, 0, none⟩), .int .i64 x.a, .int .i64 x.b, .int .i64 x.c]) Try.func36 rfl Try.ntmps36 rfl ?_
  have hrv : rcOf V es V = ni (heads es) := by simp [rcOf]
  have hrv1 : rcOf V es (V + 1) = rooms es := by simp [rcOf, show ¬ V + 1 < V by omega]
  have hra : rcOf V es x.a = ni (outs x.a 0 es) := by simp [rcOf, ha]
  have hrb : rcOf V es x.b = ni (outs x.b 0 es) := by simp [rcOf, hb]
  have hla := outs_len x.a es 0
  have hlb := outs_len x.b es 0
  have hlh := heads_len es
  have hlr := rooms_len es
  obtain ⟨adh, ch, hvh⟩ := h.len (a := V) (by omega)
  rw [hrv, ni_len, hlh] at hvh
  have c0 := h.st.cell (i := 0) (by omega)
  have c1 := h.st.cell (i := 1) (by omega)
  have c2 := h.st.cell (i := 2) (by omega)
  replace c0 : w.cell? ⟨g, 0, none⟩ = some (.slice (some ⟨go, 0, none⟩) V V) := c0
  replace c1 : w.cell? ⟨g, 1, none⟩ = some (rv V) := c1
  replace c2 : w.cell? ⟨g, 2, none⟩ = some (rv (V + 1)) := c2
  rw [hvh] at c1
  refine wp_region_seq (fun K hK => ?_)
  refine wpl_op rfl (Ex_assign (by conv => lhs; whnf)) ?_
  refine wpl_nil (hK _ _ ?_)
  clear hK K
  refine wp_region_seq (fun K hK => ?_)
  refine wpl_op rfl (Ex_move (by conv => lhs; whnf)) ?_
  refine wpl_op rfl (Ex_nil rfl) ?_
  refine wpl_op rfl (Ex_field fld56_1 rfl) ?_
  refine wpl_op rfl (Ex_load one22 rfl c1) ?_
  refine wpl_op rfl (Ex_len Try.underlying22 rfl) ?_
  refine wpl_op rfl (Ex_assign (by conv => lhs; whnf)) ?_
  refine wpl_nil (hK _ _ ?_)
  clear hK K
  refine wp_region_seq (fun K hK => ?_)
  refine wpl_op rfl (Ex_move (by conv => lhs; whnf)) ?_
  refine wpl_op rfl (Ex_move (by conv => lhs; whnf)) ?_
  refine wpl_op rfl (Ex_nil rfl) ?_
  refine wpl_op rfl (Ex_field fld56_1 rfl) ?_
  refine wpl_op rfl (Ex_load one22 rfl c1) ?_
  refine wpl_op rfl (Ex_move (by conv => lhs; whnf)) ?_
  refine wpl_op rfl (Ex_move (by conv => lhs; whnf)) ?_
  refine wpl_op rfl (Ex_bsl (pv := [(0, .int .i64 (x.b : Int)), (1, .int .i64 (x.a : Int))]) rfl (bsl3_2 _ _ _)) ?_
  refine wpl_exop rfl (Ex_famapp (B := B) (n := V + 2) (a := V) (ad := ⟨w.heap.size, 0, none⟩) (news := [(x.b : Int), (x.a : Int)]) [g, go] (h.fam.keep (Keep.alloc [] _ _) (by intro k hk; cases hk)) (by omega) hvh rfl rfl rfl (fresh_news w _) (by rw [hrv, ni_len]; omega)) ?_
  rintro v1 w1 ⟨hfam, hkept, hbel, adn, cn, rfl⟩
  have hst1 := own_over h.st h.gB hbel
  have hot1 := own_over h.ot h.goB hbel
  refine wpl_op rfl (Ex_nil rfl) ?_
  refine wpl_op rfl (Ex_field fld56_1 rfl) ?_
  refine wpl_op rfl (Ex_store one22 rfl (by conv => lhs; whnf) rfl (show w1.cell? ⟨g, 1, none⟩ = some _ from hst1.cell (i := 1) (by omega)) hst1.open_) ?_
  refine wpl_nil (hK _ _ ?_)
  clear hK K
  have hbld1 : Own (w1.setCell ⟨g, 1, none⟩ (.slice adn ((rcOf V es V).length + 2) cn)) g 56 3 3 (stc go V (upd rv V (.slice adn ((rcOf V es V).length + 2) cn))) :=
    Own.putv hst1 (by omega) (Nat.le_refl _) (fun j hj => by
      unfold stc
      by_cases h0 : j = 0
      · simp [h0]
      · by_cases h1 : j = 1
        · simp [h1, upd]
        · simp [h0, h1, upd])
  have hks := Keep.setCell w1 (l := [g]) (g := g) (i := 1) (by simp) (.slice adn ((rcOf V es V).length + 2) cn)
  refine wp_gen (fun w2 => ∃ rv2, Own w2 g 56 3 3 (stc go V rv2) ∧ Own w2 go 22 V V rv2 ∧ Fam w2 B (V + 2) rv2 (upd (rcOf V es) V (ni (heads es) ++ [(x.b : Int), (x.a : Int)])) ∧ Kept (V + 2) [g, go] w rv w2 rv2)
    ⟨_, hbld1, (hot1.keep hks (by simpa using Ne.symm h.ne)).congr (fun j hj => (upd_ne _ _ (by omega)).symm), by rw [← hrv]; exact hfam.keep hks (fun k hk => .inl (by rw [show k = g by simpa using hk]; exact h.gB)),
      ((Kept.of_keep (Keep.alloc [] w _) (by intro k hk; cases hk)).trans hkept).trans (Kept.of_keep hks (fun k hk => by simp at hk; simp [hk]))⟩ (fun w2 hg2 => ?_)
  clear hfam hkept hbel hst1 hot1 hbld1 hks c0 c1 c2
  obtain ⟨rv2, hst2, hot2, hfam2, hkept2⟩ := hg2
  replace hst2 := hst2
  have c2 : w2.cell? ⟨g, 2, none⟩ = some (rv2 (V + 1)) := hst2.cell (i := 2) (by omega)
  refine wp_region_seq (fun K hK => ?_)
  refine wpl_op rfl (Ex_move (by conv => lhs; whnf)) ?_
  refine wpl_op rfl (Ex_move (by conv => lhs; whnf)) ?_
  refine wpl_op rfl (Ex_nil rfl) ?_
  refine wpl_op rfl (Ex_field fld56_2 rfl) ?_
  refine wpl_op rfl (Ex_load one22 rfl c2) ?_
  refine wpl_op rfl (Ex_move (by conv => lhs; whnf)) ?_
  refine wpl_op rfl (Ex_bsl (pv := [(0, .int .i64 x.c), (1, .int .i64 0)]) rfl (bsl3_2 _ _ _)) ?_
  refine wpl_exop rfl (Ex_famapp (B := B) (n := V + 2) (a := V + 1) (ad := ⟨w2.heap.size, 0, none⟩) (news := [x.c, 0]) [g, go] ((Bld.mk hst2 hot2 hfam2 h.gB h.goB h.ne).fam.keep (Keep.alloc [] _ _) (by intro k hk; cases hk)) (by omega) rfl rfl rfl rfl (fresh_news w2 _) (by rw [upd_ne _ _ (by omega), hrv1]; omega)) ?_
  rintro v3 w3 ⟨hfam, hkept, hbel, adn, cn, rfl⟩
  have hst3 := own_over hst2 h.gB hbel
  have hot3 := own_over hot2 h.goB hbel
  refine wpl_op rfl (Ex_nil rfl) ?_
  refine wpl_op rfl (Ex_field fld56_2 rfl) ?_
  refine wpl_op rfl (Ex_store one22 rfl (by conv => lhs; whnf) rfl (show w3.cell? ⟨g, 2, none⟩ = some _ from hst3.cell (i := 2) (by omega)) hst3.open_) ?_
  refine wpl_nil (hK _ _ ?_)
  clear hK K
  rw [upd_ne (i := V + 1) _ _ (by omega), hrv1] at *
  have hbld3 : Own (w3.setCell ⟨g, 2, none⟩ (.slice adn ((rooms es).length + 2) cn)) g 56 3 3 (stc go V (upd rv2 (V + 1) (.slice adn ((rooms es).length + 2) cn))) :=
    Own.putv hst3 (by omega) (Nat.le_refl _) (fun j hj => by
      unfold stc
      by_cases h0 : j = 0
      · simp [h0]
      · by_cases h1 : j = 1
        · simp [h1, upd]
        · obtain rfl : j = 2 := by omega
          simp [upd])
  have hks := Keep.setCell w3 (l := [g]) (g := g) (i := 2) (by simp) (.slice adn ((rooms es).length + 2) cn)
  refine wp_gen (fun w4 => ∃ rv4, Own w4 g 56 3 3 (stc go V rv4) ∧ Own w4 go 22 V V rv4 ∧ Fam w4 B (V + 2) rv4 (upd (upd (rcOf V es) V (ni (heads es) ++ [(x.b : Int), (x.a : Int)])) (V + 1) (rooms es ++ [x.c, 0])) ∧ Kept (V + 2) [g, go] w rv w4 rv4)
    ⟨_, hbld3, (hot3.keep hks (by simpa using Ne.symm h.ne)).congr (fun j hj => (upd_ne _ _ (by omega)).symm), hfam.keep hks (fun k hk => .inl (by rw [show k = g by simpa using hk]; exact h.gB)),
      hkept2.trans (((Kept.of_keep (Keep.alloc [] w2 _) (by intro k hk; cases hk)).trans hkept).trans (Kept.of_keep hks (fun k hk => by simp at hk; simp [hk])))⟩ (fun w4 hg4 => ?_)
  clear hfam hkept hbel hst3 hot3 hbld3 hks c2 hst2 hot2 hfam2 hkept2
  obtain ⟨rv4, hst4, hot4, hfam4, hkept4⟩ := hg4
  refine wp_draw_seq (by kernel_rfl) (fun w' => w'.cell? ⟨g, 0, none⟩ = some (.slice (some ⟨go, 0, none⟩) V V) ∧ w'.cell? ⟨go, 0 + x.a, none⟩ = some (rv4 x.a)) (fun q => Nat.beq q 16) 17 rfl (fun K hK => ?_)
  have hS : w4.drew.cell? ⟨g, 0, none⟩ = some (.slice (some ⟨go, 0, none⟩) V V) ∧ w4.drew.cell? ⟨go, 0 + x.a, none⟩ = some (rv4 x.a) := ⟨hst4.cell (i := 0) (by omega), by rw [Nat.zero_add]; exact hot4.cell ha⟩
  refine wpd_pure 0 (by kernel_rfl) rfl (fun w => Ex_move (by conv => lhs; whnf)) (by intro h; cases h) ?_
  refine wpd_pure 1 (by kernel_rfl) rfl (fun w => Ex_nil rfl) (by intro h; cases h) ?_
  refine wpd_pure 2 (by kernel_rfl) rfl (fun w => Ex_field fld56_0 rfl) (by intro h; cases h) ?_
  refine wpd_take 3 (by kernel_rfl) rfl hS (fun w hw => Ex_load one27 rfl hw.1) (by intro h; cases h) ?_
  refine wpd_pure 4 (by kernel_rfl) rfl (fun w => Ex_move (by conv => lhs; whnf)) (by intro h; cases h) ?_
  refine wpd_pure 5 (by kernel_rfl) rfl (fun w => Ex_move (by conv => lhs; whnf)) (by intro h; cases h) ?_
  refine wpd_pure 6 (by kernel_rfl) rfl (fun w => Ex_nil rfl) (by intro h; cases h) ?_
  refine wpd_pure 7 (by kernel_rfl) rfl (fun w => Ex_field fld56_0 rfl) (by intro h; cases h) ?_
  refine wpd_take 8 (by kernel_rfl) rfl hS (fun w hw => Ex_load one27 rfl hw.1) (by intro h; cases h) ?_
  refine wpd_pure 9 (by kernel_rfl) rfl (fun w => Ex_move (by conv => lhs; whnf)) (by intro h; cases h) ?_
  refine wpd_pure 10 (by kernel_rfl) rfl (fun w => Ex_index1 Try.underlying27 size_27 rfl rfl ha) (by intro h; cases h) ?_
  refine wpd_take 11 (by kernel_rfl) rfl hS (fun w hw => Ex_load one22 rfl hw.2) (hfam4.ne (by omega)) ?_
  refine wpd_pure 12 (by kernel_rfl) rfl (fun w => Ex_move (by conv => lhs; whnf)) (by intro h; cases h) ?_
  refine wpd_one 13 (by kernel_rfl) rfl (Ex_bsl (pv := [(0, .int .i64 (((2 * es.length : Nat) : Int)))]) rfl (bsl3 _ _)) (fun hs _ => ⟨(Keep.alloc [] _ _).cell hs.1 (by simp), (Keep.alloc [] _ _).cell hs.2 (by simp)⟩) ?_
  refine wpd_exone 14 (by kernel_rfl) rfl (Ex_famapp (B := B) (n := V + 2) (a := x.a) (ad := ⟨w4.heap.size, 0, none⟩) (news := [((2 * es.length : Nat) : Int)]) [g, go] ((show Fam w4.drew B (V + 2) rv4 _ from ⟨hfam4.own, hfam4.dis, hfam4.szB⟩).keep (Keep.alloc [] _ _) (by intro k hk; cases hk)) (by omega) rfl rfl rfl rfl (fresh_news w4.drew _) (by rw [upd_ne _ _ (by omega), upd_ne _ _ (by omega), hra, ni_len]; simp; omega)) ?_
  rintro v5 w5 ⟨hfam, hkept, hbel, adn, cn, rfl⟩
  have hst5 := own_over (w := w4.drew) hst4 h.gB hbel
  have hot5 := own_over (w := w4.drew) hot4 h.goB hbel
  refine ⟨fun _ _ => ⟨hst5.cell (i := 0) (by omega), by rw [Nat.zero_add]; exact hot5.cell ha⟩, ?_⟩
  refine wpd_pure 15 (by kernel_rfl) rfl (fun w => Ex_index1 Try.underlying27 size_27 rfl rfl ha) (by intro h; cases h) ?_
  refine wpd_one 16 (by kernel_rfl) rfl (Ex_store one22 rfl (by conv => lhs; whnf) rfl (by rw [Nat.zero_add]; exact hot5.cell ha) hot5.open_) (by intro _ h; cases h) ?_
  refine wpd_nil (by kernel_rfl) (hK _ _ ?_)
  clear hK K
  rw [Nat.zero_add, upd_ne (i := x.a) _ _ (by omega), upd_ne (i := x.a) _ _ (by omega), hra] at *
  have hks := Keep.setCell w5 (l := [go]) (g := go) (i := x.a) (by simp) (.slice adn ((ni (outs x.a 0 es)).length + 1) cn)
  refine wp_gen (fun w6 => ∃ rv6, Own w6 g 56 3 3 (stc go V rv6) ∧ Own w6 go 22 V V rv6 ∧ Fam w6 B (V + 2) rv6 (upd (upd (upd (rcOf V es) V (ni (heads es) ++ [(x.b : Int), (x.a : Int)])) (V + 1) (rooms es ++ [x.c, 0])) x.a (ni (outs x.a 0 es) ++ [((2 * es.length : Nat) : Int)])) ∧ Kept (V + 2) [g, go] w rv w6 rv6)
    ⟨upd rv4 x.a (.slice adn ((ni (outs x.a 0 es)).length + 1) cn), (hst5.keep hks (by simpa using h.ne)).congr (fun j hj => by unfold stc; rw [upd_ne _ _ (by omega), upd_ne _ _ (by omega)]), Own.putv hot5 ha (Nat.le_refl _) (fun j hj => rfl), hfam.keep hks (fun k hk => .inl (by rw [show k = go by simpa using hk]; exact h.goB)),
      hkept4.trans (((Kept.of_keep (keep_drew w4 _) (by intro k hk; cases hk)).trans hkept).trans (Kept.of_keep hks (fun k hk => by simp at hk; simp [hk])))⟩ (fun w6 hg6 => ?_)
  clear hfam hkept hbel hst5 hot5 hks hst4 hot4 hfam4 hkept4 hS
  obtain ⟨rv6, hst6, hot6, hfam6, hkept6⟩ := hg6
  refine wp_draw_seq (by kernel_rfl) (fun w' => w'.cell? ⟨g, 0, none⟩ = some (.slice (some ⟨go, 0, none⟩) V V) ∧ w'.cell? ⟨go, 0 + x.b, none⟩ = some (rv6 x.b)) (fun q => Nat.beq q 17) 18 rfl (fun K hK => ?_)
  have hS : w6.drew.cell? ⟨g, 0, none⟩ = some (.slice (some ⟨go, 0, none⟩) V V) ∧ w6.drew.cell? ⟨go, 0 + x.b, none⟩ = some (rv6 x.b) := ⟨hst6.cell (i := 0) (by omega), by rw [Nat.zero_add]; exact hot6.cell hb⟩
  refine wpd_pure 0 (by kernel_rfl) rfl (fun w => Ex_move (by conv => lhs; whnf)) (by intro h; cases h) ?_
  refine wpd_pure 1 (by kernel_rfl) rfl (fun w => Ex_nil rfl) (by intro h; cases h) ?_
  refine wpd_pure 2 (by kernel_rfl) rfl (fun w => Ex_field fld56_0 rfl) (by intro h; cases h) ?_
  refine wpd_take 3 (by kernel_rfl) rfl hS (fun w hw => Ex_load one27 rfl hw.1) (by intro h; cases h) ?_
  refine wpd_pure 4 (by kernel_rfl) rfl (fun w => Ex_move (by conv => lhs; whnf)) (by intro h; cases h) ?_
  refine wpd_pure 5 (by kernel_rfl) rfl (fun w => Ex_move (by conv => lhs; whnf)) (by intro h; cases h) ?_
  refine wpd_pure 6 (by kernel_rfl) rfl (fun w => Ex_nil rfl) (by intro h; cases h) ?_
  refine wpd_pure 7 (by kernel_rfl) rfl (fun w => Ex_field fld56_0 rfl) (by intro h; cases h) ?_
  refine wpd_take 8 (by kernel_rfl) rfl hS (fun w hw => Ex_load one27 rfl hw.1) (by intro h; cases h) ?_
  refine wpd_pure 9 (by kernel_rfl) rfl (fun w => Ex_move (by conv => lhs; whnf)) (by intro h; cases h) ?_
  refine wpd_pure 10 (by kernel_rfl) rfl (fun w => Ex_index1 Try.underlying27 size_27 rfl rfl hb) (by intro h; cases h) ?_
  refine wpd_take 11 (by kernel_rfl) rfl hS (fun w hw => Ex_load one22 rfl hw.2) (hfam6.ne (by omega)) ?_
  refine wpd_pure 12 (by kernel_rfl) rfl (fun w => Ex_move (by conv => lhs; whnf)) (by intro h; cases h) ?_
  refine wpd_pure 13 (by kernel_rfl) rfl (fun w => Ex_inc rfl rfl (by omega)) (by intro h; cases h) ?_
  refine wpd_one 14 (by kernel_rfl) rfl (Ex_bsl (pv := [(0, .int .i64 (((2 * es.length + 1 : Nat) : Int)))]) rfl (bsl3 _ _)) (fun hs _ => ⟨(Keep.alloc [] _ _).cell hs.1 (by simp), (Keep.alloc [] _ _).cell hs.2 (by simp)⟩) ?_
  refine wpd_exone 15 (by kernel_rfl) rfl (Ex_famapp (B := B) (n := V + 2) (a := x.b) (ad := ⟨w6.heap.size, 0, none⟩) (news := [((2 * es.length + 1 : Nat) : Int)]) [g, go] ((show Fam w6.drew B (V + 2) rv6 _ from ⟨hfam6.own, hfam6.dis, hfam6.szB⟩).keep (Keep.alloc [] _ _) (by intro k hk; cases hk)) (by omega) rfl rfl rfl rfl (fresh_news w6.drew _) (by rw [upd]; split <;> (try rw [upd_ne _ _ (by omega), upd_ne _ _ (by omega), hrb]) <;> simp [ni_len] <;> omega)) ?_
  rintro v7 w7 ⟨hfam, hkept, hbel, adn, cn, rfl⟩
  have hst7 := own_over (w := w6.drew) hst6 h.gB hbel
  have hot7 := own_over (w := w6.drew) hot6 h.goB hbel
  refine ⟨fun _ _ => ⟨hst7.cell (i := 0) (by omega), by rw [Nat.zero_add]; exact hot7.cell hb⟩, ?_⟩
  refine wpd_pure 16 (by kernel_rfl) rfl (fun w => Ex_index1 Try.underlying27 size_27 rfl rfl hb) (by intro h; cases h) ?_
  refine wpd_one 17 (by kernel_rfl) rfl (Ex_store one22 rfl (by conv => lhs; whnf) rfl (by rw [Nat.zero_add]; exact hot7.cell hb) hot7.open_) (by intro _ h; cases h) ?_
  refine wpd_nil (by kernel_rfl) (hK _ _ ?_)
  clear hK K
  rw [Nat.zero_add] at *
  have hrcb : (upd (upd (upd (rcOf V es) V (ni (heads es) ++ [(x.b : Int), (x.a : Int)])) (V + 1) (rooms es ++ [x.c, 0])) x.a (ni (outs x.a 0 es) ++ [((2 * es.length : Nat) : Int)])) x.b = if x.b = x.a then ni (outs x.a 0 es) ++ [((2 * es.length : Nat) : Int)] else ni (outs x.b 0 es) := by
    by_cases hba : x.b = x.a
    · rw [if_pos hba, hba, upd_at]
    · rw [if_neg hba, upd_ne _ _ hba, upd_ne _ _ (by omega), upd_ne _ _ (by omega), hrb]
  rw [hrcb] at hfam hkept
  rw [hrcb]
  generalize hvv : Value.slice adn ((if x.b = x.a then ni (outs x.a 0 es) ++ [((2 * es.length : Nat) : Int)] else ni (outs x.b 0 es)).length + 1) cn = vv at *
  have hks := Keep.setCell w7 (l := [go]) (g := go) (i := x.b) (by simp) vv
  refine wp_gen (fun w8 => ∃ rv8, Bld w8 B g go V rv8 (rcOf V (es ++ [x])) ∧ Kept (V + 2) [g, go] w rv w8 rv8)
    ⟨upd rv6 x.b vv, ⟨(hst7.keep hks (by simpa using h.ne)).congr (fun j hj => by unfold stc; rw [upd_ne _ _ (by omega), upd_ne _ _ (by omega)]), Own.putv hot7 hb (Nat.le_refl _) (fun j hj => rfl),
      (hfam.keep hks (fun k hk => .inl (by rw [show k = go by simpa using hk]; exact h.goB))).congr (fun i hi => rcOf_snoc ha hb i hi), h.gB, h.goB, h.ne⟩,
      hkept6.trans (((Kept.of_keep (keep_drew w6 _) (by intro k hk; cases hk)).trans hkept).trans (Kept.of_keep hks (fun k hk => by simp at hk; simp [hk])))⟩ (fun w8 hg8 => ?_)
  refine wp_region_seq (fun K hK => ?_)
  refine wpl_op rfl (Ex_move (by conv => lhs; whnf)) ?_
  refine wpl_op rfl (Ex_assign (by conv => lhs; whnf)) ?_
  refine wpl_nil (hK _ _ ?_)
  clear hK K
  refine wp_ret ?_
  repeat (first | refine out_block ?_ | refine out_then ?_)
  refine ret_tmp Try.results36 ⟨rfl, hg8⟩
end Go.Proofs.Qxb6613837a.Sp
