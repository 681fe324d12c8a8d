import Derived.Test.Qxb6613837aTd
import Derived.Test.Qxb6613837aTf
namespace Go.Proofs.Qxb6613837a.Sp
open Go.Fr Go.RowKit Go.Sp

theorem Ex_neg {P : Program} {ρ : Operand → Value} {ty t : TypeId} {w : World} {x : Operand} {n : Int} (hx : ρ x = .int .i64 n) (h1 : -9223372036854775808 ≤ -n) (h2 : -n ≤ 9223372036854775807) : Ex P ρ (.unOp .neg t x) ty w (.int .i64 (-n)) w := ex_val fun o ho _ => by
  have hw : IntKind.i64.wrap (-n) = -n := by rw [IntKind.wrap_i64]; omega
  simp [execOp, ho, hx, go_sem, hw]
/-- The network that has been built, ready to be run. -/
theorem Bld.net {w : World} {B g go V : Nat} {rv : Nat → Value} {es : List Arc} (h : Bld w B g go V rv (rcOf V es)) (hne : es ≠ []) :
    ∃ L : Lay, L.G = grOf V es ∧ L.g = g ∧ Net w L (r0Of es) ∧ (rv (V + 1)).ownBlock = some L.gr := by
  have hlen : 0 < es.length := List.length_pos_iff.2 hne
  have hH : rcOf V es V = ni (heads es) := by simp [rcOf]
  have hR : rcOf V es (V + 1) = rooms es := by simp [rcOf, show ¬ V + 1 < V by omega]
  have hO : ∀ u, u < V → rcOf V es u = ni (outs u 0 es) := fun u hu => by simp [rcOf, hu]
  have open_ : ∀ a, a < V + 2 → 0 < (rcOf V es a).length → ∃ b cap cur, rv a = .slice (some ⟨b, 0, none⟩) (rcOf V es a).length cap ∧ B ≤ b ∧ w.heap[b]? = some (.cells cur 3 (0, 0)) ∧ (rcOf V es a).length ≤ cap ∧ cur.size = cap ∧ ∀ i, i < (rcOf V es a).length → cur[i]? = some (.int .i64 ((rcOf V es a).getD i 0)) := by
    intro a ha hp
    rcases (h.fam.own a ha).2 with ⟨_, hn⟩ | ⟨b, cap, cur, e, hb, hg, hnc, _, hs, ht⟩
    · omega
    · refine ⟨b, cap, cur, e, hb, hg, hnc, by omega, fun i hi => ?_⟩
      have h1 : (ivs (rcOf V es a))[i]? = some (.int .i64 ((rcOf V es a).getD i 0)) := by
        unfold ivs; rw [List.getElem?_map, List.getElem?_eq_getElem hi, List.getD_eq_getElem?_getD, List.getElem?_eq_getElem hi]; rfl
      rw [← ht, List.getElem?_take] at h1
      split at h1
      · simpa using h1
      · cases h1
  obtain ⟨bh, ch, curh, eh, hbh, hgh, hch, hsh, hvh⟩ := open_ V (by omega) (by rw [hH, ni_len, heads_len]; omega)
  obtain ⟨br, cr, curr, er, hbr, hgr, hcr, hsr, hvr⟩ := open_ (V + 1) (by omega) (by rw [hR, rooms_len]; omega)
  rw [hH, ni_len, heads_len] at eh hvh hch
  rw [hR, rooms_len] at er hcr hvr
  let ob : Nat → Nat := fun u => match (rv u).ownBlock with | some b => b | none => 0
  let ov : Nat → Option Addr := fun u => match rv u with | .slice a _ _ => a | _ => none
  let oc : Nat → Nat := fun u => match rv u with | .slice _ _ c => c | _ => 0
  have hslice : ∀ u, u < V → rv u = .slice (ov u) (outs u 0 es).length (oc u) := fun u hu => by
    obtain ⟨ad, c, e⟩ := h.len (a := u) (by omega)
    rw [hO u hu, ni_len] at e
    show rv u = .slice (match rv u with | .slice a _ _ => a | _ => none) _ (match rv u with | .slice _ _ c => c | _ => 0)
    rw [e]
  have hob : ∀ u, u < V → 0 < (outs u 0 es).length → ov u = some ⟨ob u, 0, none⟩ ∧ (rv u).ownBlock = some (ob u) ∧ ∀ j, j < (outs u 0 es).length → w.cell? ⟨ob u, 0 + j, none⟩ = some (.int .i64 (((outs u 0 es).getD j 0 : Nat) : Int)) := fun u hu hp => by
    obtain ⟨b, c, cur, e, hb, hg, _, _, hv⟩ := open_ u (by omega) (by rw [hO u hu, ni_len]; exact hp)
    have e1 : ob u = b := by show (match (rv u).ownBlock with | some b => b | none => 0) = b; rw [e]; rfl
    have e2 : ov u = some ⟨b, 0, none⟩ := by show (match rv u with | .slice a _ _ => a | _ => none) = _; rw [e]
    refine ⟨by rw [e2, e1], by rw [e, e1]; rfl, fun j hj => ?_⟩
    rw [e1, Nat.zero_add]
    have := hv j (by rw [hO u hu, ni_len]; exact hj)
    rw [hO u hu] at this
    have e3 : (ni (outs u 0 es)).getD j 0 = (((outs u 0 es).getD j 0 : Nat) : Int) := by
      unfold ni
      rw [List.getD_eq_getElem?_getD, List.getD_eq_getElem?_getD, List.getElem?_map, List.getElem?_eq_getElem hj]; rfl
    rw [e3] at this
    exact cell_at hg this
  refine ⟨⟨grOf V es, g, go, bh, br, V, ch, cr, ov, ob, oc⟩, rfl, rfl, ?_, by rw [er]; rfl⟩
  have gB := h.gB
  have goB := h.goB
  exact {
    c0 := h.st.cell (i := 0) (by omega)
    c1 := by have := h.st.cell (i := 1) (by omega); rw [show stc go V rv 1 = rv V from rfl, eh] at this; exact this
    c2 := by have := h.st.cell (i := 2) (by omega); rw [show stc go V rv 2 = rv (V + 1) from rfl, er] at this; exact this
    out := fun u hu => by have := h.ot.c0 (i := u) hu; rw [hslice u hu] at this; exact this
    ovb := fun u hu hd => (hob u hu hd).1
    ed := fun u j hu hj => (hob u hu (Nat.lt_of_le_of_lt (Nat.zero_le _) hj)).2.2 j hj
    hd := fun e he => by
      have he' : e < 2 * es.length := he
      have := hvh e he'
      have e3 : (ni (heads es)).getD e 0 = (((heads es).getD e 0 : Nat) : Int) := by
        unfold ni
        rw [List.getD_eq_getElem?_getD, List.getD_eq_getElem?_getD, List.getElem?_map, List.getElem?_eq_getElem (by rw [heads_len]; exact he')]; rfl
      rw [e3] at this
      show w.cell? ⟨bh, 0 + e, none⟩ = _
      rw [Nat.zero_add]
      exact cell_at hgh this
    rm := ⟨curr, hgr, hsr, fun i hi => hvr i hi⟩
    cap := hcr
    s0 := by show br ≠ g; omega
    s1 := by show br ≠ go; omega
    s2 := by
      show br ≠ bh
      intro e
      exact h.fam.dis V (V + 1) (by omega) (by omega) (by omega) bh (by rw [eh]; rfl) (by rw [er, e]; rfl)
    s3 := fun u hu hd => by
      show br ≠ ob u
      intro e
      exact h.fam.dis u (V + 1) (by have : u < V := hu; omega) (by omega) (by have : u < V := hu; omega) (ob u) (hob u hu hd).2.1 (by rw [er, e]; rfl) }
/-- The two tables, apart from the network. -/
structure Tabs (w : World) (V B k gE gL : Nat) (tE tL : Nat → Nat) (rv : Nat → Value) (xe xl : Nat → Nat → Int) (n : Nat) : Prop where
  e : Sq w k gE tE xe n
  l : Sq w k gL tL xl n
  eB : gE < B
  lB : gL < B
  eo : ∀ q, q < n → B ≤ tE q ∧ ∀ a, a < V + 2 → (rv a).ownBlock ≠ some (tE q)
  lo : ∀ q, q < n → B ≤ tL q ∧ ∀ a, a < V + 2 → (rv a).ownBlock ≠ some (tL q)
theorem Sq.kept {w w' : World} {B V k gX n : Nat} {xb : Nat → Nat} {x : Nat → Nat → Int} {rv rv' : Nat → Value} {rc : Nat → List Int} {l : List Nat} (h : Sq w k gX xb x n) (hk : Kept (V + 2) l w rv w' rv') (hf : Fam w B (V + 2) rv rc) (hB : gX < B) (hg : gX ∉ l) (hl : ∀ b, b ∈ l → b < B)
    (ho : ∀ q, q < n → B ≤ xb q ∧ ∀ a, a < V + 2 → (rv a).ownBlock ≠ some (xb q)) : Sq w' k gX xb x n :=
  ⟨h.top.kept hk hg (hf.out (.inl hB)), fun q hq => (h.row q hq).kept hk (fun hm => by have := hl _ hm; have := (ho q hq).1; omega) (ho q hq).2⟩
theorem Tabs.kept {w w' : World} {V B k gE gL n : Nat} {tE tL : Nat → Nat} {rv rv' : Nat → Value} {rc : Nat → List Int} {xe xl : Nat → Nat → Int} {l : List Nat} (h : Tabs w V B k gE gL tE tL rv xe xl n) (hk : Kept (V + 2) l w rv w' rv') (hf : Fam w B (V + 2) rv rc) (h1 : gE ∉ l) (h2 : gL ∉ l) (hl : ∀ b, b ∈ l → b < B) :
    Tabs w' V B k gE gL tE tL rv' xe xl n :=
  ⟨h.e.kept hk hf h.eB h1 hl h.eo, h.l.kept hk hf h.lB h2 hl h.lo, h.eB, h.lB,
    fun q hq => ⟨(h.eo q hq).1, (hk.old _ ((h.e.row q hq).lt) (fun hm => by have := hl _ hm; have := (h.eo q hq).1; omega) (h.eo q hq).2).2⟩,
    fun q hq => ⟨(h.lo q hq).1, (hk.old _ ((h.l.row q hq).lt) (fun hm => by have := hl _ hm; have := (h.lo q hq).1; omega) (h.lo q hq).2).2⟩⟩
theorem Tabs.later {w w' : World} {V B k gE gL n : Nat} {tE tL : Nat → Nat} {rv : Nat → Value} {xe xl : Nat → Nat → Int} (h : Tabs w V B k gE gL tE tL rv xe xl n) (hb : Below w.heap.size w w') : Tabs w' V B k gE gL tE tL rv xe xl n :=
  ⟨h.e.later hb, h.l.later hb, h.eB, h.lB, h.eo, h.lo⟩
theorem Kept.below {w w' : World} {B n W : Nat} {rv rv' : Nat → Value} {rc : Nat → List Int} {l : List Nat} (hk : Kept n l w rv w' rv') (hf : Fam w B n rv rc) (hW : W ≤ B) (hl : ∀ b, b ∈ l → W ≤ b) : Below W w w' :=
  ⟨hk.os, hk.tape, hk.output, hk.size, fun b hb => (hk.old b (by have := hf.szB; omega) (fun hm => by have := hl b hm; omega) (hf.out (.inl (by omega)))).1⟩
/-- add keeps transport's own memory. -/
theorem Tr.added {w w' : World} {B bx bg gx g go V : Nat} {rv rv' : Nat → Value} {es es' : List Arc} {ex : Nat → Int} (h : Tr w B bx bg gx g go V rv es ex) (hb : Bld w' B g go V rv' (rcOf V es')) (hk : Kept (V + 2) [g, go] w rv w' rv') : Tr w' B bx bg gx g go V rv' es' ex := by
  have hfo := h.bld.fam
  have n1 := h.n1
  have n2 := h.n2
  simp only [List.mem_cons, List.not_mem_nil, or_false, not_or] at n1 n2
  exact ⟨Kept.cell hk h.xb (by simp [n1]) (hfo.out (.inl h.xB)), Kept.cell hk h.gb (by simp [n2]) (hfo.out (.inl h.gB)), h.ex.kept hk h.n3 (hfo.out (.inl h.eB)), hb, h.xB, h.gB, h.eB, h.n1, h.n2, h.n3⟩

end Go.Proofs.Qxb6613837a.Sp
