import Derived.Test.Qxb6613837aMem
import Derived.OwnWalk
import Derived.Laws.IdiomCopy
import Derived.Laws.Pointers
namespace Go.Fr
open Go.RowKit

section
variable {P : Program} {ρ : Operand → Value} {ty : TypeId} {w : World} {x y : Operand} {v : Value}

/-! ### Slicing, copying -/
theorem Ex_sliceh {t e : TypeId} {a : Option Addr} {n c k s : Nat} (hu : P.underlying t = some (.slice e)) (hs : ∀ w, (sizeOf e).run P w = .ok s w) (hx : ρ x = .slice a n c) (hy : ρ y = .int .i64 (k : Int)) (hk : k ≤ c) :
    ∃ a', (∀ w, Ex P ρ (.slice t x none (some y) none) ty w (.slice a' k c) w) ∧ (∀ b o, a = some ⟨b, o, none⟩ → a' = some ⟨b, o, none⟩) := by
  have he : P.elem t = e := by simp [Program.elem, hu]
  refine ⟨if c = 0 then a else a.map (fun a => a.add (0 * s)), fun w => ex_val fun o ho _ => ?_, ?_⟩
  · have hr := run_slice_h (P := P) w t a n c (by rw [he]; exact hu) .i64 (k : Int) (by omega) (by omega)
    rw [he] at hr
    simp only [hs, Result.andThen, Int.toNat_natCast] at hr
    have hat : (Instr.sliceAt t (.slice a n c) none (some (.int .i64 (k : Int))) none).run P w = (Instr.slice t (.slice a n c) none (some (.int .i64 (k : Int))) none).run P w := by
      simp [Instr.sliceAt, run_underlying hu]
    simp [execOp, ho, hx, hy, hat, hr, sliced, Result.andThen]
  · rintro b o rfl
    simp [Addr.add_zero']
theorem Ex_slicel {t e : TypeId} {a : Option Addr} {n c k s : Nat} (hu : P.underlying t = some (.slice e)) (hs : ∀ w, (sizeOf e).run P w = .ok s w) (hx : ρ x = .slice a n c) (hy : ρ y = .int .i64 (k : Int)) (hk : k ≤ n) (hc : n ≤ c) :
    ∃ a', (∀ w, Ex P ρ (.slice t x (some y) none none) ty w (.slice a' (n - k) (c - k)) w) ∧ (∀ b o, k < n → a = some ⟨b, o, none⟩ → a' = some ⟨b, o + k * s, none⟩) := by
  have he : P.elem t = e := by simp [Program.elem, hu]
  refine ⟨if c = k then a else a.map (fun a => a.add (k * s)), fun w => ex_val fun o ho _ => ?_, ?_⟩
  · have hr := run_slice_l (P := P) w t a n c (by rw [he]; exact hu) .i64 (k : Int) (by omega) (by omega)
    rw [he] at hr
    simp only [hs, Result.andThen, Int.toNat_natCast] at hr
    have hat : (Instr.sliceAt t (.slice a n c) (some (.int .i64 (k : Int))) none none).run P w = (Instr.slice t (.slice a n c) (some (.int .i64 (k : Int))) none none).run P w := by
      simp [Instr.sliceAt, run_underlying hu]
    simp [execOp, ho, hx, hy, hat, hr, sliced, Result.andThen]
  · rintro b o hlt rfl
    rw [if_neg (by omega)]
    simp [Addr.add_lit]

/-- 'copy' into a row of the call's own of the same length. -/
theorem Ex_copy {dT sT e t : TypeId} {g n c c' : Nat} {a : Option Addr} {f f0 : Nat → Value} {k0 : Nat} (hu : P.underlying dT = some (.slice e)) (hs : (P.info? e).map (·.size) = some 1)
    (hx : ρ x = .slice (some ⟨g, 0, none⟩) n c) (hy : ρ y = .slice a n c') (hown : Own w g t n k0 f0) (ha : n = 0 ∨ ∃ b o, a = some ⟨b, o, none⟩ ∧ ∀ i, i < n → w.cell? ⟨b, o + i, none⟩ = some (f i)) (h1 : ∀ i, (f i).oneCell' = true) :
    ∃ w', Ex P ρ (.call { callee := .builtin .copy, args := #[x, y], argTypes := #[dT, sT] }) ty w (.int .i64 (n : Int)) w' ∧ Own w' g t n n f ∧ ∀ B w0, Below B w0 w → B ≤ g → Below B w0 w' := by
  obtain ⟨cur, hg, hsz, _⟩ := hown
  by_cases hn : n = 0
  · subst hn
    refine ⟨w, ex_val fun o ho _ => ?_, ⟨cur, hg, hsz, by intro i hi; omega⟩, fun B w0 h _ => h⟩
    have hr := run_copy_none (P := P) w dT sT o.type e (some ⟨g, 0, none⟩) a 0 c 0 c' hu hs rfl
    simp [execOp, ho, resolve, invoke, builtin, hx, hy, hr, goInt, Result.andThen]
  · obtain ⟨b, o', rfl, hc⟩ := ha.resolve_left hn
    have hr := fun ty => run_copy_row (P := P) w dT sT ty e g 0 n c ⟨b, o', none⟩ n c' cur t ((List.range n).map f) hu hs hg (by simp)
      (fun j v hv => by
        rw [List.getElem?_map] at hv
        by_cases hj : j < n
        · rw [List.getElem?_range hj] at hv
          simp at hv
          rw [Addr.add_lit, ← hv]
          exact hc j hj
        · rw [List.getElem?_eq_none (by simp; omega)] at hv
          simp at hv)
      (by simp [hsz]) (fun v hv => by simp at hv; obtain ⟨i, _, rfl⟩ := hv; exact h1 i)
    have hrow : (cur.toList.take 0 ++ (List.range n).map f ++ cur.toList.drop (0 + ((List.range n).map f).length)).toArray = ((List.range n).map f).toArray := by
      have : cur.toList.drop n = [] := List.drop_of_length_le (by simp [hsz])
      simp [this]
    rw [hrow] at hr
    refine ⟨w.setRow g ((List.range n).map f).toArray, ex_val fun o ho _ => ?_, ⟨_, setRow_heap w g cur _ t (0, 0) hg, by simp, ?_⟩, fun B w0 h hB => below_setRow h hB _⟩
    · simp [execOp, ho, resolve, invoke, builtin, hx, hy, hr, goInt, Result.andThen]
    · intro i hi
      simp [hi]

/-! ### append -/
theorem Ex_append {t e : TypeId} {z : Value} {size bytes base n m c : Nat} {xs news : List Value} {ad : Addr} (hu : P.underlying t = some (.slice e)) (hi : (P.info? e).map (fun i => (i.zero, i.size, i.bytes)) = some (some z, size, bytes))
    (hzs : z.cells.size = size) (hsz : 0 < size) (hx : ρ x = v) (hown : w.ownsRow base e size v n xs) (hy : ρ y = .slice (some ad) m c) (hl : news.length = m * size)
    (hnews : ∀ j u, news[j]? = some u → w.cell? (ad.add j) = some u) (h1 : news.all Value.oneCell' = true) (h63 : n + m ≤ maxLen) (hbytes : (n + m) * bytes ≤ 140737488355328) (hbase : base ≤ w.heap.size) :
    ∃ v' w', Ex P ρ (.call { callee := .builtin .append, args := #[x, y], argTypes := #[t, t] }) ty w v' w' ∧ w'.ownsRow base e size v' (n + m) (xs ++ news) ∧ w.grownBy w' v.ownBlock := by
  obtain ⟨i, hi1, hi2, hi3, hi4⟩ := info_parts hi
  obtain ⟨v', w', hr, ho, hg, _⟩ := run_append_own (P := P) w base t ty e i z size bytes hu hi1 hi2 hi3 hi4 hzs hsz v n xs hown ad m c news hl hnews (by simpa using h1) h63 hbytes hbase
  refine ⟨v', w', ex_val fun o ho ht => ?_, ho, hg⟩
  subst ht
  simp [execOp, ho, resolve, invoke, builtin, hx, hy, hr, Result.andThen]

/-! ### Function values -/
theorem Ex_func {fn : Fn} {fl cl : List Operand} {fv cv : List Value} (h1 : evs ρ fl = fv) (h2 : evs ρ cl = cv) : Ex P ρ (.makeFunc fn fl.toArray cl.toArray) ty w (.func fn fv.toArray cv.toArray) w := ex_val fun o ho _ => by
  rw [evs_eq] at h1 h2
  simp [execOp, ho, Instr.makeFunc, h1, h2]
/-- A method value: a plain function with its first arguments. -/
theorem ExC_bound {f : FuncId} {fo : Operand} {first : List Value} {ol : List Operand} {ats : Array TypeId} {vs : List Value} (hf : Enters P f) (hx : ρ fo = .func (.func f) first.toArray #[]) (ha : first ++ evs ρ ol = vs) :
    ExC P ρ (.call { callee := .value fo, args := ol.toArray, argTypes := ats }) ty w f vs.toArray := fun o ho _ => by
  rw [evs_eq] at ha
  simp only [execOp, ho, resolve, hx, invoke, Deferred.ofValue]
  simp only [← ha]
  simpa using hf (first ++ ol.map ρ).toArray w

/-! ### Pointers compared -/
theorem equalIn_ptr_same {t e : TypeId} {s : Nat} {a : Addr} (d : Nat) (hu : P.underlying t = some (.pointer e)) (hs : ∀ w, (sizeOf e).run P w = .ok s w) : (Op.equalIn (d + 1) t (.pointer (some a)) (.pointer (some a))).run P w = .ok true w := by
  simp [Op.equalIn, run_underlying hu, hs, sameAddr]
theorem equalIn_ptr_nil {t e : TypeId} (d : Nat) (hu : P.underlying t = some (.pointer e)) : (Op.equalIn (d + 1) t (.pointer none) (.pointer none)).run P w = .ok true w := by
  simp [Op.equalIn, run_underlying hu]
theorem run_neqp_same {t e : TypeId} {s : Nat} {a : Addr} (hu : P.underlying t = some (.pointer e)) (hs : ∀ w, (sizeOf e).run P w = .ok s w) : (binOp .neq t (.pointer (some a)) (.pointer (some a))).run P w = .ok (.bool false) w := by
  simp only [binOp]
  simp [Op.equal, Op.maxDepth, equalIn_ptr_same 9999 hu hs]
theorem run_neqp_nil {t e : TypeId} (hu : P.underlying t = some (.pointer e)) : (binOp .neq t (.pointer none) (.pointer none)).run P w = .ok (.bool false) w := by
  simp only [binOp]
  simp [Op.equal, Op.maxDepth, equalIn_ptr_nil 9999 hu]
theorem Ex_neqp_same {t t' e : TypeId} {s : Nat} {a : Addr} (hu : P.underlying t = some (.pointer e)) (hs : ∀ w, (sizeOf e).run P w = .ok s w) (hx : ρ x = .pointer (some a)) (hy : ρ y = .pointer (some a)) : Ex P ρ (.binOp .neq t x y t') ty w (.bool false) w := ex_val fun o ho _ => by
  have h := run_neqp_same (w := w) (a := a) hu hs
  simp [execOp, ho, hx, hy, go_sem, h]
theorem Ex_neqp_nil {t t' e : TypeId} (hu : P.underlying t = some (.pointer e)) (hx : ρ x = .pointer none) (hy : ρ y = .pointer none) : Ex P ρ (.binOp .neq t x y t') ty w (.bool false) w := ex_val fun o ho _ => by
  have h := run_neqp_nil (w := w) hu
  simp [execOp, ho, hx, hy, go_sem, h]
end

/-! ### Operations whose value and world are known by a fact alone -/
section
variable {P : Program} {ops : Array Oper} {K : Act → World → Prop} {Q : Exit → Act → World → Prop} {N : Nat} {u : Nat → Value} {l : List (Nat × Value)} {w : World} {rest : List Oper}
  {dst : Option Tmp} {op : Op} {ty : TypeId} {pos : String} {after : Array Edge} {gd : Option (Nat × Bool)}
theorem wpl_exop {Φ : Value → World → Prop} (hg : gd = none) (h : ∃ v w', Ex P (ev N u l) op ty w v w' ∧ Φ v w') (k : ∀ v w', Φ v w' → wpl P ops K Q rest (fr N u (putl dst v l)) w') :
    wpl P ops K Q ({ dst := dst, op := op, type := ty, pos := pos, after := after, guard := gd } :: rest) (fr N u l) w := by
  obtain ⟨v, w', h1, h2⟩ := h
  exact wpl_op hg h1 (k v w' h2)
theorem wpd_exone {ol : List Oper} {S : World → Prop} {tl : Nat → Bool} {fuel : Nat} {L : Array Bool} {Φ : Value → World → Prop} (i : Nat) (hr : Region.ready .any ol.toArray L = [i]) (hn : nthOp ol i = some { dst := dst, op := op, type := ty, pos := pos, after := after, guard := none })
    (h : ∃ v w', Ex P (ev N u l) op ty w v w' ∧ Φ v w') (k : ∀ v w', Φ v w' → (S w → tl i = false → S w') ∧ wpd P ol K S tl fuel (L.setIfInBounds i true) (fr N u (putl dst v l)) w') : wpd P ol K S tl (fuel + 1) L (fr N u l) w := by
  obtain ⟨v, w', h1, h2⟩ := h
  exact wpd_one i hr hn h1 (k v w' h2).1 (k v w' h2).2
end

/-! ### A region without a draw, walked with its worlds known only as 'nothing old has turned' -/
section
variable {P : Program} {Q : Exit → Act → World → Prop} {ol : List Oper} {K : Act → World → Prop} {N : Nat} {u : Nat → Value} {l : List (Nat × Value)} {w : World}
theorem list_of_quiet {C : World → Prop} {ops : Array Oper} {K' : Act → Prop} {Q' : Exit → Act → World → Prop} (hK : ∀ a w, C w → K' a → Q' .normal a w) : ∀ (r : List Oper) (a : Act) (w : World), C w → wpQuiet P ops C K' r a → wpList P ops Q' r a w
  | [], _, _, hw, h => hK _ _ hw h
  | o :: r, a, w, hw, h => by
    unfold wpQuiet at h
    unfold wpList
    split
    · rename_i hwt
      rw [if_pos hwt] at h
      exact .inl (Oper.wp_of_quiet hw (fun a' w' hw' h' => list_of_quiet hK r a' w' hw' h') h)
    · rename_i hwt
      rw [if_neg hwt] at h
      exact list_of_quiet hK r _ w hw h
theorem wp_sq_seq {id : Nat} {y : Code} (h : ∀ K, (∀ a w, y.wp P Q a w → K a w) → wpq P ol w K ol (fr N u l)) : (Code.seq (Code.region id ol.toArray false) y).wp P Q (fr N u l) w :=
  wp_seq_k fun K hK => wp_region_lit (list_of_quiet (C := fun w' => Below w.heap.size w w') (Q' := Exit.then K Q) (fun _ w' hw' h' => h' w' hw') ol _ w (Below.refl _ _) (h K hK).out)
theorem wp_sq_last {id : Nat} (h : wpq P ol w (Q .normal) ol (fr N u l)) : (Code.region id ol.toArray false).wp P Q (fr N u l) w :=
  wp_region_lit (list_of_quiet (C := fun w' => Below w.heap.size w w') (Q' := Q) (fun _ w' hw' h' => h' w' hw') ol _ w (Below.refl _ _) h.out)
end
end Go.Fr
