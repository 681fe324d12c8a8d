import Derived.Test.Qxb6613839aRows
import Derived.WalkKit
import Derived.WalkSpells
import Derived.Deep.QuietTactic
import Derived.BigQuiet
import Derived.WalkSmall
namespace Go.Proofs.Qxb6613839a.Peek
open Go.RowKit

set_option maxHeartbeats 400000 in
/-- ZZNewToken. -/
theorem newToken_any (k : Int) (s : ByteArray) (c : Int) (w : World) :
    Calls Try.prog 15 #[.int .i64 k, .string s, .int .i64 c] w fun e w' => e = .returned (.agg #[.int .i64 k, .string s, .int .i64 c]) ∧ w' = w.alloc (.cells #[.int .i64 k, .string s, .int .i64 c] 42) := by
  go_enter Try.func15, Try.ntmps15
  go_wp2
  exact bodyPost_ret (v := .agg #[.int .i64 k, .string s, .int .i64 c]) (by simp [results, Try.results15, go_sem]) rfl ⟨rfl, rfl⟩

set_option maxHeartbeats 400000 in
theorem newParser_any (a : Option Addr) (l cp : Nat) (n : Int) (w : World) :
    Calls Try.prog 16 #[.slice a l cp, .int .i64 n] w fun e w' => e = .returned (.pointer (some ⟨w.heap.size, 0, none⟩)) ∧ w' = w.alloc (.cells #[.slice a l cp, .int .i64 n, .map none] 73) := by
  go_enter Try.func16, Try.ntmps16
  go_wp2
  go_ret
  exact ⟨rfl, rfl⟩

set_option maxHeartbeats 400000 in
theorem setPos_any (b : Nat) (n old : Int) (w : World) (h : w.cell? ⟨b, 1, none⟩ = some (.int .i64 old)) (hf : w.frozen? ⟨b, 1, none⟩ = false) :
    Calls Try.prog 17 #[.pointer (some ⟨b, 0, none⟩), .int .i64 n] w fun e w' => e = .returned (.tuple #[]) ∧ w' = w.setCell ⟨b, 1, none⟩ (.int .i64 n) := by
  go_enter Try.func17, Try.ntmps17
  go_wp2
  go_end0
  exact ⟨rfl, rfl⟩

set_option maxHeartbeats 400000 in
theorem pos_any (b : Nat) (n : Int) (w : World) (h : w.cell? ⟨b, 1, none⟩ = some (.int .i64 n)) :
    Calls Try.prog 20 #[.pointer (some ⟨b, 0, none⟩)] w fun e w' => e = .returned (.int .i64 n) ∧ w' = w := by
  go_enter Try.func20, Try.ntmps20
  go_wp2
  go_ret
  exact ⟨rfl, rfl⟩

set_option maxHeartbeats 400000 in
theorem fields_any (k : Int) (s : ByteArray) (c : Int) (w : World) :
    Calls Try.prog 19 #[.agg #[.int .i64 k, .string s, .int .i64 c]] w fun e w' => e = .returned (.tuple #[.int .i64 k, .string s, .int .i64 c]) ∧ Below w.heap.size w w' := by
  go_enter Try.func19, Try.ntmps19
  go_wp2
  go_quiet (fail)
  go_wp2
  go_ret3
  exact ⟨rfl, below_drewN ((Below.refl _ _).alloc (Nat.le_refl _) _) _⟩

set_option maxHeartbeats 400000 in
theorem peek_any (b tb : Nat) (k : Int) (s : ByteArray) (c : Int) (n cp i : Nat) (hi : i < n) (w : World) (h0 : w.cell? ⟨b, 0, none⟩ = some (.slice (some ⟨tb, 0, none⟩) n cp)) (h1 : w.cell? ⟨b, 1, none⟩ = some (.int .i64 i))
    (t0 : w.cell? ⟨tb, i * 3, none⟩ = some (.int .i64 k)) (t1 : w.cell? ⟨tb, i * 3 + 1, none⟩ = some (.string s)) (t2 : w.cell? ⟨tb, i * 3 + 2, none⟩ = some (.int .i64 c)) :
    Calls Try.prog 26 #[.pointer (some ⟨b, 0, none⟩)] w fun e w' => e = .returned (.agg #[.int .i64 k, .string s, .int .i64 c]) ∧ Below w.heap.size w w' := by
  have hb : b < w.heap.size := World.block_lt_of_cell? _ _ h0
  have htb : tb < w.heap.size := World.block_lt_of_cell? _ _ t0
  go_enter Try.func26, Try.ntmps26
  go_wp2
  go_region
  go_wp2
  exact bodyPost_ret (v := .agg #[.int .i64 k, .string s, .int .i64 c]) (by simp [results, Try.results26, go_sem]) rfl ⟨rfl, ((Below.refl _ _).alloc (Nat.le_refl _) _).drew⟩

theorem bcell {W w1 : World} (hb : Below W.heap.size W w1) : (∀ b o, b < W.heap.size → w1.cell? ⟨b, o, none⟩ = W.cell? ⟨b, o, none⟩) ∧ (∀ b o, b < W.heap.size → w1.frozen? ⟨b, o, none⟩ = W.frozen? ⟨b, o, none⟩) :=
  ⟨fun b o h => hb.cell (p := ⟨b, o, none⟩) h, fun b o h => hb.frozen (p := ⟨b, o, none⟩) h⟩

set_option maxHeartbeats 400000 in
theorem zpeek_any (b tb : Nat) (k : Int) (s : ByteArray) (c : Int) (n cp i : Nat) (hi : i < n) (w : World) (h0 : w.cell? ⟨b, 0, none⟩ = some (.slice (some ⟨tb, 0, none⟩) n cp)) (h1 : w.cell? ⟨b, 1, none⟩ = some (.int .i64 i))
    (t0 : w.cell? ⟨tb, i * 3, none⟩ = some (.int .i64 k)) (t1 : w.cell? ⟨tb, i * 3 + 1, none⟩ = some (.string s)) (t2 : w.cell? ⟨tb, i * 3 + 2, none⟩ = some (.int .i64 c)) :
    Calls Try.prog 18 #[.pointer (some ⟨b, 0, none⟩)] w fun e w' => e = .returned (.agg #[.int .i64 k, .string s, .int .i64 c]) ∧ Below w.heap.size w w' := by
  have hb : b < w.heap.size := World.block_lt_of_cell? _ _ h0
  have htb : tb < w.heap.size := World.block_lt_of_cell? _ _ t0
  go_enter Try.func18, Try.ntmps18
  go_wp2_with (go_at_call 26; refine (peek_any b tb k s c n cp i hi _ (by go_simp) (by go_simp) (by go_simp) (by go_simp) (by go_simp)).mono ?_; rintro e w1 ⟨rfl, hbl⟩; obtain ⟨hc, hf⟩ := bcell hbl)
  exact bodyPost_ret (v := .agg #[.int .i64 k, .string s, .int .i64 c]) (by simp [results, Try.results18, go_sem, hc]) rfl ⟨rfl, ((((Below.refl _ _).alloc (Nat.le_refl _) _).trans (hbl.mono (by simp))).setCell (by simp) _).setCell (by simp) _ |>.setCell (by simp) _⟩

/-- Some bool, whichever: behind a name, so that the walk's simp does not take it apart. -/
def ABool (e : Ending) : Prop := ∃ r, e = .returned (.bool r)

set_option maxHeartbeats 1000000 in
theorem bytes_any (a0 a1 a2 a3 : Option Addr) (l0 c0 l1 c1 l2 c2 l3 c3 : Nat) (w : World) (h1 : l1 ≤ maxLen)
   (hs : l1 = 0 ∨ ∃ b off, a1 = some ⟨b, off, none⟩ ∧ ∀ i, i < l1 → ∃ s, w.cell? ⟨b, off + i, none⟩ = some (.string s)) :
   Calls Try.prog 14 #[.slice a0 l0 c0, .slice a1 l1 c1, .slice a2 l2 c2, .slice a3 l3 c3] w fun e w' => ABool e ∧ w' = w := by
  unfold maxLen at h1
  go_enter Try.func14, Try.ntmps14
  go_wp2
  all_goals try (go_ret; exact ⟨⟨_, rfl⟩, rfl⟩)
  go_loop [9, 10] (fun t i => ∃ (k : Nat) (z : Int), k ≤ l1 ∧ i = .int .i64 k ∧ t = .int .i64 z) (fun _ i => l1 - (intOf i).toNat)
  case atStart => exact ⟨0, _, Nat.zero_le _, rfl, rfl⟩
  case round =>
    obtain ⟨k, z, hk, rfl, rfl⟩ := hrel
    by_cases hlt : k < l1
    · obtain ⟨b, off, rfl, hcell⟩ : ∃ b off, a1 = some ⟨b, off, none⟩ ∧ ∀ i, i < l1 → ∃ s, w.cell? ⟨b, off + i, none⟩ = some (.string s) := by
        rcases hs with h | h
        · omega
        · exact h
      obtain ⟨s, hcs⟩ := hcell k hlt
      clear hs hcell
      go_wp2
      all_goals try (go_ret; exact ⟨⟨_, rfl⟩, rfl⟩)
      all_goals
        go_round
        case rel => exact ⟨k + 1, _, by omega, by go_num, rfl⟩
        case measure => simp [intOf]; omega
    · go_wp2
      all_goals (go_ret; exact ⟨⟨_, rfl⟩, rfl⟩)
end Go.Proofs.Qxb6613839a.Peek
