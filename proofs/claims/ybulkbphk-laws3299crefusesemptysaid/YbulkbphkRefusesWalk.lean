/-
  THE WALK OF 'LawS3299CRefusesEmpty'.
-/
import Derived.Test.YbulkbphkRows
import Derived.WalkKit
import Derived.ProofKit
import Derived.Below
import Derived.WalkSpells
import Derived.WalkLawsBesides
import Derived.Deep.RegionHeld3
import Derived.Deep.AppendLies
import Derived.Deep.QuietTactic
import Derived.BigQuiet
namespace Go.Proofs.Ybulkbphk.refuses
open Go.RowKit
set_option linter.unusedVariables false

theorem info25 : (Yba.prog.info? 25).map (fun i => (i.zero, i.size, i.bytes)) = some (some (.agg #[.string ByteArray.empty, .string ByteArray.empty, .int .i64 0, .slice none 0 0]), 4, 64) := by kernel_rfl

/-- The four cells of task number i. -/
def tcell (ss : List ByteArray) (i : Nat) : List Value := [.string (ss.getD i ByteArray.empty), .string (ss.getD i ByteArray.empty), .int .i64 (i : Int), .slice none 0 0]
/-- The cells of the first k tasks. -/
def tcells (ss : List ByteArray) : Nat → List Value
  | 0 => []
  | k + 1 => tcells ss k ++ tcell ss k
theorem tcells_length (ss : List ByteArray) (k : Nat) : (tcells ss k).length = k * 4 := by
  induction k with
  | zero => rfl
  | succ k ih => simp [tcells, tcell, ih]; omega
theorem tcells_get (ss : List ByteArray) (k i j : Nat) (hi : i < k) (hj : j < 4) : (tcells ss k)[i * 4 + j]? = (tcell ss i)[j]? := by
  induction k with
  | zero => omega
  | succ k ih =>
    rw [tcells]
    by_cases h : i < k
    · rw [List.getElem?_append_left (by rw [tcells_length]; omega)]
      exact ih h
    · obtain rfl : i = k := by omega
      rw [List.getElem?_append_right (by rw [tcells_length]; omega), tcells_length]
      congr 1
      omega

theorem walk_long (a0 : Option Addr) (len0 cap0 : Nat) (a1 : Bool) (w : World) (h : 4096 < len0) :
    Calls Yba.prog 3 #[.slice a0 len0 cap0, .bool a1] w fun e w' => e = .returned (.bool true) ∧ Below w.heap.size w w' := by
  have h' : (4096 : Int) < (len0 : Int) := by omega
  go_enter Yba.func3, Yba.ntmps3
  go_wp2
  go_ret
  exact ⟨rfl, Below.refl _ _⟩

theorem walk_nil (a0 : Option Addr) (len0 cap0 : Nat) (w : World) (h : len0 ≤ 4096) :
    Calls Yba.prog 3 #[.slice a0 len0 cap0, .bool true] w fun e w' => e = .returned (.bool true) ∧ Below w.heap.size w w' := by
  have h' : ¬ (4096 : Int) < (len0 : Int) := by omega
  by_cases hz : len0 = 0
  · subst hz
    go_enter Yba.func3, Yba.ntmps3
    go_wp2
    refine wp_loop_rounds 1 ?_
    rw [rounds_succ]
    go_wp2
    go_ret
    exact ⟨rfl, (Below.refl _ _).alloc (Nat.le_refl _) _⟩
  · have hne : ((0 : Int) != (len0 : Int)) = true := by simp; omega
    go_enter Yba.func3, Yba.ntmps3
    go_wp2
    refine wp_loop_rounds 1 ?_
    rw [rounds_succ]
    go_wp2
    go_ret
    exact ⟨rfl, (Below.refl _ _).alloc (Nat.le_refl _) _⟩

set_option maxHeartbeats 1600000 in
theorem walk_made (b off len0 cap0 : Nat) (ss : List ByteArray) (w : World) (h : len0 ≤ 4096) (hpos : 0 < len0) (hb : b < w.heap.size)
    (hc : ∀ i, i < len0 → w.cell? ⟨b, off + i, none⟩ = some (.string (ss.getD i ByteArray.empty))) :
    Calls Yba.prog 3 #[.slice (some ⟨b, off, none⟩) len0 cap0, .bool false] w fun e w' => e = .returned (.bool true) ∧ Below w.heap.size w w' := by
  have h' : ¬ (4096 : Int) < (len0 : Int) := by omega
  have hne : ((len0 : Int) == 0) = false := by simp; omega
  obtain ⟨i0, hi0, hz0, hz1, hz2⟩ := info_parts info25
  have q22 : ∀ (w : World) (a : Option Addr) (n c n' c' : Nat), (binOp .neq 22 (.slice a n c) (.slice none n' c')).run Yba.prog w = .ok (.bool (!a.isNone)) w := fun w a n c n' c' => run_neq_slice_nil_any w _ _ a n c n' c' Yba.underlying22
  go_enter Yba.func3, Yba.ntmps3
  go_wp2_with (at_make; refine wpList_make_own _ rfl _ _ 23 rfl w.heap.size 25 i0 _ 4 Yba.underlying23 hi0 hz0 hz1 _ _ _ len0 rfl rfl (by omega) ?b2 ?b3 (Nat.le_refl _) ?_)
  case b2 => omega
  case b3 => unfold maxLen; omega
  intro w1 hown0 hgrow0
  have hbel0 : Below w.heap.size w w1 := (Below.refl _ _).grown hgrow0 (Nat.le_refl _) (fun k hk => by cases hk)
  have hg0 : w.heap.size < w1.heap.size := (hown0.lt w.heap.size rfl).2
  clear hgrow0
  go_wp2
  go_loopw [5, 6] (fun t i wr => ∃ k g cap : Nat, k ≤ len0 ∧ i = .int .i64 k ∧ t = .slice (some ⟨g, 0, none⟩) k cap ∧ w.heap.size ≤ g ∧ wr.ownsRow w.heap.size 25 4 (.slice (some ⟨g, 0, none⟩) k cap) k (tcells ss k) ∧ Below w.heap.size w wr)
    (fun _ i _ => len0 - (intOf i).toNat)
  case atStart => exact ⟨0, w.heap.size, len0, Nat.zero_le _, rfl, rfl, Nat.le_refl _, hown0, hbel0⟩
  case round =>
    obtain ⟨k, g, cap, hk, rfl, rfl, hg, hown, hbel⟩ := hrel
    clear hown0 hbel0 hg0
    have hsz := hbel.size
    by_cases hlt : k < len0
    · obtain ⟨s, hs⟩ : ∃ s, s = ss.getD k ByteArray.empty := ⟨_, rfl⟩
      have hcx : wr.cell? ⟨b, off + k, none⟩ = some (.string s) := by rw [hs]; exact (hbel.cell (p := ⟨b, off + k, none⟩) hb).trans (hc k hlt)
      have HS : Hid (s = ss.getD k ByteArray.empty) := hs
      have hk0 : (0 : Int) ≤ (k : Int) := by omega
      have hk1 : (k : Int) < (len0 : Int) := by omega
      have hgb : g ≠ b := by omega
      clear hs
      go_wp2_with fail
      go_region_held3 (fun w' => w'.cell? ⟨b, off + k, none⟩ = some (.string s))
        (first
          | go_keep
          | (rw [hgrow.cell_far _ (by simp; omega) (by simp [Value.ownBlock]; omega)]; assumption))
        ((refine step_append_lies _ (by rfl) _ _ _ (by rfl) w.heap.size 25 i0 _ 4 64 Yba.underlying23 hi0 hz0 hz1 hz2 rfl (by omega) (.slice (some ⟨g, 0, none⟩) k cap) k (tcells ss k) (by rfl) ((hown.alloc _).drew)
            ⟨wr.heap.size, 0, none⟩ 1 1 [.string s, .string s, .int .i64 (k : Int), .slice none 0 0] (by rfl) (by rfl) (World.news_of_block (cs := #[.string s, .string s, .int .i64 (k : Int), .slice none 0 0]) (t := 25) (fr := (0, 0)) (heap_alloc_new wr _)) (by simp [Value.oneCell'])
            (by omega) (by unfold maxLen; omega) (by omega) (by simp; omega) (wr.heap.size + 1) (by simp) ?_; intro g1 cap1 w2 hown1 hgrow hat hlt1))
      have hg1 : w.heap.size ≤ g1 := by
        rcases hat with h1 | h1
        · simp [Value.ownBlock] at h1; omega
        · omega
      have hbel1 : Below w.heap.size w w2 := (((hbel.alloc hsz _).drew).grown hgrow (by simp; omega) (fun q hq => by simp [Value.ownBlock] at hq; omega))
      have hown2 : w2.ownsRow w.heap.size 25 4 (.slice (some ⟨g1, 0, none⟩) (k + 1) cap1) (k + 1) (tcells ss (k + 1)) := by
        have e : tcells ss (k + 1) = tcells ss k ++ [.string s, .string s, .int .i64 (k : Int), .slice none 0 0] := by rw [tcells, tcell, ← HS.out]
        rw [e]; exact hown1
      clear hown1 hgrow hat hown hcx
      go_wp2
      go_roundw
      case rel => exact ⟨k + 1, g1, cap1, by omega, by go_num, rfl, hg1, hown2, hbel1⟩
      case measure => simp [intOf]; omega
    · obtain rfl : k = len0 := by omega
      have hcells : ∀ i j, i < k → j < 4 → wr.cell? ⟨g, i * 4 + j, none⟩ = (tcell ss i)[j]? := fun i j hi hj => by
        rw [hown.cellAt (i * 4 + j) (by omega), tcells_get ss k i j hi hj]
      clear hown
      go_wp2
      go_loopw [9] (fun i wx => ∃ j : Nat, j ≤ k ∧ i = .int .i64 j ∧ (∀ i j, i < k → j < 4 → wx.cell? ⟨g, i * 4 + j, none⟩ = (tcell ss i)[j]?) ∧ Below w.heap.size w wx) (fun i _ => k - (intOf i).toNat)
      case atStart => exact ⟨0, Nat.zero_le _, rfl, hcells, hbel⟩
      case round =>
        clear hcells hbel hsz
        obtain ⟨j, hj, rfl, hcells, hbel⟩ := hrel
        by_cases hjk : j < k
        · obtain ⟨s, hs⟩ : ∃ s, s = ss.getD j ByteArray.empty := ⟨_, rfl⟩
          have c0 : wr.cell? ⟨g, j * 4, none⟩ = some (.string s) := by rw [hs]; exact hcells j 0 hjk (by omega)
          have c1 : wr.cell? ⟨g, j * 4 + 1, none⟩ = some (.string s) := by rw [hs]; exact hcells j 1 hjk (by omega)
          have c2 : wr.cell? ⟨g, j * 4 + 2, none⟩ = some (.int .i64 (j : Int)) := hcells j 2 hjk (by omega)
          have c3 : wr.cell? ⟨g, j * 4 + 3, none⟩ = some (.slice none 0 0) := hcells j 3 hjk (by omega)
          have cx : wr.cell? ⟨b, off + j, none⟩ = some (.string s) := by rw [hs]; exact (hbel.cell (p := ⟨b, off + j, none⟩) hb).trans (hc j hjk)
          have hj0 : (0 : Int) ≤ (j : Int) := by omega
          have hj1 : (j : Int) < (k : Int) := by omega
          have R : Hid ((∀ i j, i < k → j < 4 → wr.cell? ⟨g, i * 4 + j, none⟩ = (tcell ss i)[j]?) ∧ Below w.heap.size w wr) := ⟨hcells, hbel⟩
          clear hcells hbel hs
          go_wp2_with fail
          go_quiet (fail)
          go_wp2
          go_roundw
          case rel => exact ⟨j + 1, by omega, by go_num, R.out.1, below_drewN R.out.2 _⟩
          case measure => simp [intOf]; omega
        · go_wp2
          go_ret
          exact ⟨rfl, hbel⟩

/-- No element: 'make' at length 0. -/
theorem walk_none (a0 : Option Addr) (cap0 : Nat) (w : World) :
    Calls Yba.prog 3 #[.slice a0 0 cap0, .bool false] w fun e w' => e = .returned (.bool true) ∧ Below w.heap.size w w' := by
  obtain ⟨i0, hi0, hz0, hz1, hz2⟩ := info_parts info25
  go_enter Yba.func3, Yba.ntmps3
  go_wp2_with (at_make; refine wpList_make_own _ rfl _ _ 23 rfl w.heap.size 25 i0 _ 4 Yba.underlying23 hi0 hz0 hz1 _ _ _ 0 rfl rfl (by omega) ?b2 ?b3 (Nat.le_refl _) ?_)
  all_goals try omega
  intro w1 hown0 hgrow0
  have hbel0 : Below w.heap.size w w1 := (Below.refl _ _).grown hgrow0 (Nat.le_refl _) (fun k hk => by cases hk)
  clear hgrow0 hown0
  go_wp2
  refine wp_loop_rounds 1 ?_
  rw [rounds_succ]
  go_wp2
  refine wp_loop_rounds 1 ?_
  rw [rounds_succ]
  go_wp2
  go_ret
  exact ⟨rfl, hbel0.alloc hbel0.size _⟩
end Go.Proofs.Ybulkbphk.refuses
