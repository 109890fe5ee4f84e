/-
  CONTRACT: zzs3303bbuild, its first part: the leaves.
-/
import Derived.Test.YbulkbpjoTree
import Derived.Deep.OwnRows
import Derived.Deep.RegionHeld3
import Derived.Deep.AppendLies
namespace Go.Proofs.Ybulkbpjo
open Go.RowKit Go.Deep
set_option linter.unusedVariables false

theorem info47 : (Yba.prog.info? 47).map (fun i => (i.zero, i.size, i.bytes)) = some (some (.agg #[.int .u64 0, .slice none 0 0, .pointer none]), 3, 40) := by kernel_rfl

/-- Where leaf i begins. -/
def Fs (d : Nat → Nat) : Nat → Nat
  | 0 => 0
  | i + 1 => Fs d i + (d i + 1)
theorem Fs_lt (d : Nat → Nat) (i j : Nat) (h : i < j) : Fs d i < Fs d j := by
  induction j with
  | zero => omega
  | succ j ih =>
    simp only [Fs]
    by_cases e : i = j
    · subst e; omega
    · have := ih (by omega); omega
theorem Fs_le (d : Nat → Nat) (hd : ∀ i, d i ≤ 65535) (i : Nat) : Fs d i ≤ i * 65536 := by
  induction i with
  | zero => exact Nat.le_refl _
  | succ i ih => simp only [Fs]; have := hd i; omega

/-- The cells of a row of leaves. -/
def lcell (f : Nat → Nat) (x : Nat) : Value := if x % 3 = 0 then .int .u64 (f (x / 3) : Int) else if x % 3 = 1 then .slice none 0 0 else .pointer none

theorem rowIs_leaves (w : World) (n : Nat) : (w.alloc (.cells (madeCells #[.int .u64 0, .slice none 0 0, .pointer none] (n * 3)) 47)).rowIs w.heap.size 47 (n * 3) (lcell (fun _ => 0)) := by
  refine ⟨_, blk_alloc_new _ _, size_madeCells _ _, fun i hi => ?_⟩
  have h3 : i % 3 = 0 ∨ i % 3 = 1 ∨ i % 3 = 2 := by omega
  unfold lcell
  rcases h3 with h | h | h <;> simp [madeCells, hi, h]

/-- 'make([]chunkEntry, n)', THE WORLD BEHIND IT A LETTER. -/
theorem wpList_make_leaves {w : World} {ops : Array Oper} {rest : List Oper} {o : Oper} {a : Act} {Q : Exit → Act → World → Prop}
    (hg : o.guard = none) (l c : Operand) (hop : o.op = Op.makeSlice 42 l c) (kl kc : IntKind) (L C : Int) (n : Nat) (hl : a.eval l = .int kl L) (hc : a.eval c = .int kc C) (hL : L = (n : Int)) (hC : C = (n : Int)) (hn : n ≤ 100000)
    (hK : ∀ w', w'.rowIs w.heap.size 47 (n * 3) (lcell (fun _ => 0)) → Below w.heap.size w w' → w'.heap.size = w.heap.size + 1 → wpList Yba.prog ops Q rest (a.put o.dst (.slice (some ⟨w.heap.size, 0, none⟩) n n)) w') :
    wpList Yba.prog ops Q (o :: rest) a w := by
  subst hL; subst hC
  obtain ⟨i0, hi, hz0, hz1, hz2⟩ := info_parts info47
  refine wpList_plain hg fun K hK' => ?_
  have hrun := run_make (P := Yba.prog) w 42 47 i0 _ Yba.underlying42 hi hz0 kl kc n n (by omega) (by omega) (by rw [hz2]; omega) (by omega)
  simp only [Int.toNat_natCast, hz1] at hrun
  unfold Oper.wp
  simp [execOp, hop, hl, hc, hrun, Result.andThen]
  exact hK' _ _ (hK _ (rowIs_leaves w n) ((Below.refl _ _).alloc (Nat.le_refl _) _) (nblk_alloc _ _))

/-- What the leaves hold after i rounds. -/
def upTo (d : Nat → Nat) (i j : Nat) : Nat := if j < i then Fs d j else 0
theorem lcell_set (d : Nat → Nat) (i x : Nat) : (if x = i * 3 then Value.int .u64 (Fs d i : Int) else lcell (upTo d i) x) = lcell (upTo d (i + 1)) x := by
  unfold lcell upTo
  by_cases e : x = i * 3
  · subst e
    rw [if_pos rfl, if_pos (by omega), show i * 3 / 3 = i by omega, if_pos (by omega)]
  · rw [if_neg e]
    by_cases h0 : x % 3 = 0
    · rw [if_pos h0, if_pos h0]
      by_cases h1 : x / 3 < i
      · rw [if_pos h1, if_pos (by omega)]
      · rw [if_neg h1, if_neg (by omega)]
    · rw [if_neg h0, if_neg h0]

/-- A row of leaves is a tree of one level. -/
theorem leaves_tree {w : World} {b0 n g : Nat} {d : Nat → Nat} (hg : 2 ≤ g) (hn : 1 ≤ n) (R : w.rowIs b0 47 (n * 3) (lcell (Fs d))) : Tree w g n 0 (fun i => (Fs d i : Int)) (fun _ => b0) (fun _ => n) (fun _ _ => 0) (fun _ _ => 0) := by
  refine ⟨hg, hn, fun t j ht => ?_, fun t j ht hj => ?_, fun j hj => ?_, fun t j ht => by omega, fun t j ht => by omega, fun i j hij hj => ?_⟩
  · obtain rfl : t = 0 := by omega
    simp
  · obtain rfl : t = 0 := by omega
    have hj' : j < n := hj
    rw [R.cell (i := j * 3) (by omega)]
    unfold lcell
    rw [if_pos (by omega), show j * 3 / 3 = j by omega]
    simp
  · have hj' : j < n := hj
    rw [R.cell (i := j * 3 + 2) (by omega)]
    unfold lcell
    rw [if_neg (by omega), if_neg (by omega)]
  · have := Fs_lt d i j hij; show (Fs d i : Int) < (Fs d j : Int); omega

/-- The cells of a level that is being built: the firsts G, the nodes nf. -/
def pcells (G : Nat → Int) (nf : Nat → Nat) : Nat → List Value
  | 0 => []
  | j + 1 => pcells G nf j ++ [.int .u64 (G j), .slice none 0 0, .pointer (some ⟨nf j, 0, none⟩)]
theorem pcells_length (G : Nat → Int) (nf : Nat → Nat) (j : Nat) : (pcells G nf j).length = j * 3 := by
  induction j with
  | zero => rfl
  | succ j ih => simp [pcells, ih]; omega
theorem pcells_congr (G : Nat → Int) (nf nf' : Nat → Nat) (j : Nat) (h : ∀ a, a < j → nf a = nf' a) : pcells G nf j = pcells G nf' j := by
  induction j with
  | zero => rfl
  | succ j ih => simp only [pcells]; rw [ih (fun a ha => h a (by omega)), h j (by omega)]
theorem pcells_get (G : Nat → Int) (nf : Nat → Nat) (j a k : Nat) (ha : a < j) (hk : k < 3) : (pcells G nf j)[a * 3 + k]? = [Value.int .u64 (G a), .slice none 0 0, .pointer (some ⟨nf a, 0, none⟩)][k]? := by
  induction j with
  | zero => omega
  | succ j ih =>
    rw [pcells]
    by_cases h : a < j
    · rw [List.getElem?_append_left (by rw [pcells_length]; omega)]
      exact ih h
    · obtain rfl : a = j := by omega
      rw [List.getElem?_append_right (by rw [pcells_length]; omega), pcells_length]
      congr 1
      omega

/-- The tree with one level more. -/
theorem Tree.grow {wt wr : World} {g n t : Nat} {F : Nat → Int} {blk len : Nat → Nat} {nd nc : Nat → Nat → Nat} (h : Tree wt g n t F blk len nd nc) (hb : Below wt.heap.size wt wr) {B pg cap j : Nat} {nf nfc : Nat → Nat}
    (hown : wr.ownsRow B 47 3 (.slice (some ⟨pg, 0, none⟩) j cap) j (pcells (fun a => F (a * g * g ^ t)) nf j))
    (hnd : ∀ a, a < j → wr.heap[nf a]? = some (.cells #[.slice (some ⟨blk t, a * g * 3, none⟩) (min ((a + 1) * g) (len t) - a * g) (nfc a)] 56 (0, 0))) (hj : ∀ a, a < j ↔ a * g < len t) :
    Tree wr g n (t + 1) F (fun x => if x = t + 1 then pg else blk x) (fun x => if x = t + 1 then j else len x) (fun x a => if x = t then nf a else nd x a) (fun x a => if x = t then nfc a else nc x a) := by
  have h' := h.later hb
  have e1 : ∀ a, a * g * g ^ t = a * g ^ (t + 1) := fun a => by rw [Nat.pow_succ, Nat.mul_assoc, Nat.mul_comm g]
  refine ⟨h.hg, h.hn, fun s a hs => ?_, fun s a hs ha => ?_, fun a ha => ?_, fun s a hs ha => ?_, fun s a hs ha => ?_, h.mono⟩
  · by_cases e : s = t + 1
    · subst e
      simp only [if_true]
      rw [hj, h.len_iff t (a * g) (Nat.le_refl _), e1]
    · simp only [if_neg e]
      exact h.len_iff s a (by omega)
  · by_cases e : s = t + 1
    · subst e
      simp only [if_true] at ha ⊢
      rw [hown.cellAt (a * 3) (by omega), show a * 3 = a * 3 + 0 from rfl, pcells_get _ _ j a 0 ha (by omega)]
      simp [e1]
    · simp only [if_neg e] at ha ⊢
      exact h'.first s a (by omega) ha
  · rw [if_neg (show ¬ (0 = t + 1) by omega)] at ha
    rw [if_neg (show ¬ (0 = t + 1) by omega)]
    exact h'.leaf a ha
  · by_cases e : s = t
    · subst e
      simp only [if_true] at ha ⊢
      rw [hown.cellAt (a * 3 + 2) (by omega), pcells_get _ _ j a 2 ha (by omega)]
      rfl
    · rw [if_neg (show ¬ (s + 1 = t + 1) by omega)] at ha
      rw [if_neg (show ¬ (s + 1 = t + 1) by omega), if_neg e]
      exact h'.below s a (by omega) ha
  · by_cases e : s = t
    · subst e
      simp only [if_true] at ha ⊢
      rw [if_neg (show ¬ (s = s + 1) by omega), if_neg (show ¬ (s = s + 1) by omega)]
      rw [cell_of_row wr (nf a) 0 _ 56 (0, 0) (hnd a ha)]
      rfl
    · rw [if_neg (show ¬ (s + 1 = t + 1) by omega)] at ha
      simp only [if_neg e, if_neg (show ¬ (s = t + 1) by omega)]
      exact h'.node s a (by omega) ha

/-- What one round of the inner loop does. -/
theorem inner_step {wt wr w2 : World} {v : Value} {bl m c j x z g g1 cap1 zl : Nat} {y : Int} {G : Nat → Int} {nf : Nat → Nat} {elem : Obj} (hz : z = x + g) (hx : x = j * g) (hxm : x < m) (hy : y = G j) (haj : ∀ a, a < j → a * g < m)
    (hown : wr.ownsRow wt.heap.size 47 3 v j (pcells G nf j)) (hnds : ∀ a, a < j → wr.heap[nf a]? = some (.cells #[.slice (some ⟨bl, a * g * 3, none⟩) (min ((a + 1) * g) m - a * g) (c - a * g)] 56 (0, 0))) (hbel : Below wt.heap.size wt wr)
    (hown1 : w2.ownsRow wt.heap.size 47 3 (.slice (some ⟨g1, 0, none⟩) (j + 1) cap1) (j + 1) (pcells G nf j ++ [.int .u64 y, .slice none 0 0, .pointer (some ⟨wr.heap.size, 0, none⟩)])) (hzl : zl = min ((j + 1) * g) m - j * g)
    (hgrow : ((wr.alloc (.cells #[.slice (some ⟨bl, x * 3, none⟩) zl (c - x)] 56)).alloc elem).drew.grownBy w2 v.ownBlock) :
    z = (j + 1) * g ∧ (∀ a, a < j + 1 → a * g < m) ∧ w2.ownsRow wt.heap.size 47 3 (.slice (some ⟨g1, 0, none⟩) (j + 1) cap1) (j + 1) (pcells G (fun a => if a = j then wr.heap.size else nf a) (j + 1)) ∧
    (∀ a, a < j + 1 → w2.heap[if a = j then wr.heap.size else nf a]? = some (.cells #[.slice (some ⟨bl, a * g * 3, none⟩) (min ((a + 1) * g) m - a * g) (c - a * g)] 56 (0, 0))) ∧ Below wt.heap.size wt w2 := by
  have hsz := hbel.size
  have hne : ∀ k, wr.heap.size ≤ k → some k ≠ v.ownBlock := fun k hk e => by have := hown.lt k e.symm; omega
  have hne2 : ∀ a, a < j → some (nf a) ≠ v.ownBlock := fun a ha e => by
    have h1 := hnds a ha
    rcases hown.2 with ⟨rfl, _⟩ | ⟨g', cap, cur, rfl, _, hg, _⟩
    · simp [Value.ownBlock] at e
    · simp [Value.ownBlock] at e
      rw [e, hg] at h1
      simp at h1
  have hlt : ∀ a, a < j → nf a < wr.heap.size := fun a ha => (Array.getElem?_eq_some_iff.1 (hnds a ha)).1
  have hW : ∀ k, k < wr.heap.size → ((wr.alloc (.cells #[.slice (some ⟨bl, x * 3, none⟩) zl (c - x)] 56)).alloc elem).drew.heap[k]? = wr.heap[k]? := fun k hk => by
    show ((wr.alloc (.cells #[.slice (some ⟨bl, x * 3, none⟩) zl (c - x)] 56)).alloc elem).heap[k]? = _
    rw [blk_alloc_lt _ _ _ (by rw [nblk_alloc]; omega), blk_alloc_lt _ _ _ hk]
  have hWn : ((wr.alloc (.cells #[.slice (some ⟨bl, x * 3, none⟩) zl (c - x)] 56)).alloc elem).drew.heap[wr.heap.size]? = some (.cells #[.slice (some ⟨bl, x * 3, none⟩) zl (c - x)] 56 (0, 0)) := by
    show ((wr.alloc (.cells #[.slice (some ⟨bl, x * 3, none⟩) zl (c - x)] 56)).alloc elem).heap[wr.heap.size]? = _
    rw [blk_alloc_lt _ _ _ (by rw [nblk_alloc]; omega), blk_alloc_new]
  have hWs : ((wr.alloc (.cells #[.slice (some ⟨bl, x * 3, none⟩) zl (c - x)] 56)).alloc elem).drew.heap.size = wr.heap.size + 2 := by
    show ((wr.alloc (.cells #[.slice (some ⟨bl, x * 3, none⟩) zl (c - x)] 56)).alloc elem).heap.size = _
    rw [nblk_alloc, nblk_alloc]
  refine ⟨by rw [hz, hx, Nat.add_mul]; omega, fun a ha => ?_, ?_, fun a ha => ?_, ?_⟩
  · by_cases e : a = j
    · rw [e, ← hx]; exact hxm
    · exact haj a (by omega)
  · rw [pcells, pcells_congr G (fun a => if a = j then wr.heap.size else nf a) nf j (fun a ha => by rw [if_neg (by omega)]), if_pos rfl, ← hy]
    exact hown1
  · by_cases e : a = j
    · rw [if_pos e, hgrow.block _ (by rw [hWs]; omega) (hne _ (Nat.le_refl _)), hWn, e, ← hzl, ← hx]
    · rw [if_neg e, hgrow.block _ (by rw [hWs]; have := hlt a (by omega); omega) (hne2 a (by omega)), hW _ (hlt a (by omega))]
      exact hnds a (by omega)
  · exact (((hbel.alloc hsz _).alloc (by rw [nblk_alloc]; omega) _).drew).grown hgrow (by rw [hWs]; omega) (fun k hk => (hown.lt k hk).1)
end Go.Proofs.Ybulkbpjo
