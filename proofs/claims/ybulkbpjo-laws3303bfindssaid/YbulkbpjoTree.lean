/-
  THE TREE IN MEMORY, LEVEL BY LEVEL, and the contract of (*history).chunkOf.
-/
import Derived.Test.YbulkbpjoSearch
namespace Go.Proofs.Ybulkbpjo
open Go.RowKit
set_option linter.unusedVariables false

/-- Level t: a row of len t entries in block blk t; entry j of level t heads the leaves from j * g ^ t on. An entry of level t + 1 leads to a node, a block of one cell, which holds the slice of its entries of level t. -/
structure Tree (w : World) (g n T : Nat) (F : Nat → Int) (blk len : Nat → Nat) (nd nc : Nat → Nat → Nat) : Prop where
  hg : 2 ≤ g
  hn : 1 ≤ n
  len_iff : ∀ t j, t ≤ T → (j < len t ↔ j * g ^ t < n)
  first : ∀ t j, t ≤ T → j < len t → w.cell? ⟨blk t, j * 3, none⟩ = some (.int .u64 (F (j * g ^ t)))
  leaf : ∀ j, j < len 0 → w.cell? ⟨blk 0, j * 3 + 2, none⟩ = some (.pointer none)
  below : ∀ t j, t < T → j < len (t + 1) → w.cell? ⟨blk (t + 1), j * 3 + 2, none⟩ = some (.pointer (some ⟨nd t j, 0, none⟩))
  node : ∀ t j, t < T → j < len (t + 1) → w.cell? ⟨nd t j, 0, none⟩ = some (.slice (some ⟨blk t, j * g * 3, none⟩) (min ((j + 1) * g) (len t) - j * g) (nc t j))
  mono : ∀ i j, i < j → j < n → F i < F j

theorem Tree.later {w w' : World} {g n T : Nat} {F : Nat → Int} {blk len : Nat → Nat} {nd nc : Nat → Nat → Nat} (h : Tree w g n T F blk len nd nc) (hb : Below w.heap.size w w') : Tree w' g n T F blk len nd nc := by
  have c : ∀ {a v}, w.cell? a = some v → w'.cell? a = some v := fun {a v} hc => (hb.cell (World.block_lt_of_cell? w _ hc)).trans hc
  exact ⟨h.hg, h.hn, h.len_iff, fun t j h1 h2 => c (h.first t j h1 h2), fun j h1 => c (h.leaf j h1), fun t j h1 h2 => c (h.below t j h1 h2), fun t j h1 h2 => c (h.node t j h1 h2), h.mono⟩

/-- The leaf that the target falls in. -/
structure Falls (n : Nat) (F : Nat → Int) (tg : Int) (k : Nat) : Prop where
  lt : k < n
  low : k = 0 ∨ F k ≤ tg
  high : ∀ i, k < i → i < n → tg < F i

section
variable {w : World} {g n T : Nat} {F : Nat → Int} {blk len : Nat → Nat} {nd nc : Nat → Nat → Nat}

/-- 'nx' leads to the entry that heads leaf e; nil where there is none. -/
def NextP (g n T : Nat) (blk len : Nat → Nat) (e : Nat) (nx : Value) : Prop :=
  (n ≤ e ∧ nx = .pointer none) ∨ (e < n ∧ ∃ t j, t ≤ T ∧ j < len t ∧ j * g ^ t = e ∧ nx = .pointer (some ⟨blk t, j * 3, none⟩))

theorem NextP.same {e e' : Nat} {nx : Value} (h : NextP g n T blk len e nx) (he : e' = e ∨ (n ≤ e ∧ n ≤ e')) : NextP g n T blk len e' nx := by
  rcases he with rfl | ⟨h1, h2⟩
  · exact h
  · rcases h with ⟨_, h3⟩ | ⟨h3, _⟩
    · exact .inl ⟨h2, h3⟩
    · omega

theorem Tree.pow_pos (h : Tree w g n T F blk len nd nc) (t : Nat) : 1 ≤ g ^ t := Nat.pow_pos (by have := h.hg; omega)

theorem Tree.len_zero (h : Tree w g n T F blk len nd nc) : len 0 = n := by
  have h1 := h.len_iff 0 (len 0) (Nat.zero_le _)
  have h2 := h.len_iff 0 n (Nat.zero_le _)
  simp at h1 h2
  omega

/-- Where the target falls within a node: the node's entries s .. s + m - 1 of level t, entry r found by place. -/
theorem Tree.narrow (h : Tree w g n T F blk len nd nc) {tg : Int} {k t s m r : Nat} (hk : Falls n F tg k) (ht : t ≤ T) (hsm : s + m ≤ len t) (hr : r < m) (lo : s * g ^ t ≤ k) (hi : k < (s + m) * g ^ t)
    (h1 : ∀ i, 1 ≤ i → i ≤ r → F ((s + i) * g ^ t) ≤ tg) (h2 : ∀ i, r < i → i < m → tg < F ((s + i) * g ^ t)) : (s + r) * g ^ t ≤ k ∧ k < (s + r + 1) * g ^ t := by
  constructor
  · by_cases h0 : r = 0
    · subst h0; simpa using lo
    · have h3 := h1 r (by omega) (Nat.le_refl _)
      have h4 : (s + r) * g ^ t < n := (h.len_iff t (s + r) ht).1 (by omega)
      rcases Nat.lt_or_ge k ((s + r) * g ^ t) with h5 | h5
      · have := hk.high _ h5 h4; omega
      · exact h5
  · by_cases h0 : r + 1 = m
    · rw [show s + r + 1 = s + m by omega]; exact hi
    · have h3 := h2 (r + 1) (by omega) (by omega)
      have h4 : (s + (r + 1)) * g ^ t < n := (h.len_iff t (s + (r + 1)) ht).1 (by omega)
      rw [show s + r + 1 = s + (r + 1) by omega]
      rcases Nat.lt_or_ge k ((s + (r + 1)) * g ^ t) with h5 | h5
      · exact h5
      · exfalso
        have hp := h.pow_pos t
        have h6 : 1 ≤ (s + (r + 1)) * g ^ t := Nat.mul_pos (by omega) hp
        have h7 : F ((s + (r + 1)) * g ^ t) ≤ F k := by
          by_cases e : (s + (r + 1)) * g ^ t = k
          · rw [e]; exact Int.le_refl _
          · have := h.mono ((s + (r + 1)) * g ^ t) k (by omega) hk.lt; omega
        rcases hk.low with h8 | h8 <;> omega

/-- The firsts of a node's entries go up. -/
theorem Tree.node_mono (h : Tree w g n T F blk len nd nc) {t s m : Nat} (ht : t ≤ T) (hsm : s + m ≤ len t) : ∀ i j, i < j → j < m → F ((s + i) * g ^ t) < F ((s + j) * g ^ t) := by
  intro i j hij hj
  have h1 : (s + j) * g ^ t < n := (h.len_iff t (s + j) ht).1 (by omega)
  exact h.mono _ _ (Nat.mul_lt_mul_of_pos_right (by omega) (h.pow_pos t)) h1

/-- One level down: the entries of the child. -/
theorem Tree.down (h : Tree w g n T F blk len nd nc) {t a : Nat} (ht : t < T) (ha : a < len (t + 1)) :
    1 ≤ min ((a + 1) * g) (len t) - a * g ∧ a * g + (min ((a + 1) * g) (len t) - a * g) ≤ len t ∧ a * g * g ^ t = a * g ^ (t + 1) ∧
    ((a * g + (min ((a + 1) * g) (len t) - a * g)) * g ^ t = (a + 1) * g ^ (t + 1) ∨ (n ≤ (a + 1) * g ^ (t + 1) ∧ n ≤ (a * g + (min ((a + 1) * g) (len t) - a * g)) * g ^ t)) := by
  have e1 : a * g * g ^ t = a * g ^ (t + 1) := by rw [Nat.pow_succ, Nat.mul_assoc, Nat.mul_comm g]
  have e2 : (a + 1) * g * g ^ t = (a + 1) * g ^ (t + 1) := by rw [Nat.pow_succ, Nat.mul_assoc, Nat.mul_comm g]
  have h1 : a * g < len t := (h.len_iff t (a * g) (by omega)).2 (by rw [e1]; exact (h.len_iff (t + 1) a (by omega)).1 ha)
  have h2 : a * g < (a + 1) * g := by rw [Nat.add_mul]; have := h.hg; omega
  refine ⟨by omega, by omega, e1, ?_⟩
  by_cases hle : (a + 1) * g ≤ len t
  · left
    rw [Nat.min_eq_left hle, show a * g + ((a + 1) * g - a * g) = (a + 1) * g by omega]
    exact e2
  · right
    rw [Nat.min_eq_right (by omega), show a * g + (len t - a * g) = len t by omega]
    have h3 : ¬ (len t * g ^ t < n) := fun hlt => by have := (h.len_iff t (len t) (by omega)).2 hlt; omega
    have h4 : ¬ ((a + 1) * g * g ^ t < n) := fun hlt => by have := (h.len_iff t ((a + 1) * g) (by omega)).2 hlt; omega
    rw [e2] at h4
    exact ⟨by omega, by omega⟩
end
end Go.Proofs.Ybulkbpjo
