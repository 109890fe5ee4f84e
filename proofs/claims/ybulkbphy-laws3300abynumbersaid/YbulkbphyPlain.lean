/-
  THE PLAIN MATHEMATICS: counting places. No Go in sight.
-/
namespace Go.Proofs.Ybulkbphy.Plain

/-- How many of f 0 .. f (m-1) lie below k. -/
def cntLt (f : Nat → Nat) : Nat → Nat → Nat
  | 0, _ => 0
  | m + 1, k => cntLt f m k + if f m < k then 1 else 0
/-- How many of f 0 .. f (m-1) are k. -/
def cntEq (f : Nat → Nat) : Nat → Nat → Nat
  | 0, _ => 0
  | m + 1, k => cntEq f m k + if f m = k then 1 else 0

theorem cntLt_zero (f : Nat → Nat) (m : Nat) : cntLt f m 0 = 0 := by
  induction m with
  | zero => rfl
  | succ m ih => simp [cntLt, ih]

theorem cntLt_step (f : Nat → Nat) (m k : Nat) : cntLt f m (k + 1) = cntLt f m k + cntEq f m k := by
  induction m with
  | zero => rfl
  | succ m ih =>
    simp only [cntLt, cntEq, ih]
    by_cases h1 : f m < k
    · rw [if_pos h1, if_pos (by omega), if_neg (by omega)]; omega
    · by_cases h2 : f m = k
      · rw [if_neg h1, if_pos (by omega), if_pos h2]; omega
      · rw [if_neg h1, if_neg (by omega), if_neg h2]; omega

theorem cntLt_le (f : Nat → Nat) (m k : Nat) : cntLt f m k ≤ m := by
  induction m with
  | zero => exact Nat.le_refl _
  | succ m ih => simp only [cntLt]; split <;> omega

theorem cntEq_le (f : Nat → Nat) (m k : Nat) : cntEq f m k ≤ m := by
  induction m with
  | zero => exact Nat.le_refl _
  | succ m ih => simp only [cntEq]; split <;> omega

theorem cntEq_mono (f : Nat → Nat) (k a b : Nat) (h : a ≤ b) : cntEq f a k ≤ cntEq f b k := by
  induction b with
  | zero => obtain rfl : a = 0 := by omega
            exact Nat.le_refl _
  | succ b ih =>
    by_cases hb : a ≤ b
    · have := ih hb; simp only [cntEq]; omega
    · obtain rfl : a = b + 1 := by omega
      exact Nat.le_refl _

theorem cntEq_hit (f : Nat → Nat) (i n : Nat) (h : i < n) : cntEq f i (f i) + 1 ≤ cntEq f n (f i) := by
  have h1 : cntEq f (i + 1) (f i) = cntEq f i (f i) + 1 := by simp [cntEq]
  have h2 := cntEq_mono f (f i) (i + 1) n h
  omega

theorem cntLt_mono (f : Nat → Nat) (n a b : Nat) (h : a ≤ b) : cntLt f n a ≤ cntLt f n b := by
  induction b with
  | zero => obtain rfl : a = 0 := by omega
            exact Nat.le_refl _
  | succ b ih =>
    by_cases hb : a ≤ b
    · have := ih hb; rw [cntLt_step]; omega
    · obtain rfl : a = b + 1 := by omega
      exact Nat.le_refl _

theorem cntLt_all (f : Nat → Nat) (n c : Nat) (h : ∀ i, i < n → f i < c) : cntLt f n c = n := by
  induction n with
  | zero => rfl
  | succ n ih =>
    simp only [cntLt]
    rw [ih (fun i hi => h i (by omega)), if_pos (h n (by omega))]

/-- The place of item i. -/
def pl (f : Nat → Nat) (n i : Nat) : Nat := cntLt f n (f i) + cntEq f i (f i)

theorem pl_lt (f : Nat → Nat) (n i : Nat) (h : i < n) : pl f n i < cntLt f n (f i + 1) := by
  have h1 := cntEq_hit f i n h
  rw [cntLt_step]
  unfold pl
  omega

theorem pl_lt_n (f : Nat → Nat) (n i : Nat) (h : i < n) : pl f n i < n := by
  have h1 := pl_lt f n i h
  have h2 := cntLt_le f n (f i + 1)
  omega

theorem pl_ne (f : Nat → Nat) (n p q : Nat) (hp : p < n) (hq : q < p) : pl f n q ≠ pl f n p := by
  have a1 := pl_lt f n p hp
  have a2 := pl_lt f n q (by omega)
  have b1 : cntLt f n (f p) ≤ pl f n p := by unfold pl; omega
  have b2 : cntLt f n (f q) ≤ pl f n q := by unfold pl; omega
  by_cases h1 : f q < f p
  · have := cntLt_mono f n (f q + 1) (f p) h1; omega
  · by_cases h2 : f p < f q
    · have := cntLt_mono f n (f p + 1) (f q) h2; omega
    · have e : f q = f p := by omega
      have h3 := cntEq_hit f q p hq
      unfold pl
      rw [e] at h3 ⊢
      omega

end Go.Proofs.Ybulkbphy.Plain
