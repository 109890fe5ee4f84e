/-
  CONTRACTS: the closure of place, sort.Search, (*chunkNode).place.
-/
import Derived.Test.YbulkbpjoRows
import Derived.WalkKit
import Derived.WalkSpells
import Derived.WalkLawsBesides
import Derived.Below
import Derived.Deep.QuietTactic
import Derived.BigQuiet
import Derived.Deep.LoopGhost
import Derived.Deep.Draws
namespace Go.Proofs.Ybulkbpjo
open Go.RowKit
set_option linter.unusedVariables false

set_option maxHeartbeats 800000 in
/-- The closure: is the first of entry i + 1 beyond the target? -/
theorem closure_any (bn bt nb b s m c i : Nat) (tg x : Int) (w : World) (him : i + 1 < m) (hm : m ≤ 100000)
    (h1 : w.cell? ⟨bn, 0, none⟩ = some (.pointer (some ⟨nb, 0, none⟩))) (h2 : w.cell? ⟨bt, 0, none⟩ = some (.int .u64 tg)) (h3 : w.cell? ⟨nb, 0, none⟩ = some (.slice (some ⟨b, s * 3, none⟩) m c))
    (h4 : w.cell? ⟨b, s * 3 + (i + 1) * 3, none⟩ = some (.int .u64 x)) :
    Calls Yba.prog 15 #[.int .i64 (i : Int), .pointer (some ⟨bn, 0, none⟩), .pointer (some ⟨bt, 0, none⟩)] w fun e w' => e = .returned (.bool (decide (tg < x))) ∧ ∃ q, w' = w.drewN q := by
  have hi0 : (0 : Int) ≤ (i : Int) + 1 := by omega
  have hi1 : (i : Int) + 1 < (m : Int) := by omega
  have hi2 : ((i : Int) + 1).toNat = i + 1 := by omega
  go_enter Yba.func15, Yba.ntmps15
  go_wp2_with fail
  go_quiet (fail)
  go_wp2
  go_ret
  exact ⟨rfl, _, rfl⟩

set_option maxRecDepth 100000 in
set_option maxHeartbeats 1600000 in
/-- sort.Search, over the closure of place. -/
theorem search_any (n : Nat) (p : Nat → Bool) (cb : Array Value) (w : World) (hn : n ≤ 100000)
    (hf : ∀ m i, i < n → Calls Yba.prog 15 (#[.int .i64 (i : Int)] ++ cb) (w.drewN m) fun e w' => e = .returned (.bool (p i)) ∧ ∃ q, w' = (w.drewN m).drewN q)
    (hmono : ∀ a b, a ≤ b → b < n → p a = true → p b = true) :
    Calls Yba.prog 14 #[.int .i64 (n : Int), .func (.func 15) #[] cb] w fun e w' => ∃ r, r ≤ n ∧ e = .returned (.int .i64 (r : Int)) ∧ (∀ t, t < r → p t = false) ∧ (∀ t, r ≤ t → t < n → p t = true) ∧ ∃ q, w' = w.drewN q := by
  have HF : Hid _ := hf
  have M : Hid _ := hmono
  clear hf hmono
  go_enter Yba.func14, Yba.ntmps14
  go_wp2
  go_loopg [5, 6] n (fun kx s5 s6 wr => ∃ (lo hi q : Nat), s5 = .int .i64 lo ∧ s6 = .int .i64 hi ∧ lo ≤ hi ∧ hi ≤ n ∧ hi - lo ≤ kx ∧ wr = w.drewN q ∧ Hid ((∀ t, t < lo → p t = false) ∧ (∀ t, hi ≤ t → t < n → p t = true)))
  case atStart => exact ⟨0, n, 0, rfl, rfl, Nat.zero_le _, Nat.le_refl _, by omega, rfl, (⟨fun t ht => absurd ht (Nat.not_lt_zero _), fun t h1 h2 => by omega⟩ : (∀ t, t < 0 → p t = false) ∧ (∀ t, n ≤ t → t < n → p t = true))⟩
  case round =>
    obtain ⟨lo, hi, q, rfl, rfl, hlh, hin, hg, rfl, I⟩ := hrel
    by_cases hlt : lo < hi
    · have hc := HF.out q ((lo + hi) / 2) (by omega)
      rw [show (((lo + hi) / 2 : Nat) : Int) = ((lo : Int) + (hi : Int)) / 2 by omega] at hc
      cases hp : p ((lo + hi) / 2) <;> rw [hp] at hc
      · have HP : Hid (p ((lo + hi) / 2) = false) := hp
        have HC : Hid _ := hc
        clear hp hc
        go_wp2_with fail
        refine Calls.mono HC.out ?_
        rintro e w' ⟨rfl, nq, rfl⟩
        go_wp2
        go_roundg (hi - ((lo + hi) / 2 + 1))
        case measure => omega
        case rel =>
          have I2 : Hid ((∀ t, t < (lo + hi) / 2 + 1 → p t = false) ∧ (∀ t, hi ≤ t → t < n → p t = true)) := ⟨fun t ht => (by
            cases h : p t with
            | false => rfl
            | true => have := M.out t ((lo + hi) / 2) (by omega) (by omega) h; rw [HP.out] at this; cases this), I.out.2⟩
          exact ⟨(lo + hi) / 2 + 1, hi, q + nq, by rw [show ((lo : Int) + (hi : Int)) / 2 + 1 = (((lo + hi) / 2 + 1 : Nat) : Int) by omega], rfl, by omega, hin, Nat.le_refl _, by first | rfl | rw [World.drewN_drewN], I2⟩
      · have HP : Hid (p ((lo + hi) / 2) = true) := hp
        have HC : Hid _ := hc
        clear hp hc
        go_wp2_with fail
        refine Calls.mono HC.out ?_
        rintro e w' ⟨rfl, nq, rfl⟩
        go_wp2
        go_roundg ((lo + hi) / 2 - lo)
        case measure => omega
        case rel =>
          have I2 : Hid ((∀ t, t < lo → p t = false) ∧ (∀ t, (lo + hi) / 2 ≤ t → t < n → p t = true)) := ⟨I.out.1, fun t h1 h2 => M.out ((lo + hi) / 2) t h1 h2 HP.out⟩
          exact ⟨lo, (lo + hi) / 2, q + nq, rfl, by rw [show ((lo : Int) + (hi : Int)) / 2 = (((lo + hi) / 2 : Nat) : Int) by omega], by omega, by omega, Nat.le_refl _, by first | rfl | rw [World.drewN_drewN], I2⟩
    · obtain rfl : lo = hi := by omega
      go_wp2
      go_ret
      exact ⟨lo, hin, rfl, I.out.1, I.out.2, q, rfl⟩

set_option maxRecDepth 100000 in
set_option maxHeartbeats 1600000 in
/-- place: the entry that the target falls in. -/
theorem place_any (nb b s m c : Nat) (tg : Int) (f : Nat → Int) (w : World) (hm0 : 1 ≤ m) (hm : m ≤ 100000) (hn : w.cell? ⟨nb, 0, none⟩ = some (.slice (some ⟨b, s * 3, none⟩) m c))
    (hf : ∀ i, i < m → w.cell? ⟨b, s * 3 + i * 3, none⟩ = some (.int .u64 (f i))) (hmono : ∀ i j, i < j → j < m → f i < f j) :
    Calls Yba.prog 12 #[.pointer (some ⟨nb, 0, none⟩), .int .u64 tg] w fun e w' => ∃ r, r < m ∧ e = .returned (.int .i64 (r : Int)) ∧ (∀ i, 1 ≤ i → i ≤ r → f i ≤ tg) ∧ (∀ i, r < i → i < m → tg < f i) ∧ Below w.heap.size w w' := by
  have hz := World.block_lt_of_cell? w _ hn
  obtain ⟨W, hW⟩ : ∃ W, W = (w.alloc (.cells #[.pointer (some ⟨nb, 0, none⟩)] 45)).alloc (.cells #[.int .u64 tg] 22) := ⟨_, rfl⟩
  have hB : Below w.heap.size w W := by rw [hW]; exact ((Below.refl _ _).alloc (Nat.le_refl _) _).alloc (by simp) _
  have k1 : W.cell? ⟨w.heap.size, 0, none⟩ = some (.pointer (some ⟨nb, 0, none⟩)) := by rw [hW]; simp
  have k2 : W.cell? ⟨w.heap.size + 1, 0, none⟩ = some (.int .u64 tg) := by rw [hW]; simp
  have k3 : W.cell? ⟨nb, 0, none⟩ = some (.slice (some ⟨b, s * 3, none⟩) m c) := (hB.cell (p := ⟨nb, 0, none⟩) hz).trans hn
  have k4 : ∀ i, i < m → W.cell? ⟨b, s * 3 + i * 3, none⟩ = some (.int .u64 (f i)) := fun i hi => (hB.cell (p := ⟨b, s * 3 + i * 3, none⟩) (World.block_lt_of_cell? w _ (hf i hi))).trans (hf i hi)
  have HS : Hid (Calls Yba.prog 14 #[.int .i64 ((m - 1 : Nat) : Int), .func (.func 15) #[] #[.pointer (some ⟨w.heap.size, 0, none⟩), .pointer (some ⟨w.heap.size + 1, 0, none⟩)]] W
      fun e w' => ∃ r, r ≤ m - 1 ∧ e = .returned (.int .i64 (r : Int)) ∧ (∀ t, t < r → (decide (tg < f (t + 1))) = false) ∧ (∀ t, r ≤ t → t < m - 1 → (decide (tg < f (t + 1))) = true) ∧ ∃ q, w' = W.drewN q) := by
    refine search_any (m - 1) (fun i => decide (tg < f (i + 1))) _ W (by omega) (fun q i hi => ?_) (fun a b' hab hb hp => ?_)
    · exact closure_any w.heap.size (w.heap.size + 1) nb b s m c i tg (f (i + 1)) (W.drewN q) (by omega) hm k1 k2 k3 (k4 (i + 1) (by omega))
    · simp only [decide_eq_true_eq] at hp ⊢
      by_cases e : a = b'
      · subst e; exact hp
      · have := hmono (a + 1) (b' + 1) (by omega) (by omega); omega
  have hm1 : ((m - 1 : Nat) : Int) = (m : Int) - 1 := by omega
  rw [hm1] at HS
  have HW : Hid (W = (w.alloc (.cells #[.pointer (some ⟨nb, 0, none⟩)] 45)).alloc (.cells #[.int .u64 tg] 22)) := hW
  have HB : Hid (Below w.heap.size w W) := hB
  clear hm1 k1 k2 k3 k4 hB hW hf hmono
  go_enter Yba.func12, Yba.ntmps12
  go_wp2_with fail
  rw [← HW.out]
  refine Calls.mono HS.out ?_
  rintro e w1 ⟨r, hr, rfl, g1, g2, q, rfl⟩
  go_wp2
  go_ret
  refine ⟨r, by omega, rfl, fun i h1 h2 => ?_, fun i h1 h2 => ?_, below_drewN HB.out q⟩
  · have := g1 (i - 1) (by omega)
    rw [show i - 1 + 1 = i by omega] at this
    simpa using this
  · have := g2 (i - 1) (by omega) (by omega)
    rw [show i - 1 + 1 = i by omega] at this
    simpa using this
end Go.Proofs.Ybulkbpjo
