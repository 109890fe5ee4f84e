/-
  THE WALK OF 'LawS3306CModel'.
-/
import Derived.Test.YbulkbpleCovers
namespace Go.Proofs.Ybulkbple
open Go.RowKit Go.Deep Go.Lib
set_option linter.unusedVariables false

set_option maxHeartbeats 400000 in
theorem model_walk (k ns a b x : Int) (w : World) (n0 : -9223372036854775808 ≤ ns) (n1 : ns ≤ 9223372036854775807) (a0 : -9223372036854775808 ≤ a) (a1 : a ≤ 9223372036854775807) (x0 : -9223372036854775808 ≤ x) (x1 : x ≤ 9223372036854775807) :
    Calls Yba.prog 3 #[.int .i64 k, .int .i64 ns, .int .i64 a, .int .i64 b, .int .i64 x] w fun e w' => e = .returned (.bool true) ∧ Below w.heap.size w w' := by
  have HC : Hid (Calls Yba.prog 5 #[.int .i64 a, .int .i64 b] w (Clamped w)) := clamp_any a b w a0 a1
  go_enter Yba.func3, Yba.ntmps3
  go_wp2_with fail
  refine Calls.mono HC.out ?_
  rintro e w1 ⟨ww, off, rfl, q0, q1, q2, q3, rfl⟩
  go_wp2_with fail
  refine Calls.mono (bounds_any k ns off ww _ n0 n1 q2 q3 q1) ?_
  rintro e w2 ⟨f, n, rfl, F, B1⟩
  have HF : Hid (Fits f n (ns - off) ww) := F
  clear F HC
  go_wp2_with fail
  refine Calls.mono (epoch_any _) ?_
  rintro e w3 ⟨rfl, B2⟩
  go_wp2_with fail
  refine Calls.mono (add_any 0 62135596800 x _ (by omega) (by omega) (by omega) (by omega) x0 x1) ?_
  rintro e w4 ⟨rfl, B3⟩
  rw [Int.zero_add]
  obtain ⟨m, hm⟩ : ∃ m, x % 1000000000 = m := ⟨_, rfl⟩
  obtain ⟨z, hz⟩ : ∃ z, 62135596800 + x / 1000000000 = z := ⟨_, rfl⟩
  obtain ⟨r, hr⟩ : ∃ r, r = decide (-9223372036000000000 ≤ x ∧ x < 9223372036000000000 ∧ ns - off ≤ x ∧ x < ns - off + ww) := ⟨_, rfl⟩
  have HCo : Hid (∀ W, Calls Yba.prog 10 #[boundsV k f n, timeV m z] W fun e w' => e = .returned (.bool r) ∧ Below W.heap.size W w') := fun W => by
    have := covers_any k f n (ns - off) ww x r W HF.out x0 x1 hr
    rw [hm, hz] at this
    exact this
  have HI : Hid (-9223372036000000000 ≤ x → x < 9223372036000000000 → ∀ W, Calls Yba.prog 9 #[.int .i64 x, .int .i64 ns, .int .i64 off, .int .i64 ww] W fun e w' => e = .returned (.bool r) ∧ w' = W) := fun g0 g1 W =>
    in_any x ns off ww r W n0 n1 x0 x1 q2 q3 q1 (by rw [hr, decide_eq_decide]; constructor; (rintro ⟨_, _, h⟩; exact h); (intro h; exact ⟨g0, g1, h⟩))
  have HR : Hid (¬ (-9223372036000000000 ≤ x ∧ x < 9223372036000000000) → r = false) := fun h => by rw [hr]; simp; intro g0 g1; exact absurd ⟨g0, g1⟩ h
  have HBu : Hid (∀ W, Calls Yba.prog 11 #[boundsV k f n] W fun e w' => e = .returned (.int .i64 k) ∧ Below W.heap.size W w') := fun W => bucket_any k f n W
  rw [hm, hz]
  have W2 : Hid (Below w1.heap.size w1 w4) := (B1.alloc B1.size _).trans ((B2.trans (B3.mono B2.size)).mono (B1.alloc B1.size _).size)
  have hlt : w2.heap.size < w3.heap.size := by have := B2.size; simp at this; omega
  have c0 : w4.cell? ⟨w2.heap.size, 0, none⟩ = some (.int .i64 k) := by
    rw [B3.cell (p := ⟨w2.heap.size, 0, none⟩) hlt, B2.cell (p := ⟨w2.heap.size, 0, none⟩) (by simp)]; simp [go_sem]
  have c1 : w4.cell? ⟨w2.heap.size, 1, none⟩ = some (.int .i64 f) := by
    rw [B3.cell (p := ⟨w2.heap.size, 1, none⟩) hlt, B2.cell (p := ⟨w2.heap.size, 1, none⟩) (by simp)]; simp [go_sem]
  have c2 : w4.cell? ⟨w2.heap.size, 2, none⟩ = some (.int .u64 n) := by
    rw [B3.cell (p := ⟨w2.heap.size, 2, none⟩) hlt, B2.cell (p := ⟨w2.heap.size, 2, none⟩) (by simp)]; simp [go_sem]
  have hl4 : w2.heap.size < w4.heap.size := by have := B3.size; omega
  clear B1 B2 B3 hm hz hr HF n0 n1 a0 a1 x0 x1 q0 q1 q2 q3 hlt
  have e0 : (w4.alloc (.cells #[.int .u64 m, .int .i64 z, .pointer none] 31)).cell? ⟨w2.heap.size, 0, none⟩ = some (.int .i64 k) := by rw [World.cell?_of_block (w := w4) (Below.heap_alloc w4 _ w2.heap.size hl4)]; exact c0
  have e1 : (w4.alloc (.cells #[.int .u64 m, .int .i64 z, .pointer none] 31)).cell? ⟨w2.heap.size, 1, none⟩ = some (.int .i64 f) := by rw [World.cell?_of_block (w := w4) (Below.heap_alloc w4 _ w2.heap.size hl4)]; exact c1
  have e2 : (w4.alloc (.cells #[.int .u64 m, .int .i64 z, .pointer none] 31)).cell? ⟨w2.heap.size, 2, none⟩ = some (.int .u64 n) := by rw [World.cell?_of_block (w := w4) (Below.heap_alloc w4 _ w2.heap.size hl4)]; exact c2
  clear c0 c1 c2
  by_cases g0 : -9223372036000000000 ≤ x
  · by_cases g1 : x < 9223372036000000000
    · have d0 : decide (-9223372036000000000 ≤ x) = true := by simp; omega
      have d1 : decide (x < 9223372036000000000) = true := by simp; omega
      go_wp2_with fail
      refine Calls.mono (HI.out g0 g1 _) ?_
      rintro e w7 ⟨rfl, rfl⟩
      go_wp2_with fail
      refine Calls.mono (HCo.out _) ?_
      rintro e w5 ⟨rfl, B5⟩
      have W5 : Hid (Below w1.heap.size w1 w5) := (W2.out.alloc W2.out.size _).trans (B5.mono (W2.out.alloc W2.out.size _).size)
      have k0 := (B5.cell (p := ⟨w2.heap.size, 0, none⟩) (by simp; omega)).trans e0
      have k1 := (B5.cell (p := ⟨w2.heap.size, 1, none⟩) (by simp; omega)).trans e1
      have k2 := (B5.cell (p := ⟨w2.heap.size, 2, none⟩) (by simp; omega)).trans e2
      clear B5
      go_wp2_with fail
      refine Calls.mono (HBu.out _) ?_
      rintro e w6 ⟨rfl, B6⟩
      have W6 : Hid (Below w1.heap.size w1 w6) := W5.out.trans (B6.mono W5.out.size)
      clear B6
      go_wp2
      go_ret
      exact ⟨rfl, W6.out⟩
    · have d0 : decide (-9223372036000000000 ≤ x) = true := by simp; omega
      have d1 : decide (x < 9223372036000000000) = false := by simp; omega
      obtain rfl : r = false := HR.out (by omega)
      go_wp2_with fail
      refine Calls.mono (HCo.out _) ?_
      rintro e w5 ⟨rfl, B5⟩
      have W5 : Hid (Below w1.heap.size w1 w5) := (W2.out.alloc W2.out.size _).trans (B5.mono (W2.out.alloc W2.out.size _).size)
      have k0 := (B5.cell (p := ⟨w2.heap.size, 0, none⟩) (by simp; omega)).trans e0
      have k1 := (B5.cell (p := ⟨w2.heap.size, 1, none⟩) (by simp; omega)).trans e1
      have k2 := (B5.cell (p := ⟨w2.heap.size, 2, none⟩) (by simp; omega)).trans e2
      clear B5
      go_wp2_with fail
      refine Calls.mono (HBu.out _) ?_
      rintro e w6 ⟨rfl, B6⟩
      have W6 : Hid (Below w1.heap.size w1 w6) := W5.out.trans (B6.mono W5.out.size)
      clear B6
      go_wp2
      go_ret
      exact ⟨rfl, W6.out⟩
  · have d0 : decide (-9223372036000000000 ≤ x) = false := by simp; omega
    obtain rfl : r = false := HR.out (by omega)
    go_wp2_with fail
    refine Calls.mono (HCo.out _) ?_
    rintro e w5 ⟨rfl, B5⟩
    have W5 : Hid (Below w1.heap.size w1 w5) := (W2.out.alloc W2.out.size _).trans (B5.mono (W2.out.alloc W2.out.size _).size)
    have k0 := (B5.cell (p := ⟨w2.heap.size, 0, none⟩) (by simp; omega)).trans e0
    have k1 := (B5.cell (p := ⟨w2.heap.size, 1, none⟩) (by simp; omega)).trans e1
    have k2 := (B5.cell (p := ⟨w2.heap.size, 2, none⟩) (by simp; omega)).trans e2
    clear B5
    go_wp2_with fail
    refine Calls.mono (HBu.out _) ?_
    rintro e w6 ⟨rfl, B6⟩
    have W6 : Hid (Below w1.heap.size w1 w6) := W5.out.trans (B6.mono W5.out.size)
    clear B6
    go_wp2
    go_ret
    exact ⟨rfl, W6.out⟩
end Go.Proofs.Ybulkbple
