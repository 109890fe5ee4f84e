/-
  CONTRACT OF Covers.
-/
import Derived.Test.YbulkbpleBounds2
import Derived.Deep.RegionHeld3
namespace Go.Proofs.Ybulkbple
open Go.RowKit Go.Deep Go.Lib
set_option linter.unusedVariables false

theorem wraps {q m x : Int} (hx : q * 1000000000 + m = x) (q0 : -9223372037 < q) (q1 : q < 9223372036) (m0 : 0 ≤ m) (m1 : m < 1000000000) : IntKind.i64.wrap (IntKind.i64.wrap (q * 1000000000) + m) = x := by
  simp only [IntWalk.i64_left]
  unfold wrap64
  omega

set_option maxHeartbeats 400000 in
/-- Covers, at a Time x nanoseconds past the epoch. -/
theorem covers_in (k f n x : Int) (r : Bool) (w : World) (f0 : -9223372036854775808 ≤ f) (f1 : f ≤ 9223372036854775807) (n0 : 0 ≤ n) (n1 : f + n ≤ 9223372036854775808) (x0 : -9223372036000000000 ≤ x) (x1 : x < 9223372036000000000)
    (q m : Int) (hq : x / 1000000000 = q) (hm : x % 1000000000 = m) (hr : r = decide (f ≤ x ∧ x < f + n)) :
    Calls Yba.prog 10 #[boundsV k f n, timeV m (62135596800 + q)] w fun e w' => e = .returned (.bool r) ∧ Below w.heap.size w w' := by
  obtain ⟨z, hz⟩ : ∃ z, 62135596800 + q = z := ⟨_, rfl⟩
  have hx : q * 1000000000 + m = x := by omega
  have q0 : -9223372037 < q := by omega
  have q1 : q < 9223372036 := by omega
  have m0 : 0 ≤ m := by omega
  have m1 : m < 1000000000 := by omega
  have hr' : r = decide (IntKind.u64.wrap (wrap64 (x - f)) < n) := by rw [hr, has_plain f n x f0 f1 n0 n1 (by omega) (by omega)]
  have HU : Hid (∀ W, Calls Yba.prog 18 #[timeV m z] W fun e w' => e = .returned (.int .i64 q) ∧ w' = W.alloc (.cells #[.int .u64 m, .int .i64 z, .pointer none] 31)) := fun W => unix_eq m z q W m0 m1 (by omega) (by omega) (by omega)
  have HN : Hid (∀ W, Calls Yba.prog 20 #[timeV m z] W fun e w' => e = .returned (.int .i64 m) ∧ w' = W.alloc (.cells #[.int .u64 m, .int .i64 z, .pointer none] 31)) := fun W => nano_eq m z W m0 m1
  have HH : Hid (∀ W y, y = x → Calls Yba.prog 19 #[boundsV k f n, .int .i64 y] W fun e w' => e = .returned (.bool r) ∧ w' = W.alloc (.cells #[.int .i64 k, .int .i64 f, .int .u64 n] 26)) := fun W y hy => hy ▸ has_eq k f n x r W hr'
  rw [hz]
  clear hz hq hm hr hr' f0 f1 n0 n1 x0 x1
  go_enter Yba.func10, Yba.ntmps10
  go_wp2_with fail
  refine (HU.out _).mono ?_
  rintro e w1 ⟨rfl, rfl⟩
  obtain ⟨W, hW⟩ : ∃ W, W = ((w.alloc (.cells #[.int .i64 k, .int .i64 f, .int .u64 n] 26)).alloc (.cells #[.int .u64 m, .int .i64 z, .pointer none] 31)).alloc (.cells #[.int .u64 m, .int .i64 z, .pointer none] 31) := ⟨_, rfl⟩
  have HB : Below w.heap.size w W := by rw [hW]; exact ((((Below.refl _ _).alloc (Nat.le_refl _) _).alloc (by simp) _).alloc (by simp; omega) _)
  have c0 : W.cell? ⟨w.heap.size, 0, none⟩ = some (.int .i64 k) := by rw [hW]; simp [go_sem]
  have c1 : W.cell? ⟨w.heap.size, 1, none⟩ = some (.int .i64 f) := by rw [hW]; simp [go_sem]
  have c2 : W.cell? ⟨w.heap.size, 2, none⟩ = some (.int .u64 n) := by rw [hW]; simp [go_sem]
  have d0 : W.cell? ⟨w.heap.size + 1, 0, none⟩ = some (.int .u64 m) := by rw [hW]; simp [go_sem]
  have d1 : W.cell? ⟨w.heap.size + 1, 1, none⟩ = some (.int .i64 z) := by rw [hW]; simp [go_sem]
  have d2 : W.cell? ⟨w.heap.size + 1, 2, none⟩ = some (.pointer none) := by rw [hW]; simp [go_sem]
  rw [← hW]
  clear hW
  go_wp2_with fail
  go_region_held3 (fun w' => w'.cell? ⟨w.heap.size, 0, none⟩ = some (.int .i64 k) ∧ w'.cell? ⟨w.heap.size, 1, none⟩ = some (.int .i64 f) ∧ w'.cell? ⟨w.heap.size, 2, none⟩ = some (.int .u64 n) ∧ w'.cell? ⟨w.heap.size + 1, 0, none⟩ = some (.int .u64 m) ∧ w'.cell? ⟨w.heap.size + 1, 1, none⟩ = some (.int .i64 z) ∧ w'.cell? ⟨w.heap.size + 1, 2, none⟩ = some (.pointer none))
    (go_keep)
    (first
    | (go_at_call 20; refine Calls.mono (HN.out _) ?_; rintro e w1 ⟨rfl, rfl⟩)
    | (go_at_call 19; refine Calls.mono (HH.out _ _ ?e) ?_; (case e => exact wraps hx q0 q1 m0 m1); rintro e w1 ⟨rfl, rfl⟩))
  go_wp2
  go_ret
  exact ⟨rfl, ((HB.alloc HB.size _).alloc (HB.alloc HB.size _).size _).drew⟩

set_option maxHeartbeats 400000 in
theorem covers_lo (k f n : Int) (w : World) (q m : Int) (m0 : 0 ≤ m) (m1 : m < 1000000000) (q0 : q ≤ -9223372037) (q1 : -10000000000 ≤ q) :
    Calls Yba.prog 10 #[boundsV k f n, timeV m (62135596800 + q)] w fun e w' => e = .returned (.bool false) ∧ Below w.heap.size w w' := by
  obtain ⟨z, hz⟩ : ∃ z, 62135596800 + q = z := ⟨_, rfl⟩
  have HU : Hid (∀ W, Calls Yba.prog 18 #[timeV m z] W fun e w' => e = .returned (.int .i64 q) ∧ w' = W.alloc (.cells #[.int .u64 m, .int .i64 z, .pointer none] 31)) := fun W => unix_eq m z q W m0 m1 (by omega) (by omega) (by omega)
  have hd : decide (-9223372037 < q) = false := by simp; omega
  rw [hz]
  clear hz
  go_enter Yba.func10, Yba.ntmps10
  go_wp2_with fail
  refine (HU.out _).mono ?_
  rintro e w1 ⟨rfl, rfl⟩
  go_wp2_with fail
  go_quiet (fail)
  go_wp2
  go_ret
  have HB : Below w.heap.size w (((w.alloc (.cells #[.int .i64 k, .int .i64 f, .int .u64 n] 26)).alloc (.cells #[.int .u64 m, .int .i64 z, .pointer none] 31)).alloc (.cells #[.int .u64 m, .int .i64 z, .pointer none] 31)) := ((((Below.refl _ _).alloc (Nat.le_refl _) _).alloc (by simp) _).alloc (by simp; omega) _)
  exact ⟨rfl, HB.trans ⟨rfl, rfl, rfl, Nat.le_refl _, fun _ _ => rfl⟩⟩

set_option maxHeartbeats 400000 in
theorem covers_hi (k f n : Int) (w : World) (q m : Int) (m0 : 0 ≤ m) (m1 : m < 1000000000) (q0 : 9223372036 ≤ q) (q1 : q ≤ 10000000000) :
    Calls Yba.prog 10 #[boundsV k f n, timeV m (62135596800 + q)] w fun e w' => e = .returned (.bool false) ∧ Below w.heap.size w w' := by
  obtain ⟨z, hz⟩ : ∃ z, 62135596800 + q = z := ⟨_, rfl⟩
  have HU : Hid (∀ W, Calls Yba.prog 18 #[timeV m z] W fun e w' => e = .returned (.int .i64 q) ∧ w' = W.alloc (.cells #[.int .u64 m, .int .i64 z, .pointer none] 31)) := fun W => unix_eq m z q W m0 m1 (by omega) (by omega) (by omega)
  have hd1 : decide (-9223372037 < q) = true := by simp; omega
  have hd2 : decide (q < 9223372036) = false := by simp; omega
  rw [hz]
  clear hz
  go_enter Yba.func10, Yba.ntmps10
  go_wp2_with fail
  refine (HU.out _).mono ?_
  rintro e w1 ⟨rfl, rfl⟩
  go_wp2_with fail
  go_quiet (fail)
  go_wp2
  go_ret
  have HB : Below w.heap.size w (((w.alloc (.cells #[.int .i64 k, .int .i64 f, .int .u64 n] 26)).alloc (.cells #[.int .u64 m, .int .i64 z, .pointer none] 31)).alloc (.cells #[.int .u64 m, .int .i64 z, .pointer none] 31)) := ((((Below.refl _ _).alloc (Nat.le_refl _) _).alloc (by simp) _).alloc (by simp; omega) _)
  exact ⟨rfl, HB.trans ⟨rfl, rfl, rfl, Nat.le_refl _, fun _ _ => rfl⟩⟩

theorem covers_any (k f n s ww x : Int) (r : Bool) (w : World) (F : Fits f n s ww) (x0 : -9223372036854775808 ≤ x) (x1 : x ≤ 9223372036854775807)
    (hr : r = decide (-9223372036000000000 ≤ x ∧ x < 9223372036000000000 ∧ s ≤ x ∧ x < s + ww)) :
    Calls Yba.prog 10 #[boundsV k f n, timeV (x % 1000000000) (62135596800 + x / 1000000000)] w fun e w' => e = .returned (.bool r) ∧ Below w.heap.size w w' := by
  by_cases h0 : -9223372036000000000 ≤ x
  · by_cases h1 : x < 9223372036000000000
    · refine covers_in k f n x r w F.f0 F.f1 F.n0 F.n1 h0 h1 _ _ rfl rfl ?_
      rw [hr, decide_eq_decide]
      have := F.same x x0 x1
      constructor
      · rintro ⟨_, _, h⟩; exact this.2 h
      · intro h; exact ⟨h0, h1, this.1 h⟩
    · have : r = false := by rw [hr]; simp; omega
      subst this
      exact covers_hi k f n w _ _ (by omega) (by omega) (by omega) (by omega)
  · have : r = false := by rw [hr]; simp; omega
    subst this
    exact covers_lo k f n w _ _ (by omega) (by omega) (by omega) (by omega)
end Go.Proofs.Ybulkbple
