/-
  CONTRACTS OF package time, as far as the road of 'LawS3306CModel' goes: a Time without a location and without a monotonic reading.
-/
import Derived.Test.YbulkbpleRows
import Derived.WalkKit
import Derived.WalkSpells
import Derived.WalkLawsBesides
import Derived.Below
import Derived.Deep.OwnRows
import Derived.Deep.QuietTactic
import Derived.BigQuiet
import Derived.Laws.BitsAllLaws
import Derived.Laws.Pointers
import Derived.Deep.Cut
namespace Go.Proofs.Ybulkbple
open Go.RowKit Go.Deep Go.Lib
set_option linter.unusedVariables false

theorem and_wall (x : Int) (h0 : 0 ≤ x) (h1 : x < 1000000000) : bits .and .u64 x 1073741823 = x := by
  rw [u64_and x 1073741823 h0 (by omega) (by omega) (by omega)]
  have h := Nat.and_two_pow_sub_one_eq_mod x.toNat 30
  have e : (1073741823 : Int).toNat = 2 ^ 30 - 1 := by rfl
  rw [e, h]
  omega
theorem and_mono (x : Int) (h0 : 0 ≤ x) (h1 : x < 1000000000) : bits .and .u64 x 9223372036854775808 = 0 := by
  rw [u64_and x 9223372036854775808 h0 (by omega) (by omega) (by omega)]
  have h := nat_bit 63 x.toNat
  have e : (9223372036854775808 : Int).toNat = 2 ^ 63 := by rfl
  rw [e, h]
  have : x.toNat / 2 ^ 63 = 0 := Nat.div_eq_of_lt (by omega)
  simp [this]
theorem andNot_wall (x : Int) (h0 : 0 ≤ x) (h1 : x < 1000000000) : bits .andNot .u64 x 1073741823 = 0 := by
  rw [u64_andNot x 1073741823 h0 (by omega) (by omega) (by omega)]
  have e : (18446744073709551615 - (1073741823 : Int).toNat) = 2 ^ 30 * 17179869183 := by rfl
  rw [e]
  have : x.toNat &&& (2 ^ 30 * 17179869183) = 0 := by
    apply Nat.eq_of_testBit_eq
    intro i
    rw [Nat.testBit_and, Nat.zero_testBit]
    by_cases hi : i < 30
    · rw [Nat.testBit_two_pow_mul]
      simp; intro _ h; omega
    · rw [Nat.testBit_lt_two_pow (x := x.toNat) (i := i) (Nat.lt_of_lt_of_le (show x.toNat < 2 ^ 30 by omega) (Nat.pow_le_pow_right (by omega) (by omega)))]
      simp
  rw [this]; rfl
theorem or_zero (x : Int) (h0 : 0 ≤ x) (h1 : x < 1000000000) : bits .or .u64 0 x = x := by
  rw [u64_or 0 x (by omega) (by omega) h0 (by omega)]
  simp; omega


theorem nsec_any (b : Nat) (n : Int) (w : World) (h0 : 0 ≤ n) (h1 : n < 1000000000) (hc : w.cell? ⟨b, 0, none⟩ = some (.int .u64 n)) :
    Calls Yba.prog 15 #[.pointer (some ⟨b, 0, none⟩)] w fun e w' => e = .returned (.int .i32 n) ∧ w' = w := by
  have ha := and_wall n h0 h1
  go_enter Yba.func15, Yba.ntmps15
  go_wp2
  go_ret
  exact ⟨rfl, rfl⟩

theorem sec_any (b : Nat) (n x : Int) (w : World) (h0 : 0 ≤ n) (h1 : n < 1000000000) (hc : w.cell? ⟨b, 0, none⟩ = some (.int .u64 n)) (hx : w.cell? ⟨b, 1, none⟩ = some (.int .i64 x)) :
    Calls Yba.prog 21 #[.pointer (some ⟨b, 0, none⟩)] w fun e w' => e = .returned (.int .i64 x) ∧ w' = w := by
  have ha := and_mono n h0 h1
  go_enter Yba.func21, Yba.ntmps21
  go_wp2
  go_ret
  exact ⟨rfl, rfl⟩
/-- The three cells of a Time. -/
abbrev timeV (n x : Int) : Value := .agg #[.int .u64 n, .int .i64 x, .pointer none]

theorem unix_any (n x : Int) (w : World) (h0 : 0 ≤ n) (h1 : n < 1000000000) (b0 : -1000000000000 ≤ x) (b1 : x ≤ 1000000000000) :
    Calls Yba.prog 18 #[timeV n x] w fun e w' => e = .returned (.int .i64 (x - 62135596800)) ∧ Below w.heap.size w w' := by
  have ha := and_mono n h0 h1
  go_enter Yba.func18, Yba.ntmps18
  go_wp2
  go_ret
  exact ⟨by go_num, (Below.refl _ _).alloc (Nat.le_refl _) _⟩

theorem nanosecond_any (n x : Int) (w : World) (h0 : 0 ≤ n) (h1 : n < 1000000000) :
    Calls Yba.prog 20 #[timeV n x] w fun e w' => e = .returned (.int .i64 n) ∧ Below w.heap.size w w' := by
  have ha := and_wall n h0 h1
  go_enter Yba.func20, Yba.ntmps20
  go_wp2
  go_ret
  exact ⟨by go_num, (Below.refl _ _).alloc (Nat.le_refl _) _⟩

theorem addSec_any (b : Nat) (n x d : Int) (w : World) (h0 : 0 ≤ n) (h1 : n < 1000000000) (hc : w.cell? ⟨b, 0, none⟩ = some (.int .u64 n)) (hx : w.cell? ⟨b, 1, none⟩ = some (.int .i64 x)) (hf : w.frozen? ⟨b, 1, none⟩ = false)
    (b0 : -1000000000000 ≤ x) (b1 : x ≤ 1000000000000) (d0 : -1000000000000 ≤ d) (d1 : d ≤ 1000000000000) :
    Calls Yba.prog 16 #[.pointer (some ⟨b, 0, none⟩), .int .i64 d] w fun e w' => e = .returned (.tuple #[]) ∧ w' = w.setCell ⟨b, 1, none⟩ (.int .i64 (x + d)) := by
  have ha := and_mono n h0 h1
  by_cases hd : 0 < d
  · have g1 : x < x + d := by omega
    go_enter Yba.func16, Yba.ntmps16
    go_wp2
    exact bodyPost_end (results_none Yba.results16 _ _ _) rfl ⟨rfl, rfl⟩
  · have g1 : ¬ x < x + d := by omega
    go_enter Yba.func16, Yba.ntmps16
    go_wp2
    exact bodyPost_end (results_none Yba.results16 _ _ _) rfl ⟨rfl, rfl⟩


set_option maxRecDepth 100000 in
theorem add_mid (n x d s r : Int) (w : World) (h0 : 0 ≤ n) (h1 : n < 1000000000) (b0 : -900000000000 ≤ x) (b1 : x ≤ 900000000000) (s0 : -10000000000 ≤ s) (s1 : s ≤ 10000000000) (r0 : -1000000000 < r) (r1 : r < 1000000000)
    (hs : d.tdiv 1000000000 = s) (hr : d.tmod 1000000000 = r) (c0 : 0 ≤ n + r) (c1 : ¬ 1000000000 ≤ n + r) :
    Calls Yba.prog 8 #[timeV n x, .int .i64 d] w fun e w' => e = .returned (timeV (n + r) (x + (s))) ∧ Below w.heap.size w w' := by
  have ha1 := andNot_wall n h0 h1
  have ha2 := or_zero (n + r) (by omega) (by omega)
  have ha3 := and_mono (n + r) (by omega) (by omega)
  go_enter Yba.func8, Yba.ntmps8
  go_wp2_with fail
  refine (nsec_any w.heap.size n _ h0 h1 (by simp [go_sem])).mono ?_
  rintro e w1 ⟨rfl, rfl⟩
  go_wp2_with fail
  refine (addSec_any w.heap.size (n + r) x (s) _ (by omega) (by omega) (by simp [go_sem]) (by simp [go_sem]) (by simp [go_sem]) (by omega) (by omega) (by omega) (by omega)).mono ?_
  rintro e w1 ⟨rfl, rfl⟩
  go_wp2
  exact bodyPost_ret (v := timeV (n + r) (x + (s))) (by simp [results, Yba.results8, go_sem]) rfl ⟨rfl, ((Below.refl _ w).alloc (Nat.le_refl _) _).alloc (by simp) _⟩

set_option maxRecDepth 100000 in
theorem add_over (n x d s r : Int) (w : World) (h0 : 0 ≤ n) (h1 : n < 1000000000) (b0 : -900000000000 ≤ x) (b1 : x ≤ 900000000000) (s0 : -10000000000 ≤ s) (s1 : s ≤ 10000000000) (r0 : -1000000000 < r) (r1 : r < 1000000000)
    (hs : d.tdiv 1000000000 = s) (hr : d.tmod 1000000000 = r) (c1 : 1000000000 ≤ n + r) :
    Calls Yba.prog 8 #[timeV n x, .int .i64 d] w fun e w' => e = .returned (timeV (n + r - 1000000000) (x + (s + 1))) ∧ Below w.heap.size w w' := by
  have ha1 := andNot_wall n h0 h1
  have ha2 := or_zero (n + r - 1000000000) (by omega) (by omega)
  have ha3 := and_mono (n + r - 1000000000) (by omega) (by omega)
  go_enter Yba.func8, Yba.ntmps8
  go_wp2_with fail
  refine (nsec_any w.heap.size n _ h0 h1 (by simp [go_sem])).mono ?_
  rintro e w1 ⟨rfl, rfl⟩
  go_wp2_with fail
  refine (addSec_any w.heap.size (n + r - 1000000000) x (s + 1) _ (by omega) (by omega) (by simp [go_sem]) (by simp [go_sem]) (by simp [go_sem]) (by omega) (by omega) (by omega) (by omega)).mono ?_
  rintro e w1 ⟨rfl, rfl⟩
  go_wp2
  exact bodyPost_ret (v := timeV (n + r - 1000000000) (x + (s + 1))) (by simp [results, Yba.results8, go_sem]) rfl ⟨rfl, ((Below.refl _ w).alloc (Nat.le_refl _) _).alloc (by simp) _⟩

set_option maxRecDepth 100000 in
theorem add_under (n x d s r : Int) (w : World) (h0 : 0 ≤ n) (h1 : n < 1000000000) (b0 : -900000000000 ≤ x) (b1 : x ≤ 900000000000) (s0 : -10000000000 ≤ s) (s1 : s ≤ 10000000000) (r0 : -1000000000 < r) (r1 : r < 1000000000)
    (hs : d.tdiv 1000000000 = s) (hr : d.tmod 1000000000 = r) (c0 : n + r < 0) (c1 : ¬ 1000000000 ≤ n + r) :
    Calls Yba.prog 8 #[timeV n x, .int .i64 d] w fun e w' => e = .returned (timeV (n + r + 1000000000) (x + (s - 1))) ∧ Below w.heap.size w w' := by
  have ha1 := andNot_wall n h0 h1
  have ha2 := or_zero (n + r + 1000000000) (by omega) (by omega)
  have ha3 := and_mono (n + r + 1000000000) (by omega) (by omega)
  go_enter Yba.func8, Yba.ntmps8
  go_wp2_with fail
  refine (nsec_any w.heap.size n _ h0 h1 (by simp [go_sem])).mono ?_
  rintro e w1 ⟨rfl, rfl⟩
  go_wp2_with fail
  refine (addSec_any w.heap.size (n + r + 1000000000) x (s - 1) _ (by omega) (by omega) (by simp [go_sem]) (by simp [go_sem]) (by simp [go_sem]) (by omega) (by omega) (by omega) (by omega)).mono ?_
  rintro e w1 ⟨rfl, rfl⟩
  go_wp2
  exact bodyPost_ret (v := timeV (n + r + 1000000000) (x + (s - 1))) (by simp [results, Yba.results8, go_sem]) rfl ⟨rfl, ((Below.refl _ w).alloc (Nat.le_refl _) _).alloc (by simp) _⟩

theorem add_any (n x d : Int) (w : World) (h0 : 0 ≤ n) (h1 : n < 1000000000) (b0 : -900000000000 ≤ x) (b1 : x ≤ 900000000000) (d0 : -9223372036854775808 ≤ d) (d1 : d ≤ 9223372036854775807) :
    Calls Yba.prog 8 #[timeV n x, .int .i64 d] w fun e w' => e = .returned (timeV ((n + d) % 1000000000) (x + (n + d) / 1000000000)) ∧ Below w.heap.size w w' := by
  obtain ⟨s, hs⟩ : ∃ s, d.tdiv 1000000000 = s := ⟨_, rfl⟩
  obtain ⟨r, hr⟩ : ∃ r, d.tmod 1000000000 = r := ⟨_, rfl⟩
  have e : d = 1000000000 * s + r := by rw [← hs, ← hr]; exact (Int.mul_tdiv_add_tmod d 1000000000).symm
  have r1 : r < 1000000000 := by rw [← hr]; exact Int.tmod_lt_of_pos d (by omega)
  have r0 : -1000000000 < r := by rw [← hr]; have := Int.tmod_lt_of_pos (-d) (show (0 : Int) < 1000000000 by omega); rw [Int.neg_tmod] at this; omega
  by_cases c1 : 1000000000 ≤ n + r
  · have e1 : (n + d) % 1000000000 = n + r - 1000000000 := by omega
    have e2 : (n + d) / 1000000000 = s + 1 := by omega
    rw [e1, e2]
    exact add_over n x d s r w h0 h1 b0 b1 (by omega) (by omega) r0 r1 hs hr c1
  by_cases c0 : n + r < 0
  · have e1 : (n + d) % 1000000000 = n + r + 1000000000 := by omega
    have e2 : (n + d) / 1000000000 = s - 1 := by omega
    rw [e1, e2]
    exact add_under n x d s r w h0 h1 b0 b1 (by omega) (by omega) r0 r1 hs hr c0 c1
  · have e1 : (n + d) % 1000000000 = n + r := by omega
    have e2 : (n + d) / 1000000000 = s := by omega
    rw [e1, e2]
    exact add_mid n x d s r w h0 h1 b0 b1 (by omega) (by omega) r0 r1 hs hr (by omega) c1
end Go.Proofs.Ybulkbple
