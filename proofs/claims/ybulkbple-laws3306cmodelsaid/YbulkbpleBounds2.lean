/-
  CONTRACTS OF boundsOf, zzs3306cin, Bucket, Covers.
-/
import Derived.Test.YbulkbpleBounds
namespace Go.Proofs.Ybulkbple
open Go.RowKit Go.Deep Go.Lib
set_option linter.unusedVariables false

/-- The bounds (f, n) hold exactly the int64 numbers from s to s + ww - 1. -/
structure Fits (f n s ww : Int) : Prop where
  f0 : -9223372036854775808 ≤ f
  f1 : f ≤ 9223372036854775807
  n0 : 0 ≤ n
  n1 : f + n ≤ 9223372036854775808
  same : ∀ x, -9223372036854775808 ≤ x → x ≤ 9223372036854775807 → ((f ≤ x ∧ x < f + n) ↔ (s ≤ x ∧ x < s + ww))

def Bounded (k ns off ww : Int) (w : World) (e : Ending) (w' : World) : Prop := ∃ f n : Int, e = .returned (boundsV k f n) ∧ Fits f n (ns - off) ww ∧ Below w.heap.size w w'

theorem bounds_any (k ns off ww : Int) (w : World) (n0 : -9223372036854775808 ≤ ns) (n1 : ns ≤ 9223372036854775807) (o0 : 0 ≤ off) (o1 : off < ww) (w1 : ww ≤ 9223372036854775807) :
    Calls Yba.prog 6 #[.int .i64 k, .int .i64 ns, .int .i64 off, .int .i64 ww] w (Bounded k ns off ww w) := by
  by_cases hA : -9223372036854775808 + off ≤ ns
  · by_cases hB : ns ≤ 9223372036854775807 - (ww - 1 - off)
    · go_enter Yba.func6, Yba.ntmps6
      go_wp2
      exact bodyPost_ret (v := boundsV k (ns - off) (ns + (ww - 1 - off) - (ns - off) + 1)) (by simp [results, Yba.results6, go_sem]) rfl ⟨_, _, rfl, ⟨by omega, by omega, by omega, by omega, fun x h0 h1 => by omega⟩, (Below.refl _ _).alloc (Nat.le_refl _) _⟩
    · go_enter Yba.func6, Yba.ntmps6
      go_wp2
      exact bodyPost_ret (v := boundsV k (ns - off) (9223372036854775807 - (ns - off) + 1)) (by simp [results, Yba.results6, go_sem]) rfl ⟨_, _, rfl, ⟨by omega, by omega, by omega, by omega, fun x h0 h1 => by omega⟩, (Below.refl _ _).alloc (Nat.le_refl _) _⟩
  · by_cases hB : ns ≤ 9223372036854775807 - (ww - 1 - off)
    · go_enter Yba.func6, Yba.ntmps6
      go_wp2
      exact bodyPost_ret (v := boundsV k (-9223372036854775808) (ns + (ww - 1 - off) - (-9223372036854775808) + 1)) (by simp [results, Yba.results6, go_sem]) rfl ⟨_, _, rfl, ⟨by omega, by omega, by omega, by omega, fun x h0 h1 => by omega⟩, (Below.refl _ _).alloc (Nat.le_refl _) _⟩
    · exfalso; omega

theorem u64w (n : Int) : IntKind.u64.wrap n = n % 18446744073709551616 := by simp [IntKind.wrap, IntKind.bits, IntKind.signed]

theorem in_any (x ns off ww : Int) (r : Bool) (w : World) (n0 : -9223372036854775808 ≤ ns) (n1 : ns ≤ 9223372036854775807) (x0 : -9223372036854775808 ≤ x) (x1 : x ≤ 9223372036854775807) (o0 : 0 ≤ off) (o1 : off < ww) (w1 : ww ≤ 9223372036854775807)
    (hr : r = decide (ns - off ≤ x ∧ x < ns - off + ww)) :
    Calls Yba.prog 9 #[.int .i64 x, .int .i64 ns, .int .i64 off, .int .i64 ww] w fun e w' => e = .returned (.bool r) ∧ w' = w := by
  by_cases h : ns ≤ x
  · have e : r = decide (IntKind.u64.wrap (IntKind.u64.wrap x - IntKind.u64.wrap ns) < ww - off) := by
      rw [hr, decide_eq_decide]
      simp only [u64w]
      constructor
      · intro h; omega
      · intro h; omega
    clear hr
    go_enter Yba.func9, Yba.ntmps9
    go_wp2
    go_ret
    exact ⟨by first | rfl | (rw [e]; rfl), rfl⟩
  · have e : r = decide (IntKind.u64.wrap (IntKind.u64.wrap ns - IntKind.u64.wrap x) ≤ off) := by
      rw [hr, decide_eq_decide]
      simp only [u64w]
      constructor
      · intro h; omega
      · intro h; omega
    clear hr
    go_enter Yba.func9, Yba.ntmps9
    go_wp2
    go_ret
    exact ⟨by first | rfl | (rw [e]; rfl), rfl⟩

theorem bucket_any (k f n : Int) (w : World) : Calls Yba.prog 11 #[boundsV k f n] w fun e w' => e = .returned (.int .i64 k) ∧ Below w.heap.size w w' := by
  go_enter Yba.func11, Yba.ntmps11
  go_wp2
  go_ret
  exact ⟨rfl, (Below.refl _ _).alloc (Nat.le_refl _) _⟩

theorem unix_eq (n x y : Int) (w : World) (h0 : 0 ≤ n) (h1 : n < 1000000000) (b0 : -1000000000000 ≤ x) (b1 : x ≤ 1000000000000) (hy : x + -62135596800 = y) :
    Calls Yba.prog 18 #[timeV n x] w fun e w' => e = .returned (.int .i64 y) ∧ w' = w.alloc (.cells #[.int .u64 n, .int .i64 x, .pointer none] 31) := by
  have ha := and_mono n h0 h1
  go_enter Yba.func18, Yba.ntmps18
  go_wp2
  go_ret
  exact ⟨rfl, rfl⟩

theorem nano_eq (n x : Int) (w : World) (h0 : 0 ≤ n) (h1 : n < 1000000000) :
    Calls Yba.prog 20 #[timeV n x] w fun e w' => e = .returned (.int .i64 n) ∧ w' = w.alloc (.cells #[.int .u64 n, .int .i64 x, .pointer none] 31) := by
  have ha := and_wall n h0 h1
  go_enter Yba.func20, Yba.ntmps20
  go_wp2
  go_ret
  exact ⟨rfl, rfl⟩

theorem has_eq (k f n x : Int) (r : Bool) (w : World) (hr : r = decide (IntKind.u64.wrap (wrap64 (x - f)) < n)) :
    Calls Yba.prog 19 #[boundsV k f n, .int .i64 x] w fun e w' => e = .returned (.bool r) ∧ w' = w.alloc (.cells #[.int .i64 k, .int .i64 f, .int .u64 n] 26) := by
  subst hr
  go_enter Yba.func19, Yba.ntmps19
  go_wp2
  go_ret
  exact ⟨rfl, rfl⟩

end Go.Proofs.Ybulkbple
