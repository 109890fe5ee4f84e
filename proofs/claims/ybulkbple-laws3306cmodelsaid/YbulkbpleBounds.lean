/-
  CONTRACTS OF zzs3306cclamp, boundsOf, zzs3306cin, Has.
-/
import Derived.Test.YbulkbpleEpoch
import Derived.Laws.Unary
namespace Go.Proofs.Ybulkbple
open Go.RowKit Go.Deep Go.Lib
set_option linter.unusedVariables false

abbrev boundsV (k f n : Int) : Value := .agg #[.int .i64 k, .int .i64 f, .int .u64 n]

def Clamped (w : World) (e : Ending) (w' : World) : Prop := ∃ ww off : Int, e = .returned (.tuple #[.int .i64 ww, .int .i64 off]) ∧ 0 < ww ∧ ww ≤ 9223372036854775807 ∧ 0 ≤ off ∧ off < ww ∧ w' = w

theorem not_neg (a : Int) (a0 : a < 0) (a1 : -9223372036854775808 ≤ a) : bits .xor .i64 (-1) a = -1 - a := by
  have key : (BitVec.ofInt 64 (-1) ^^^ BitVec.ofInt 64 a) = ~~~(BitVec.ofInt 64 a) := by
    rw [show BitVec.ofInt 64 (-1) = BitVec.allOnes 64 from rfl, BitVec.allOnes_xor]
  have n1 : (BitVec.ofInt 64 a).toNat = (a + 18446744073709551616).toNat := by
    rw [BitVec.toNat_ofInt]; omega
  have hm : (~~~(BitVec.ofInt 64 a)).toNat = (-1 - a).toNat := by
    rw [BitVec.toNat_not, n1]; omega
  show IntKind.i64.wrap ((BitVec.ofInt 64 (-1) ^^^ BitVec.ofInt 64 a).toNat : Int) = -1 - a
  rw [key, hm]
  rw [IntWalk.i64_left]
  unfold wrap64
  omega

theorem clamp_pos (a b : Int) (w : World) (a0 : 0 < a) (a1 : a ≤ 9223372036854775807) :
    Calls Yba.prog 5 #[.int .i64 a, .int .i64 b] w (Clamped w) := by
  go_enter Yba.func5, Yba.ntmps5
  go_wp2
  have hb : 0 ≤ IntKind.u64.wrap b := by simp [IntKind.wrap, IntKind.bits, IntKind.signed]; omega
  have h0 := Int.tmod_nonneg a hb
  have h1 := Int.tmod_lt_of_pos (IntKind.u64.wrap b) a0
  have e : wrap64 ((IntKind.u64.wrap b).tmod a) = (IntKind.u64.wrap b).tmod a := by
    generalize (IntKind.u64.wrap b).tmod a = z at *
    unfold wrap64
    omega
  exact bodyPost_ret (results_tmp2 Yba.results5 _ _ _) rfl ⟨a, wrap64 ((IntKind.u64.wrap b).tmod a), rfl, a0, a1, by rw [e]; exact h0, by rw [e]; exact h1, rfl⟩
theorem clamp_zero (b : Int) (w : World) :
    Calls Yba.prog 5 #[.int .i64 0, .int .i64 b] w (Clamped w) := by
  go_enter Yba.func5, Yba.ntmps5
  go_wp2
  exact bodyPost_ret (results_tmp2 Yba.results5 _ _ _) rfl ⟨1, 0, rfl, by omega, by omega, by omega, by omega, rfl⟩
theorem clamp_one (b : Int) (w : World) :
    Calls Yba.prog 5 #[.int .i64 (-1), .int .i64 b] w (Clamped w) := by
  have hx := not_neg (-1) (by omega) (by omega)
  have hx' : bits .xor .i64 (-1) (-1) = 0 := hx
  go_enter Yba.func5, Yba.ntmps5
  go_wp2
  exact bodyPost_ret (results_tmp2 Yba.results5 _ _ _) rfl ⟨1, 0, rfl, by omega, by omega, by omega, by omega, rfl⟩
theorem clamp_neg (a c b : Int) (w : World) (a0 : a < -1) (a1 : -9223372036854775808 ≤ a) (hc : -1 - a = c) :
    Calls Yba.prog 5 #[.int .i64 a, .int .i64 b] w (Clamped w) := by
  have hx := not_neg a (by omega) a1
  rw [hc] at hx
  have c0 : 0 < c := by omega
  have c1 : c ≤ 9223372036854775807 := by omega
  have an : a < 0 := by omega
  have cz : (c == 0) = false := by simp; omega
  have cz' : c ≠ 0 := by omega
  clear hc a0 a1
  have hsg : IntKind.i64.signed = true := rfl
  go_enter Yba.func5, Yba.ntmps5
  go_wp2
  have hb : 0 ≤ IntKind.u64.wrap b := by simp [IntKind.wrap, IntKind.bits, IntKind.signed]; omega
  have h0 := Int.tmod_nonneg c hb
  have h1 := Int.tmod_lt_of_pos (IntKind.u64.wrap b) c0
  have e : wrap64 ((IntKind.u64.wrap b).tmod c) = (IntKind.u64.wrap b).tmod c := by
    generalize (IntKind.u64.wrap b).tmod c = z at *
    unfold wrap64
    omega
  exact bodyPost_ret (results_tmp2 Yba.results5 _ _ _) rfl ⟨c, wrap64 ((IntKind.u64.wrap b).tmod c), rfl, c0, c1, by rw [e]; exact h0, by rw [e]; exact h1, rfl⟩
theorem clamp_any (a b : Int) (w : World) (a0 : -9223372036854775808 ≤ a) (a1 : a ≤ 9223372036854775807) : Calls Yba.prog 5 #[.int .i64 a, .int .i64 b] w (Clamped w) := by
  by_cases h : 0 < a
  · exact clamp_pos a b w h a1
  by_cases h0 : a = 0
  · subst h0; exact clamp_zero b w
  by_cases h1 : a = -1
  · subst h1; exact clamp_one b w
  · exact clamp_neg a _ b w (by omega) a0 rfl

theorem has_plain (f n x : Int) (f0 : -9223372036854775808 ≤ f) (f1 : f ≤ 9223372036854775807) (n0 : 0 ≤ n) (n1 : f + n ≤ 9223372036854775808) (x0 : -9223372036854775808 ≤ x) (x1 : x ≤ 9223372036854775807) :
    (decide (IntKind.u64.wrap (wrap64 (x - f)) < n)) = decide (f ≤ x ∧ x < f + n) := by
  rw [decide_eq_decide]
  have : IntKind.u64.wrap (wrap64 (x - f)) = (wrap64 (x - f)) % 18446744073709551616 := by simp [IntKind.wrap, IntKind.bits, IntKind.signed]
  rw [this]
  unfold wrap64
  constructor
  · intro h; omega
  · intro h; omega

theorem has_any (k f n x : Int) (w : World) (f0 : -9223372036854775808 ≤ f) (f1 : f ≤ 9223372036854775807) (n0 : 0 ≤ n) (n1 : f + n ≤ 9223372036854775808) (x0 : -9223372036854775808 ≤ x) (x1 : x ≤ 9223372036854775807) :
    Calls Yba.prog 19 #[boundsV k f n, .int .i64 x] w fun e w' => e = .returned (.bool (decide (f ≤ x ∧ x < f + n))) ∧ Below w.heap.size w w' := by
  have h := has_plain f n x f0 f1 n0 n1 x0 x1
  rw [← h]
  clear h f0 f1 n0 n1 x0 x1
  go_enter Yba.func19, Yba.ntmps19
  go_wp2
  go_ret
  exact ⟨rfl, (Below.refl _ _).alloc (Nat.le_refl _) _⟩
end Go.Proofs.Ybulkbple
