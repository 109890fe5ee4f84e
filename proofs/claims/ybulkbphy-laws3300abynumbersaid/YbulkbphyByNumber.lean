/-
  CONTRACT: byNumber.
-/
import Derived.Test.YbulkbphyPlaceBy
import Derived.Deep.LoopGhost
namespace Go.Proofs.Ybulkbphy
open Go.RowKit Plain
set_option linter.unusedVariables false

theorem info21' : (Yba.prog.info? 21).map (fun i => (i.zero, i.size, i.bytes)) = some (some (.int .i32 0), 1, 4) := by kernel_rfl

/-- What positions holds after m rounds. -/
def posF (f : Nat → Nat) (n : Nat) : Nat → Nat → Nat
  | 0, _ => 0
  | m + 1, j => if j = pl f n m then m else posF f n m j
theorem posF_at (f : Nat → Nat) (n m i : Nat) (hm : m ≤ n) (hi : i < m) : posF f n m (pl f n i) = i := by
  induction m with
  | zero => omega
  | succ m ih =>
    simp only [posF]
    by_cases e : i = m
    · subst e; simp
    · rw [if_neg (pl_ne f n m i (by omega) (by omega))]
      exact ih (by omega) (by omega)

set_option maxRecDepth 100000 in
set_option maxHeartbeats 1600000 in
theorem by_any (nb n c count q : Nat) (f : Nat → Nat) (w : World) (hn : n ≤ 1024) (hq : (count : Int) + 1 = (q : Int)) (hcount : count ≤ 50) (hr : IRow .i64 3 w nb n (fun j => (f j : Int))) (hf : ∀ i, i < n → f i < q) :
    Calls Yba.prog 10 #[.slice (some ⟨nb, 0, none⟩) n c, .int .i64 (count : Int)] w fun e w' => ∃ ps g, e = .returned (.tuple #[.slice (some ⟨ps, 0, none⟩) n n, .slice (some ⟨g, 0, none⟩) (q + 1) (q + 1)]) ∧
      IRow .i64 3 w' g (q + 1) (fun j => (cntLt f n j : Int)) ∧ IRow .i32 21 w' ps n (fun j => (posF f n n j : Int)) ∧ w.grownBy w' (some nb) := by
  have hq1 : q ≤ 51 := by omega
  have hnb := hr.lt
  have hmk := run_make_row' (P := Yba.prog) 30 21 (.int .i32 0) 4 Yba.underlying30 info21' rfl .i64 .i64 n (by omega) (by omega)
  go_enter Yba.func10, Yba.ntmps10
  go_wp2_with fail
  refine (place_any nb n c q f w (by omega) (by omega) hr hf).mono ?_
  rintro e w1 ⟨g, rfl, hg, R0, R1, G⟩
  have hz := G.size
  have R0' := R0.alloc (.cells (madeCells #[.int .i32 0] n) 21)
  have R1' := R1.alloc (.cells (madeCells #[.int .i32 0] n) 21)
  have P0 := IRow.made .i32 21 w1 n
  have G' := grownBy_alloc G (.cells (madeCells #[.int .i32 0] n) 21)
  have l1 := R1.lt
  have l0 := R0.lt
  clear R0 R1 G hr
  go_wp2
  go_loopw [21] (fun i wx => ∃ m : Nat, m ≤ n ∧ i = .int .i64 m ∧ IRow .i32 21 wx w1.heap.size n (fun j => (posF f n m j : Int)) ∧ IRow .i64 3 wx g (q + 1) (fun j => (cntLt f n j : Int)) ∧ IRow .i64 3 wx nb n (fun j => (pl f n j : Int)) ∧ w.grownBy wx (some nb)) (fun i _ => n - (intOf i).toNat)
  case atStart => exact ⟨0, Nat.zero_le _, rfl, P0.congr (fun _ _ => rfl), R0', R1', G'⟩
  case round =>
    clear P0 R0' R1' G'
    obtain ⟨m, hm, rfl, P0, R0, R1, G⟩ := hrel
    by_cases hlt : m < n
    · obtain ⟨v, hv⟩ : ∃ v, v = pl f n m := ⟨_, rfl⟩
      have hvn : v < n := by rw [hv]; exact pl_lt_n f n m hlt
      have c0 : wr.cell? ⟨nb, m, none⟩ = some (.int .i64 (v : Int)) := by rw [hv]; exact R1.cell hlt
      have c1 := P0.cell hvn
      have f1 := P0.frozen v
      have P0' : IRow .i32 21 (wr.setCell ⟨w1.heap.size, v, none⟩ (.int .i32 (m : Int))) w1.heap.size n (fun j => (posF f n (m + 1) j : Int)) := (P0.set v (m : Int)).congr (fun j _ => by
        simp only [posF, ← hv]; split <;> rfl)
      have R0' := R0.setOther (a := ⟨w1.heap.size, v, none⟩) (by show g ≠ w1.heap.size; omega) (.int .i32 (m : Int))
      have R1' := R1.setOther (a := ⟨w1.heap.size, v, none⟩) (by show nb ≠ w1.heap.size; omega) (.int .i32 (m : Int))
      have G' := grownBy_set G (p := ⟨w1.heap.size, v, none⟩) (.inl hz) (.int .i32 (m : Int))
      clear hv P0 R0 R1 G
      go_wp2
      go_roundw
      case rel => exact ⟨m + 1, by omega, by go_num, P0', R0', R1', G'⟩
      case measure => simp [intOf]; omega
    · obtain rfl : n = m := by omega
      go_wp2
      go_ret2
      exact ⟨w1.heap.size, g, rfl, R0, P0, G⟩
end Go.Proofs.Ybulkbphy
