/-
  CONTRACT OF zzs3306cepoch.
-/
import Derived.Test.YbulkbpleTime
namespace Go.Proofs.Ybulkbple
open Go.RowKit Go.Deep Go.Lib
set_option linter.unusedVariables false

def tf (n x : Int) : Nat → Value := fun j => if j = 0 then .int .u64 n else if j = 1 then .int .i64 x else .pointer none

theorem row3_alloc (w : World) (n x : Int) : (w.alloc (.cells #[.int .u64 n, .int .i64 x, .pointer none] 31)).rowIs w.heap.size 31 3 (tf n x) :=
  World.rowIs_alloc w #[.int .u64 n, .int .i64 x, .pointer none] 31 _ (fun k hk => by
    match k, hk with
    | 0, _ => rfl
    | 1, _ => rfl
    | 2, _ => rfl)

structure Ep (w wx : World) (k : Nat) : Prop where
  r0 : ∃ f, wx.rowIs w.heap.size 31 3 f
  r1 : wx.rowIs (w.heap.size + 1) 31 3 (tf 0 (7766949600 * k))
  bel : Below w.heap.size w wx

set_option maxRecDepth 100000 in
theorem epoch_any (w : World) : Calls Yba.prog 7 #[] w fun e w' => e = .returned (timeV 0 62135596800) ∧ Below w.heap.size w w' := by
  have E0 : Ep w ((w.alloc (.cells #[.int .u64 0, .int .i64 0, .pointer none] 31)).alloc (.cells #[.int .u64 0, .int .i64 0, .pointer none] 31)) 0 := by
    refine ⟨⟨tf 0 0, (row3_alloc w 0 0).of_block ?_⟩, ?_, ((Below.refl _ w).alloc (Nat.le_refl _) _).alloc (by simp) _⟩
    · exact Below.heap_alloc _ _ _ (by simp)
    · simpa using row3_alloc (w.alloc (.cells #[.int .u64 0, .int .i64 0, .pointer none] 31)) 0 0
  go_enter Yba.func7, Yba.ntmps7
  go_wp2
  go_loopw [3] (fun i wx => ∃ k : Nat, k ≤ 8 ∧ i = .int .i64 k ∧ Ep w wx k) (fun i wx => 8 - (intOf i).toNat)
  case atStart => exact ⟨0, Nat.zero_le _, rfl, E0⟩
  case round =>
    clear E0
    obtain ⟨k, hk, rfl, E⟩ := hrel
    by_cases hk8 : k < 8
    · have c0 := E.r1.cell (i := 0) (by omega)
      have c1 := E.r1.cell (i := 1) (by omega)
      have c2 := E.r1.cell (i := 2) (by omega)
      simp [tf] at c0 c1 c2
      have hkx : (0 : Int) ≤ 7766949600 * (k : Int) ∧ 7766949600 * (k : Int) ≤ 62135596800 := by omega
      go_wp2_with fail
      refine (add_any 0 (7766949600 * (k : Int)) 7766949600000000000 wr (by omega) (by omega) (by omega) (by omega) (by omega) (by omega)).mono ?_
      rintro e w1 ⟨rfl, hb⟩
      have e1 : ((0 : Int) + 7766949600000000000) % 1000000000 = 0 := by decide
      have e2 : ((0 : Int) + 7766949600000000000) / 1000000000 = 7766949600 := by decide
      rw [e1, e2]
      have R1 : w1.rowIs (w.heap.size + 1) 31 3 (tf 0 (7766949600 * k)) := E.r1.of_block (hb.block _ E.r1.lt)
      have R0 : ∃ f, w1.rowIs w.heap.size 31 3 f := let ⟨f, hf⟩ := E.r0; ⟨f, hf.of_block (hb.block _ hf.lt)⟩
      have B1 : Below w.heap.size w w1 := E.bel.trans (hb.mono E.bel.size)
      have g0 := R1.cell (i := 0) (by omega)
      have g1 := R1.cell (i := 1) (by omega)
      have g2 := R1.cell (i := 2) (by omega)
      simp [tf] at g0 g1 g2
      have f0 := R1.frozen 0
      have f1 := R1.frozen 1
      have f2 := R1.frozen 2
      have E2 : Hid (Ep w (((w1.setCell ⟨w.heap.size + 1, 0, none⟩ (.int .u64 0)).setCell ⟨w.heap.size + 1, 1, none⟩ (.int .i64 (7766949600 * (k : Int) + 7766949600))).setCell ⟨w.heap.size + 1, 2, none⟩ (.pointer none)) (k + 1)) := by
        obtain ⟨f, hf⟩ := R0
        refine ⟨⟨f, ((hf.setOther (by simp) _).setOther (by simp) _).setOther (by simp) _⟩, (((R1.set 0 _).set 1 _).set 2 _).congr (fun j hj => ?_), ((B1.setCell (by simp) _).setCell (by simp) _).setCell (by simp) _⟩
        match j, hj with
        | 0, _ => rfl
        | 1, _ => simp [tf]; omega
        | 2, _ => rfl
      clear R1 R0 B1 hb E
      go_wp2
      go_round
      case rel => exact ⟨k + 1, by omega, by go_num, E2.out⟩
      case measure => simp [intOf]; omega
    · obtain rfl : k = 8 := by omega
      have g0 := E.r1.cell (i := 0) (by omega)
      have g1 := E.r1.cell (i := 1) (by omega)
      have g2 := E.r1.cell (i := 2) (by omega)
      simp [tf] at g0 g1 g2
      obtain ⟨f, R0⟩ := E.r0
      have c0 := R0.cell (i := 0) (by omega)
      have c1 := R0.cell (i := 1) (by omega)
      have c2 := R0.cell (i := 2) (by omega)
      have f0 := R0.frozen 0
      have f1 := R0.frozen 1
      have f2 := R0.frozen 2
      have B : Hid (Below w.heap.size w wr) := E.bel
      clear E R0
      go_wp2
      exact bodyPost_ret (v := timeV 0 62135596800) (by simp [results, Yba.results7, go_sem, c0, c1, c2]) rfl ⟨rfl, ((B.out.setCell (by simp) _).setCell (by simp) _).setCell (by simp) _⟩
end Go.Proofs.Ybulkbple
