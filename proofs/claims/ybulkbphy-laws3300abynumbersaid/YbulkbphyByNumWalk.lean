/-
  THE WALK OF 'LawS3300AByNumber'.
-/
import Derived.Test.YbulkbphyByNumber
namespace Go.Proofs.Ybulkbphy.bynum
open Go.RowKit Plain
set_option linter.unusedVariables false

set_option maxRecDepth 100000 in
theorem walk_long (a0 : Option Addr) (len0 cap0 : Nat) (a1 : Int) (w : World) (h : 1024 < len0) :
    Calls Yba.prog 4 #[.slice a0 len0 cap0, .int .u8 a1] w fun e w' => e = .returned (.bool true) ∧ Below w.heap.size w w' := by
  have h' : (1024 : Int) < (len0 : Int) := by omega
  go_enter Yba.func4, Yba.ntmps4
  go_wp2
  go_ret
  exact ⟨rfl, Below.refl _ _⟩

/-- What number holds after m rounds. -/
def nm (z : Nat → Nat) (q m j : Nat) : Nat := if j < m then z j % q else 0
theorem nm_step (z : Nat → Nat) (q m j : Nat) : nm z q (m + 1) j = if j = m then z m % q else nm z q m j := by
  unfold nm
  by_cases e : j = m
  · rw [if_pos e, if_pos (by omega), e]
  · rw [if_neg e]
    by_cases e2 : j < m
    · rw [if_pos e2, if_pos (by omega)]
    · rw [if_neg e2, if_neg (by omega)]

set_option maxRecDepth 100000 in
set_option maxHeartbeats 3200000 in
theorem walk_all (a0 : Option Addr) (b off len0 cap0 q p : Nat) (z : Nat → Nat) (a1 : Int) (w : World) (h : len0 ≤ 1024) (ha1 : 0 ≤ a1 ∧ a1 ≤ 255) (hq : a1 % 24 = (q : Int)) (hp : (q : Int) + 1 = (p : Int)) (hp2 : (q : Int) + 2 = (p : Int) + 1)
    (ha : 0 < len0 → a0 = some ⟨b, off, none⟩) (hz : ∀ i, z i ≤ 255) (hc : ∀ i, i < len0 → w.cell? ⟨b, off + i, none⟩ = some (.int .u8 (z i : Int))) :
    Calls Yba.prog 4 #[.slice a0 len0 cap0, .int .u8 a1] w fun e w' => e = .returned (.bool true) ∧ Below w.heap.size w w' := by
  have h' : ¬ (1024 : Int) < (len0 : Int) := by omega
  have hq1 : q ≤ 23 := by omega
  have hp0 : 0 < p := by omega
  have hp1 : p ≤ 24 := by omega
  have hmk := run_make_row' (P := Yba.prog) 23 3 (.int .i64 0) 8 Yba.underlying23 info3 rfl .i64 .i64 len0 (by omega) (by omega)
  have R0 := IRow.made .i64 3 w len0
  have B0 : Below w.heap.size w (w.alloc (.cells (madeCells #[.int .i64 0] len0) 3)) := (Below.refl _ _).alloc (Nat.le_refl _) _
  go_enter Yba.func4, Yba.ntmps4
  go_wp2
  go_loopw [28] (fun i wr => ∃ m : Nat, m ≤ len0 ∧ i = .int .i64 m ∧ IRow .i64 3 wr w.heap.size len0 (fun j => (nm z p m j : Int)) ∧ Below w.heap.size w wr) (fun i _ => len0 - (intOf i).toNat)
  case atStart => exact ⟨0, Nat.zero_le _, rfl, R0.congr (fun j _ => by simp [nm]), B0⟩
  case round =>
    clear R0 B0
    obtain ⟨m, hm, rfl, R0, B0⟩ := hrel
    by_cases hlt : m < len0
    · obtain rfl := ha (by omega)
      obtain ⟨x, hx⟩ : ∃ x, x = z m := ⟨_, rfl⟩
      have hxl : x ≤ 255 := by rw [hx]; exact hz m
      have hb := World.block_lt_of_cell? w _ (hc m hlt)
      have c0 : wr.cell? ⟨b, off + m, none⟩ = some (.int .u8 (x : Int)) := by rw [hx]; exact (B0.cell (p := ⟨b, off + m, none⟩) hb).trans (hc m hlt)
      have c1 := R0.cell hlt
      have f1 := R0.frozen m
      have R0' : IRow .i64 3 (wr.setCell ⟨w.heap.size, m, none⟩ (.int .i64 ((x : Int) % (p : Int)))) w.heap.size len0 (fun j => (nm z p (m + 1) j : Int)) := (R0.set m ((x : Int) % (p : Int))).congr (fun j _ => by
        rw [nm_step, hx]; split <;> simp)
      have B0' := B0.setCell (p := ⟨w.heap.size, m, none⟩) (Nat.le_refl _) (.int .i64 ((x : Int) % (p : Int)))
      clear hx R0 B0 hc
      go_wp2
      go_roundw
      case rel => exact ⟨m + 1, by omega, by go_num, R0', B0'⟩
      case measure => simp [intOf]; omega
    · obtain rfl : len0 = m := by omega
      obtain ⟨f, hf⟩ : ∃ f : Nat → Nat, ∀ j, f j = z j % p := ⟨_, fun _ => rfl⟩
      have hfq : ∀ j, f j < p := fun j => by rw [hf]; exact Nat.mod_lt _ hp0
      have R1 : IRow .i64 3 wr w.heap.size len0 (fun j => (f j : Int)) := R0.congr (fun j hj => by rw [hf]; simp only [nm]; rw [if_pos hj])
      clear R0 hf hc ha hmk
      have hsz := B0.size
      go_wp2_with fail
      refine (clone_any w.heap.size len0 len0 f wr (by omega) (fun j hj => R1.cell hj)).mono ?_
      rintro e w1 ⟨g, cap, rfl, hg, R2, hbel⟩
      have hbl := R1.lt
      have R1' := R1.below hbel hbl
      have B1 := B0.trans (hbel.mono hsz)
      have hsz1 := hbel.size
      clear R1 B0 hbel
      go_wp2_with fail
      refine (by_any g len0 cap q p f w1 (by omega) hp (by omega) R2 (fun i _ => hfq i)).mono ?_
      rintro e w2 ⟨ps, s, rfl, R3, R4, G⟩
      have hg1 := R2.lt
      have R1'' := R1'.grown G (by simp; omega)
      have B2 := B1.grown G (by omega) (fun k hk => by cases hk; omega)
      clear R1' B1 G R2
      go_wp2
      go_loopw [12] (fun i wx => ∃ k : Nat, k ≤ p + 1 ∧ i = .int .i64 k ∧ IRow .i64 3 wx s (p + 1) (fun j => (cntLt f len0 j : Int)) ∧ IRow .i64 3 wx w.heap.size len0 (fun j => (f j : Int)) ∧ IRow .i32 21 wx ps len0 (fun j => (posF f len0 len0 j : Int)) ∧ Below w.heap.size w wx) (fun i _ => p + 1 - (intOf i).toNat)
      case atStart => exact ⟨0, Nat.zero_le _, rfl, R3, R1'', R4, B2⟩
      case round =>
        clear R3 R1'' R4 B2 hbl
        obtain ⟨k, hk, rfl, R3, R1, R4, B2⟩ := hrel
        by_cases hkq : k < p + 1
        · obtain ⟨x, hx⟩ : ∃ x, x = cntLt f len0 k := ⟨_, rfl⟩
          have c0 : wr.cell? ⟨s, k, none⟩ = some (.int .i64 (x : Int)) := by rw [hx]; exact R3.cell hkq
          have H : Hid (∀ W, (∃ n, W = wr.drewN n) → Calls Yba.prog 9 #[.slice (some ⟨w.heap.size, 0, none⟩) len0 len0, .int .i64 (k : Int)] W fun e w' => e = .returned (.int .i64 (x : Int)) ∧ w' = W) := by
            rintro W ⟨n, rfl⟩
            rw [hx]
            exact below_any w.heap.size len0 len0 k f _ (by omega) (fun j hj => R1.cell hj)
          have hk0 : (0 : Int) ≤ (k : Int) := by omega
          have hk1 : (k : Int) < (p : Int) + 1 := by omega
          have hk2 : (k : Int) ≤ (p : Int) := by omega
          have A : Hid (IRow .i64 3 wr s (p + 1) (fun j => (cntLt f len0 j : Int)) ∧ IRow .i64 3 wr w.heap.size len0 (fun j => (f j : Int)) ∧ IRow .i32 21 wr ps len0 (fun j => (posF f len0 len0 j : Int)) ∧ Below w.heap.size w wr) := ⟨R3, R1, R4, B2⟩
          clear hx R3 R1 R4 B2
          go_wp2_with fail
          go_quiet ((go_at_call 9; exact Calls.quiet_of_same (H.out _ ⟨_, rfl⟩)))
          go_wp2
          go_roundw
          case rel => exact ⟨k + 1, by omega, by go_num, A.out.1.drewN _, A.out.2.1.drewN _, A.out.2.2.1.drewN _, below_drewN A.out.2.2.2 _⟩
          case measure => simp [intOf]; omega
        · have hk3 : decide ((k : Int) ≤ (p : Int)) = false := decide_eq_false (by omega)
          have hk4 : ¬ (k : Int) ≤ (p : Int) := by omega
          have A : Hid (IRow .i64 3 wr w.heap.size len0 (fun j => (f j : Int)) ∧ IRow .i32 21 wr ps len0 (fun j => (posF f len0 len0 j : Int)) ∧ Below w.heap.size w wr) := ⟨R1, R4, B2⟩
          clear R3 R1 R4 B2
          go_wp2
          clear hk3 hk4 hkq hk
          have hall : Hid (cntLt f len0 (q + 1) = len0) := cntLt_all f len0 (q + 1) (fun i _ => by have := hfq i; omega)
          clear hp hp2 hq hfq
          go_loopg [13, 14] (q + 1) (fun gk j k wx => ∃ m y : Nat, m ≤ q + 1 ∧ q + 1 - m ≤ gk ∧ k = .int .i64 m ∧ j = .int .i64 y ∧ y = cntLt f len0 m ∧ IRow .i64 3 wx w.heap.size len0 (fun j => (f j : Int)) ∧ IRow .i32 21 wx ps len0 (fun j => (posF f len0 len0 j : Int)) ∧ Below w.heap.size w wx)
          case atStart => exact ⟨0, 0, Nat.zero_le _, Nat.le_refl _, rfl, rfl, (cntLt_zero f len0).symm, A.out.1, A.out.2.1, A.out.2.2⟩
          case round =>
            clear A
            obtain ⟨m, y, hm, hgk, rfl, rfl, hy, R1, R4, B2⟩ := hrel
            have A : Hid (y = cntLt f len0 m ∧ IRow .i64 3 wr w.heap.size len0 (fun j => (f j : Int)) ∧ IRow .i32 21 wr ps len0 (fun j => (posF f len0 len0 j : Int)) ∧ Below w.heap.size w wr) := ⟨hy, R1, R4, B2⟩
            clear hy R1 R4 B2
            by_cases hmq : m < q + 1
            · have hm2 : (m : Int) ≤ (q : Int) := by omega
              go_wp2
              go_loop [13, 83] (fun t i => ∃ a y : Nat, a ≤ len0 ∧ i = .int .i64 a ∧ t = .int .i64 y ∧ y = cntLt f len0 m + cntEq f a m) (fun _ i => len0 - (intOf i).toNat)
              case atStart => exact ⟨0, y, Nat.zero_le _, rfl, rfl, by rw [A.out.1]; rfl⟩
              case round =>
                obtain ⟨a, x, hal, rfl, rfl, hx⟩ := hrel
                have HX : Hid (x = cntLt f len0 m + cntEq f a m) := hx
                have hxl : x ≤ len0 + len0 := by have := cntLt_le f len0 m; have := cntEq_le f a m; omega
                clear hx
                by_cases halt : a < len0
                · obtain ⟨v, hv⟩ : ∃ v, v = f a := ⟨_, rfl⟩
                  have c0 : wr.cell? ⟨w.heap.size, a, none⟩ = some (.int .i64 (v : Int)) := by rw [hv]; exact A.out.2.1.cell halt
                  by_cases e : v = m
                  · have hpl : x = pl f len0 a := by rw [HX.out, ← e, hv]; rfl
                    have hxn : x < len0 := by rw [hpl]; exact pl_lt_n f len0 a halt
                    have c1 : wr.cell? ⟨ps, x, none⟩ = some (.int .i32 (a : Int)) := by rw [A.out.2.2.1.cell hxn, hpl, posF_at f len0 len0 a (Nat.le_refl _) halt]
                    have ht : ((v : Int) == (m : Int)) = true := by simp [e]
                    have HS : Hid (x + 1 = cntLt f len0 m + cntEq f (a + 1) m) := by
                      show _ = _
                      simp only [cntEq]
                      rw [HX.out, if_pos (by rw [← hv]; exact e)]
                      omega
                    clear e hv hpl HX
                    go_wp2
                    go_round
                    case rel => exact ⟨a + 1, x + 1, by omega, by go_num, by go_num, HS.out⟩
                    case measure => simp [intOf]; omega
                  · have ht : ((v : Int) == (m : Int)) = false := by simp; omega
                    have HS : Hid (x = cntLt f len0 m + cntEq f (a + 1) m) := by
                      show _ = _
                      simp only [cntEq]
                      rw [HX.out, if_neg (by rw [← hv]; exact e)]; rfl
                    clear e hv HX
                    go_wp2
                    go_round
                    case rel => exact ⟨a + 1, x, by omega, by go_num, rfl, HS.out⟩
                    case measure => simp [intOf]; omega
                · have halt' : ¬ (a : Int) < (len0 : Int) := by omega
                  have hst : Hid (x = cntLt f len0 (m + 1)) := by
                    show _ = _
                    rw [cntLt_step, HX.out, show a = len0 by omega]
                  clear HX hal
                  go_wp2
                  go_roundg (gk - 1)
                  case measure => omega
                  case rel => exact ⟨m + 1, x, by omega, by omega, by go_num, rfl, hst.out, A.out.2.1, A.out.2.2.1, A.out.2.2.2⟩
            · have hm3 : ¬ (m : Int) ≤ (q : Int) := by omega
              obtain rfl : y = len0 := by rw [A.out.1, show m = q + 1 by omega, hall.out]
              go_wp2
              go_ret
              exact ⟨rfl, A.out.2.2.2⟩
end Go.Proofs.Ybulkbphy.bynum
