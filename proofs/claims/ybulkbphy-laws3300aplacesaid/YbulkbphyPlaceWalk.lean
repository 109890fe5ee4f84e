/-
  THE WALK OF 'LawS3300APlace'.
-/
import Derived.Test.YbulkbphyPlaceBy
import Derived.LaidEqlPtr
import Derived.Deep.LoopGhost
namespace Go.Proofs.Ybulkbphy.place
open Go.RowKit Plain
set_option linter.unusedVariables false

theorem run_neq_ptr_same {P : Program} (w : World) {tp te : TypeId} {j : TypeInfo} (a : Addr) (hp : P.underlying tp = some (.pointer te)) (hte : P.info? te = some j) :
    (binOp .neq tp (.pointer (some a)) (.pointer (some a))).run P w = .ok (.bool false) w := by
  have h : ∀ d : Nat, (Op.equalIn (d + 1) tp (.pointer (some a)) (.pointer (some a))).run P w = .ok true w := fun d => by
    simp [Op.equalIn, run_underlying hp, sizeOf, typeInfo, hte, run_sameAddr_same]
  simp only [binOp]
  simp [Op.equal, Op.maxDepth, h 9999]

theorem walk_long (a0 : Option Addr) (len0 cap0 : Nat) (a1 : Int) (w : World) (h : 1024 < len0) :
    Calls Yba.prog 3 #[.slice a0 len0 cap0, .int .u8 a1] w fun e w' => e = .returned (.bool true) ∧ Below w.heap.size w w' := by
  have h' : (1024 : Int) < (len0 : Int) := by omega
  go_enter Yba.func3, Yba.ntmps3
  go_wp2
  go_ret
  exact ⟨rfl, Below.refl _ _⟩

/-- What number holds after m rounds. -/
def nm (z : Nat → Nat) (q m j : Nat) : Nat := if j < m then z j % q else 0
theorem nm_step (z : Nat → Nat) (q m j : Nat) : nm z q (m + 1) j = if j = m then z m % q else nm z q m j := by
  unfold nm
  by_cases e : j = m
  · rw [if_pos e, if_pos (by omega), e]
  · rw [if_neg e]
    by_cases e2 : j < m
    · rw [if_pos e2, if_pos (by omega)]
    · rw [if_neg e2, if_neg (by omega)]

set_option maxRecDepth 100000 in
set_option maxHeartbeats 3200000 in
/-- count > 0. -/
theorem walk_some (a0 : Option Addr) (b off len0 cap0 q : Nat) (z : Nat → Nat) (a1 : Int) (w : World) (h : len0 ≤ 1024) (ha1 : 0 ≤ a1 ∧ a1 ≤ 255) (hq : a1 % 24 = (q : Int)) (hq0 : 0 < q)
    (ha : 0 < len0 → a0 = some ⟨b, off, none⟩) (hz : ∀ i, z i ≤ 255) (hc : ∀ i, i < len0 → w.cell? ⟨b, off + i, none⟩ = some (.int .u8 (z i : Int))) :
    Calls Yba.prog 3 #[.slice a0 len0 cap0, .int .u8 a1] w fun e w' => e = .returned (.bool true) ∧ Below w.heap.size w w' := by
  have h' : ¬ (1024 : Int) < (len0 : Int) := by omega
  have hq1 : q ≤ 23 := by omega
  have hq2 : (0 : Int) < (q : Int) := by omega
  have hmk := run_make_row' (P := Yba.prog) 23 3 (.int .i64 0) 8 Yba.underlying23 info3 rfl .i64 .i64 len0 (by omega) (by omega)
  have R0 := IRow.made .i64 3 w len0
  have B0 : Below w.heap.size w (w.alloc (.cells (madeCells #[.int .i64 0] len0) 3)) := (Below.refl _ _).alloc (Nat.le_refl _) _
  go_enter Yba.func3, Yba.ntmps3
  go_wp2
  go_loopw [30] (fun i wr => ∃ m : Nat, m ≤ len0 ∧ i = .int .i64 m ∧ IRow .i64 3 wr w.heap.size len0 (fun j => (nm z q m j : Int)) ∧ Below w.heap.size w wr) (fun i _ => len0 - (intOf i).toNat)
  case atStart => exact ⟨0, Nat.zero_le _, rfl, R0.congr (fun j _ => by simp [nm]), B0⟩
  case round =>
    clear R0 B0
    obtain ⟨m, hm, rfl, R0, B0⟩ := hrel
    by_cases hlt : m < len0
    · obtain rfl := ha (by omega)
      obtain ⟨x, hx⟩ : ∃ x, x = z m := ⟨_, rfl⟩
      have hxl : x ≤ 255 := by rw [hx]; exact hz m
      have hb := World.block_lt_of_cell? w _ (hc m hlt)
      have c0 : wr.cell? ⟨b, off + m, none⟩ = some (.int .u8 (x : Int)) := by rw [hx]; exact (B0.cell (p := ⟨b, off + m, none⟩) hb).trans (hc m hlt)
      have c1 := R0.cell hlt
      have f1 := R0.frozen m
      have R0' : IRow .i64 3 (wr.setCell ⟨w.heap.size, m, none⟩ (.int .i64 ((x : Int) % (q : Int)))) w.heap.size len0 (fun j => (nm z q (m + 1) j : Int)) := (R0.set m ((x : Int) % (q : Int))).congr (fun j _ => by
        rw [nm_step, hx]; split <;> simp)
      have B0' := B0.setCell (p := ⟨w.heap.size, m, none⟩) (Nat.le_refl _) (.int .i64 ((x : Int) % (q : Int)))
      clear hx R0 B0 hc
      go_wp2
      go_roundw
      case rel => exact ⟨m + 1, by omega, by go_num, R0', B0'⟩
      case measure => simp [intOf]; omega
    · obtain rfl : len0 = m := by omega
      obtain ⟨f, hf⟩ : ∃ f : Nat → Nat, ∀ j, f j = z j % q := ⟨_, fun _ => rfl⟩
      have hfq : ∀ j, f j < q := fun j => by rw [hf]; exact Nat.mod_lt _ hq0
      have R1 : IRow .i64 3 wr w.heap.size len0 (fun j => (f j : Int)) := R0.congr (fun j hj => by rw [hf]; simp only [nm]; rw [if_pos hj])
      clear R0 hf hc ha hmk
      have hsz := B0.size
      go_wp2_with fail
      refine (clone_any w.heap.size len0 len0 f wr (by omega) (fun j hj => R1.cell hj)).mono ?_
      rintro e w1 ⟨g, cap, rfl, hg, R2, hbel⟩
      have hbl := R1.lt
      have R1' := R1.below hbel hbl
      have B1 := B0.trans (hbel.mono hsz)
      have hsz1 := hbel.size
      clear R1 B0 hbel
      go_wp2_with fail
      refine (place_any g len0 cap q f w1 (by omega) (by omega) R2 (fun i _ => hfq i)).mono ?_
      rintro e w2 ⟨s, rfl, hs, R3, R4, G⟩
      have hg1 := R2.lt
      have R1'' := R1'.grown G (by simp; omega)
      have B2 := B1.grown G (by omega) (fun k hk => by cases hk; omega)
      clear R1' B1 G R2
      have hqq : ((q : Int) + 1 != (q : Int) + 1) = false := by simp
      go_wp2
      go_loopw [12] (fun i wx => ∃ k : Nat, k ≤ q + 1 ∧ i = .int .i64 k ∧ IRow .i64 3 wx s (q + 1) (fun j => (cntLt f len0 j : Int)) ∧ IRow .i64 3 wx w.heap.size len0 (fun j => (f j : Int)) ∧ IRow .i64 3 wx g len0 (fun j => (pl f len0 j : Int)) ∧ Below w.heap.size w wx) (fun i _ => q + 1 - (intOf i).toNat)
      case atStart => exact ⟨0, Nat.zero_le _, rfl, R3, R1'', R4, B2⟩
      case round =>
        clear R3 R1'' R4 B2 hbl
        obtain ⟨k, hk, rfl, R3, R1, R4, B2⟩ := hrel
        by_cases hkq : k < q + 1
        · obtain ⟨x, hx⟩ : ∃ x, x = cntLt f len0 k := ⟨_, rfl⟩
          have c0 : wr.cell? ⟨s, k, none⟩ = some (.int .i64 (x : Int)) := by rw [hx]; exact R3.cell hkq
          have hbw : ∀ W, (∃ n, W = wr.drewN n) → Calls Yba.prog 9 #[.slice (some ⟨w.heap.size, 0, none⟩) len0 len0, .int .i64 (k : Int)] W fun e w' => e = .returned (.int .i64 (x : Int)) ∧ w' = W := by
            rintro W ⟨n, rfl⟩
            rw [hx]
            exact below_any w.heap.size len0 len0 k f _ (by omega) (fun j hj => R1.cell hj)
          have hk0 : (0 : Int) ≤ (k : Int) := by omega
          have hk1 : (k : Int) < (q : Int) + 1 := by omega
          have hk2 : (k : Int) ≤ (q : Int) := by omega
          have A : Hid (IRow .i64 3 wr s (q + 1) (fun j => (cntLt f len0 j : Int)) ∧ IRow .i64 3 wr w.heap.size len0 (fun j => (f j : Int)) ∧ IRow .i64 3 wr g len0 (fun j => (pl f len0 j : Int)) ∧ Below w.heap.size w wr) := ⟨R3, R1, R4, B2⟩
          clear hx R3 R1 R4 B2
          have H : Hid (∀ W, (∃ n, W = wr.drewN n) → Calls Yba.prog 9 #[.slice (some ⟨w.heap.size, 0, none⟩) len0 len0, .int .i64 (k : Int)] W fun e w' => e = .returned (.int .i64 (x : Int)) ∧ w' = W) := hbw
          clear hbw
          go_wp2_with fail
          go_quiet ((go_at_call 9; exact Calls.quiet_of_same (H.out _ ⟨_, rfl⟩)))
          go_wp2
          go_roundw
          case rel => exact ⟨k + 1, by omega, by go_num, A.out.1.drewN _, A.out.2.1.drewN _, A.out.2.2.1.drewN _, below_drewN A.out.2.2.2 _⟩
          case measure => simp [intOf]; omega
        · have hk3 : decide ((k : Int) ≤ (q : Int)) = false := decide_eq_false (by omega)
          have hk4 : ¬ (k : Int) ≤ (q : Int) := by omega
          by_cases hl0 : len0 = 0
          · have hd : decide ((0 : Int) < (len0 : Int)) = false := decide_eq_false (by omega)
            have A : Hid (Below w.heap.size w wr) := B2
            clear R3 R1 R4 B2
            go_wp2_with fail
            go_quiet (fail)
            go_wp2
            refine wp_loop_rounds 1 ?_
            rw [rounds_succ]
            have hd2 : ¬ (0 : Int) < (len0 : Int) := by omega
            go_wp2
            go_ret
            exact ⟨rfl, below_drewN A.out _⟩
          · have hd : (0 : Int) < (len0 : Int) := by omega
            have hd' : decide ((0 : Int) < (len0 : Int)) = true := decide_eq_true hd
            have hdN : 0 < len0 := by omega
            have A : Hid (IRow .i64 3 wr w.heap.size len0 (fun j => (f j : Int)) ∧ IRow .i64 3 wr g len0 (fun j => (pl f len0 j : Int)) ∧ Below w.heap.size w wr) := ⟨R1, R4, B2⟩
            clear R3 R1 R4 B2
            obtain ⟨i3, hi3, _⟩ := info_parts info3
            have q28 : ∀ w, (binOp .neq 28 (.pointer (some ⟨g, 0, none⟩)) (.pointer (some ⟨g, 0, none⟩))).run Yba.prog w = .ok (.bool false) w := fun w => run_neq_ptr_same w _ Yba.underlying28 hi3
            go_wp2_with fail
            go_quiet (fail)
            go_wp2
            go_loopg [86] len0 (fun gk i wx => ∃ m : Nat, m ≤ len0 ∧ len0 - m ≤ gk ∧ i = .int .i64 m ∧ IRow .i64 3 wx w.heap.size len0 (fun j => (f j : Int)) ∧ IRow .i64 3 wx g len0 (fun j => (pl f len0 j : Int)) ∧ Below w.heap.size w wx)
            case atStart => exact ⟨0, Nat.zero_le _, Nat.le_refl _, rfl, A.out.1.drewN _, A.out.2.1.drewN _, below_drewN A.out.2.2 _⟩
            case round =>
              clear A
              obtain ⟨m, hm, hgk, rfl, R1, R4, B2⟩ := hrel
              by_cases hml : m < len0
              · obtain ⟨v, hv⟩ : ∃ v, v = f m := ⟨_, rfl⟩
                obtain ⟨x, hx⟩ : ∃ x, x = cntLt f len0 v := ⟨_, rfl⟩
                have hxl : x ≤ 1024 := by have := cntLt_le f len0 v; omega
                have c0 : wr.cell? ⟨w.heap.size, m, none⟩ = some (.int .i64 (v : Int)) := by rw [hv]; exact R1.cell hml
                have c1 : wr.cell? ⟨g, m, none⟩ = some (.int .i64 ((x + cntEq f m v : Nat) : Int)) := by rw [hx, hv]; exact R4.cell hml
                have C1 : Hid (wr.cell? ⟨g, m, none⟩ = some (.int .i64 ((x + cntEq f m v : Nat) : Int))) := c1
                clear c1
                have cj : ∀ j, j < m → wr.cell? ⟨w.heap.size, j, none⟩ = some (.int .i64 (f j : Int)) := fun j hj => R1.cell (by omega)
                have hbw : Calls Yba.prog 9 #[.slice (some ⟨w.heap.size, 0, none⟩) len0 len0, .int .i64 (v : Int)] wr fun e w' => e = .returned (.int .i64 (x : Int)) ∧ w' = wr := by
                  rw [hx]
                  exact below_any w.heap.size len0 len0 v f _ (by omega) (fun j hj => R1.cell hj)
                have H : Hid (Calls Yba.prog 9 #[.slice (some ⟨w.heap.size, 0, none⟩) len0 len0, .int .i64 (v : Int)] wr fun e w' => e = .returned (.int .i64 (x : Int)) ∧ w' = wr) := hbw
                have A : Hid (IRow .i64 3 wr w.heap.size len0 (fun j => (f j : Int)) ∧ IRow .i64 3 wr g len0 (fun j => (pl f len0 j : Int)) ∧ Below w.heap.size w wr) := ⟨R1, R4, B2⟩
                clear R1 R4 B2 hbw hx hv
                have CJ : Hid (∀ j, j < m → wr.cell? ⟨w.heap.size, j, none⟩ = some (.int .i64 (f j : Int))) := cj
                clear cj
                go_wp2_with fail
                refine H.out.mono ?_
                rintro e w3 ⟨rfl, rfl⟩
                go_wp2
                go_loop [15, 16] (fun t i => ∃ k : Nat, k ≤ m ∧ i = .int .i64 k ∧ t = .int .i64 ((x + cntEq f k v : Nat) : Int)) (fun _ i => m - (intOf i).toNat)
                case atStart => exact ⟨0, Nat.zero_le _, rfl, rfl⟩
                case round =>
                  obtain ⟨k, hk, rfl, rfl⟩ := hrel
                  by_cases hkm : k < m
                  · have ck := CJ.out k hkm
                    have hle := cntEq_le f k v
                    obtain ⟨u, hu⟩ : ∃ u, u = f k := ⟨_, rfl⟩
                    rw [← hu] at ck
                    by_cases huv : u = v
                    · have hs : Hid (cntEq f (k + 1) v = cntEq f k v + 1) := by simp [Hid, cntEq, ← hu, huv]
                      have ht : ((u : Int) == (v : Int)) = true := by simp [huv]
                      clear hu huv
                      go_wp2
                      go_round
                      case rel => exact ⟨k + 1, by omega, by go_num, by rw [hs.out]; go_num⟩
                      case measure => simp [intOf]; omega
                    · have hs : Hid (cntEq f (k + 1) v = cntEq f k v) := by simp [Hid, cntEq, ← hu, huv]
                      have ht : ((u : Int) == (v : Int)) = false := by simp; omega
                      clear hu huv
                      go_wp2
                      go_round
                      case rel => exact ⟨k + 1, by omega, by go_num, by rw [hs.out]⟩
                      case measure => simp [intOf]; omega
                  · obtain rfl : m = k := by omega
                    have c1 := C1.out
                    clear hk hkm C1 H CJ
                    go_wp2
                    go_roundg (gk - 1)
                    case rel => exact ⟨m + 1, by omega, by omega, by go_num, A.out.1, A.out.2.1, A.out.2.2⟩
                    case measure => omega
              · go_wp2
                go_ret
                exact ⟨rfl, B2⟩

theorem below_nil (k : Int) (w : World) : Calls Yba.prog 9 #[.slice none 0 0, .int .i64 k] w fun e w' => e = .returned (.int .i64 0) ∧ w' = w := by
  go_enter Yba.func9, Yba.ntmps9
  go_wp2
  refine wp_loop_rounds 1 ?_
  rw [rounds_succ]
  go_wp2
  go_ret
  exact ⟨rfl, rfl⟩

theorem clone_nil (w : World) : Calls Yba.prog 7 #[.slice none 0 0] w fun e w' => e = .returned (.slice none 0 0) ∧ w' = w := by
  have q23 : ∀ (w : World) (a : Option Addr) (n c n' c' : Nat), (binOp .eql 23 (.slice a n c) (.slice none n' c')).run Yba.prog w = .ok (.bool a.isNone) w := fun w a n c n' c' => Lib.run_eql_slice_nil w _ _ a n c n' c' Yba.underlying23
  go_enter Yba.func7, Yba.ntmps7
  go_wp2
  go_ret
  exact ⟨rfl, rfl⟩

theorem place_nil (w : World) : Calls Yba.prog 8 #[.slice none 0 0, .int .i64 0] w fun e w' => ∃ g, e = .returned (.tuple #[.slice (some ⟨g, 0, none⟩) 1 1, .slice none 0 0]) ∧ IRow .i64 3 w' g 1 (fun _ => 0) ∧ Below w.heap.size w w' := by
  have hmk := run_make_row' (P := Yba.prog) 23 3 (.int .i64 0) 8 Yba.underlying23 info3 rfl .i64 .i64 1 (by omega) (by omega)
  have hmk' : ∀ w, (Instr.makeSlice 23 (.int .i64 1) (.int .i64 1)).run Yba.prog w = .ok (.slice (some ⟨w.heap.size, 0, none⟩) 1 1) (w.alloc (.cells (madeCells #[.int .i64 0] 1) 3)) := hmk
  have R0 := IRow.made .i64 3 w 1
  have B0 : Below w.heap.size w (w.alloc (.cells (madeCells #[.int .i64 0] 1) 3)) := (Below.refl _ _).alloc (Nat.le_refl _) _
  clear hmk
  go_enter Yba.func8, Yba.ntmps8
  go_wp2
  refine wp_loop_rounds 1 ?_
  rw [rounds_succ]
  go_wp2
  refine wp_loop_rounds 1 ?_
  rw [rounds_succ]
  go_wp2_with fail
  refine (clone_any w.heap.size 0 1 (fun _ => 0) _ (by omega) (fun j hj => by omega)).mono ?_
  rintro e w1 ⟨g, cap, rfl, hg, _, hbel⟩
  have R1 := R0.below hbel R0.lt
  have B1 := B0.trans (hbel.mono B0.size)
  clear R0 B0 hbel
  go_wp2
  refine wp_loop_rounds 1 ?_
  rw [rounds_succ]
  go_wp2
  go_ret2
  exact ⟨w.heap.size, rfl, R1, B1⟩

set_option maxRecDepth 100000 in
set_option maxHeartbeats 800000 in
/-- count = 0. -/
theorem walk_zero (a0 : Option Addr) (len0 cap0 : Nat) (a1 : Int) (w : World) (h : len0 ≤ 1024) (ha1 : 0 ≤ a1 ∧ a1 ≤ 255) (hq : a1 % 24 = 0) :
    Calls Yba.prog 3 #[.slice a0 len0 cap0, .int .u8 a1] w fun e w' => e = .returned (.bool true) ∧ Below w.heap.size w w' := by
  have h' : ¬ (1024 : Int) < (len0 : Int) := by omega
  go_enter Yba.func3, Yba.ntmps3
  go_wp2_with fail
  refine (clone_nil _).mono ?_
  rintro e w1 ⟨rfl, rfl⟩
  go_wp2_with fail
  refine (place_nil _).mono ?_
  rintro e w2 ⟨g, rfl, R, B⟩
  have c0 : w2.cell? ⟨g, 0, none⟩ = some (.int .i64 0) := R.cell (by omega)
  clear R
  go_wp2
  refine wp_loop_rounds 2 ?_
  rw [rounds_succ]
  go_wp2_with fail
  go_quiet ((go_at_call 9; exact Calls.quiet_of_same (below_nil _ _)))
  go_wp2
  rw [rounds_succ]
  go_wp2_with fail
  go_quiet (fail)
  go_wp2
  refine wp_loop_rounds 1 ?_
  rw [rounds_succ]
  go_wp2
  go_ret
  exact ⟨rfl, below_drewN B _⟩
end Go.Proofs.Ybulkbphy.place
