/-
  CONTRACTS: slices.Clone, zzs3300abelow, placeBy.
-/
import Derived.Test.YbulkbphyRows
import Derived.Test.YbulkbphyPlain
import Derived.Test.YbulkbphyMem
import Derived.WalkKit
import Derived.WalkSpells
import Derived.WalkLawsBesides
import Derived.Deep.QuietTactic
import Derived.BigQuiet
import Derived.BigRegion
import Derived.Lib.SliceRun
namespace Go.Proofs.Ybulkbphy
open Go.RowKit Plain
set_option linter.unusedVariables false

theorem info3 : (Yba.prog.info? 3).map (fun i => (i.zero, i.size, i.bytes)) = some (some (.int .i64 0), 1, 8) := by kernel_rfl

set_option maxHeartbeats 400000 in
/-- slices.Clone at a row of numbers. -/
theorem clone_any (b n c : Nat) (f : Nat → Nat) (w : World) (hn : n ≤ 100000) (hc : ∀ j, j < n → w.cell? ⟨b, j, none⟩ = some (.int .i64 (f j : Int))) :
    Calls Yba.prog 7 #[.slice (some ⟨b, 0, none⟩) n c] w fun e w' => ∃ g cap, e = .returned (.slice (some ⟨g, 0, none⟩) n cap) ∧ w.heap.size ≤ g ∧ IRow .i64 3 w' g n (fun j => (f j : Int)) ∧ Below w.heap.size w w' := by
  obtain ⟨i0, hi, hz0, hz1, hz2⟩ := info_parts info3
  have q23 : ∀ (w : World) (a : Option Addr) (n c n' c' : Nat), (binOp .eql 23 (.slice a n c) (.slice none n' c')).run Yba.prog w = .ok (.bool a.isNone) w := fun w a n c n' c' => Lib.run_eql_slice_nil w _ _ a n c n' c' Yba.underlying23
  have A : Hid (∀ j, j < n → w.cell? ⟨b, j, none⟩ = some (.int .i64 (f j : Int))) := hc
  clear hc
  go_enter Yba.func7, Yba.ntmps7
  go_wp2_with (at_builtin; refine wpList_append_own _ rfl _ _ 23 rfl w.heap.size 3 i0 (.int .i64 0) 1 8 Yba.underlying23 hi hz0 hz1 hz2 rfl (by decide) _ _ _ rfl (World.ownsRow_made w #[] 0 (Nat.le_refl _) (Nat.zero_le _) rfl) ⟨b, 0, none⟩ n c ((List.range n).map fun j => Value.int .i64 (f j : Int)) rfl ?qc1 ?qc2 ?qc3 ?qc4 ?qc5 ?qc6 ?_)
  case qc1 => simp
  case qc2 =>
    intro j u hj
    have hjn : j < n := by
      have := (List.getElem?_eq_some_iff.1 hj).1
      simpa using this
    rw [Addr.add_lit]
    have h1 := World.block_lt_of_cell? w _ (A.out j hjn)
    have h2 : (w.alloc (.cells #[] 3)).cell? ⟨b, 0 + j, none⟩ = some (.int .i64 (f j : Int)) := by
      rw [Nat.zero_add, World.cell?_of_block (w := w) (Below.heap_alloc w _ b h1)]
      exact A.out j hjn
    rw [h2]
    simp [hjn] at hj
    rw [hj]
  case qc3 => intro u hu; obtain ⟨x, _, rfl⟩ := List.mem_map.1 hu; rfl
  case qc4 => unfold maxLen; omega
  case qc5 => omega
  case qc6 => simp
  intro v' w1 hown hgrow hnil
  obtain ⟨g, cap, hv, hb⟩ : ∃ g cap, v' = .slice (some ⟨g, 0, none⟩) n cap ∧ w.heap.size ≤ g := by
    rcases hown.2 with ⟨h1, h2⟩ | ⟨g, cap, cur, e, hb, _⟩
    · exact absurd h1 hnil
    · exact ⟨g, cap, e, hb⟩
  subst hv
  go_wp2
  go_ret
  refine ⟨g, cap, rfl, hb, IRow.of_owns hown (fun i hi => by simp [hi]), ?_⟩
  exact ((Below.refl _ w).alloc (Nat.le_refl _) _).grown hgrow (by simp) (by intro k hk; simp [Value.ownBlock] at hk; omega)

set_option maxHeartbeats 400000 in
/-- zzs3300abelow counts. -/
theorem below_any (b n c k : Nat) (f : Nat → Nat) (w : World) (hn : n ≤ 100000) (hc : ∀ j, j < n → w.cell? ⟨b, j, none⟩ = some (.int .i64 (f j : Int))) :
    Calls Yba.prog 9 #[.slice (some ⟨b, 0, none⟩) n c, .int .i64 (k : Int)] w fun e w' => e = .returned (.int .i64 (cntLt f n k : Int)) ∧ w' = w := by
  go_enter Yba.func9, Yba.ntmps9
  go_wp2
  go_loop [5, 10] (fun t i => ∃ m : Nat, m ≤ n ∧ i = .int .i64 m ∧ t = .int .i64 (cntLt f m k : Int)) (fun _ i => n - (intOf i).toNat)
  case atStart => exact ⟨0, Nat.zero_le _, rfl, rfl⟩
  case round =>
    obtain ⟨m, hm, rfl, rfl⟩ := hrel
    by_cases hlt : m < n
    · have hcm := hc m hlt
      have hle := cntLt_le f m k
      by_cases hk : f m < k
      · have hs : Hid (cntLt f (m + 1) k = cntLt f m k + 1) := by simp [Hid, cntLt, hk]
        have hk' : (f m : Int) < (k : Int) := by omega
        go_wp2
        go_round
        case rel => exact ⟨m + 1, by omega, by go_num, by rw [hs.out]; go_num⟩
        case measure => simp [intOf]; omega
      · have hs : Hid (cntLt f (m + 1) k = cntLt f m k) := by simp [Hid, cntLt, hk]
        have hk' : ¬ (f m : Int) < (k : Int) := by omega
        go_wp2
        go_round
        case rel => exact ⟨m + 1, by omega, by go_num, by rw [hs.out]⟩
        case measure => simp [intOf]; omega
    · obtain rfl : m = n := by omega
      go_wp2
      go_ret
      exact ⟨rfl, rfl⟩

/-- Loop 1 of placeBy: what starts holds after m items. -/
def s1 (f : Nat → Nat) (m j : Nat) : Nat := if j = 0 then 0 else cntEq f m (j - 1)
/-- Loop 2 of placeBy: what starts holds after k rounds. -/
def s2 (f : Nat → Nat) (n k j : Nat) : Nat := if j ≤ k then cntLt f n j else cntEq f n (j - 1)
/-- Loop 3 of placeBy: what number holds after i rounds. -/
def s3 (f : Nat → Nat) (n i j : Nat) : Nat := if j < i then pl f n j else f j

theorem s1_le (f : Nat → Nat) (m j : Nat) : s1 f m j ≤ m := by
  unfold s1; split
  · omega
  · exact cntEq_le _ _ _
theorem s2_le (f : Nat → Nat) (n k j : Nat) : s2 f n k j ≤ n := by
  unfold s2; split
  · exact cntLt_le _ _ _
  · exact cntEq_le _ _ _
theorem s1_zero (f : Nat → Nat) (j : Nat) : s1 f 0 j = 0 := by unfold s1; split <;> rfl
theorem s1_step (f : Nat → Nat) (m j : Nat) : s1 f (m + 1) j = if j = f m + 1 then s1 f m (f m + 1) + 1 else s1 f m j := by
  unfold s1
  by_cases h0 : j = 0
  · rw [if_pos h0, if_pos h0, if_neg (by omega)]
  · rw [if_neg h0, if_neg h0]
    simp only [cntEq]
    by_cases h1 : j = f m + 1
    · subst h1; simp
    · rw [if_neg h1, if_neg (by omega)]; rfl
theorem s12 (f : Nat → Nat) (n j : Nat) : s1 f n j = s2 f n 0 j := by
  unfold s1 s2
  by_cases h0 : j = 0
  · subst h0; simp [cntLt_zero]
  · rw [if_neg h0, if_neg (by omega)]
theorem s2_step (f : Nat → Nat) (n k j : Nat) : s2 f n (k + 1) j = if j = k + 1 then s2 f n k (k + 1) + s2 f n k k else s2 f n k j := by
  unfold s2
  by_cases h1 : j = k + 1
  · subst h1
    rw [if_pos (Nat.le_refl _), if_pos rfl, if_neg (by omega), if_pos (Nat.le_refl _), cntLt_step]
    simp only [Nat.add_sub_cancel]
    omega
  · rw [if_neg h1]
    by_cases h2 : j ≤ k
    · rw [if_pos h2, if_pos (by omega)]
    · rw [if_neg h2, if_neg (by omega)]

set_option maxHeartbeats 1600000 in
/-- placeBy, at a row of numbers that the call owns. -/
theorem place_any (nb n c count : Nat) (f : Nat → Nat) (w : World) (hn : n ≤ 1024) (hcount : count ≤ 100) (hr : IRow .i64 3 w nb n (fun j => (f j : Int))) (hf : ∀ i, i < n → f i < count) :
    Calls Yba.prog 8 #[.slice (some ⟨nb, 0, none⟩) n c, .int .i64 (count : Int)] w fun e w' => ∃ g, e = .returned (.tuple #[.slice (some ⟨g, 0, none⟩) (count + 1) (count + 1), .slice (some ⟨nb, 0, none⟩) n c]) ∧
      w.heap.size ≤ g ∧ IRow .i64 3 w' g (count + 1) (fun j => (cntLt f n j : Int)) ∧ IRow .i64 3 w' nb n (fun j => (pl f n j : Int)) ∧ w.grownBy w' (some nb) := by
  have hmk := run_make_row' (P := Yba.prog) 23 3 (.int .i64 0) 8 Yba.underlying23 info3 rfl .i64 .i64 (count + 1) (by omega) (by omega)
  have ec : ((count + 1 : Nat) : Int) = (count : Int) + 1 := by omega
  rw [ec] at hmk
  have hnb := hr.lt
  have R0 := IRow.made .i64 3 w (count + 1)
  have R1 := hr.alloc (.cells (madeCells #[.int .i64 0] (count + 1)) 3)
  have G0 := World.grownBy_alloc w (.cells (madeCells #[.int .i64 0] (count + 1)) 3) (some nb)
  go_enter Yba.func8, Yba.ntmps8
  go_wp2
  go_loopw [17] (fun i wr => ∃ m : Nat, m ≤ n ∧ i = .int .i64 m ∧ IRow .i64 3 wr w.heap.size (count + 1) (fun j => (s1 f m j : Int)) ∧ IRow .i64 3 wr nb n (fun j => (f j : Int)) ∧ w.grownBy wr (some nb)) (fun i _ => n - (intOf i).toNat)
  case atStart => exact ⟨0, Nat.zero_le _, rfl, R0.congr (fun j _ => by simp [s1_zero]), R1, G0⟩
  case round =>
    clear R0 R1 G0
    obtain ⟨m, hm, rfl, R0, R1, G0⟩ := hrel
    by_cases hlt : m < n
    · obtain ⟨v, hv⟩ : ∃ v, v = f m := ⟨_, rfl⟩
      obtain ⟨x, hx⟩ : ∃ x, x = s1 f m (v + 1) := ⟨_, rfl⟩
      have hvc : v < count := by rw [hv]; exact hf m hlt
      have hxl : x ≤ 1024 := by have := s1_le f m (v + 1); omega
      have c0 : wr.cell? ⟨nb, m, none⟩ = some (.int .i64 (v : Int)) := by rw [hv]; exact R1.cell hlt
      have c1 : wr.cell? ⟨w.heap.size, v + 1, none⟩ = some (.int .i64 (x : Int)) := by rw [hx]; exact R0.cell (by omega)
      have f1 := R0.frozen (v + 1)
      have R0' : IRow .i64 3 (wr.setCell ⟨w.heap.size, v + 1, none⟩ (.int .i64 ((x : Int) + 1))) w.heap.size (count + 1) (fun j => (s1 f (m + 1) j : Int)) := (R0.set (v + 1) ((x : Int) + 1)).congr (fun j _ => by
        rw [s1_step, hx, hv]; split <;> rfl)
      have R1' := R1.setOther (a := ⟨w.heap.size, v + 1, none⟩) (by show nb ≠ w.heap.size; omega) (.int .i64 ((x : Int) + 1))
      have G0' := grownBy_set G0 (p := ⟨w.heap.size, v + 1, none⟩) (.inl (Nat.le_refl _)) (.int .i64 ((x : Int) + 1))
      clear hv hx R0 R1 G0
      go_wp2
      go_roundw
      case rel => exact ⟨m + 1, by omega, by go_num, R0', R1', G0'⟩
      case measure => simp [intOf]; omega
    · obtain rfl : n = m := by omega
      go_wp2
      go_loopw [30] (fun i wx => ∃ k : Nat, k ≤ count ∧ i = .int .i64 k ∧ IRow .i64 3 wx w.heap.size (count + 1) (fun j => (s2 f n k j : Int)) ∧ IRow .i64 3 wx nb n (fun j => (f j : Int)) ∧ w.grownBy wx (some nb)) (fun i _ => count - (intOf i).toNat)
      case atStart => exact ⟨0, Nat.zero_le _, rfl, R0.congr (fun j _ => by simp [s12]), R1, G0⟩
      case round =>
        clear R0 R1 G0
        obtain ⟨k, hk, rfl, R0, R1, G0⟩ := hrel
        by_cases hkc : k < count
        · obtain ⟨x, hx⟩ : ∃ x, x = s2 f n k (k + 1) := ⟨_, rfl⟩
          obtain ⟨y, hy⟩ : ∃ y, y = s2 f n k k := ⟨_, rfl⟩
          have hxl : x ≤ 1024 := by have := s2_le f n k (k + 1); omega
          have hyl : y ≤ 1024 := by have := s2_le f n k k; omega
          have c0 : wr.cell? ⟨w.heap.size, k + 1, none⟩ = some (.int .i64 (x : Int)) := by rw [hx]; exact R0.cell (by omega)
          have c1 : wr.cell? ⟨w.heap.size, k, none⟩ = some (.int .i64 (y : Int)) := by rw [hy]; exact R0.cell (by omega)
          have f1 := R0.frozen (k + 1)
          have R0' : IRow .i64 3 (wr.setCell ⟨w.heap.size, k + 1, none⟩ (.int .i64 ((x : Int) + (y : Int)))) w.heap.size (count + 1) (fun j => (s2 f n (k + 1) j : Int)) := (R0.set (k + 1) ((x : Int) + (y : Int))).congr (fun j _ => by
            rw [s2_step, hx, hy]; split <;> simp)
          have R1' := R1.setOther (a := ⟨w.heap.size, k + 1, none⟩) (by show nb ≠ w.heap.size; omega) (.int .i64 ((x : Int) + (y : Int)))
          have G0' := grownBy_set G0 (p := ⟨w.heap.size, k + 1, none⟩) (.inl (Nat.le_refl _)) (.int .i64 ((x : Int) + (y : Int)))
          clear hx hy R0 R1 G0
          have hk0 : (0 : Int) ≤ (k : Int) := by omega
          have hk1 : (k : Int) < (count : Int) + 1 := by omega
          have hk2 : (k : Int) + 1 < (count : Int) + 1 := by omega
          go_wp2
          go_region
          all_goals
            go_wp2
            go_roundw
            case rel => exact ⟨k + 1, by omega, by go_num, R0'.drew, R1'.drew, grownBy_drew G0'⟩
            case measure => simp [intOf]; omega
        · obtain rfl : count = k := by omega
          have R2 : IRow .i64 3 wr w.heap.size (count + 1) (fun j => (cntLt f n j : Int)) := R0.congr (fun j hj => by simp only [s2]; rw [if_pos (by omega)])
          clear R0
          have hsz := G0.size
          go_wp2_with fail
          refine (clone_any w.heap.size count (count + 1) (fun j => cntLt f n j) wr (by omega) (fun j hj => R2.cell (by omega))).mono ?_
          rintro e w1 ⟨g, cap, rfl, hg, N0, hbel⟩
          have hsz1 := hbel.size
          have hbl := R2.lt
          have R2' := R2.below hbel R2.lt
          have R1' := R1.below hbel R1.lt
          have G1 := grownBy_below G0 hbel
          clear R2 R1 G0 hbel
          go_wp2
          go_loopw [52] (fun i wx => ∃ m : Nat, m ≤ n ∧ i = .int .i64 m ∧ IRow .i64 3 wx g count (fun j => ((cntLt f n j + cntEq f m j : Nat) : Int)) ∧ IRow .i64 3 wx w.heap.size (count + 1) (fun j => (cntLt f n j : Int)) ∧ IRow .i64 3 wx nb n (fun j => (s3 f n m j : Int)) ∧ w.grownBy wx (some nb)) (fun i _ => n - (intOf i).toNat)
          case atStart => exact ⟨0, Nat.zero_le _, rfl, N0.congr (fun j _ => by simp [cntEq]), R2', R1'.congr (fun j _ => by simp [s3]), G1⟩
          case round =>
            clear N0 R2' R1' G1
            obtain ⟨m, hm, rfl, N0, R2, R1, G0⟩ := hrel
            by_cases hlt : m < n
            · obtain ⟨v, hv⟩ : ∃ v, v = f m := ⟨_, rfl⟩
              obtain ⟨x, hx⟩ : ∃ x, x = cntLt f n v + cntEq f m v := ⟨_, rfl⟩
              have hvc : v < count := by rw [hv]; exact hf m hlt
              have hxl : x ≤ 2048 := by have := cntLt_le f n v; have := cntEq_le f m v; omega
              have c0 : wr.cell? ⟨nb, m, none⟩ = some (.int .i64 (v : Int)) := by rw [R1.cell hlt, hv]; simp [s3]
              have c1 : wr.cell? ⟨g, v, none⟩ = some (.int .i64 (x : Int)) := by rw [hx]; exact N0.cell hvc
              have f0 := R1.frozen m
              have f1 := N0.frozen v
              have hgn : g ≠ nb := by omega
              have hng : nb ≠ g := by omega
              have W1 : IRow .i64 3 ((wr.setCell ⟨nb, m, none⟩ (.int .i64 (x : Int))).setCell ⟨g, v, none⟩ (.int .i64 ((x : Int) + 1))) g count (fun j => ((cntLt f n j + cntEq f (m + 1) j : Nat) : Int)) :=
                ((N0.setOther (a := ⟨nb, m, none⟩) hgn (.int .i64 (x : Int))).set v ((x : Int) + 1)).congr (fun j _ => by
                  simp only [cntEq]
                  by_cases e : j = v
                  · rw [if_pos e, e, hx, if_pos hv.symm]; omega
                  · rw [if_neg e, if_neg (by omega)]; omega)
              have W2 : IRow .i64 3 ((wr.setCell ⟨nb, m, none⟩ (.int .i64 (x : Int))).setCell ⟨g, v, none⟩ (.int .i64 ((x : Int) + 1))) nb n (fun j => (s3 f n (m + 1) j : Int)) :=
                ((R1.set m (x : Int)).setOther (a := ⟨g, v, none⟩) hng (.int .i64 ((x : Int) + 1))).congr (fun j _ => by
                  simp only [s3]
                  by_cases e : j = m
                  · rw [if_pos e, if_pos (by omega), e, hx, hv]; rfl
                  · rw [if_neg e]
                    by_cases e2 : j < m
                    · rw [if_pos e2, if_pos (by omega)]
                    · rw [if_neg e2, if_neg (by omega)])
              have W3 := (R2.setOther (a := ⟨nb, m, none⟩) (by show w.heap.size ≠ nb; omega) (.int .i64 (x : Int))).setOther (a := ⟨g, v, none⟩) (by show w.heap.size ≠ g; omega) (.int .i64 ((x : Int) + 1))
              have W4 := grownBy_set (grownBy_set G0 (p := ⟨nb, m, none⟩) (.inr rfl) (.int .i64 (x : Int))) (p := ⟨g, v, none⟩) (.inl (by show w.heap.size ≤ g; omega)) (.int .i64 ((x : Int) + 1))
              clear hv hx N0 R2 R1 G0
              go_wp2
              go_roundw
              case rel => exact ⟨m + 1, by omega, by go_num, W1, W3, W2, W4⟩
              case measure => simp [intOf]; omega
            · obtain rfl : n = m := by omega
              go_wp2
              go_ret2
              exact ⟨w.heap.size, rfl, Nat.le_refl _, R2, R1.congr (fun j hj => by simp only [s3]; rw [if_pos hj]), G0⟩
end Go.Proofs.Ybulkbphy
