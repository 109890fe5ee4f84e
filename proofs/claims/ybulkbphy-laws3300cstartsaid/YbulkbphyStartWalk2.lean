/-
  THE WALK OF 'LawS3300CStart', where seen is long enough.
-/
import Derived.Test.YbulkbphyStartWalk
namespace Go.Proofs.Ybulkbphy.start
open Go.RowKit
set_option linter.unusedVariables false

theorem after_keep {w w1 w2 w3 w4 : World} {p2 p3 p7 oa ob oc : Option Addr} {b2 f2 n2 b3 f3 n3 b7 f7 n7 o co f q r : Nat} {a4 a5 a6 : Int} {S O K : Nat → Int} (hn2 : 0 < n2) (I2 : In .u64 w p2 b2 f2 n2 S) (I3 : In .i32 w p3 b3 f3 n3 O) (I7 : In .i32 w p7 b7 f7 n7 K)
    (C2 : CopyOf .u64 36 w1 p2 oa w.heap.size n2 S) (B1 : Below w.heap.size w w1) (C3 : CopyOf .i32 21 w2 p3 ob w1.heap.size n3 O) (B2 : Below w1.heap.size w1 w2) (C7 : CopyOf .i32 21 w3 p7 oc w2.heap.size n7 K) (B3 : Below w2.heap.size w2 w3)
    (F : Fields w4 w3.heap.size (.slice (some ⟨w.heap.size, 0, none⟩) n2 n2) (.int .u64 a6) o co (.slice oc n7 n7)) (hc : w4.cell? ⟨o, 0, none⟩ = some (.int .i32 (f : Int))) (R : IRow .u64 36 w4 w.heap.size n2 (fun i => if i = q then bits .or .u64 (S i) (IntKind.u64.wrap (2 ^ r)) else S i))
    (hO : 0 < n3 → IRow .i32 21 w4 w1.heap.size n3 (fun i => if i = 0 then (f : Int) else O i))
    (fr : FrameBut (w3.alloc (.cells #[.slice oa n2 n2, .int .u64 a6, .slice ob n3 n3, .int .i64 a4, .int .i64 a5, .slice oc n7 n7] 41)) w4 (fun b => b = w3.heap.size ∨ b = w.heap.size ∨ (0 < n3 ∧ b = w1.heap.size))) :
    After w w4 p2 p3 p7 oa ob oc b2 f2 n2 b3 f3 n3 b7 f7 n7 w.heap.size w1.heap.size w2.heap.size w3.heap.size w.heap.size n2 o co f a6 S O K (fun i => if i = q then bits .or .u64 (S i) (IntKind.u64.wrap (2 ^ r)) else S i) (fun i => if i = q then bits .or .u64 (S i) (IntKind.u64.wrap (2 ^ r)) else S i) := by
  have z1 := B1.size
  have z2 := B2.size
  have z3 := B3.size
  have BA : Below w3.heap.size w3 (w3.alloc (.cells #[.slice oa n2 n2, .int .u64 a6, .slice ob n3 n3, .int .i64 a4, .int .i64 a5, .slice oc n7 n7] 41)) := (Below.refl _ _).alloc (Nat.le_refl _) _
  have C7' := C7.later BA
  have l2 : w.heap.size < w1.heap.size := (C2.row hn2).lt
  have l7 : p7.isNone = false → w2.heap.size < w3.heap.size := fun h => by
    rcases C7 with ⟨h1, _⟩ | ⟨_, _, h1⟩
    · rw [h1] at h; cases h
    · exact h1.lt
  have l3 : 0 < n3 → w1.heap.size < w2.heap.size := fun h => (C3.row h).lt
  have C7f := C7'.framed fr (fun h hx => by
    have := l7 h
    rcases hx with hx | hx | ⟨h1, hx⟩
    · omega
    · omega
    · have := l3 h1; omega)
  have BW : Below w.heap.size w w4 := (((B1.trans (B2.mono z1)).trans (B3.mono (by omega))).trans (BA.mono (by omega))).trans (fr.below (by simp; omega) (fun i hi => by rcases hi with rfl | rfl | ⟨_, rfl⟩ <;> omega))
  exact ⟨F, hc, R, fun h => C3.addr h, hO, fun h => C2.addr h, fun _ => R, C7f, I2.later BW, I3.later BW, I7.later BW, BW⟩

set_option maxRecDepth 100000 in
set_option maxHeartbeats 6400000 in
theorem walk_keep (nm fr n f wd q r : Nat) (a4 a5 a6 : Int) (p2 p3 p7 : Option Addr) (b2 f2 n2 c2 b3 f3 n3 c3 b7 f7 n7 c7 : Nat) (S O K : Nat → Int) (w : World)
    (h2 : n2 ≤ 4096) (h3 : n3 ≤ 4096) (h7 : n7 ≤ 4096) (hnm : nm ≤ 65535) (hfr : fr ≤ 4294967295) (hn : (nm : Int) + 1 = (n : Int)) (hf : (fr : Int) % (n : Int) = (f : Int)) (hwd : ((n : Int) + 63) / 64 = (wd : Int)) (hq : (f : Int) / 64 = (q : Int)) (hr : (f : Int) % 64 = (r : Int))
    (I2 : In .u64 w p2 b2 f2 n2 S) (I3 : In .i32 w p3 b3 f3 n3 O) (I7 : In .i32 w p7 b7 f7 n7 K) (hkeep : wd ≤ n2) :
    Calls Yba.prog 5 #[.int .u16 (nm : Int), .int .u32 (fr : Int), .slice p2 n2 c2, .slice p3 n3 c3, .int .i64 a4, .int .i64 a5, .int .u64 a6, .slice p7 n7 c7] w fun e w' => e = .returned (.bool true) ∧ Below w.heap.size w w' := by
  have d2 : ¬ (4096 : Int) < (n2 : Int) := by omega
  have d3 : ¬ (4096 : Int) < (n3 : Int) := by omega
  have d7 : ¬ (4096 : Int) < (n7 : Int) := by omega
  have hn1 : 1 ≤ n := by omega
  have hn2 : n ≤ 65536 := by omega
  have hfn : f < n := by have := Int.emod_lt_of_pos (fr : Int) (show (0 : Int) < (n : Int) by omega); omega
  have hwl : wd ≤ 1024 := by omega
  have hr64 : r < 64 := by omega
  have q30 : ∀ (w : World) (a : Option Addr) (n c n' c' : Nat), (binOp .eql 30 (.slice a n c) (.slice none n' c')).run Yba.prog w = .ok (.bool a.isNone) w := fun w a n c n' c' => Lib.run_eql_slice_nil w _ _ a n c n' c' Yba.underlying30
  have HI : Hid (In .u64 w p2 b2 f2 n2 S ∧ In .i32 w p3 b3 f3 n3 O ∧ In .i32 w p7 b7 f7 n7 K) := ⟨I2, I3, I7⟩
  clear I2 I3 I7
  go_enter Yba.func5, Yba.ntmps5
  go_wp2_with fail
  refine (copy64_any p2 b2 f2 n2 c2 S w h2 HI.out.1.nil HI.out.1.addr HI.out.1.cell).mono ?_
  rintro e w1 ⟨oa, rfl, C2, B1⟩
  obtain rfl := C2.addr (by omega)
  go_wp2_with fail
  refine (copy32_any p3 b3 f3 n3 c3 O w1 h3 HI.out.2.1.nil HI.out.2.1.addr (HI.out.2.1.later B1).cell).mono ?_
  rintro e w2 ⟨ob, rfl, C3, B2⟩
  have B2' := B1.trans (B2.mono B1.size)
  go_wp2_with fail
  refine (copy32_any p7 b7 f7 n7 c7 K w2 h7 HI.out.2.2.nil HI.out.2.2.addr (HI.out.2.2.later B2').cell).mono ?_
  rintro e w3 ⟨oc, rfl, C7, B3⟩
  have B3' := B2'.trans (B3.mono B2'.size)
  go_wp2_with fail
  refine (start_keep w3.heap.size w.heap.size w1.heap.size n2 n3 n f wd q r ob a6 a4 a5 (.slice oc n7 n7) S O _ hfn hn2 hwd hq hr hkeep h2 (six_alloc w3 _ _ _ _ _ _) ((((C2.later B2).later B3).later ((Below.refl _ _).alloc (Nat.le_refl _) _)).row (by omega))
    (CopyOf.start ((C3.later B3).later ((Below.refl _ _).alloc (Nat.le_refl _) _)))).mono ?_
  rintro e w4 ⟨rfl, o, co, F, hc, R, hO, fr4⟩
  have A : Hid (After w w4 p2 p3 p7 (some ⟨w.heap.size, 0, none⟩) ob oc b2 f2 n2 b3 f3 n3 b7 f7 n7 w.heap.size w1.heap.size w2.heap.size w3.heap.size w.heap.size n2 o co f a6 S O K (fun i => if i = q then bits .or .u64 (S i) (IntKind.u64.wrap (2 ^ r)) else S i) (fun i => if i = q then bits .or .u64 (S i) (IntKind.u64.wrap (2 ^ r)) else S i)) :=
    after_keep (by omega) HI.out.1 HI.out.2.1 HI.out.2.2 C2 B1 C3 B2 C7 B3 F hc R hO fr4
  clear C2 B1 C3 B2 C7 B3 F hc R hO fr4 B2' B3' HI
  obtain ⟨h, hh⟩ : ∃ h, h = w3.heap.size := ⟨_, rfl⟩
  obtain ⟨ga, hga⟩ : ∃ h, h = w.heap.size := ⟨_, rfl⟩
  obtain ⟨gb, hgb⟩ : ∃ h, h = w1.heap.size := ⟨_, rfl⟩
  obtain ⟨gc, hgc⟩ : ∃ h, h = w2.heap.size := ⟨_, rfl⟩
  obtain ⟨oa, hoa⟩ : ∃ oa : Option Addr, oa = some ⟨w.heap.size, 0, none⟩ := ⟨_, rfl⟩
  have A' : Hid (After w w4 p2 p3 p7 oa ob oc b2 f2 n2 b3 f3 n3 b7 f7 n7 ga gb gc h ga n2 o co f a6 S O K (fun i => if i = q then bits .or .u64 (S i) (IntKind.u64.wrap (2 ^ r)) else S i) (fun i => if i = q then bits .or .u64 (S i) (IntKind.u64.wrap (2 ^ r)) else S i)) := by rw [hh, hga, hgb, hgc, hoa]; exact A
  rw [← hh, ← hoa]
  clear A hh hga hgb hgc hoa
  have c0 : w4.cell? ⟨h, 0, none⟩ = some (.slice (some ⟨ga, 0, none⟩) n2 n2) := A'.out.fields.cell (i := 0) (by omega)
  have hnk : ¬ (n2 : Int) < (wd : Int) := by omega
  go_wp2
  clear hwd hq hr hn hf hnk
  go_loop [29] (fun i => ∃ m : Nat, m ≤ n2 ∧ i = .int .i64 m) (fun i => n2 - (intOf i).toNat)
  case atStart => exact ⟨0, Nat.zero_le _, rfl⟩
  case round =>
    obtain ⟨m, hm, rfl⟩ := hrel
    by_cases hlt : m < n2
    · obtain rfl := A'.out.saddr (by omega)
      obtain rfl := A'.out.i2.addr (by omega)
      obtain ⟨x, hx⟩ : ∃ x, x = S m := ⟨_, rfl⟩
      have ca : w4.cell? ⟨b2, f2 + m, none⟩ = some (.int .u64 x) := by rw [hx]; exact A'.out.i2.cell m hlt
      by_cases e : m = q
      · have ht : ((m : Int) == (q : Int)) = true := by simp [e]
        have cs : w4.cell? ⟨ga, m, none⟩ = some (.int .u64 (bits .or .u64 x (IntKind.u64.wrap (2 ^ r)))) := by rw [A'.out.seen.cell hlt, if_pos e, hx]
        clear e hx
        go_wp2
        go_round
        case rel => exact ⟨m + 1, by omega, by go_num⟩
        case measure => simp [intOf]; omega
      · have ht : ((m : Int) == (q : Int)) = false := by simp; omega
        have cs : w4.cell? ⟨ga, m, none⟩ = some (.int .u64 x) := by rw [A'.out.seen.cell hlt, if_neg e, hx]
        clear e hx
        go_wp2
        go_round
        case rel => exact ⟨m + 1, by omega, by go_num⟩
        case measure => simp [intOf]; omega
    · obtain ⟨wr, hwr⟩ : ∃ wr, wr = w4 := ⟨_, rfl⟩
      have A : After w wr p2 p3 p7 oa ob oc b2 f2 n2 b3 f3 n3 b7 f7 n7 ga gb gc h ga n2 o co f a6 S O K (fun i => if i = q then bits .or .u64 (S i) (IntKind.u64.wrap (2 ^ r)) else S i) (fun i => if i = q then bits .or .u64 (S i) (IntKind.u64.wrap (2 ^ r)) else S i) := by rw [hwr]; exact A'.out
      rw [← hwr]
      have hlt' : ¬ (m : Int) < (n2 : Int) := by omega
      clear A' c0 hwr hlt
      have k2 : wr.cell? ⟨h, 2, none⟩ = some (.slice (some ⟨o, 0, none⟩) 1 co) := A.fields.cell (i := 2) (by omega)
      have k20 := A.first
      have k1 : wr.cell? ⟨h, 1, none⟩ = some (.int .u64 a6) := A.fields.cell (i := 1) (by omega)
      have k3 : wr.cell? ⟨h, 3, none⟩ = some (.int .i64 0) := A.fields.cell (i := 3) (by omega)
      have k4 : wr.cell? ⟨h, 4, none⟩ = some (.int .i64 0) := A.fields.cell (i := 4) (by omega)
      have k5 : wr.cell? ⟨h, 5, none⟩ = some (.slice oc n7 n7) := A.fields.cell (i := 5) (by omega)
      have HA : Hid (After w wr p2 p3 p7 oa ob oc b2 f2 n2 b3 f3 n3 b7 f7 n7 ga gb gc h ga n2 o co f a6 S O K (fun i => if i = q then bits .or .u64 (S i) (IntKind.u64.wrap (2 ^ r)) else S i) (fun i => if i = q then bits .or .u64 (S i) (IntKind.u64.wrap (2 ^ r)) else S i)) := A
      clear A
      go_wp2
      clear k2 k20
      go_loop [31] (fun i => ∃ m : Nat, m ≤ n3 ∧ i = .int .i64 m) (fun i => n3 - (intOf i).toNat)
      case atStart => exact ⟨0, Nat.zero_le _, rfl⟩
      case round =>
        obtain ⟨m, hm, rfl⟩ := hrel
        by_cases hlt3 : m < n3
        · obtain rfl := HA.out.oaddr (by omega)
          obtain rfl := HA.out.i3.addr (by omega)
          by_cases e : m = 0
          · subst e
            have ca := HA.out.i3.cell 0 hlt3
            have cb : wr.cell? ⟨gb, 0, none⟩ = some (.int .i32 (f : Int)) := (HA.out.order (by omega)).cell hlt3
            rw [Nat.add_zero] at ca
            go_wp2
            go_round
            case rel => exact ⟨0 + 1, by omega, by go_num⟩
            case measure => simp [intOf]; omega
          · have ht : ((m : Int) == 0) = false := by simp; omega
            obtain ⟨x, hx⟩ : ∃ x, x = O m := ⟨_, rfl⟩
            have ca : wr.cell? ⟨b3, f3 + m, none⟩ = some (.int .i32 x) := by rw [hx]; exact HA.out.i3.cell m hlt3
            have cb : wr.cell? ⟨gb, m, none⟩ = some (.int .i32 x) := by rw [hx, (HA.out.order (by omega)).cell hlt3, if_neg e]
            clear e hx
            go_wp2
            go_round
            case rel => exact ⟨m + 1, by omega, by go_num⟩
            case measure => simp [intOf]; omega
        · have hlt3' : ¬ (m : Int) < (n3 : Int) := by omega
          have hnn := HA.out.back.nones
          go_wp2
          clear k1 k3 k4 k5 hlt3' hnn hlt3 hm
          go_loopg [33] n7 (fun gk i wx => ∃ m : Nat, m ≤ n7 ∧ n7 - m ≤ gk ∧ i = .int .i64 m ∧ After w wx p2 p3 p7 oa ob oc b2 f2 n2 b3 f3 n3 b7 f7 n7 ga gb gc h ga n2 o co f a6 S O K (fun i => if i = q then bits .or .u64 (S i) (IntKind.u64.wrap (2 ^ r)) else S i) (fun i => if i = q then bits .or .u64 (S i) (IntKind.u64.wrap (2 ^ r)) else S i))
          case atStart => exact ⟨0, Nat.zero_le _, Nat.le_refl _, rfl, HA.out⟩
          case round =>
            clear HA
            obtain ⟨m, hm, hgk, rfl, A⟩ := hrel
            by_cases hlt7 : m < n7
            · obtain rfl := A.back.addr (by omega)
              obtain rfl := A.i7.addr (by omega)
              obtain ⟨x, hx⟩ : ∃ x, x = K m := ⟨_, rfl⟩
              have ca : wr.cell? ⟨b7, f7 + m, none⟩ = some (.int .i32 x) := by rw [hx]; exact A.i7.cell m hlt7
              have cb : wr.cell? ⟨gc, m, none⟩ = some (.int .i32 x) := by rw [hx]; exact (A.back.row (by omega)).cell hlt7
              have k5 : wr.cell? ⟨h, 5, none⟩ = some (.slice (some ⟨gc, 0, none⟩) n7 n7) := A.fields.cell (i := 5) (by omega)
              have hm0 : (0 : Int) ≤ (m : Int) := by omega
              have hm1 : (m : Int) < (n7 : Int) := by omega
              have HA : Hid (After w wr p2 p3 (some ⟨b7, f7, none⟩) oa ob (some ⟨gc, 0, none⟩) b2 f2 n2 b3 f3 n3 b7 f7 n7 ga gb gc h ga n2 o co f a6 S O K (fun i => if i = q then bits .or .u64 (S i) (IntKind.u64.wrap (2 ^ r)) else S i) (fun i => if i = q then bits .or .u64 (S i) (IntKind.u64.wrap (2 ^ r)) else S i)) := A
              clear A hx
              go_wp2_with fail
              go_quiet (fail)
              go_wp2
              go_roundg (gk - 1)
              case measure => omega
              case rel => exact ⟨m + 1, by omega, by omega, by go_num, HA.out.drewN _⟩
            · go_wp2
              go_ret
              exact ⟨rfl, A.below⟩
end Go.Proofs.Ybulkbphy.start
