/-
  THE WALK OF 'LawS3303BFinds'.
-/
import Derived.Test.YbulkbpjoBuild2
import Derived.Test.YbulkbpjoChunkOf
import Derived.LaidEqlPtr
namespace Go.Proofs.Ybulkbpjo.finds
open Go.RowKit
set_option linter.unusedVariables false

theorem run_neq_ptr_same {P : Program} (w : World) {tp te : TypeId} {j : TypeInfo} (a : Addr) (hp : P.underlying tp = some (.pointer te)) (hte : P.info? te = some j) :
    (binOp .neq tp (.pointer (some a)) (.pointer (some a))).run P w = .ok (.bool false) w := by
  have h : ∀ d : Nat, (Op.equalIn (d + 1) tp (.pointer (some a)) (.pointer (some a))).run P w = .ok true w := fun d => by
    simp [Op.equalIn, run_underlying hp, sizeOf, typeInfo, hte, run_sameAddr_same]
  simp only [binOp]
  simp [Op.equal, Op.maxDepth, h 9999]

theorem walk_long (a0 : Option Addr) (len0 cap0 : Nat) (a1 a2 : Int) (a3 : Bool) (a4 a5 : Int) (w : World) (h : 1024 < len0) :
    Calls Yba.prog 4 #[.slice a0 len0 cap0, .int .u8 a1, .int .u64 a2, .bool a3, .int .u16 a4, .int .u8 a5] w fun e w' => e = .returned (.bool true) ∧ Below w.heap.size w w' := by
  have h' : (1024 : Int) < (len0 : Int) := by omega
  go_enter Yba.func4, Yba.ntmps4
  go_wp2
  go_ret
  exact ⟨rfl, Below.refl _ _⟩

set_option maxRecDepth 100000 in
set_option maxHeartbeats 3200000 in
theorem walk_plain (a0 : Option Addr) (b off len0 cap0 n q g : Nat) (d : Nat → Nat) (a1 tg : Int) (a4 a5 : Int) (w : World) (h : len0 ≤ 1024) (ha1 : 0 ≤ a1 ∧ a1 ≤ 255) (hn : (len0 : Int) + 1 = (n : Int)) (hq : a1 % 3 = (q : Int)) (hg : 2 + (q : Int) = (g : Int))
    (ha : 0 < len0 → a0 = some ⟨b, off, none⟩) (hd : ∀ i, d i ≤ 65535) (hc : ∀ i, i < len0 → w.cell? ⟨b, off + i, none⟩ = some (.int .u16 (d i : Int))) :
    Calls Yba.prog 4 #[.slice a0 len0 cap0, .int .u8 a1, .int .u64 tg, .bool false, .int .u16 a4, .int .u8 a5] w fun e w' => e = .returned (.bool true) ∧ Below w.heap.size w w' := by
  have h' : ¬ (1024 : Int) < (len0 : Int) := by omega
  have HB : Hid _ := build_any a0 b off len0 cap0 n q g d a1 w h ha1 hn hq hg ha hd hc
  have hn2 : n ≤ 1025 := by omega
  have hn0 : 1 ≤ n := by omega
  obtain ⟨i47, hi47, _⟩ := info_parts info47
  have hu48 : Yba.prog.underlying 48 = some (.pointer (Yba.prog.pointee 48)) := by kernel_rfl
  have e48 : ∀ (w : World) (p : Option Addr), (binOp .eql 48 (.pointer p) (.pointer none)).run Yba.prog w = .ok (.bool p.isNone) w := fun w p => run_eql_pointer_nil w 48 p hu48
  have s48 : ∀ (w : World) (a : Addr), (binOp .eql 48 (.pointer (some a)) (.pointer (some a))).run Yba.prog w = .ok (.bool true) w := fun w a => run_eql_ptr_same w a Yba.underlying48 hi47
  have n48 : ∀ (w : World) (a : Addr), (binOp .neq 48 (.pointer (some a)) (.pointer (some a))).run Yba.prog w = .ok (.bool false) w := fun w a => run_neq_ptr_same w a Yba.underlying48 hi47
  clear ha hd hc hn hq hg hu48
  go_enter Yba.func4, Yba.ntmps4
  go_wp2_with fail
  refine Calls.mono HB.out ?_
  rintro e w1 ⟨hb, T, c, blk, len, nd, nc, rfl, hT, hlen, hroot, hR, hbel⟩
  have HX : Hid (Tree w1 g n T (fun i => (Fs d i : Int)) blk len nd nc ∧ (∀ t, t ≤ T → len t ≤ 100000) ∧ w1.cell? ⟨hb, 0, none⟩ = some (.slice (some ⟨blk T, 0, none⟩) (len T) c) ∧ Below w.heap.size w w1) := ⟨hT, hlen, hroot, hbel⟩
  have HF : Hid (∀ j, j < n → w1.cell? ⟨blk 0, j * 3, none⟩ = some (.int .u64 (Fs d j : Int))) := fun j hj => by
    have := hT.first 0 j (Nat.zero_le _) (by rw [hT.len_zero]; exact hj)
    simpa using this
  obtain ⟨b0, hb0⟩ : ∃ b0, b0 = blk 0 := ⟨_, rfl⟩
  rw [← hb0]
  have H0 : Hid (b0 = blk 0) := hb0
  clear hT hlen hroot hR hbel HB hb0
  go_wp2
  go_loop [16, 17] (fun s16 s17 => ∃ k i : Nat, k < i ∧ i ≤ n ∧ s16 = .int .i64 (k : Int) ∧ s17 = .int .i64 (i : Int) ∧ Hid ((k = 0 ∨ (Fs d k : Int) ≤ tg) ∧ ∀ a, k < a → a < i → tg < (Fs d a : Int))) (fun _ s17 => n - (intOf s17).toNat)
  case atStart => exact ⟨0, 1, by omega, hn0, rfl, rfl, (⟨.inl rfl, fun a h1 h2 => by omega⟩ : (0 = 0 ∨ (Fs d 0 : Int) ≤ tg) ∧ ∀ a, 0 < a → a < 1 → tg < (Fs d a : Int))⟩
  case round =>
    obtain ⟨k, i, hki, hin, rfl, rfl, HK⟩ := hrel
    by_cases hlt : i < n
    · obtain ⟨y, hy⟩ : ∃ y : Int, y = (Fs d i : Int) := ⟨_, rfl⟩
      have c0 : w1.cell? ⟨b0, i * 3, none⟩ = some (.int .u64 y) := by rw [hy, H0.out]; exact HF.out i hlt
      have HY : Hid (y = (Fs d i : Int)) := hy
      clear hy
      by_cases hle : y ≤ tg
      · go_wp2
        go_round
        case rel => exact ⟨i, i + 1, by omega, by omega, rfl, by go_num, (⟨.inr (by rw [← HY.out]; exact hle), fun a h1 h2 => by omega⟩ : (i = 0 ∨ (Fs d i : Int) ≤ tg) ∧ ∀ a, i < a → a < i + 1 → tg < (Fs d a : Int))⟩
        case measure => simp [intOf]; omega
      · go_wp2
        go_round
        case rel => exact ⟨k, i + 1, by omega, by omega, rfl, by go_num, (⟨HK.out.1, fun a h1 h2 => (by
            by_cases e : a = i
            · rw [e, ← HY.out]; omega
            · exact HK.out.2 a h1 (by omega))⟩ : (k = 0 ∨ (Fs d k : Int) ≤ tg) ∧ ∀ a, k < a → a < i + 1 → tg < (Fs d a : Int))⟩
        case measure => simp [intOf]; omega
    · have hlt' : ¬ (i : Int) < (n : Int) := by omega
      have hfalls : Falls n (fun i => (Fs d i : Int)) (tg) k := ⟨by omega, HK.out.1, fun a h1 h2 => HK.out.2 a h1 (by omega)⟩
      have HC : Hid _ := chunkOf_any hb c k (tg) w1 HX.out.1 HX.out.2.1 HX.out.2.2.1 hfalls
      have hkn : k < n := by omega
      clear hfalls HK
      go_wp2_with fail
      refine Calls.mono HC.out ?_
      rintro e w2 ⟨nx, rfl, hnx, hbel2⟩
      have HE : Hid (Below w.heap.size w w2) := HX.out.2.2.2.trans (hbel2.mono HX.out.2.2.2.size)
      rw [← H0.out] at hnx ⊢
      clear hbel2 HC hlt'
      rcases hnx with ⟨h1, rfl⟩ | ⟨h1, rfl⟩
      · have hk1 : (k : Int) + 1 < (n : Int) := by omega
        go_wp2
        go_ret
        exact ⟨rfl, HE.out⟩
      · have hk1 : ¬ (k : Int) + 1 < (n : Int) := by omega
        go_wp2
        go_ret
        exact ⟨rfl, HE.out⟩

set_option maxRecDepth 100000 in
set_option maxHeartbeats 3200000 in
theorem walk_aim (a0 : Option Addr) (b off len0 cap0 n q g : Nat) (d : Nat → Nat) (a1 tg0 : Int) (pk o o3 p : Nat) (w : World) (h : len0 ≤ 1024) (ha1 : 0 ≤ a1 ∧ a1 ≤ 255) (hn : (len0 : Int) + 1 = (n : Int)) (hq : a1 % 3 = (q : Int)) (hg : 2 + (q : Int) = (g : Int))
    (hpk : pk ≤ 65535) (ho : o ≤ 255) (ho3 : (o : Int) % 3 = (o3 : Int)) (hp : (pk : Int) % (n : Int) = (p : Int))
    (ha : 0 < len0 → a0 = some ⟨b, off, none⟩) (hd : ∀ i, d i ≤ 65535) (hc : ∀ i, i < len0 → w.cell? ⟨b, off + i, none⟩ = some (.int .u16 (d i : Int))) :
    Calls Yba.prog 4 #[.slice a0 len0 cap0, .int .u8 a1, .int .u64 tg0, .bool true, .int .u16 (pk : Int), .int .u8 (o : Int)] w fun e w' => e = .returned (.bool true) ∧ Below w.heap.size w w' := by
  have h' : ¬ (1024 : Int) < (len0 : Int) := by omega
  have HB : Hid _ := build_any a0 b off len0 cap0 n q g d a1 w h ha1 hn hq hg ha hd hc
  have hn2 : n ≤ 1025 := by omega
  have hn0 : 1 ≤ n := by omega
  obtain ⟨i47, hi47, _⟩ := info_parts info47
  have hu48 : Yba.prog.underlying 48 = some (.pointer (Yba.prog.pointee 48)) := by kernel_rfl
  have e48 : ∀ (w : World) (p : Option Addr), (binOp .eql 48 (.pointer p) (.pointer none)).run Yba.prog w = .ok (.bool p.isNone) w := fun w p => run_eql_pointer_nil w 48 p hu48
  have s48 : ∀ (w : World) (a : Addr), (binOp .eql 48 (.pointer (some a)) (.pointer (some a))).run Yba.prog w = .ok (.bool true) w := fun w a => run_eql_ptr_same w a Yba.underlying48 hi47
  have n48 : ∀ (w : World) (a : Addr), (binOp .neq 48 (.pointer (some a)) (.pointer (some a))).run Yba.prog w = .ok (.bool false) w := fun w a => run_neq_ptr_same w a Yba.underlying48 hi47
  clear ha hc hn hq hg hu48
  go_enter Yba.func4, Yba.ntmps4
  go_wp2_with fail
  refine Calls.mono HB.out ?_
  rintro e w1 ⟨hb, T, c, blk, len, nd, nc, rfl, hT, hlen, hroot, hR, hbel⟩
  have HX : Hid (Tree w1 g n T (fun i => (Fs d i : Int)) blk len nd nc ∧ (∀ t, t ≤ T → len t ≤ 100000) ∧ w1.cell? ⟨hb, 0, none⟩ = some (.slice (some ⟨blk T, 0, none⟩) (len T) c) ∧ Below w.heap.size w w1) := ⟨hT, hlen, hroot, hbel⟩
  have HF : Hid (∀ j, j < n → w1.cell? ⟨blk 0, j * 3, none⟩ = some (.int .u64 (Fs d j : Int))) := fun j hj => by
    have := hT.first 0 j (Nat.zero_le _) (by rw [hT.len_zero]; exact hj)
    simpa using this
  obtain ⟨b0, hb0⟩ : ∃ b0, b0 = blk 0 := ⟨_, rfl⟩
  rw [← hb0]
  have H0 : Hid (b0 = blk 0) := hb0
  clear hT hlen hroot hR hbel HB hb0
  have hpn : p < n := by have := Int.emod_lt_of_pos (pk : Int) (show (0 : Int) < (n : Int) by omega); omega
  have hn0' : (0 : Int) < (n : Int) := by omega
  obtain ⟨y, hy⟩ : ∃ y : Nat, y = Fs d p := ⟨_, rfl⟩
  have c0 : w1.cell? ⟨b0, p * 3, none⟩ = some (.int .u64 (y : Int)) := by rw [hy, H0.out]; exact HF.out p hpn
  have hyl : y ≤ 1025 * 65536 := by
    have h1 := Fs_le d hd p
    omega
  clear hy hd
  go_wp2
  clear hp ho3 c0 hyl hpn
  generalize IntKind.u64.wrap ((y : Int) + (o3 : Int) - 1) = tg
  go_loop [16, 17] (fun s16 s17 => ∃ k i : Nat, k < i ∧ i ≤ n ∧ s16 = .int .i64 (k : Int) ∧ s17 = .int .i64 (i : Int) ∧ Hid ((k = 0 ∨ (Fs d k : Int) ≤ tg) ∧ ∀ a, k < a → a < i → tg < (Fs d a : Int))) (fun _ s17 => n - (intOf s17).toNat)
  case atStart => exact ⟨0, 1, by omega, hn0, rfl, rfl, (⟨.inl rfl, fun a h1 h2 => by omega⟩ : (0 = 0 ∨ (Fs d 0 : Int) ≤ tg) ∧ ∀ a, 0 < a → a < 1 → tg < (Fs d a : Int))⟩
  case round =>
    obtain ⟨k, i, hki, hin, rfl, rfl, HK⟩ := hrel
    by_cases hlt : i < n
    · obtain ⟨y, hy⟩ : ∃ y : Int, y = (Fs d i : Int) := ⟨_, rfl⟩
      have c0 : w1.cell? ⟨b0, i * 3, none⟩ = some (.int .u64 y) := by rw [hy, H0.out]; exact HF.out i hlt
      have HY : Hid (y = (Fs d i : Int)) := hy
      clear hy
      by_cases hle : y ≤ tg
      · go_wp2
        go_round
        case rel => exact ⟨i, i + 1, by omega, by omega, rfl, by go_num, (⟨.inr (by rw [← HY.out]; exact hle), fun a h1 h2 => by omega⟩ : (i = 0 ∨ (Fs d i : Int) ≤ tg) ∧ ∀ a, i < a → a < i + 1 → tg < (Fs d a : Int))⟩
        case measure => simp [intOf]; omega
      · go_wp2
        go_round
        case rel => exact ⟨k, i + 1, by omega, by omega, rfl, by go_num, (⟨HK.out.1, fun a h1 h2 => (by
            by_cases e : a = i
            · rw [e, ← HY.out]; omega
            · exact HK.out.2 a h1 (by omega))⟩ : (k = 0 ∨ (Fs d k : Int) ≤ tg) ∧ ∀ a, k < a → a < i + 1 → tg < (Fs d a : Int))⟩
        case measure => simp [intOf]; omega
    · have hlt' : ¬ (i : Int) < (n : Int) := by omega
      have hfalls : Falls n (fun i => (Fs d i : Int)) (tg) k := ⟨by omega, HK.out.1, fun a h1 h2 => HK.out.2 a h1 (by omega)⟩
      have HC : Hid _ := chunkOf_any hb c k (tg) w1 HX.out.1 HX.out.2.1 HX.out.2.2.1 hfalls
      have hkn : k < n := by omega
      clear hfalls HK
      go_wp2_with fail
      refine Calls.mono HC.out ?_
      rintro e w2 ⟨nx, rfl, hnx, hbel2⟩
      have HE : Hid (Below w.heap.size w w2) := HX.out.2.2.2.trans (hbel2.mono HX.out.2.2.2.size)
      rw [← H0.out] at hnx ⊢
      clear hbel2 HC hlt'
      rcases hnx with ⟨h1, rfl⟩ | ⟨h1, rfl⟩
      · have hk1 : (k : Int) + 1 < (n : Int) := by omega
        go_wp2
        go_ret
        exact ⟨rfl, HE.out⟩
      · have hk1 : ¬ (k : Int) + 1 < (n : Int) := by omega
        go_wp2
        go_ret
        exact ⟨rfl, HE.out⟩
end Go.Proofs.Ybulkbpjo.finds
