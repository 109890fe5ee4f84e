/-
  CONTRACTS: encoding/hex.Encode, EncodeToString, prefixedhex.Encode, zzs3303ahex.
-/
import Derived.Test.YbulkbpjoRows
import Derived.WalkKit
import Derived.WalkSpells
import Derived.WalkLawsBesides
import Derived.Below
import Derived.Deep.OwnRows
import Derived.Deep.RegionHeld3
import Derived.Deep.AppendLies
import Derived.Lib.HexFns
import Derived.Laws.Strings3
import Derived.Lib.Strings
import Derived.Laws.BitsAllLaws
import Derived.Deep.LoopGhost
namespace Go.Proofs.Ybulkbpjo
open Go.RowKit Go.Deep Go.Lib
set_option linter.unusedVariables false

theorem info5 : (Yba.prog.info? 5).map (fun i => (i.zero, i.size, i.bytes)) = some (some (.int .u8 0), 1, 1) := by kernel_rfl

/-- The two digits of a byte. -/
def DH (x : Int) : Int := ((Hx.digit ((UInt8.ofNat x.toNat).toNat / 16)).toNat : Int)
def DL (x : Int) : Int := ((Hx.digit ((UInt8.ofNat x.toNat).toNat % 16)).toNat : Int)

/-- The digits of the first k bytes. -/
def hexL (f : Nat → Int) : Nat → List Int
  | 0 => []
  | k + 1 => hexL f k ++ [DH (f k), DL (f k)]
theorem hexL_length (f : Nat → Int) (k : Nat) : (hexL f k).length = 2 * k := by
  induction k with
  | zero => rfl
  | succ k ih => simp [hexL, ih]; omega
theorem hexL_step (f : Nat → Int) (k j : Nat) : (if j = 2 * k + 1 then DL (f k) else if j = 2 * k then DH (f k) else (hexL f k).getD j 0) = (hexL f (k + 1)).getD j 0 := by
  have hl := hexL_length f k
  rw [hexL, List.getD_eq_getElem?_getD, List.getD_eq_getElem?_getD]
  by_cases h1 : j = 2 * k + 1
  · rw [if_pos h1, List.getElem?_append_right (by omega), hl, show j - 2 * k = 1 by omega]; rfl
  · rw [if_neg h1]
    by_cases h2 : j = 2 * k
    · rw [if_pos h2, List.getElem?_append_right (by omega), hl, show j - 2 * k = 0 by omega]; rfl
    · rw [if_neg h2]
      by_cases h3 : j < 2 * k
      · rw [List.getElem?_append_left (by omega)]
      · rw [List.getElem?_eq_none (by omega), List.getElem?_eq_none (by simp; omega)]

/-- What is known of a slice of bytes that is not nil. -/
structure BIn (w : World) (a : Option Addr) (b off n : Nat) (f : Nat → Int) : Prop where
  addr : 0 < n → a = some ⟨b, off, none⟩
  cell : ∀ j, j < n → w.cell? ⟨b, off + j, none⟩ = some (.int .u8 (f j))
  bound : ∀ j, 0 ≤ f j ∧ f j < 256
theorem BIn.later {w w' : World} {a : Option Addr} {b off n : Nat} {f : Nat → Int} (h : BIn w a b off n f) (hb : Below w.heap.size w w') : BIn w' a b off n f :=
  ⟨h.addr, fun j hj => (hb.cell (p := ⟨b, off + j, none⟩) (World.block_lt_of_cell? w _ (h.cell j hj))).trans (h.cell j hj), h.bound⟩
theorem BIn.later' {w w' : World} {a : Option Addr} {b off n : Nat} {f : Nat → Int} {B : Nat} (h : BIn w a b off n f) (hb : Below B w w') (hB : 0 < n → b < B) : BIn w' a b off n f :=
  ⟨h.addr, fun j hj => (hb.cell (p := ⟨b, off + j, none⟩) (hB (by omega))).trans (h.cell j hj), h.bound⟩

set_option maxRecDepth 100000 in
set_option maxHeartbeats 2000000 in
/-- encoding/hex.Encode into a row of the call's own. -/
theorem hexEncode_any (bd : Nat) (a : Option Addr) (b off n c : Nat) (f : Nat → Int) (w : World) (hn : n ≤ 4096) (hI : BIn w a b off n f) (hrow : w.rowIs bd 5 (2 * n) (fun _ => .int .u8 0)) (hne : 0 < n → bd ≠ b) :
    Calls Yba.prog 17 #[.slice (some ⟨bd, 0, none⟩) (2 * n) (2 * n), .slice a n c] w fun e w' => e = .returned (.int .i64 ((n : Int) * 2)) ∧ w'.rowIs bd 5 (2 * n) (fun j => .int .u8 ((hexL f n).getD j 0)) ∧ w.grownBy w' (some bd) := by
  have HI : Hid (BIn w a b off n f) := hI
  clear hI
  go_enter Yba.func17, Yba.ntmps17
  go_wp2
  go_loopw [5, 10] (fun vj vi wr => ∃ k : Nat, k ≤ n ∧ vi = .int .i64 k ∧ vj = .int .i64 ((2 * k : Nat) : Int) ∧ Hid (wr.rowIs bd 5 (2 * n) (fun j => .int .u8 ((hexL f k).getD j 0))) ∧ Hid (w.grownBy wr (some bd))) (fun _ vi _ => n - (RowKit.intOf vi).toNat)
  case atStart => exact ⟨0, Nat.zero_le _, rfl, rfl, hrow.congr (fun j _ => by simp [hexL]), Hx.grownBy_refl _ _⟩
  case round =>
    obtain ⟨k, hk, rfl, rfl, hrw, hgr⟩ := hrel
    by_cases hlt : k < n
    · obtain rfl := HI.out.addr (by omega)
      obtain ⟨x, hxk⟩ : ∃ x, x = f k := ⟨_, rfl⟩
      have hcx : wr.cell? ⟨b, off + k, none⟩ = some (.int .u8 x) := by rw [hxk]; exact hgr.out.cell (HI.out.cell k hlt) (by simp; exact fun e => hne (by omega) e.symm)
      have hx0 : 0 ≤ x := by rw [hxk]; exact (HI.out.bound k).1
      have hx1 : x < 256 := by rw [hxk]; exact (HI.out.bound k).2
      have HX : Hid (x = f k) := hxk
      clear hxk
      have hf1 : wr.frozen? ⟨bd, 2 * k, none⟩ = false := hrw.out.frozen _
      have hc1 : wr.cell? ⟨bd, 2 * k, none⟩ = some (.int .u8 ((hexL f k).getD (2 * k) 0)) := hrw.out.cell (by omega)
      have hf2 : ∀ v, (wr.setCell ⟨bd, 2 * k, none⟩ v).frozen? ⟨bd, 2 * k + 1, none⟩ = false := fun v => (hrw.out.set _ v).frozen _
      have hc2 : ∀ v, (wr.setCell ⟨bd, 2 * k, none⟩ v).cell? ⟨bd, 2 * k + 1, none⟩ = some (.int .u8 ((hexL f k).getD (2 * k + 1) 0)) := fun v => by
        have := (hrw.out.set (2 * k) v).cell (i := 2 * k + 1) (by omega)
        rwa [if_neg (by omega)] at this
      go_wp2
      go_roundw
      case rel =>
        refine ⟨k + 1, by omega, by go_num, by first | go_num | (congr 1; omega), ((hrw.out.set _ _).set _ _).congr (fun j _ => ?_), Hx.grownBy_set (Hx.grownBy_set hgr.out _ rfl _) _ rfl _⟩
        have e1 := Hx.dig_hi x hx0 hx1 (by show _ < 16; omega)
        have e2 := Hx.dig_lo x hx0 hx1 (by show _ < 16; omega)
        have e3 := hexL_step f k j
        rw [← HX.out] at e3
        unfold DH DL at e3
        rw [← e1, ← e2] at e3
        rw [← e3]
        by_cases h1 : j = 2 * k + 1
        · rw [if_pos h1, if_pos h1]; rfl
        · rw [if_neg h1, if_neg h1]
          by_cases h2 : j = 2 * k
          · rw [if_pos h2, if_pos h2]; rfl
          · rw [if_neg h2, if_neg h2]
      case measure => simp [RowKit.intOf]; omega
    · obtain rfl : n = k := by omega
      go_wp2
      go_ret
      exact ⟨rfl, hrw.out, hgr.out⟩

set_option maxRecDepth 100000 in
set_option maxHeartbeats 2000000 in
/-- encoding/hex.EncodeToString. -/
theorem hexString_any (a : Option Addr) (b off n c : Nat) (f : Nat → Int) (w : World) (hn : n ≤ 4096) (hI : BIn w a b off n f) :
    Calls Yba.prog 13 #[.slice a n c] w fun e w' => e = .returned (.string (strOfNums (hexL f n))) ∧ Below w.heap.size w w' := by
  have hmk : ∀ w : World, (Instr.makeSlice 23 (.int .i64 ((n : Int) * 2)) (.int .i64 ((n : Int) * 2))).run Yba.prog w = .ok (.slice (some ⟨w.heap.size, 0, none⟩) (2 * n) (2 * n)) (w.alloc (.cells (madeCells #[.int .u8 0] (2 * n)) 5)) := fun w => by
    have h := run_make_row' (P := Yba.prog) 23 5 (.int .u8 0) 1 Yba.underlying23 info5 rfl .i64 .i64 (2 * n) (by omega) (by omega) w
    rwa [show ((2 * n : Nat) : Int) = (n : Int) * 2 by omega] at h
  have B0 : Below w.heap.size w (w.alloc (.cells (madeCells #[.int .u8 0] (2 * n)) 5)) := (Below.refl _ _).alloc (Nat.le_refl _) _
  have HE : Hid _ := hexEncode_any w.heap.size a b off n c f (w.alloc (.cells (madeCells #[.int .u8 0] (2 * n)) 5)) hn (hI.later B0) (World.rowIs_made w _ _ _) (fun h => by have := World.block_lt_of_cell? w _ (hI.cell 0 h); simp at this; omega)
  have HB : Hid (Below w.heap.size w (w.alloc (.cells (madeCells #[.int .u8 0] (2 * n)) 5))) := B0
  clear hI B0
  go_enter Yba.func13, Yba.ntmps13
  go_wp2_with (first | (go_at_call 16; go_in))
  refine Calls.mono HE.out ?_
  rintro e w2 ⟨rfl, hrow', hgrow⟩
  have g := run_convert_bytes_arg (P := Yba.prog) w2 23 5 Yba.underlying23 Yba.underlying5 w.heap.size 0 (2 * n) (2 * n) (hexL f n) (hexL_length f n) (fun i hi => by rw [Nat.zero_add, hrow'.cell hi]) 9 Yba.underlying9
  have HG : Hid ((w.alloc (.cells (madeCells #[.int .u8 0] (2 * n)) 5)).grownBy w2 (some w.heap.size)) := hgrow
  clear hrow' hgrow
  go_wp2
  go_ret
  exact ⟨rfl, HB.out.grown HG.out (by simp) (fun k hk => by cases hk; exact Nat.le_refl _)⟩

/-- The string of n bytes: 0x and two digits a byte. -/
def hexS (f : Nat → Int) (n : Nat) : ByteArray := strOfNums ([48, 120] ++ hexL f n)

theorem app_0x (f : Nat → Int) (n : Nat) : (⟨#[48, 120]⟩ : ByteArray) ++ strOfNums (hexL f n) = hexS f n := by
  apply ByteArray.ext
  simp [hexS, strOfNums]
theorem ret_str {s t : ByteArray} (h : s = t) : Ending.returned (.string s) = .returned (.string t) := by rw [h]

set_option maxRecDepth 100000 in
set_option maxHeartbeats 2000000 in
/-- prefixedhex.Encode. -/
theorem encode_any (a : Option Addr) (b off n c : Nat) (f : Nat → Int) (w : World) (hn : n ≤ 4096) (hI : BIn w a b off n f) :
    Calls Yba.prog 10 #[.slice a n c] w fun e w' => e = .returned (.string (hexS f n)) ∧ Below w.heap.size w w' := by
  have HE : Hid _ := hexString_any a b off n c f w hn hI
  have hsz : (strOfNums (hexL f n)).size ≤ 8192 := by rw [strOfNums_size, hexL_length]; omega
  clear hI
  go_enter Yba.func10, Yba.ntmps10
  go_wp2_with fail
  refine Calls.mono HE.out ?_
  rintro e w2 ⟨rfl, hb⟩
  go_wp2
  go_ret
  exact ⟨ret_str (app_0x f n), hb⟩

theorem and_15 (x : Int) (h0 : 0 ≤ x) (h1 : x < 256) : bits .and .u8 x 15 = x % 16 := by
  rw [u8_and x 15 h0 h1 (by omega) (by omega)]
  have h := Nat.and_two_pow_sub_one_eq_mod x.toNat 4
  rw [show (15 : Int).toNat = 2 ^ 4 - 1 from rfl, h]
  omega

theorem cells_hex (f : Nat → Int) (k : Nat) : ((([48, 120] ++ hexL f k).map (Value.int .u8)) ++ [.int .u8 (DH (f k)), .int .u8 (DL (f k))] : List Value) = ([48, 120] ++ hexL f (k + 1)).map (Value.int .u8) := by
  simp [hexL]

set_option maxRecDepth 100000 in
set_option maxHeartbeats 2000000 in
/-- zzs3303ahex: the same string. -/
theorem ahex_any (a : Option Addr) (b off n c : Nat) (f : Nat → Int) (w : World) (hn : n ≤ 4096) (hI : BIn w a b off n f) :
    Calls Yba.prog 11 #[.slice a n c] w fun e w' => e = .returned (.string (hexS f n)) ∧ Below w.heap.size w w' := by
  have HI : Hid (BIn w a b off n f) := hI
  obtain ⟨i0, hi0, hz0, hz1, hz2⟩ := info_parts info5
  clear hI
  go_enter Yba.func11, Yba.ntmps11
  go_wp2_with (first
    | (at_make; refine wpList_make_own _ rfl _ _ 23 rfl w.heap.size 5 i0 _ 1 Yba.underlying23 hi0 hz0 hz1 _ _ _ (2 + 2 * n) rfl rfl (by omega) (by rw [hz2]; omega) (by unfold maxLen; omega) (Nat.le_refl _) ?_))
  intro w1 hown0 hgrow0
  have hbel0 : Below w.heap.size w w1 := (Below.refl _ _).grown hgrow0 (Nat.le_refl _) (fun k hk => by cases hk)
  have HO : Hid (w1.ownsRow w.heap.size 5 1 (.slice (some ⟨w.heap.size, 0, none⟩) 0 (2 + 2 * n)) 0 []) := hown0
  have HB : Hid (Below w.heap.size w w1) := hbel0
  have hsz0 := hbel0.size
  clear hown0 hgrow0 hbel0
  go_wp2_with (at_builtin; refine wpList_append_own _ rfl _ _ 23 rfl w.heap.size 5 i0 (.int .u8 0) 1 1 Yba.underlying23 hi0 hz0 hz1 hz2 rfl (by decide) _ _ _ rfl (HO.out.alloc _) ⟨w1.heap.size, 0, none⟩ 2 2 [.int .u8 48, .int .u8 120] rfl rfl (cell_two_new w1 _ _ _) (by simp [Value.oneCell']) (by unfold maxLen; omega) (by omega) (by simp; omega) ?_)
  intro v2 w2 hown2 hgrow2 _
  have hbel2 : Below w.heap.size w w2 := (HB.out.alloc hsz0 _).grown hgrow2 (by simp; omega) (fun k hk => by simp [Value.ownBlock] at hk; omega)
  have HO2 : Hid (w2.ownsRow w.heap.size 5 1 v2 (2 + 2 * 0) (([48, 120] ++ hexL f 0).map (Value.int .u8))) := hown2
  have HB2 : Hid (Below w.heap.size w w2) := hbel2
  clear hown2 hgrow2 hbel2 HO HB
  go_wp2
  go_loopg [3, 4] n (fun gk v s4 wx => ∃ k : Nat, k ≤ n ∧ n - k ≤ gk ∧ s4 = .int .i64 (k : Int) ∧ wx.ownsRow w.heap.size 5 1 v (2 + 2 * k) (([48, 120] ++ hexL f k).map (Value.int .u8)) ∧ Below w.heap.size w wx)
  case atStart => exact ⟨0, Nat.zero_le _, Nat.le_refl _, rfl, HO2.out, HB2.out⟩
  case round =>
    clear HO2 HB2
    obtain ⟨k, hk, hgk, rfl, hown, hbel⟩ := hrel
    obtain ⟨g, cap, hv, hgl, hgs⟩ := hown.form (by omega)
    subst hv
    by_cases hlt : k < n
    · obtain rfl := HI.out.addr (by omega)
      obtain ⟨x, hxk⟩ : ∃ x, x = f k := ⟨_, rfl⟩
      have hbl : b < w.heap.size := World.block_lt_of_cell? w _ (HI.out.cell k hlt)
      have hcx : wr.cell? ⟨b, off + k, none⟩ = some (.int .u8 x) := by rw [hxk]; exact (hbel.cell (p := ⟨b, off + k, none⟩) hbl).trans (HI.out.cell k hlt)
      have hx0 : 0 ≤ x := by rw [hxk]; exact (HI.out.bound k).1
      have hx1 : x < 256 := by rw [hxk]; exact (HI.out.bound k).2
      have HX : Hid (x = f k) := hxk
      have HO : Hid (wr.ownsRow w.heap.size 5 1 (.slice (some ⟨g, 0, none⟩) (2 + 2 * k) cap) (2 + 2 * k) (([48, 120] ++ hexL f k).map (Value.int .u8)) ∧ Below w.heap.size w wr) := ⟨hown, hbel⟩
      have hsz := hbel.size
      clear hxk hown hbel
      have hk0 : (0 : Int) ≤ (k : Int) := by omega
      have hk1 : (k : Int) < (n : Int) := by omega
      have d0 : 0 ≤ x / 16 := by omega
      have d1 : x / 16 < 16 := by omega
      have d2 : 0 ≤ x % 16 := by omega
      have d3 : x % 16 < 16 := by omega
      have ha15 := and_15 x hx0 hx1
      have e1 : ∀ h, ((({ data := #[48, 49, 50, 51, 52, 53, 54, 55, 56, 57, 97, 98, 99, 100, 101, 102] } : ByteArray)[(x / 16).toNat]'h).toNat : Int) = DH x := fun h => Hx.dig_hi x hx0 hx1 h
      have e2 : ∀ h, ((({ data := #[48, 49, 50, 51, 52, 53, 54, 55, 56, 57, 97, 98, 99, 100, 101, 102] } : ByteArray)[(x % 16).toNat]'h).toNat : Int) = DL x := fun h => Hx.dig_lo x hx0 hx1 h
      go_wp2_with fail
      go_region_held3 (fun w' => w'.cell? ⟨b, off + k, none⟩ = some (.int .u8 x))
        (first
          | go_keep
          | (rw [hgrow.cell_far _ (by simp; omega) (by simp [Value.ownBlock]; omega)]; assumption))
        ((refine step_append_lies _ (by rfl) _ _ _ (by rfl) w.heap.size 5 i0 _ 1 1 Yba.underlying23 hi0 hz0 hz1 hz2 rfl (by omega) (.slice (some ⟨g, 0, none⟩) (2 + 2 * k) cap) (2 + 2 * k) _ (by rfl) ((HO.out.1.alloc _).drew)
            ⟨wr.heap.size, 0, none⟩ 2 2 [.int .u8 (DH x), .int .u8 (DL x)] (by rfl) (by rfl) (World.news_of_block (cs := #[.int .u8 (DH x), .int .u8 (DL x)]) (t := 5) (fr := (0, 0)) (heap_alloc_new wr _)) (by simp [Value.oneCell'])
            (by omega) (by unfold maxLen; omega) (by omega) (by simp; omega) (wr.heap.size + 1) (by simp) ?_; intro g1 cap1 w2 hown1 hgrow hat hlt1))
      all_goals
        have HS : Hid (w2.ownsRow w.heap.size 5 1 (.slice (some ⟨g1, 0, none⟩) (2 + 2 * k + 2) cap1) (2 + 2 * (k + 1)) (([48, 120] ++ hexL f (k + 1)).map (Value.int .u8)) ∧ Below w.heap.size w w2) := by
          refine ⟨?_, ((HO.out.2.alloc hsz _).drew).grown hgrow (by simp; omega) (fun q hq => by simp [Value.ownBlock] at hq; omega)⟩
          rw [← cells_hex, ← HX.out]
          exact hown1
        clear hown1 hgrow hat hlt1 HO HX hcx
        go_wp2
        go_roundg (gk - 1)
        case measure => omega
        case rel => exact ⟨k + 1, by omega, by omega, by go_num, HS.out.1, HS.out.2⟩
    · obtain rfl : n = k := by omega
      have hcv := run_convert_bytes_arg (P := Yba.prog) wr 23 5 Yba.underlying23 Yba.underlying5 g 0 (2 + 2 * n) cap ([48, 120] ++ hexL f n) (by simp [hexL_length]; omega) (fun i hi => by
        have h1 := hown.cellAt i (by omega)
        rw [Nat.zero_add, h1, List.getElem?_map, List.getD_eq_getElem?_getD]
        have hl : i < ([48, 120] ++ hexL f n).length := by simp [hexL_length]; omega
        rw [List.getElem?_eq_getElem hl]
        rfl) 9 Yba.underlying9
      have HB : Hid (Below w.heap.size w wr) := hbel
      clear hown hbel
      go_wp2
      go_ret
      exact ⟨rfl, HB.out⟩
end Go.Proofs.Ybulkbpjo
