/-
  CONTRACT: zzs3303bbuild.
-/
import Derived.Test.YbulkbpjoBuild
namespace Go.Proofs.Ybulkbpjo
open Go.RowKit Go.Deep
set_option linter.unusedVariables false

/-- What build hands back: the history and the leaves, which are the tree's own. -/
def Built (w w' : World) (e : Ending) (g n : Nat) (d : Nat → Nat) : Prop :=
  ∃ (hb T c : Nat) (blk len : Nat → Nat) (nd nc : Nat → Nat → Nat), e = .returned (.tuple #[.pointer (some ⟨hb, 0, none⟩), .slice (some ⟨blk 0, 0, none⟩) n n]) ∧ Tree w' g n T (fun i => (Fs d i : Int)) blk len nd nc ∧ (∀ t, t ≤ T → len t ≤ 100000) ∧
    w'.cell? ⟨hb, 0, none⟩ = some (.slice (some ⟨blk T, 0, none⟩) (len T) c) ∧ (∃ N f, w'.rowIs (blk 0) 47 N f) ∧ Below w.heap.size w w'

theorem ret_hist {b0 b1 n : Nat} {p : Value} (h : b1 = b0) : Ending.returned (.tuple #[p, .slice (some ⟨b0, 0, none⟩) n n]) = .returned (.tuple #[p, .slice (some ⟨b1, 0, none⟩) n n]) := by rw [h]
theorem zl_eq {j g x m z : Nat} (hx : x = j * g) (hz : (z = x + g ∧ x + g ≤ m) ∨ (z = m ∧ m < x + g)) : z - x = min ((j + 1) * g) m - j * g := by
  have e : (j + 1) * g = x + g := by rw [Nat.add_mul, ← hx]; omega
  rw [e, ← hx]
  omega
theorem two_new (w : World) (o1 o2 : Obj) : ((w.alloc o1).alloc o2).drew.heap[w.heap.size + 1]? = some o2 := by
  have h := blk_alloc_new (w.alloc o1) o2
  rw [nblk_alloc] at h
  exact h

set_option maxRecDepth 100000 in
set_option maxHeartbeats 3200000 in
theorem build_any (a0 : Option Addr) (b off len0 cap0 n q g : Nat) (d : Nat → Nat) (a1 : Int) (w : World) (h : len0 ≤ 1024) (ha1 : 0 ≤ a1 ∧ a1 ≤ 255) (hn : (len0 : Int) + 1 = (n : Int)) (hq : a1 % 3 = (q : Int)) (hg : 2 + (q : Int) = (g : Int))
    (ha : 0 < len0 → a0 = some ⟨b, off, none⟩) (hd : ∀ i, d i ≤ 65535) (hc : ∀ i, i < len0 → w.cell? ⟨b, off + i, none⟩ = some (.int .u16 (d i : Int))) :
    Calls Yba.prog 8 #[.slice a0 len0 cap0, .int .u8 a1] w fun e w' => Built w w' e g n d := by
  have hn1 : n = len0 + 1 := by omega
  have hn2 : n ≤ 1025 := by omega
  have hn0 : 1 ≤ n := by omega
  have hg2 : 2 ≤ g := by omega
  have hg4 : g ≤ 4 := by omega
  have H1 : Hid (n = len0 + 1) := hn1
  obtain ⟨i0, hi0, hz0, hz1, hz2⟩ := info_parts info47
  clear hn1
  go_enter Yba.func8, Yba.ntmps8
  go_wp2_with (at_make; refine wpList_make_leaves rfl _ _ rfl _ _ _ _ n rfl rfl (by omega) (by omega) (by omega) ?_)
  intro w1 R0 B0 hsz
  obtain ⟨b0, hb0⟩ : ∃ b0, b0 = w.heap.size := ⟨_, rfl⟩
  rw [← hb0] at R0 ⊢
  have HB : Hid (b0 = w.heap.size) := hb0
  clear hb0 hsz
  go_wp2
  go_loopw [8, 9] (fun s8 s9 wr => ∃ x : Nat, x + 1 ≤ n ∧ s9 = .int .i64 ((x : Int) + 1) ∧ s8 = .int .u64 (Fs d x : Int) ∧ wr.rowIs b0 47 (n * 3) (lcell (upTo d (x + 1))) ∧ Below w.heap.size w wr) (fun _ s9 _ => n + 1 - (intOf s9).toNat)
  case atStart => exact ⟨0, hn0, rfl, rfl, R0.congr (fun j _ => by
      unfold lcell upTo
      split
      · by_cases e : j / 3 < 0 + 1
        · rw [if_pos e, show j / 3 = 0 by omega]; rfl
        · rw [if_neg e]
      · rfl), B0⟩
  case round =>
    clear R0 B0
    obtain ⟨x, hx, rfl, rfl, R0, B0⟩ := hrel
    by_cases hlt : x + 1 < n
    · obtain rfl := ha (by have := H1.out; omega)
      have hxl : x < len0 := by have := H1.out; omega
      obtain ⟨v, hv⟩ : ∃ v, v = d x := ⟨_, rfl⟩
      obtain ⟨y, hy⟩ : ∃ y, y = Fs d x := ⟨_, rfl⟩
      have hvl : v ≤ 65535 := by rw [hv]; exact hd x
      have hyl : y ≤ 1025 * 65536 := by have := Fs_le d hd x; omega
      have hb := World.block_lt_of_cell? w _ (hc x hxl)
      have c0 : wr.cell? ⟨b, off + x, none⟩ = some (.int .u16 (v : Int)) := by rw [hv]; exact (B0.cell (p := ⟨b, off + x, none⟩) hb).trans (hc x hxl)
      have c1 := R0.cell (i := (x + 1) * 3) (by omega)
      have f1 := R0.frozen ((x + 1) * 3)
      have hFs : Hid ((y : Int) + ((v : Int) + 1) = (Fs d (x + 1) : Int)) := by
        show _ = _
        simp only [Fs]; rw [← hv, ← hy]; omega
      have R0' : (wr.setCell ⟨b0, (x + 1) * 3, none⟩ (.int .u64 ((y : Int) + ((v : Int) + 1)))).rowIs b0 47 (n * 3) (lcell (upTo d (x + 1 + 1))) := (R0.set ((x + 1) * 3) _).congr (fun j _ => by
        rw [hFs.out]; exact lcell_set d (x + 1) j)
      have B0' := B0.setCell (p := ⟨b0, (x + 1) * 3, none⟩) (by show w.heap.size ≤ b0; rw [HB.out]; exact Nat.le_refl _) (.int .u64 ((y : Int) + ((v : Int) + 1)))
      have HR : Hid (wr.rowIs b0 47 (n * 3) (lcell (upTo d (x + 1)))) := R0
      rw [← hy]
      clear hv hy R0 B0 HR hc
      simp only [lcell] at c1
      rw [if_pos (by omega)] at c1
      have hx1 : (0 : Int) ≤ (x : Int) + 1 := by omega
      have hx2 : (x : Int) + 1 < (n : Int) := by omega
      go_wp2
      go_roundw
      case rel => exact ⟨x + 1, by omega, by go_num, by rw [← hFs.out], R0', B0'⟩
      case measure => simp [intOf]; omega
    · have hx3 : ¬ (x : Int) + 1 < (n : Int) := by omega
      have R1 : wr.rowIs b0 47 (n * 3) (lcell (Fs d)) := R0.congr (fun j hj => by
        unfold lcell upTo
        split
        · rw [if_pos (by omega)]
        · rfl)
      have T0 := leaves_tree hg2 hn0 R1
      have HR : Hid (∃ N f, wr.rowIs b0 47 N f) := ⟨_, _, R1⟩
      clear R0 hc ha R1
      go_wp2
      clear hn hq hg hx3 hlt hx
      go_loopg [11] n (fun gk lv wx => ∃ t m c blk len nd nc, m ≤ gk ∧ lv = .slice (some ⟨blk t, 0, none⟩) m c ∧ m ≤ c ∧ m ≤ 1025 ∧ m = len t ∧ blk 0 = b0 ∧ Tree wx g n t (fun i => (Fs d i : Int)) blk len nd nc ∧ (∀ s, s ≤ t → len s ≤ 100000) ∧ (∃ N f, wx.rowIs b0 47 N f) ∧ Below w.heap.size w wx)
      case atStart => exact ⟨0, n, n, fun _ => b0, fun _ => n, _, _, Nat.le_refl _, rfl, Nat.le_refl _, hn2, rfl, rfl, T0, fun _ _ => by show n ≤ 100000; omega, HR.out, B0⟩
      case round =>
        clear T0 HR B0
        obtain ⟨GK, hGK⟩ : ∃ GK, GK = gk := ⟨_, rfl⟩
        obtain ⟨t, m, c, blk, len, nd, nc, hgk, rfl, hmc, hm, hml, hb0, hT, hlen, hR, hB⟩ := hrel
        have HT : Hid (m = len t ∧ blk 0 = b0 ∧ Tree wr g n t (fun i => (Fs d i : Int)) blk len nd nc ∧ (∀ s, s ≤ t → len s ≤ 100000) ∧ (∃ N f, wr.rowIs b0 47 N f) ∧ Below w.heap.size w wr) := ⟨hml, hb0, hT, hlen, hR, hB⟩
        clear hml hb0 hT hlen hR hB
        obtain ⟨bl, hbl⟩ : ∃ bl, bl = blk t := ⟨_, rfl⟩
        rw [← hbl]
        have HL : Hid (bl = blk t) := hbl
        clear hbl
        by_cases hmg : g < m
        · have hmg' : (g : Int) < (m : Int) := by omega
          go_wp2
          clear hmg'
          obtain ⟨wt, hwt⟩ : ∃ wt, wt = wr := ⟨_, rfl⟩
          rw [← hwt] at HT ⊢
          clear hwt
          go_loopg [12, 13] (m + 1) (fun gk v s13 wx => ∃ j x nf, m - x ≤ gk ∧ x ≤ m + g ∧ s13 = .int .i64 (x : Int) ∧ x = j * g ∧ (∀ a, a < j → a * g < m) ∧ wx.ownsRow wt.heap.size 47 3 v j (pcells (fun a => (Fs d (a * g * g ^ t) : Int)) nf j) ∧
            (∀ a, a < j → wx.heap[nf a]? = some (.cells #[.slice (some ⟨bl, a * g * 3, none⟩) (min ((a + 1) * g) m - a * g) (c - a * g)] 56 (0, 0))) ∧ Below wt.heap.size wt wx)
          case atStart => exact ⟨0, 0, fun _ => 0, by omega, by omega, rfl, by omega, fun a ha => by omega, World.ownsRow_nil _ _ _ _, fun a ha => by omega, Below.refl _ _⟩
          case round =>
            obtain ⟨j, x, nf, hgx, hxm, rfl, hxj, haj, hown, hnds, hbel⟩ := hrel
            by_cases hxlt : x < m
            · have c0 : wr.cell? ⟨bl, x * 3, none⟩ = some (.int .u64 (Fs d (x * g ^ t) : Int)) := by
                have h1 := HT.out.2.2.1.first t x (Nat.le_refl _) (by rw [← HT.out.1]; exact hxlt)
                rw [← HL.out] at h1
                exact (hbel.cell (p := ⟨bl, x * 3, none⟩) (World.block_lt_of_cell? wt _ h1)).trans h1
              have hblt : bl < wt.heap.size := by
                have h1 := HT.out.2.2.1.first t x (Nat.le_refl _) (by rw [← HT.out.1]; exact hxlt)
                rw [← HL.out] at h1
                exact World.block_lt_of_cell? wt _ h1
              obtain ⟨y, hy⟩ : ∃ y : Int, y = (Fs d (x * g ^ t) : Int) := ⟨_, rfl⟩
              rw [← hy] at c0
              have HY : Hid (y = (Fs d (x * g ^ t) : Int)) := hy
              have HJ : Hid (x = j * g ∧ (∀ a, a < j → a * g < m) ∧ u12.ownBlock = u12.ownBlock ∧ wr.ownsRow wt.heap.size 47 3 u12 j (pcells (fun a => (Fs d (a * g * g ^ t) : Int)) nf j) ∧
                (∀ a, a < j → wr.heap[nf a]? = some (.cells #[.slice (some ⟨bl, a * g * 3, none⟩) (min ((a + 1) * g) m - a * g) (c - a * g)] 56 (0, 0))) ∧ Below wt.heap.size wt wr) := ⟨hxj, haj, rfl, hown, hnds, hbel⟩
              have hsz := hbel.size
              have hjl : j ≤ x := by rw [hxj]; exact Nat.le_mul_of_pos_right j (by omega)
              clear hy hxj haj hown hnds hbel
              have hx0 : (0 : Int) ≤ (x : Int) := by omega
              have hx1 : (x : Int) < (m : Int) := by omega
              obtain ⟨z, hz⟩ : ∃ z : Nat, (x : Int) + (g : Int) = (z : Int) := ⟨x + g, by omega⟩
              have ncx : ¬ c = x := by omega
              by_cases hxg : x + g ≤ m
              · have hxg1 : ¬ (m : Int) < (z : Int) := by omega
                have zx : (x : Int) ≤ (z : Int) := by omega
                have zc : (z : Int) ≤ (c : Int) := by omega
                go_wp2_with fail
                go_region_held3 (fun w' => w'.cell? ⟨bl, x * 3, none⟩ = some (.int .u64 y))
                  (first
                    | go_keep
                    | (rw [hgrow.cell_far _ (by simp; omega) (fun e => by have := HJ.out.2.2.2.1.lt bl e.symm; omega)]; assumption))
                  ((refine step_append_lies _ (by rfl) _ _ _ (by rfl) wt.heap.size 47 i0 _ 3 40 Yba.underlying42 hi0 hz0 hz1 hz2 rfl (by omega) u12 j _ (by rfl) (((HJ.out.2.2.2.1.alloc _).alloc _).drew)
                      ⟨wr.heap.size + 1, 0, none⟩ 1 1 [.int .u64 y, .slice none 0 0, .pointer (some ⟨wr.heap.size, 0, none⟩)] (by rfl) (by rfl) (World.news_of_block (cs := #[.int .u64 y, .slice none 0 0, .pointer (some ⟨wr.heap.size, 0, none⟩)]) (t := 47) (fr := (0, 0)) (two_new wr _ _)) (by simp [Value.oneCell'])
                      (by omega) (by unfold maxLen; omega) (by omega) (by simp; omega) (wr.heap.size + 2) (by simp) ?_; intro g1 cap1 w2 hown1 hgrow hat hlt1))
                have hst := inner_step (show z = x + g by omega) HJ.out.1 hxlt (show y = (fun a => (Fs d (a * g * g ^ t) : Int)) j from by rw [HY.out, HJ.out.1]) HJ.out.2.1 HJ.out.2.2.2.1 HJ.out.2.2.2.2.1 HJ.out.2.2.2.2.2 hown1 (zl_eq HJ.out.1 (Or.inl ⟨show z = x + g by omega, hxg⟩)) hgrow
                have HS : Hid _ := hst
                clear hst hown1 hgrow hat hlt1 HJ HY c0
                go_wp2
                go_roundg (gk - 1)
                case measure => omega
                case rel => exact ⟨j + 1, z, _, by omega, by omega, rfl, HS.out.1, HS.out.2.1, HS.out.2.2.1, HS.out.2.2.2.1, HS.out.2.2.2.2⟩
              · have hxg1 : (m : Int) < (z : Int) := by omega
                have zx : (x : Int) ≤ (m : Int) := by omega
                have zc : (m : Int) ≤ (c : Int) := by omega
                go_wp2_with fail
                go_region_held3 (fun w' => w'.cell? ⟨bl, x * 3, none⟩ = some (.int .u64 y))
                  (first
                    | go_keep
                    | (rw [hgrow.cell_far _ (by simp; omega) (fun e => by have := HJ.out.2.2.2.1.lt bl e.symm; omega)]; assumption))
                  ((refine step_append_lies _ (by rfl) _ _ _ (by rfl) wt.heap.size 47 i0 _ 3 40 Yba.underlying42 hi0 hz0 hz1 hz2 rfl (by omega) u12 j _ (by rfl) (((HJ.out.2.2.2.1.alloc _).alloc _).drew)
                      ⟨wr.heap.size + 1, 0, none⟩ 1 1 [.int .u64 y, .slice none 0 0, .pointer (some ⟨wr.heap.size, 0, none⟩)] (by rfl) (by rfl) (World.news_of_block (cs := #[.int .u64 y, .slice none 0 0, .pointer (some ⟨wr.heap.size, 0, none⟩)]) (t := 47) (fr := (0, 0)) (two_new wr _ _)) (by simp [Value.oneCell'])
                      (by omega) (by unfold maxLen; omega) (by omega) (by simp; omega) (wr.heap.size + 2) (by simp) ?_; intro g1 cap1 w2 hown1 hgrow hat hlt1))
                have hst := inner_step (show z = x + g by omega) HJ.out.1 hxlt (show y = (fun a => (Fs d (a * g * g ^ t) : Int)) j from by rw [HY.out, HJ.out.1]) HJ.out.2.1 HJ.out.2.2.2.1 HJ.out.2.2.2.2.1 HJ.out.2.2.2.2.2 hown1 (zl_eq (z := m) HJ.out.1 (Or.inr ⟨rfl, by omega⟩)) hgrow
                have HS : Hid _ := hst
                clear hst hown1 hgrow hat hlt1 HJ HY c0
                go_wp2
                go_roundg (gk - 1)
                case measure => omega
                case rel => exact ⟨j + 1, z, _, by omega, by omega, rfl, HS.out.1, HS.out.2.1, HS.out.2.2.1, HS.out.2.2.2.1, HS.out.2.2.2.2⟩
            · have hxlt' : ¬ (x : Int) < (m : Int) := by omega
              have hj1 : 0 < j := by
                rcases Nat.eq_zero_or_pos j with e | e
                · rw [e, Nat.zero_mul] at hxj; omega
                · exact e
              obtain ⟨pg, cap, hv, _, _⟩ := hown.form hj1
              have hjm : j < m := by
                have h1 := haj (j - 1) (by omega)
                have h2 : (j - 1) * 2 ≤ (j - 1) * g := Nat.mul_le_mul_left _ hg2
                omega
              have hiff : ∀ a, a < j ↔ a * g < len t := fun a => by
                rw [← HT.out.1]
                exact ⟨haj a, fun h => by
                  rcases Nat.lt_or_ge a j with e | e
                  · exact e
                  · have := Nat.mul_le_mul_right g e; omega⟩
              have hT' := HT.out.2.2.1.grow hbel (nfc := fun a => c - a * g) (by rw [← hv]; exact hown) (fun a ha => by rw [hnds a ha, HL.out, ← HT.out.1]) hiff
              have hnn : j ≤ cap := by
                rcases hown.2 with ⟨h0, _⟩ | ⟨g', cap', cur, e, _, _, h5, _⟩
                · rw [h0] at hv; cases hv
                · rw [hv] at e; simp at e; omega
              have hR : ∃ N f, wr.rowIs b0 47 N f := by
                obtain ⟨N, f, hR⟩ := HT.out.2.2.2.2.1
                exact ⟨N, f, hR.of_block (hbel.block b0 hR.lt)⟩
              have HE : Hid (u12 = .slice (some ⟨pg, 0, none⟩) j cap ∧ Tree wr g n (t + 1) (fun i => (Fs d i : Int)) (fun x => if x = t + 1 then pg else blk x) (fun x => if x = t + 1 then j else len x) (fun x a => if x = t then nf a else nd x a) (fun x a => if x = t then (c - a * g) else nc x a) ∧ (∃ N f, wr.rowIs b0 47 N f) ∧ Below w.heap.size w wr) :=
                ⟨hv, hT', hR, HT.out.2.2.2.2.2.trans (hbel.mono HT.out.2.2.2.2.2.size)⟩
              clear hv hT' hR hiff hown hnds hbel hxj haj
              go_wp2
              go_roundg (GK - 1)
              case measure => omega
              case rel =>
                refine ⟨t + 1, j, cap, _, _, _, _, by omega, ?_, hnn, by omega, by rw [if_pos rfl], ?_, HE.out.2.1, fun s hs => ?_, HE.out.2.2.1, HE.out.2.2.2⟩
                · rw [if_pos rfl]; exact HE.out.1
                · rw [if_neg (by omega)]; exact HT.out.2.1
                · by_cases e : s = t + 1
                  · rw [if_pos e]; omega
                  · rw [if_neg e]; exact HT.out.2.2.2.1 s (by omega)
        · have hmg' : ¬ (g : Int) < (m : Int) := by omega
          go_wp2
          go_ret2
          have BA : Below wr.heap.size wr (wr.alloc (.cells #[.slice (some ⟨bl, 0, none⟩) m c, .int .u32 0, .int .u32 0, .int .u64 0, .int .i64 0] 63)) := (Below.refl _ _).alloc (Nat.le_refl _) _
          refine ⟨wr.heap.size, t, c, blk, len, nd, nc, ret_hist HT.out.2.1, HT.out.2.2.1.later BA, HT.out.2.2.2.1, by rw [← HL.out, ← HT.out.1]; simp, ?_, HT.out.2.2.2.2.2.trans (BA.mono HT.out.2.2.2.2.2.size)⟩
          obtain ⟨N, f, hR⟩ := HT.out.2.2.2.2.1
          exact ⟨N, f, by rw [HT.out.2.1]; exact hR.alloc _⟩
end Go.Proofs.Ybulkbpjo
