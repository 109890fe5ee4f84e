/-
  CONTRACT: (*history).chunkOf.
-/
import Derived.Test.YbulkbpjoTree
import Derived.Laws.Pointers
namespace Go.Proofs.Ybulkbpjo
open Go.RowKit
set_option linter.unusedVariables false

theorem ret_pair {a b : Addr} {x y : Value} (h : a = b) (hx : x = y) : Ending.returned (.tuple #[.pointer (some a), x]) = .returned (.tuple #[.pointer (some b), y]) := by rw [h, hx]

section
variable {g n T : Nat} {F : Nat → Int} {blk len : Nat → Nat} {nd nc : Nat → Nat → Nat}

set_option maxRecDepth 100000 in
set_option maxHeartbeats 1600000 in
theorem chunkOf_any (hb c k : Nat) (tg : Int) (w : World) (h : Tree w g n T F blk len nd nc) (hlen : ∀ t, t ≤ T → len t ≤ 100000) (hroot : w.cell? ⟨hb, 0, none⟩ = some (.slice (some ⟨blk T, 0, none⟩) (len T) c)) (hk : Falls n F tg k) :
    Calls Yba.prog 9 #[.pointer (some ⟨hb, 0, none⟩), .int .u64 tg] w fun e w' => ∃ nx, e = .returned (.tuple #[.pointer (some ⟨blk 0, k * 3, none⟩), nx]) ∧
      ((k + 1 < n ∧ nx = .pointer (some ⟨blk 0, (k + 1) * 3, none⟩)) ∨ (n ≤ k + 1 ∧ nx = .pointer none)) ∧ Below w.heap.size w w' := by
  have HT : Hid (Tree w g n T F blk len nd nc ∧ (∀ t, t ≤ T → len t ≤ 100000) ∧ w.cell? ⟨hb, 0, none⟩ = some (.slice (some ⟨blk T, 0, none⟩) (len T) c) ∧ Falls n F tg k) := ⟨h, hlen, hroot, hk⟩
  clear h hlen hroot hk
  have hu45 : Yba.prog.underlying 45 = some (.pointer (Yba.prog.pointee 45)) := by kernel_rfl
  have hu48 : Yba.prog.underlying 48 = some (.pointer (Yba.prog.pointee 48)) := by kernel_rfl
  have q45 : ∀ (w : World) (p : Option Addr), (binOp .eql 45 (.pointer p) (.pointer none)).run Yba.prog w = .ok (.bool p.isNone) w := fun w p => run_eql_pointer_nil w 45 p hu45
  have n45 : ∀ (w : World) (p : Option Addr), (binOp .neq 45 (.pointer p) (.pointer none)).run Yba.prog w = .ok (.bool (!p.isNone)) w := fun w p => run_neq_pointer_nil w 45 p hu45
  have n48 : ∀ (w : World) (p : Option Addr), (binOp .neq 48 (.pointer p) (.pointer none)).run Yba.prog w = .ok (.bool (!p.isNone)) w := fun w p => run_neq_pointer_nil w 48 p hu48
  clear hu45 hu48
  go_enter Yba.func9, Yba.ntmps9
  go_wp2
  go_loopg [5, 6] T (fun gk nx np wx => ∃ t s m nb c, t ≤ gk ∧ t ≤ T ∧ np = .pointer (some ⟨nb, 0, none⟩) ∧ wx.cell? ⟨nb, 0, none⟩ = some (.slice (some ⟨blk t, s * 3, none⟩) m c) ∧ 1 ≤ m ∧ s + m ≤ len t ∧
    s * g ^ t ≤ k ∧ k < (s + m) * g ^ t ∧ NextP g n T blk len ((s + m) * g ^ t) nx ∧ Below w.heap.size w wx)
  case atStart =>
    obtain ⟨h, hlen, hroot, hk⟩ := HT.out
    have h1 : ¬ (len T * g ^ T < n) := fun hlt => by have := (h.len_iff T (len T) (Nat.le_refl _)).2 hlt; omega
    have h2 : 1 ≤ len T := (h.len_iff T 0 (Nat.le_refl _)).2 (by have := h.hn; omega)
    have h3 := hk.lt
    exact ⟨T, 0, len T, hb, c, Nat.le_refl _, Nat.le_refl _, rfl, by simpa using hroot, h2, by omega, by omega, by rw [Nat.zero_add]; omega, .inl ⟨by rw [Nat.zero_add]; omega, rfl⟩, Below.refl _ _⟩
  case round =>
    obtain ⟨t, s, m, nb, c, hgk, htT, rfl, hnode, hm, hsm, hlo, hhi, hnx, hbel⟩ := hrel
    obtain ⟨h, hlen, hroot, hk⟩ := HT.out
    have hx := h.later hbel
    have hml : m ≤ 100000 := by have := hlen t htT; omega
    have hpl := place_any nb (blk t) s m c tg (fun i => F ((s + i) * g ^ t)) wr hm hml hnode (fun i hi => by rw [← Nat.add_mul]; exact hx.first t (s + i) htT (by omega)) (hx.node_mono htT hsm)
    have HP : Hid _ := hpl
    have HX : Hid (s * g ^ t ≤ k ∧ k < (s + m) * g ^ t ∧ NextP g n T blk len ((s + m) * g ^ t) u5 ∧ Below w.heap.size w wr ∧ wr.cell? ⟨nb, 0, none⟩ = some (.slice (some ⟨blk t, s * 3, none⟩) m c) ∧ Tree wr g n T F blk len nd nc) := ⟨hlo, hhi, hnx, hbel, hnode, hx⟩
    clear hpl hlo hhi hnx hbel hnode hx h hlen hroot hk
    go_wp2_with fail
    refine Calls.mono HP.out ?_
    rintro e w1 ⟨r, hr, rfl, g1, g2, hb1⟩
    obtain ⟨hlo, hhi, hnx, hbel, hnode, hx⟩ := HX.out
    have hx1 := hx.later hb1
    have hbel1 : Below w.heap.size w w1 := hbel.trans (hb1.mono hbel.size)
    have kn : w1.cell? ⟨nb, 0, none⟩ = some (.slice (some ⟨blk t, s * 3, none⟩) m c) := (hb1.cell (p := ⟨nb, 0, none⟩) (World.block_lt_of_cell? wr _ hnode)).trans hnode
    have hnar := hx1.narrow HT.out.2.2.2 htT hsm hr hlo hhi g1 g2
    have hnx1 : Hid (∀ nx, (r + 1 < m ∧ nx = .pointer (some ⟨blk t, s * 3 + (r + 1) * 3, none⟩)) ∨ (m ≤ r + 1 ∧ nx = u5) → NextP g n T blk len ((s + r + 1) * g ^ t) nx) := by
      intro nx hcase
      rcases hcase with ⟨h1, rfl⟩ | ⟨h1, rfl⟩
      · have h2 : (s + r + 1) * g ^ t < n := (hx1.len_iff t (s + r + 1) htT).1 (by omega)
        exact .inr ⟨h2, t, s + r + 1, htT, by omega, rfl, by rw [show (s + r + 1) * 3 = s * 3 + (r + 1) * 3 by omega]⟩
      · rw [show s + r + 1 = s + m by omega]; exact hnx
    have HY : Hid (((s + r) * g ^ t ≤ k ∧ k < (s + r + 1) * g ^ t) ∧ Below w.heap.size w w1 ∧ Tree w1 g n T F blk len nd nc) := ⟨hnar, hbel1, hx1⟩
    clear hlo hhi hnx hbel hnode hx hx1 hbel1 hnar g1 g2 hb1 HX HP
    have hr0 : (0 : Int) ≤ (r : Int) := by omega
    have hr1 : (r : Int) < (m : Int) := by omega
    have hml : m ≤ 100000 := hml
    cases t with
    | zero =>
      have kb : w1.cell? ⟨blk 0, s * 3 + r * 3 + 2, none⟩ = some (.pointer none) := by
        rw [← Nat.add_mul]; exact HY.out.2.2.leaf (s + r) (by omega)
      by_cases hrm : r + 1 < m
      · have hrm' : (r : Int) + 1 < (m : Int) := by omega
        go_wp2
        have hkk : k = s + r := by have h1 := HY.out.1; simp only [Nat.pow_zero, Nat.mul_one] at h1; omega
        have hN := hnx1.out _ (.inl ⟨hrm, rfl⟩)
        rw [Nat.pow_zero, Nat.mul_one, ← hkk] at hN
        have hp : ({ block := blk 0, off := s * 3 + r * 3, spot := none } : Addr) = ⟨blk 0, k * 3, none⟩ := by rw [hkk, Nat.add_mul]
        have HN : Hid _ := hN
        have HP : Hid _ := hp
        have HK : Hid (k = s + r) := hkk
        clear hN hp hkk kb kn hr0 hr1 hrm'
        go_loopg [5] T (fun gk nx wx => ((n ≤ k + 1 ∧ nx = .pointer none) ∨ (k + 1 < n ∧ ∃ t j, t ≤ gk ∧ t ≤ T ∧ j < len t ∧ j * g ^ t = k + 1 ∧ nx = .pointer (some ⟨blk t, j * 3, none⟩))) ∧ Tree wx g n T F blk len nd nc ∧ Below w.heap.size w wx)
        case atStart =>
          refine ⟨?_, HY.out.2.2, HY.out.2.1⟩
          rcases HN.out with h1 | ⟨h1, t, j, h2, h3, h4, h5⟩
          · exact .inl h1
          · exact .inr ⟨h1, t, j, h2, h2, h3, h4, h5⟩
        case round =>
          obtain ⟨hcase, hx, hbel⟩ := hrel
          have HX : Hid (Tree wr g n T F blk len nd nc ∧ Below w.heap.size w wr) := ⟨hx, hbel⟩
          clear hx hbel
          rcases hcase with ⟨h1, rfl⟩ | ⟨h1, t, j, h2, h3, h4, h5, rfl⟩
          · go_wp2
            go_ret2
            exact ⟨.pointer none, ret_pair HP.out rfl, .inr ⟨h1, rfl⟩, HX.out.2⟩
          · cases t with
            | zero =>
              have kl := HX.out.1.leaf j h4
              have hj : Hid (j = k + 1) := by have h6 := h5; simp only [Nat.pow_zero, Nat.mul_one] at h6; exact h6
              clear h5
              go_wp2
              go_ret2
              have hj3 : Value.pointer (some ⟨blk 0, j * 3, none⟩) = Value.pointer (some ⟨blk 0, (k + 1) * 3, none⟩) := by rw [hj.out]
              exact ⟨.pointer (some ⟨blk 0, (k + 1) * 3, none⟩), ret_pair HP.out hj3, .inl ⟨h1, rfl⟩, HX.out.2⟩
            | succ t1 =>
              have kl := HX.out.1.below t1 j (by omega) h4
              have knd := HX.out.1.node t1 j (by omega) h4
              have hd := HX.out.1.down (t := t1) (a := j) (by omega) h4
              obtain ⟨mm, hmm⟩ : ∃ mm, mm = min ((j + 1) * g) (len t1) - j * g := ⟨_, rfl⟩
              rw [← hmm] at knd hd
              have HD : Hid (1 ≤ mm ∧ j * g + mm ≤ len t1 ∧ j * g * g ^ t1 = k + 1) := ⟨hd.1, hd.2.1, by rw [hd.2.2.1]; exact h5⟩
              have hmm0 : (0 : Int) < (mm : Int) := by have := hd.1; omega
              clear hd hmm h5
              go_wp2
              go_roundg (gk - 1)
              case measure => omega
              case rel => exact ⟨.inr ⟨h1, t1, j * g, by omega, by omega, by have := HD.out; omega, HD.out.2.2, rfl⟩, HX.out.1, HX.out.2⟩
      · have hrm' : ¬ (r : Int) + 1 < (m : Int) := by omega
        go_wp2
        have hkk : k = s + r := by have h1 := HY.out.1; simp only [Nat.pow_zero, Nat.mul_one] at h1; omega
        have hN := hnx1.out _ (.inr ⟨by omega, rfl⟩)
        rw [Nat.pow_zero, Nat.mul_one, ← hkk] at hN
        have hp : ({ block := blk 0, off := s * 3 + r * 3, spot := none } : Addr) = ⟨blk 0, k * 3, none⟩ := by rw [hkk, Nat.add_mul]
        have HN : Hid _ := hN
        have HP : Hid _ := hp
        have HK : Hid (k = s + r) := hkk
        clear hN hp hkk kb kn hr0 hr1 hrm'
        go_loopg [5] T (fun gk nx wx => ((n ≤ k + 1 ∧ nx = .pointer none) ∨ (k + 1 < n ∧ ∃ t j, t ≤ gk ∧ t ≤ T ∧ j < len t ∧ j * g ^ t = k + 1 ∧ nx = .pointer (some ⟨blk t, j * 3, none⟩))) ∧ Tree wx g n T F blk len nd nc ∧ Below w.heap.size w wx)
        case atStart =>
          refine ⟨?_, HY.out.2.2, HY.out.2.1⟩
          rcases HN.out with h1 | ⟨h1, t, j, h2, h3, h4, h5⟩
          · exact .inl h1
          · exact .inr ⟨h1, t, j, h2, h2, h3, h4, h5⟩
        case round =>
          obtain ⟨hcase, hx, hbel⟩ := hrel
          have HX : Hid (Tree wr g n T F blk len nd nc ∧ Below w.heap.size w wr) := ⟨hx, hbel⟩
          clear hx hbel
          rcases hcase with ⟨h1, rfl⟩ | ⟨h1, t, j, h2, h3, h4, h5, rfl⟩
          · go_wp2
            go_ret2
            exact ⟨.pointer none, ret_pair HP.out rfl, .inr ⟨h1, rfl⟩, HX.out.2⟩
          · cases t with
            | zero =>
              have kl := HX.out.1.leaf j h4
              have hj : Hid (j = k + 1) := by have h6 := h5; simp only [Nat.pow_zero, Nat.mul_one] at h6; exact h6
              clear h5
              go_wp2
              go_ret2
              have hj3 : Value.pointer (some ⟨blk 0, j * 3, none⟩) = Value.pointer (some ⟨blk 0, (k + 1) * 3, none⟩) := by rw [hj.out]
              exact ⟨.pointer (some ⟨blk 0, (k + 1) * 3, none⟩), ret_pair HP.out hj3, .inl ⟨h1, rfl⟩, HX.out.2⟩
            | succ t1 =>
              have kl := HX.out.1.below t1 j (by omega) h4
              have knd := HX.out.1.node t1 j (by omega) h4
              have hd := HX.out.1.down (t := t1) (a := j) (by omega) h4
              obtain ⟨mm, hmm⟩ : ∃ mm, mm = min ((j + 1) * g) (len t1) - j * g := ⟨_, rfl⟩
              rw [← hmm] at knd hd
              have HD : Hid (1 ≤ mm ∧ j * g + mm ≤ len t1 ∧ j * g * g ^ t1 = k + 1) := ⟨hd.1, hd.2.1, by rw [hd.2.2.1]; exact h5⟩
              have hmm0 : (0 : Int) < (mm : Int) := by have := hd.1; omega
              clear hd hmm h5
              go_wp2
              go_roundg (gk - 1)
              case measure => omega
              case rel => exact ⟨.inr ⟨h1, t1, j * g, by omega, by omega, by have := HD.out; omega, HD.out.2.2, rfl⟩, HX.out.1, HX.out.2⟩
    | succ t1 =>
      have kb : w1.cell? ⟨blk (t1 + 1), s * 3 + r * 3 + 2, none⟩ = some (.pointer (some ⟨nd t1 (s + r), 0, none⟩)) := by
        rw [← Nat.add_mul]; exact HY.out.2.2.below t1 (s + r) (by omega) (by omega)
      have hd := HY.out.2.2.down (t := t1) (a := s + r) (by omega) (by omega)
      have hnd := HY.out.2.2.node t1 (s + r) (by omega) (by omega)
      have HZ : Hid (1 ≤ min ((s + r + 1) * g) (len t1) - (s + r) * g ∧ (s + r) * g + (min ((s + r + 1) * g) (len t1) - (s + r) * g) ≤ len t1 ∧ (s + r) * g * g ^ t1 = (s + r) * g ^ (t1 + 1) ∧
        (((s + r) * g + (min ((s + r + 1) * g) (len t1) - (s + r) * g)) * g ^ t1 = (s + r + 1) * g ^ (t1 + 1) ∨ (n ≤ (s + r + 1) * g ^ (t1 + 1) ∧ n ≤ ((s + r) * g + (min ((s + r + 1) * g) (len t1) - (s + r) * g)) * g ^ t1)) ∧
        w1.cell? ⟨nd t1 (s + r), 0, none⟩ = some (.slice (some ⟨blk t1, (s + r) * g * 3, none⟩) (min ((s + r + 1) * g) (len t1) - (s + r) * g) (nc t1 (s + r)))) := ⟨hd.1, hd.2.1, hd.2.2.1, hd.2.2.2, hnd⟩
      clear hd hnd
      by_cases hrm : r + 1 < m
      · have hrm' : (r : Int) + 1 < (m : Int) := by omega
        go_wp2
        go_roundg (gk - 1)
        case measure => omega
        case rel =>
          have hkn := HT.out.2.2.2.lt
          refine ⟨t1, (s + r) * g, _, nd t1 (s + r), _, by omega, by omega, rfl, HZ.out.2.2.2.2, HZ.out.1, HZ.out.2.1, by rw [HZ.out.2.2.1]; exact HY.out.1.1, ?_, (hnx1.out _ (.inl ⟨hrm, rfl⟩)).same HZ.out.2.2.2.1, HY.out.2.1⟩
          rcases HZ.out.2.2.2.1 with e | ⟨_, e⟩
          · rw [e]; exact HY.out.1.2
          · omega
      · have hrm' : ¬ (r : Int) + 1 < (m : Int) := by omega
        go_wp2
        go_roundg (gk - 1)
        case measure => omega
        case rel =>
          have hkn := HT.out.2.2.2.lt
          refine ⟨t1, (s + r) * g, _, nd t1 (s + r), _, by omega, by omega, rfl, HZ.out.2.2.2.2, HZ.out.1, HZ.out.2.1, by rw [HZ.out.2.2.1]; exact HY.out.1.1, ?_, (hnx1.out _ (.inr ⟨by omega, rfl⟩)).same HZ.out.2.2.2.1, HY.out.2.1⟩
          rcases HZ.out.2.2.2.1 with e | ⟨_, e⟩
          · rw [e]; exact HY.out.1.2
          · omega
end
end Go.Proofs.Ybulkbpjo
