/-
  THE WALK OF 'LawS3303AFields'.
-/
import Derived.Test.YbulkbpjoRaw2
namespace Go.Proofs.Ybulkbpjo.fields
open Go.RowKit Go.Deep Go.Lib
set_option linter.unusedVariables false

set_option maxRecDepth 100000 in
theorem walk_long (va sh th hd : ByteArray) (se te sl : Int) (ho : Bool) (sa ha : Option Addr) (sn sc hn hc : Nat) (w : World) (h : 4096 < sn ∨ 4096 < hn) :
    Calls Yba.prog 3 #[.agg #[.string va, .int .u64 se, .string sh, .int .u64 te, .string th, .int .u64 sl, .string hd, .bool ho, .slice sa sn sc, .slice ha hn hc]] w fun e w' => e = .returned (.bool true) ∧ Below w.heap.size w w' := by
  by_cases h1 : 4096 < sn
  · have d1 : (4096 : Int) < (sn : Int) := by omega
    go_enter Yba.func3, Yba.ntmps3
    go_wp2
    go_ret
    exact ⟨rfl, (Below.refl _ _).alloc (Nat.le_refl _) _⟩
  · have d1 : ¬ (4096 : Int) < (sn : Int) := by omega
    have d2 : (4096 : Int) < (hn : Int) := by omega
    go_enter Yba.func3, Yba.ntmps3
    go_wp2
    go_ret
    exact ⟨rfl, (Below.refl _ _).alloc (Nat.le_refl _) _⟩

theorem ten_alloc25 (w : World) (a b c d e f g h i j : Value) : (w.alloc (.cells #[a, b, c, d, e, f, g, h, i, j] 25)).rowIs w.heap.size 25 10 (ten a b c d e f g h i j) :=
  World.rowIs_alloc w #[a, b, c, d, e, f, g, h, i, j] 25 _ (fun k hk => by
    match k, hk with
    | 0, _ => rfl
    | 1, _ => rfl
    | 2, _ => rfl
    | 3, _ => rfl
    | 4, _ => rfl
    | 5, _ => rfl
    | 6, _ => rfl
    | 7, _ => rfl
    | 8, _ => rfl
    | 9, _ => rfl)

/-- All that is known when the raw vote lies in its variable: block I: the vote that came in; block Q: the raw vote. -/
structure Got (w W : World) (I Q R0 R V : Nat) (vf : Nat → Value) (p1 p2 p3 p4 p5 p6 : Option Addr) (va sh th hd : ByteArray) (se te sl : Int) (ho : Bool) (sa ha : Option Addr) (sn hn : Nat) (sf hf : Nat → Int) : Prop where
  i : W.rowIs I 25 10 vf
  q : W.rowIs Q 34 7 (seven (some ⟨V, 0, none⟩) p1 p2 p3 p4 p5 p6)
  v : W.cell? ⟨V, 0, none⟩ = some (.string va)
  src : Src W R0 R ho se te sh th p1 p2
  hea : Hea W R0 R hd sl p3 p4
  s5 : Sg W R0 R p5 sa sn sf
  s6 : Sg W R0 R p6 ha hn hf
  below : Below w.heap.size w W

theorem keeps_drewN {W : World} {R0 R : Nat} (n : Nat) : Keeps W (W.drewN n) R0 R := fun _ _ _ q => ⟨q.cell, q.n0, q.n⟩
theorem Got.drewN {w W : World} {I Q R0 R V : Nat} {vf : Nat → Value} {p1 p2 p3 p4 p5 p6 : Option Addr} {va sh th hd : ByteArray} {se te sl : Int} {ho : Bool} {sa ha : Option Addr} {sn hn : Nat} {sf hf : Nat → Int}
    (h : Got w W I Q R0 R V vf p1 p2 p3 p4 p5 p6 va sh th hd se te sl ho sa ha sn hn sf hf) (n : Nat) : Got w (W.drewN n) I Q R0 R V vf p1 p2 p3 p4 p5 p6 va sh th hd se te sl ho sa ha sn hn sf hf :=
  ⟨h.i, h.q, h.v, h.src.keep (keeps_drewN n), h.hea.keep (keeps_drewN n), h.s5.keep (keeps_drewN n), h.s6.keep (keeps_drewN n), below_drewN h.below n⟩
theorem Got.later {w W W' : World} {I Q R0 R V : Nat} {vf : Nat → Value} {p1 p2 p3 p4 p5 p6 : Option Addr} {va sh th hd : ByteArray} {se te sl : Int} {ho : Bool} {sa ha : Option Addr} {sn hn : Nat} {sf hf : Nat → Int}
    (h : Got w W I Q R0 R V vf p1 p2 p3 p4 p5 p6 va sh th hd se te sl ho sa ha sn hn sf hf) (hb : Below W.heap.size W W') : Got w W' I Q R0 R V vf p1 p2 p3 p4 p5 p6 va sh th hd se te sl ho sa ha sn hn sf hf :=
  ⟨h.i.of_block (hb.block I h.i.lt), h.q.of_block (hb.block Q h.q.lt), (hb.cell (p := ⟨V, 0, none⟩) (World.block_lt_of_cell? W _ h.v)).trans h.v, h.src.keep (keeps_below hb), h.hea.keep (keeps_below hb), h.s5.keep (keeps_below hb), h.s6.keep (keeps_below hb), h.below.trans (hb.mono h.below.size)⟩
theorem _root_.Go.Proofs.Ybulkbpjo.BIn.drewN {w : World} {a : Option Addr} {b off n : Nat} {f : Nat → Int} (h : BIn w a b off n f) (m : Nat) : BIn (w.drewN m) a b off n f := ⟨h.addr, h.cell, h.bound⟩
theorem sg_plain {W : World} {R0 R : Nat} {p a : Option Addr} {n : Nat} {f : Nat → Int} (h : Sg W R0 R p a n f) : SigP W p a n f := by
  rcases h with h | ⟨h1, b, o, h2, h3⟩
  · exact .inl h
  · exact .inr ⟨h1, b, o, h2, h3.cell⟩
theorem sg_drewN {W : World} {R0 R : Nat} {p a : Option Addr} {n : Nat} {f : Nat → Int} (h : Sg W R0 R p a n f) (m : Nat) : SigP (W.drewN m) p a n f := sg_plain (h.keep (keeps_drewN m))
theorem chk_drewN {W : World} {R0 R : Nat} {p : Option Addr} {ep : Int} {hs : ByteArray} (h : ChkP W R0 R p ep hs) (m : Nat) : Chk (W.drewN m) p ep hs := by
  obtain ⟨a, b, bo, c, co, h1, h2, h3, h4, h5⟩ := h
  exact ⟨⟨a, b, bo, c, co, h1, h2.cell, h3.cell, h4.cell, h5.cell⟩⟩

set_option maxRecDepth 100000 in
set_option maxHeartbeats 4000000 in
theorem walk_all (va sh th hd : ByteArray) (se te sl : Int) (ho : Bool) (sa ha : Option Addr) (sb so sn sc hb hoo hn hc : Nat) (sf hf : Nat → Int) (w : World) (h1 : sn ≤ 4096) (h2 : hn ≤ 4096)
    (S : BIn w sa sb so sn sf) (H : BIn w ha hb hoo hn hf) (hs0 : sa = none → sn = 0) (hh0 : ha = none → hn = 0) :
    Calls Yba.prog 3 #[.agg #[.string va, .int .u64 se, .string sh, .int .u64 te, .string th, .int .u64 sl, .string hd, .bool ho, .slice sa sn sc, .slice ha hn hc]] w fun e w' => e = .returned (.bool true) ∧ Below w.heap.size w w' := by
  have d1 : ¬ (4096 : Int) < (sn : Int) := by omega
  have d2 : ¬ (4096 : Int) < (hn : Int) := by omega
  obtain ⟨W0, hW0⟩ : ∃ W0, W0 = (w.alloc (.cells #[.string va, .int .u64 se, .string sh, .int .u64 te, .string th, .int .u64 sl, .string hd, .bool ho, .slice sa sn sc, .slice ha hn hc] 25)).alloc (.cells #[.string va, .int .u64 se, .string sh, .int .u64 te, .string th, .int .u64 sl, .string hd, .bool ho, .slice sa sn sc, .slice ha hn hc] 29) := ⟨_, rfl⟩
  have hB0 : Below w.heap.size w W0 := by rw [hW0]; exact ((Below.refl _ _).alloc (Nat.le_refl _) _).alloc (by simp) _
  have hI0 : W0.rowIs w.heap.size 25 10 (ten (.string va) (.int .u64 se) (.string sh) (.int .u64 te) (.string th) (.int .u64 sl) (.string hd) (.bool ho) (.slice sa sn sc) (.slice ha hn hc)) := by rw [hW0]; exact (ten_alloc25 w _ _ _ _ _ _ _ _ _ _).alloc _
  have HE : Hid _ := raw_any va sh th hd se te sl ho sa ha sb so sn sc hb hoo hn hc sf hf W0 h1 h2 (S.later hB0) (H.later hB0) hs0 hh0
  have HW : Hid (W0 = (w.alloc (.cells #[.string va, .int .u64 se, .string sh, .int .u64 te, .string th, .int .u64 sl, .string hd, .bool ho, .slice sa sn sc, .slice ha hn hc] 25)).alloc (.cells #[.string va, .int .u64 se, .string sh, .int .u64 te, .string th, .int .u64 sl, .string hd, .bool ho, .slice sa sn sc, .slice ha hn hc] 29)) := hW0
  have H0 : Hid (Below w.heap.size w W0 ∧ W0.rowIs w.heap.size 25 10 (ten (.string va) (.int .u64 se) (.string sh) (.int .u64 te) (.string th) (.int .u64 sl) (.string hd) (.bool ho) (.slice sa sn sc) (.slice ha hn hc)) ∧ BIn w sa sb so sn sf ∧ BIn w ha hb hoo hn hf ∧ (sa = none → sn = 0) ∧ (ha = none → hn = 0)) := ⟨hB0, hI0, S, H, hs0, hh0⟩
  clear hB0 hI0 hW0 S H hs0 hh0
  go_enter Yba.func3, Yba.ntmps3
  go_wp2_with fail
  rw [← HW.out]
  refine Calls.mono HE.out ?_
  rintro e w1 ⟨R0, R, V, p1, p2, p3, p4, p5, p6, rfl, hv, hsrc, hhea, hs5, hs6, hb1⟩
  have HX : Hid (w1.cell? ⟨V, 0, none⟩ = some (.string va) ∧ Src w1 R0 R ho se te sh th p1 p2 ∧ Hea w1 R0 R hd sl p3 p4 ∧ Sg w1 R0 R p5 sa sn sf ∧ Sg w1 R0 R p6 ha hn hf ∧ Below W0.heap.size W0 w1) := ⟨hv, hsrc, hhea, hs5, hs6, hb1⟩
  clear hv hsrc hhea hs5 hs6 hb1 HE
  go_wp2_with fail
  obtain ⟨I, hI⟩ : ∃ I, I = w.heap.size := ⟨_, rfl⟩
  obtain ⟨Q, hQ⟩ : ∃ Q, Q = w1.heap.size := ⟨_, rfl⟩
  have hgot : Got w (w1.alloc (.cells #[.pointer (some ⟨V, 0, none⟩), .pointer p1, .pointer p2, .pointer p3, .pointer p4, .pointer p5, .pointer p6] 34)) I Q R0 R V (ten (.string va) (.int .u64 se) (.string sh) (.int .u64 te) (.string th) (.int .u64 sl) (.string hd) (.bool ho) (.slice sa sn sc) (.slice ha hn hc)) p1 p2 p3 p4 p5 p6 va sh th hd se te sl ho sa ha sn hn sf hf := by
    have hb := HX.out.2.2.2.2.2
    have hi := H0.out.2.1.of_block (hb.block _ H0.out.2.1.lt)
    have hB := H0.out.1.trans (hb.mono H0.out.1.size)
    refine ⟨by rw [hI]; exact hi.alloc _, by rw [hQ]; exact seven_alloc w1 _ _ _ _ _ _ _, ?_, HX.out.2.1.keep (keeps_alloc _), HX.out.2.2.1.keep (keeps_alloc _), HX.out.2.2.2.1.keep (keeps_alloc _), HX.out.2.2.2.2.1.keep (keeps_alloc _), hB.alloc hB.size _⟩
    exact (World.cell?_of_block (w := w1) (blk_alloc_lt w1 _ V (World.block_lt_of_cell? w1 _ HX.out.1))).trans HX.out.1
  generalize (w1.alloc (.cells #[.pointer (some ⟨V, 0, none⟩), .pointer p1, .pointer p2, .pointer p3, .pointer p4, .pointer p5, .pointer p6] 34)) = W at hgot ⊢
  rw [← hI, ← hQ]
  have HG : Hid (Got w W I Q R0 R V (ten (.string va) (.int .u64 se) (.string sh) (.int .u64 te) (.string th) (.int .u64 sl) (.string hd) (.bool ho) (.slice sa sn sc) (.slice ha hn hc)) p1 p2 p3 p4 p5 p6 va sh th hd se te sl ho sa ha sn hn sf hf) := hgot
  clear hI hQ HX HW hgot
  have e30 := ptr_eql 30 u30
  have n30 := ptr_neq 30 u30
  have n31 := ptr_neq 31 u31
  have e32 := ptr_eql 32 u32
  have n32 := ptr_neq 32 u32
  have a0 : W.cell? ⟨I, 0, none⟩ = some (.string va) := HG.out.i.cell (i := 0) (by omega)
  have a1 : W.cell? ⟨Q, 0, none⟩ = some (.pointer (some ⟨V, 0, none⟩)) := HG.out.q.cell (i := 0) (by omega)
  have a2 := HG.out.v
  have a7 : W.cell? ⟨I, 7, none⟩ = some (.bool ho) := HG.out.i.cell (i := 7) (by omega)
  have a6 : W.cell? ⟨I, 6, none⟩ = some (.string hd) := HG.out.i.cell (i := 6) (by omega)
  go_quiet (fail)
  clear a0 a1 a2
  rcases HG.out.src with ⟨hho, hp1, hp2⟩ | ⟨hho, hc1, hc2⟩
  · have b1 : W.cell? ⟨Q, 1, none⟩ = some (.pointer none) := by have := HG.out.q.cell (i := 1) (by omega); rw [this, hp1]; rfl
    have b2 : W.cell? ⟨Q, 2, none⟩ = some (.pointer none) := by have := HG.out.q.cell (i := 2) (by omega); rw [this, hp2]; rfl
    rw [hho] at a7
    clear hp1 hp2 hho
    rcases HG.out.hea with ⟨he, hp3, hp4⟩ | ⟨he, b3, o3, b4, o4, hp3, hq3, hp4, hq4⟩
    · have t0 : W.cell? ⟨Q, 3, none⟩ = some (.pointer none) := by have := HG.out.q.cell (i := 3) (by omega); rw [this, hp3]; rfl
      have t1 : W.cell? ⟨Q, 4, none⟩ = some (.pointer none) := by have := HG.out.q.cell (i := 4) (by omega); rw [this, hp4]; rfl
      clear hp3 hp4
      have s0 : W.cell? ⟨I, 8, none⟩ = some (.slice sa sn sc) := HG.out.i.cell (i := 8) (by omega)
      have s1 : W.cell? ⟨Q, 5, none⟩ = some (.pointer p5) := HG.out.q.cell (i := 5) (by omega)
      go_wp2_with fail
      refine Calls.mono (sig_any p5 sa sb so sn sc sf _ h1 H0.out.2.2.2.2.1 ((H0.out.2.2.1.later HG.out.below).drewN _) (sg_drewN HG.out.s5 _)) ?_
      rintro e w2 ⟨rfl, hb2⟩
      have hG2 := (HG.out.drewN _).later hb2
      have s2 : w2.cell? ⟨I, 9, none⟩ = some (.slice ha hn hc) := hG2.i.cell (i := 9) (by omega)
      have s3 : w2.cell? ⟨Q, 6, none⟩ = some (.pointer p6) := hG2.q.cell (i := 6) (by omega)
      have HG2 : Hid _ := hG2
      clear hb2 hG2 s0 s1
      go_wp2_with fail
      refine Calls.mono (sig_any p6 ha hb hoo hn hc hf _ h2 H0.out.2.2.2.2.2 (H0.out.2.2.2.1.later HG2.out.below) (sg_plain HG2.out.s6)) ?_
      rintro e w3 ⟨rfl, hb3⟩
      have HB3 : Hid (Below w.heap.size w w3) := HG2.out.below.trans (hb3.mono HG2.out.below.size)
      clear hb3
      go_wp2
      go_ret
      exact ⟨rfl, HB3.out⟩
    · have t0 : W.cell? ⟨Q, 3, none⟩ = some (.pointer (some ⟨b3, o3, none⟩)) := by have := HG.out.q.cell (i := 3) (by omega); rw [this, hp3]; rfl
      have t1 : W.cell? ⟨Q, 4, none⟩ = some (.pointer (some ⟨b4, o4, none⟩)) := by have := HG.out.q.cell (i := 4) (by omega); rw [this, hp4]; rfl
      have t2 := hq3.cell
      have t3 := hq4.cell
      have t4 : W.cell? ⟨I, 5, none⟩ = some (.int .u64 sl) := HG.out.i.cell (i := 5) (by omega)
      clear hp3 hp4 hq3 hq4
      go_wp2_with fail
      go_quiet (fail)
      have s0 : W.cell? ⟨I, 8, none⟩ = some (.slice sa sn sc) := HG.out.i.cell (i := 8) (by omega)
      have s1 : W.cell? ⟨Q, 5, none⟩ = some (.pointer p5) := HG.out.q.cell (i := 5) (by omega)
      go_wp2_with fail
      refine Calls.mono (sig_any p5 sa sb so sn sc sf _ h1 H0.out.2.2.2.2.1 ((H0.out.2.2.1.later HG.out.below).drewN _) (sg_drewN HG.out.s5 _)) ?_
      rintro e w2 ⟨rfl, hb2⟩
      have hG2 := (HG.out.drewN _).later hb2
      have s2 : w2.cell? ⟨I, 9, none⟩ = some (.slice ha hn hc) := hG2.i.cell (i := 9) (by omega)
      have s3 : w2.cell? ⟨Q, 6, none⟩ = some (.pointer p6) := hG2.q.cell (i := 6) (by omega)
      have HG2 : Hid _ := hG2
      clear hb2 hG2 s0 s1
      go_wp2_with fail
      refine Calls.mono (sig_any p6 ha hb hoo hn hc hf _ h2 H0.out.2.2.2.2.2 (H0.out.2.2.2.1.later HG2.out.below) (sg_plain HG2.out.s6)) ?_
      rintro e w3 ⟨rfl, hb3⟩
      have HB3 : Hid (Below w.heap.size w w3) := HG2.out.below.trans (hb3.mono HG2.out.below.size)
      clear hb3
      go_wp2
      go_ret
      exact ⟨rfl, HB3.out⟩
  · have b1 : W.cell? ⟨Q, 1, none⟩ = some (.pointer p1) := HG.out.q.cell (i := 1) (by omega)
    have b2 : W.cell? ⟨Q, 2, none⟩ = some (.pointer p2) := HG.out.q.cell (i := 2) (by omega)
    have g1 : W.cell? ⟨I, 1, none⟩ = some (.int .u64 se) := HG.out.i.cell (i := 1) (by omega)
    have g2 : W.cell? ⟨I, 2, none⟩ = some (.string sh) := HG.out.i.cell (i := 2) (by omega)
    have g3 : W.cell? ⟨I, 3, none⟩ = some (.int .u64 te) := HG.out.i.cell (i := 3) (by omega)
    have g4 : W.cell? ⟨I, 4, none⟩ = some (.string th) := HG.out.i.cell (i := 4) (by omega)
    rw [hho] at a7
    have HC1 : Hid _ := hc1
    have HC2 : Hid _ := hc2
    clear hho hc1 hc2
    go_wp2_with fail
    refine Calls.mono (check_any p1 se sh _ (chk_drewN HC1.out _)) ?_
    rintro e w4 ⟨rfl, hw4⟩
    subst hw4
    go_wp2_with fail
    refine Calls.mono (check_any p2 te th _ (chk_drewN HC2.out _)) ?_
    rintro e w5 ⟨rfl, hw5⟩
    subst hw5
    clear b1 b2 g1 g2 g3 g4
    rcases HG.out.hea with ⟨he, hp3, hp4⟩ | ⟨he, b3, o3, b4, o4, hp3, hq3, hp4, hq4⟩
    · have t0 : W.cell? ⟨Q, 3, none⟩ = some (.pointer none) := by have := HG.out.q.cell (i := 3) (by omega); rw [this, hp3]; rfl
      have t1 : W.cell? ⟨Q, 4, none⟩ = some (.pointer none) := by have := HG.out.q.cell (i := 4) (by omega); rw [this, hp4]; rfl
      clear hp3 hp4
      have s0 : W.cell? ⟨I, 8, none⟩ = some (.slice sa sn sc) := HG.out.i.cell (i := 8) (by omega)
      have s1 : W.cell? ⟨Q, 5, none⟩ = some (.pointer p5) := HG.out.q.cell (i := 5) (by omega)
      go_wp2_with fail
      refine Calls.mono (sig_any p5 sa sb so sn sc sf _ h1 H0.out.2.2.2.2.1 ((H0.out.2.2.1.later HG.out.below).drewN _) (sg_drewN HG.out.s5 _)) ?_
      rintro e w2 ⟨rfl, hb2⟩
      have hG2 := (HG.out.drewN _).later hb2
      have s2 : w2.cell? ⟨I, 9, none⟩ = some (.slice ha hn hc) := hG2.i.cell (i := 9) (by omega)
      have s3 : w2.cell? ⟨Q, 6, none⟩ = some (.pointer p6) := hG2.q.cell (i := 6) (by omega)
      have HG2 : Hid _ := hG2
      clear hb2 hG2 s0 s1
      go_wp2_with fail
      refine Calls.mono (sig_any p6 ha hb hoo hn hc hf _ h2 H0.out.2.2.2.2.2 (H0.out.2.2.2.1.later HG2.out.below) (sg_plain HG2.out.s6)) ?_
      rintro e w3 ⟨rfl, hb3⟩
      have HB3 : Hid (Below w.heap.size w w3) := HG2.out.below.trans (hb3.mono HG2.out.below.size)
      clear hb3
      go_wp2
      go_ret
      exact ⟨rfl, HB3.out⟩
    · have t0 : W.cell? ⟨Q, 3, none⟩ = some (.pointer (some ⟨b3, o3, none⟩)) := by have := HG.out.q.cell (i := 3) (by omega); rw [this, hp3]; rfl
      have t1 : W.cell? ⟨Q, 4, none⟩ = some (.pointer (some ⟨b4, o4, none⟩)) := by have := HG.out.q.cell (i := 4) (by omega); rw [this, hp4]; rfl
      have t2 := hq3.cell
      have t3 := hq4.cell
      have t4 : W.cell? ⟨I, 5, none⟩ = some (.int .u64 sl) := HG.out.i.cell (i := 5) (by omega)
      clear hp3 hp4 hq3 hq4
      go_wp2_with fail
      go_quiet (fail)
      have s0 : W.cell? ⟨I, 8, none⟩ = some (.slice sa sn sc) := HG.out.i.cell (i := 8) (by omega)
      have s1 : W.cell? ⟨Q, 5, none⟩ = some (.pointer p5) := HG.out.q.cell (i := 5) (by omega)
      go_wp2_with fail
      refine Calls.mono (sig_any p5 sa sb so sn sc sf _ h1 H0.out.2.2.2.2.1 ((H0.out.2.2.1.later HG.out.below).drewN _) (sg_drewN HG.out.s5 _)) ?_
      rintro e w2 ⟨rfl, hb2⟩
      have hG2 := (HG.out.drewN _).later hb2
      have s2 : w2.cell? ⟨I, 9, none⟩ = some (.slice ha hn hc) := hG2.i.cell (i := 9) (by omega)
      have s3 : w2.cell? ⟨Q, 6, none⟩ = some (.pointer p6) := hG2.q.cell (i := 6) (by omega)
      have HG2 : Hid _ := hG2
      clear hb2 hG2 s0 s1
      go_wp2_with fail
      refine Calls.mono (sig_any p6 ha hb hoo hn hc hf _ h2 H0.out.2.2.2.2.2 (H0.out.2.2.2.1.later HG2.out.below) (sg_plain HG2.out.s6)) ?_
      rintro e w3 ⟨rfl, hb3⟩
      have HB3 : Hid (Below w.heap.size w w3) := HG2.out.below.trans (hb3.mono HG2.out.below.size)
      clear hb3
      go_wp2
      go_ret
      exact ⟨rfl, HB3.out⟩
end Go.Proofs.Ybulkbpjo.fields
