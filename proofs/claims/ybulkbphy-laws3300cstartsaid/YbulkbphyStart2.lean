/-
  CONTRACT: (*walk).start.
-/
import Derived.Test.YbulkbphyStart
import Derived.Laws.BitsAllLaws
namespace Go.Proofs.Ybulkbphy
open Go.RowKit
set_option linter.unusedVariables false

theorem or_zero_wrap (x : Int) : bits .or .u64 0 (IntKind.u64.wrap x) = IntKind.u64.wrap x := by
  have h : 0 ≤ IntKind.u64.wrap x ∧ IntKind.u64.wrap x < 18446744073709551616 := by
    have e : IntKind.u64.wrap x = x % 18446744073709551616 := by simp [IntKind.wrap, IntKind.signed, IntKind.bits]
    rw [e]; omega
  rw [u64_or 0 _ (by omega) (by omega) h.1 h.2]
  simp
  omega

/-- What start leaves: the walk's own fields. -/
def Fields (w' : World) (h : Nat) (sv few : Value) (o co : Nat) (bk : Value) : Prop :=
  w'.rowIs h 41 6 (six sv few (.slice (some ⟨o, 0, none⟩) 1 co) (.int .i64 0) (.int .i64 0) bk)

theorem fields_end {w2 : World} {h o co : Nat} {sv few ov nx ed bk : Value} (F2 : w2.rowIs h 41 6 (six sv few ov nx ed bk)) :
    Fields (((w2.setCell ⟨h, 2, none⟩ (.slice (some ⟨o, 0, none⟩) 1 co)).setCell ⟨h, 3, none⟩ (.int .i64 0)).setCell ⟨h, 4, none⟩ (.int .i64 0)) h sv few o co bk :=
  (((F2.set 2 _).set 3 _).set 4 _).congr (fun i hi => by
    match i, hi with
    | 0, _ => rfl
    | 1, _ => rfl
    | 2, _ => rfl
    | 3, _ => rfl
    | 4, _ => rfl
    | 5, _ => rfl)
theorem fields_seen {w1 : World} {h : Nat} {sv sv' few ov nx ed bk : Value} (F1 : w1.rowIs h 41 6 (six sv few ov nx ed bk)) : (w1.setCell ⟨h, 0, none⟩ sv').rowIs h 41 6 (six sv' few ov nx ed bk) :=
  (F1.set 0 _).congr (fun i hi => by
    match i, hi with
    | 0, _ => rfl
    | 1, _ => rfl
    | 2, _ => rfl
    | 3, _ => rfl
    | 4, _ => rfl
    | 5, _ => rfl)
/-- The three last stores turn no other row. -/
theorem irow_end {k : IntKind} {t : TypeId} {w2 : World} {h b n : Nat} {f : Nat → Int} {x y z : Value} (R : IRow k t w2 b n f) (hb : b ≠ h) :
    IRow k t (((w2.setCell ⟨h, 2, none⟩ x).setCell ⟨h, 3, none⟩ y).setCell ⟨h, 4, none⟩ z) b n f :=
  ((R.setOther (a := ⟨h, 2, none⟩) hb _).setOther (a := ⟨h, 3, none⟩) hb _).setOther (a := ⟨h, 4, none⟩) hb _
theorem cell_end {w2 : World} {h o : Nat} {v x y z : Value} (c : w2.cell? ⟨o, 0, none⟩ = some v) (ho : o ≠ h) :
    (((w2.setCell ⟨h, 2, none⟩ x).setCell ⟨h, 3, none⟩ y).setCell ⟨h, 4, none⟩ z).cell? ⟨o, 0, none⟩ = some v := by
  rw [World.cell?_of_block (w := w2)]
  · exact c
  · show (((w2.setCell ⟨h, 2, none⟩ x).setCell ⟨h, 3, none⟩ y).setCell ⟨h, 4, none⟩ z).heap[o]? = _
    rw [Deep.blk_setCell_other _ _ _ _ (by exact ho), Deep.blk_setCell_other _ _ _ _ (by exact ho), Deep.blk_setCell_other _ _ _ _ (by exact ho)]
theorem frame_end {w w2 : World} {h : Nat} {X : Nat → Prop} {x y z : Value} (fr : FrameBut w w2 X) (hX : X h) :
    FrameBut w (((w2.setCell ⟨h, 2, none⟩ x).setCell ⟨h, 3, none⟩ y).setCell ⟨h, 4, none⟩ z) X :=
  ((fr.set (p := ⟨h, 2, none⟩) (.inl hX) _).set (p := ⟨h, 3, none⟩) (.inl hX) _).set (p := ⟨h, 4, none⟩) (.inl hX) _

set_option maxHeartbeats 1600000 in
/-- start, where seen is too short. -/
theorem start_make (h gb ns no n f wd q r : Nat) (oa ob : Option Addr) (few nx ed : Int) (bk : Value) (O : Nat → Int) (w : World) (hn0 : f < n) (hn1 : n ≤ 65536) (hwd : ((n : Int) + 63) / 64 = (wd : Int)) (hq : (f : Int) / 64 = (q : Int)) (hr : (f : Int) % 64 = (r : Int))
    (hs : ns < wd) (hF : w.rowIs h 41 6 (six (.slice oa ns ns) (.int .u64 few) (.slice ob no no) (.int .i64 nx) (.int .i64 ed) bk)) 
    (hob : (ob = none ∧ no = 0) ∨ (ob = some ⟨gb, 0, none⟩ ∧ IRow .i32 21 w gb no O)) (hgb : 0 < no → gb ≠ h) :
    Calls Yba.prog 13 #[.pointer (some ⟨h, 0, none⟩), .int .i64 (n : Int), .int .i32 (f : Int)] w fun e w' => e = .returned (.tuple #[]) ∧ ∃ s o co, w.heap.size ≤ s ∧
      Fields w' h (.slice (some ⟨s, 0, none⟩) wd wd) (.int .u64 few) o co bk ∧ w'.cell? ⟨o, 0, none⟩ = some (.int .i32 (f : Int)) ∧ IRow .u64 36 w' s wd (fun i => if i = q then IntKind.u64.wrap (2 ^ r) else 0) ∧
      (0 < no → IRow .i32 21 w' gb no (fun i => if i = 0 then (f : Int) else O i)) ∧ FrameBut w w' (fun b => b = h ∨ (0 < no ∧ b = gb)) := by
  have c0 : w.cell? ⟨h, 0, none⟩ = some (.slice oa ns ns) := hF.cell (i := 0) (by omega)
  have hqw : q < wd := by omega
  have hwl : wd ≤ 1024 := by omega
  have hr64 : r < 64 := by omega
  have hh := hF.lt
  go_enter Yba.func13, Yba.ntmps13
  go_wp2_with (at_make; refine wpList_make_irow rfl _ _ 35 rfl .u64 36 8 Yba.underlying35 info36 _ _ _ _ wd rfl rfl (by omega) (by omega) (by omega) (by omega) ?_)
  intro w1 R0 B1 hsz
  clear c0
  have F1 := hF.of_block (B1.block h hh)
  have hob1 : (ob = none ∧ no = 0) ∨ (ob = some ⟨gb, 0, none⟩ ∧ IRow .i32 21 w1 gb no O) := by
    rcases hob with h | ⟨h1, h2⟩
    · exact .inl h
    · exact .inr ⟨h1, h2.of_block (B1.block gb h2.lt)⟩
  have hlg : 0 < no → gb < w.heap.size := by
    rcases hob with h | ⟨h1, h2⟩
    · intro h'; omega
    · intro _; exact h2.lt
  obtain ⟨s, hsv⟩ : ∃ s, s = w.heap.size := ⟨_, rfl⟩
  rw [← hsv] at R0 ⊢
  have hsh : s ≠ h := by omega
  have hszs : s < w1.heap.size := R0.lt
  have hhs : h < w1.heap.size := F1.lt
  have c0 : w1.cell? ⟨h, 0, none⟩ = some (.slice oa ns ns) := F1.cell (i := 0) (by omega)
  have c2 : w1.cell? ⟨h, 2, none⟩ = some (.slice ob no no) := F1.cell (i := 2) (by omega)
  have f0 := F1.frozen 0
  have s0 : w1.cell? ⟨s, q, none⟩ = some (.int .u64 0) := R0.cell hqw
  have s1 := R0.frozen q
  have hor := or_zero_wrap (2 ^ r)
  clear hob hF hsz
  have HO : Hid ((ob = none ∧ no = 0) ∨ (ob = some ⟨gb, 0, none⟩ ∧ IRow .i32 21 w1 gb no O)) := hob1
  have HV : Hid (s = w.heap.size) := hsv
  clear hob1 hsv
  have HW : Hid (Below w.heap.size w w1) := B1
  have R1 : Hid (IRow .u64 36 w1 s wd (fun _ => 0) ∧ w1.rowIs h 41 6 (six (.slice oa ns ns) (.int .u64 few) (.slice ob no no) (.int .i64 nx) (.int .i64 ed) bk)) := ⟨R0, F1⟩
  clear B1 R0 F1
  have FW : Hid ((((w1.setCell ⟨h, 0, none⟩ (.slice (some ⟨s, 0, none⟩) wd wd)).setCell ⟨s, q, none⟩ (.int .u64 (IntKind.u64.wrap (2 ^ r)))).alloc (.cells #[.int .i32 (f : Int)] 21)).rowIs h 41 6 (six (.slice (some ⟨s, 0, none⟩) wd wd) (.int .u64 few) (.slice ob no no) (.int .i64 nx) (.int .i64 ed) bk)) :=
    ((fields_seen R1.out.2).setOther (a := ⟨s, q, none⟩) (by exact fun e => hsh e.symm) _).alloc _
  have SW : Hid (IRow .u64 36 (((w1.setCell ⟨h, 0, none⟩ (.slice (some ⟨s, 0, none⟩) wd wd)).setCell ⟨s, q, none⟩ (.int .u64 (IntKind.u64.wrap (2 ^ r)))).alloc (.cells #[.int .i32 (f : Int)] 21)) s wd (fun i => if i = q then IntKind.u64.wrap (2 ^ r) else 0)) :=
    ((R1.out.1.setOther (a := ⟨h, 0, none⟩) (by exact hsh) _).set q _).alloc _
  have FR : Hid (FrameBut w (((w1.setCell ⟨h, 0, none⟩ (.slice (some ⟨s, 0, none⟩) wd wd)).setCell ⟨s, q, none⟩ (.int .u64 (IntKind.u64.wrap (2 ^ r)))).alloc (.cells #[.int .i32 (f : Int)] 21)) (fun b => b = h ∨ (0 < no ∧ b = gb))) :=
    (((FrameBut.of_below HW.out).set (p := ⟨h, 0, none⟩) (.inl (.inl rfl)) _).set (p := ⟨s, q, none⟩) (.inr (by have := HV.out; show w.heap.size ≤ s; omega)) _).alloc _
  rcases HO.out with ⟨rfl, rfl⟩ | ⟨rfl, hO1⟩
  · go_wp2_with (at_builtin; refine wpList_append_first rfl _ _ 30 rfl 21 Yba.underlying30 info21 none gb 0 O (f : Int) rfl _ rfl ?q1 (.inl ⟨rfl, rfl⟩) ?_)
    intro o' co w2 hc fr ho
    have F2 := FW.out.of_block (fr.block h FW.out.lt (fun h => h))
    have S2 := SW.out.of_block (fr.block s SW.out.lt (fun h => h))
    have G2 := FR.out.trans (fr.mono (fun _ h => h.elim))
    clear c0 c2 f0 s0 s1 hor
    have c2 : w2.cell? ⟨h, 2, none⟩ = some (.slice none 0 0) := F2.cell (i := 2) (by omega)
    have c3 : w2.cell? ⟨h, 3, none⟩ = some (.int .i64 nx) := F2.cell (i := 3) (by omega)
    have c4 : w2.cell? ⟨h, 4, none⟩ = some (.int .i64 ed) := F2.cell (i := 4) (by omega)
    have f2 := F2.frozen 2
    have f3 := F2.frozen 3
    have f4 := F2.frozen 4
    have E : Hid (w2.rowIs h 41 6 (six (.slice (some ⟨s, 0, none⟩) wd wd) (.int .u64 few) (.slice none 0 0) (.int .i64 nx) (.int .i64 ed) bk) ∧ IRow .u64 36 w2 s wd (fun i => if i = q then IntKind.u64.wrap (2 ^ r) else 0) ∧ FrameBut w w2 (fun b => b = h ∨ (0 < 0 ∧ b = gb)) ∧ w2.cell? ⟨o', 0, none⟩ = some (.int .i32 (f : Int))) := ⟨F2, S2, G2, hc⟩
    clear F2 S2 G2 hc fr FW SW FR HW R1 HO
    go_wp2
    go_end0
    refine ⟨rfl, s, o', co, by have := HV.out; omega, fields_end E.out.1, cell_end E.out.2.2.2 (by omega), irow_end E.out.2.1 hsh, fun h => absurd h (by omega), frame_end E.out.2.2.1 (.inl rfl)⟩
  · have hsg : s ≠ gb := by
      have := hO1.lt
      intro e
      have h1 := hO1
      have h2 := R1.out.1
      obtain ⟨N, F, _, ⟨c, hc1, _⟩, _⟩ := h1
      obtain ⟨N', F', _, ⟨c', hc2, _⟩, _⟩ := h2
      rw [e, hc1] at hc2
      simp at hc2
    have OW : IRow .i32 21 (((w1.setCell ⟨h, 0, none⟩ (.slice (some ⟨s, 0, none⟩) wd wd)).setCell ⟨s, q, none⟩ (.int .u64 (IntKind.u64.wrap (2 ^ r)))).alloc (.cells #[.int .i32 (f : Int)] 21)) gb no O := by
      have e1 : gb ≠ h := by
        intro e
        obtain ⟨N, F, _, ⟨c, hc1, _⟩, _⟩ := hO1
        obtain ⟨c', hc2, _⟩ := R1.out.2
        rw [e, hc2] at hc1
        simp at hc1
      exact ((hO1.setOther (a := ⟨h, 0, none⟩) e1 _).setOther (a := ⟨s, q, none⟩) (by exact fun e => hsg e.symm) _).alloc _
    have HOW : Hid (IRow .i32 21 (((w1.setCell ⟨h, 0, none⟩ (.slice (some ⟨s, 0, none⟩) wd wd)).setCell ⟨s, q, none⟩ (.int .u64 (IntKind.u64.wrap (2 ^ r)))).alloc (.cells #[.int .i32 (f : Int)] 21)) gb no O) := OW
    have HG : Hid (0 < no → gb ≠ h) := hgb
    clear OW hO1 hgb hlg
    go_wp2_with (at_builtin; refine wpList_append_first rfl _ _ 30 rfl 21 Yba.underlying30 info21 (some ⟨gb, 0, none⟩) gb no O (f : Int) rfl _ rfl ?q1 (.inr ⟨rfl, HOW.out⟩) ?_)
    intro o' co w2 hc hO2 fr ho
    have F2 := FW.out.of_block (fr.block h FW.out.lt (fun h => HG.out h.1 h.2.symm))
    have S2 := SW.out.of_block (fr.block s SW.out.lt (fun h => hsg h.2))
    have G2 := FR.out.trans (fr.mono (fun _ h => .inr h))
    clear c0 c2 f0 s0 s1 hor
    have c2 : w2.cell? ⟨h, 2, none⟩ = some (.slice (some ⟨gb, 0, none⟩) no no) := F2.cell (i := 2) (by omega)
    have c3 : w2.cell? ⟨h, 3, none⟩ = some (.int .i64 nx) := F2.cell (i := 3) (by omega)
    have c4 : w2.cell? ⟨h, 4, none⟩ = some (.int .i64 ed) := F2.cell (i := 4) (by omega)
    have f2 := F2.frozen 2
    have f3 := F2.frozen 3
    have f4 := F2.frozen 4
    have HN : Hid (o' ≠ h) := by
      show o' ≠ h
      rcases ho with ⟨h1, h2⟩ | h1
      · rw [h2]; exact HG.out h1
      · omega
    have E : Hid (w2.rowIs h 41 6 (six (.slice (some ⟨s, 0, none⟩) wd wd) (.int .u64 few) (.slice (some ⟨gb, 0, none⟩) no no) (.int .i64 nx) (.int .i64 ed) bk) ∧ IRow .u64 36 w2 s wd (fun i => if i = q then IntKind.u64.wrap (2 ^ r) else 0) ∧ FrameBut w w2 (fun b => b = h ∨ (0 < no ∧ b = gb)) ∧ w2.cell? ⟨o', 0, none⟩ = some (.int .i32 (f : Int)) ∧ (0 < no → IRow .i32 21 w2 gb no (fun i => if i = 0 then (f : Int) else O i))) := ⟨F2, S2, G2, hc, hO2⟩
    clear F2 S2 G2 hc fr FW SW FR HW R1 HO HOW hO2 ho
    go_wp2
    go_end0
    refine ⟨rfl, s, o', co, by have := HV.out; omega, fields_end E.out.1, cell_end E.out.2.2.2.1 HN.out, irow_end E.out.2.1 hsh, fun h => irow_end (E.out.2.2.2.2 h) (HG.out h), frame_end E.out.2.2.1 (.inl rfl)⟩

set_option maxHeartbeats 1600000 in
/-- start, where seen is long enough. -/
theorem start_keep (h ga gb ns no n f wd q r : Nat) (ob : Option Addr) (few nx ed : Int) (bk : Value) (S O : Nat → Int) (w : World) (hn0 : f < n) (hn1 : n ≤ 65536) (hwd : ((n : Int) + 63) / 64 = (wd : Int)) (hq : (f : Int) / 64 = (q : Int)) (hr : (f : Int) % 64 = (r : Int))
    (hs : wd ≤ ns) (hns : ns ≤ 4096) (hF : w.rowIs h 41 6 (six (.slice (some ⟨ga, 0, none⟩) ns ns) (.int .u64 few) (.slice ob no no) (.int .i64 nx) (.int .i64 ed) bk)) (hS : IRow .u64 36 w ga ns S)
    (hob : (ob = none ∧ no = 0) ∨ (ob = some ⟨gb, 0, none⟩ ∧ IRow .i32 21 w gb no O)) :
    Calls Yba.prog 13 #[.pointer (some ⟨h, 0, none⟩), .int .i64 (n : Int), .int .i32 (f : Int)] w fun e w' => e = .returned (.tuple #[]) ∧ ∃ o co,
      Fields w' h (.slice (some ⟨ga, 0, none⟩) ns ns) (.int .u64 few) o co bk ∧ w'.cell? ⟨o, 0, none⟩ = some (.int .i32 (f : Int)) ∧ IRow .u64 36 w' ga ns (fun i => if i = q then bits .or .u64 (S i) (IntKind.u64.wrap (2 ^ r)) else S i) ∧
      (0 < no → IRow .i32 21 w' gb no (fun i => if i = 0 then (f : Int) else O i)) ∧ FrameBut w w' (fun b => b = h ∨ b = ga ∨ (0 < no ∧ b = gb)) := by
  have hqw : q < ns := by omega
  have hr64 : r < 64 := by omega
  have hnw : ¬ (ns : Int) < (wd : Int) := by omega
  have hah : ga ≠ h := by
    intro e
    obtain ⟨N, F, _, ⟨c, hc1, _⟩, _⟩ := hS
    obtain ⟨c', hc2, _⟩ := hF
    rw [e, hc2] at hc1
    simp at hc1
  have c0 : w.cell? ⟨h, 0, none⟩ = some (.slice (some ⟨ga, 0, none⟩) ns ns) := hF.cell (i := 0) (by omega)
  have c2 : w.cell? ⟨h, 2, none⟩ = some (.slice ob no no) := hF.cell (i := 2) (by omega)
  obtain ⟨x, hx⟩ : ∃ x, x = S q := ⟨_, rfl⟩
  have s0 : w.cell? ⟨ga, q, none⟩ = some (.int .u64 x) := by rw [hx]; exact hS.cell hqw
  have s1 := hS.frozen q
  have FW : Hid (((w.setCell ⟨ga, q, none⟩ (.int .u64 (bits .or .u64 x (IntKind.u64.wrap (2 ^ r))))).alloc (.cells #[.int .i32 (f : Int)] 21)).rowIs h 41 6 (six (.slice (some ⟨ga, 0, none⟩) ns ns) (.int .u64 few) (.slice ob no no) (.int .i64 nx) (.int .i64 ed) bk)) :=
    (hF.setOther (a := ⟨ga, q, none⟩) (by exact fun e => hah e.symm) _).alloc _
  have SW : Hid (IRow .u64 36 ((w.setCell ⟨ga, q, none⟩ (.int .u64 (bits .or .u64 x (IntKind.u64.wrap (2 ^ r))))).alloc (.cells #[.int .i32 (f : Int)] 21)) ga ns (fun i => if i = q then bits .or .u64 (S i) (IntKind.u64.wrap (2 ^ r)) else S i)) :=
    ((hS.set q _).alloc _).congr (fun i hi => by
      by_cases e : i = q
      · rw [if_pos e, if_pos e, e, hx]
      · rw [if_neg e, if_neg e])
  have FR : Hid (FrameBut w ((w.setCell ⟨ga, q, none⟩ (.int .u64 (bits .or .u64 x (IntKind.u64.wrap (2 ^ r))))).alloc (.cells #[.int .i32 (f : Int)] 21)) (fun b => b = h ∨ b = ga ∨ (0 < no ∧ b = gb))) :=
    ((FrameBut.refl _ _).set (p := ⟨ga, q, none⟩) (.inl (.inr (.inl rfl))) _).alloc _
  have hF' : Hid (w.rowIs h 41 6 (six (.slice (some ⟨ga, 0, none⟩) ns ns) (.int .u64 few) (.slice ob no no) (.int .i64 nx) (.int .i64 ed) bk) ∧ IRow .u64 36 w ga ns S) := ⟨hF, hS⟩
  have hhs : h < w.heap.size := hF.lt
  have hgs : ga < w.heap.size := hS.lt
  clear hF hS hx
  rcases hob with ⟨rfl, rfl⟩ | ⟨rfl, hO1⟩
  · go_enter Yba.func13, Yba.ntmps13
    go_wp2_with (at_builtin; refine wpList_append_first rfl _ _ 30 rfl 21 Yba.underlying30 info21 none gb 0 O (f : Int) rfl _ rfl ?q1 (.inl ⟨rfl, rfl⟩) ?_)
    intro o' co w2 hc fr ho
    have F2 := FW.out.of_block (fr.block h FW.out.lt (fun h => h))
    have S2 := SW.out.of_block (fr.block ga SW.out.lt (fun h => h))
    have G2 := FR.out.trans (fr.mono (fun _ h => h.elim))
    clear c0 c2 s0 s1
    have c2 : w2.cell? ⟨h, 2, none⟩ = some (.slice none 0 0) := F2.cell (i := 2) (by omega)
    have c3 : w2.cell? ⟨h, 3, none⟩ = some (.int .i64 nx) := F2.cell (i := 3) (by omega)
    have c4 : w2.cell? ⟨h, 4, none⟩ = some (.int .i64 ed) := F2.cell (i := 4) (by omega)
    have f2 := F2.frozen 2
    have f3 := F2.frozen 3
    have f4 := F2.frozen 4
    have E : Hid (w2.rowIs h 41 6 (six (.slice (some ⟨ga, 0, none⟩) ns ns) (.int .u64 few) (.slice none 0 0) (.int .i64 nx) (.int .i64 ed) bk) ∧ IRow .u64 36 w2 ga ns (fun i => if i = q then bits .or .u64 (S i) (IntKind.u64.wrap (2 ^ r)) else S i) ∧ FrameBut w w2 (fun b => b = h ∨ b = ga ∨ (0 < 0 ∧ b = gb)) ∧ w2.cell? ⟨o', 0, none⟩ = some (.int .i32 (f : Int))) := ⟨F2, S2, G2, hc⟩
    clear F2 S2 G2 hc fr FW SW FR hF'
    go_wp2
    go_end0
    refine ⟨rfl, o', co, fields_end E.out.1, cell_end E.out.2.2.2 (by omega), irow_end E.out.2.1 hah, fun h => absurd h (by omega), frame_end E.out.2.2.1 (.inl rfl)⟩
  · have e1 : gb ≠ h := by
      intro e
      obtain ⟨N, F, _, ⟨c, hc1, _⟩, _⟩ := hO1
      obtain ⟨c', hc2, _⟩ := hF'.out.1
      rw [e, hc2] at hc1
      simp at hc1
    have e2 : gb ≠ ga := by
      intro e
      obtain ⟨N, F, _, ⟨c, hc1, _⟩, _⟩ := hO1
      obtain ⟨N', F', _, ⟨c', hc2, _⟩, _⟩ := hF'.out.2
      rw [e, hc2] at hc1
      simp at hc1
    have HOW : Hid (IRow .i32 21 ((w.setCell ⟨ga, q, none⟩ (.int .u64 (bits .or .u64 x (IntKind.u64.wrap (2 ^ r))))).alloc (.cells #[.int .i32 (f : Int)] 21)) gb no O) := (hO1.setOther (a := ⟨ga, q, none⟩) e2 _).alloc _
    clear hO1
    go_enter Yba.func13, Yba.ntmps13
    go_wp2_with (at_builtin; refine wpList_append_first rfl _ _ 30 rfl 21 Yba.underlying30 info21 (some ⟨gb, 0, none⟩) gb no O (f : Int) rfl _ rfl ?q1 (.inr ⟨rfl, HOW.out⟩) ?_)
    intro o' co w2 hc hO2 fr ho
    have F2 := FW.out.of_block (fr.block h FW.out.lt (fun h => e1 h.2.symm))
    have S2 := SW.out.of_block (fr.block ga SW.out.lt (fun h => e2 h.2.symm))
    have G2 := FR.out.trans (fr.mono (fun _ h => .inr (.inr h)))
    clear c0 c2 s0 s1
    have c2 : w2.cell? ⟨h, 2, none⟩ = some (.slice (some ⟨gb, 0, none⟩) no no) := F2.cell (i := 2) (by omega)
    have c3 : w2.cell? ⟨h, 3, none⟩ = some (.int .i64 nx) := F2.cell (i := 3) (by omega)
    have c4 : w2.cell? ⟨h, 4, none⟩ = some (.int .i64 ed) := F2.cell (i := 4) (by omega)
    have f2 := F2.frozen 2
    have f3 := F2.frozen 3
    have f4 := F2.frozen 4
    have HN : Hid (o' ≠ h) := by
      show o' ≠ h
      rcases ho with ⟨h1, h2⟩ | h1
      · rw [h2]; exact e1
      · omega
    have E : Hid (w2.rowIs h 41 6 (six (.slice (some ⟨ga, 0, none⟩) ns ns) (.int .u64 few) (.slice (some ⟨gb, 0, none⟩) no no) (.int .i64 nx) (.int .i64 ed) bk) ∧ IRow .u64 36 w2 ga ns (fun i => if i = q then bits .or .u64 (S i) (IntKind.u64.wrap (2 ^ r)) else S i) ∧ FrameBut w w2 (fun b => b = h ∨ b = ga ∨ (0 < no ∧ b = gb)) ∧ w2.cell? ⟨o', 0, none⟩ = some (.int .i32 (f : Int)) ∧ (0 < no → IRow .i32 21 w2 gb no (fun i => if i = 0 then (f : Int) else O i))) := ⟨F2, S2, G2, hc, hO2⟩
    clear F2 S2 G2 hc fr FW SW FR hF' HOW hO2 ho
    go_wp2
    go_end0
    refine ⟨rfl, o', co, fields_end E.out.1, cell_end E.out.2.2.2.1 HN.out, irow_end E.out.2.1 hah, fun h => irow_end (E.out.2.2.2.2 h) e1, frame_end E.out.2.2.1 (.inl rfl)⟩
end Go.Proofs.Ybulkbphy
