/-
  CONTRACTS: the two copies, and (*walk).start.
-/
import Derived.Test.YbulkbphyRows
import Derived.Test.YbulkbphyMem
import Derived.WalkKit
import Derived.WalkSpells
import Derived.WalkLawsBesides
import Derived.Laws.CopyOwn
import Derived.ArgAppend
import Derived.Lib.SliceRun
import Derived.Deep.QuietTactic
import Derived.BigQuiet
namespace Go.Proofs.Ybulkbphy
open Go.RowKit
set_option linter.unusedVariables false

theorem info36 : (Yba.prog.info? 36).map (fun i => (i.zero, i.size, i.bytes)) = some (some (.int .u64 0), 1, 8) := by kernel_rfl
theorem info21 : (Yba.prog.info? 21).map (fun i => (i.zero, i.size, i.bytes)) = some (some (.int .i32 0), 1, 4) := by kernel_rfl

/-- What a copy hands back: nil for nil; else a row of the call's own. -/
def CopyOf (k : IntKind) (t : TypeId) (w' : World) (a oa : Option Addr) (g n : Nat) (f : Nat → Int) : Prop :=
  (a = none ∧ oa = none ∧ n = 0) ∨ (a.isNone = false ∧ oa = some ⟨g, 0, none⟩ ∧ IRow k t w' g n f)

theorem IRow.spliced {k : IntKind} {t : TypeId} {w : World} {g n : Nat} {L : List Value} {f : Nat → Int} (hL : L.length = n) (h : w.heap[g]? = some (.cells (splice L 0 ((List.range n).map fun i => Value.int k (f i))).toArray t (0, 0))) : IRow k t w g n f := by
  have e : splice L 0 ((List.range n).map fun i => Value.int k (f i)) = (List.range n).map fun i => Value.int k (f i) := by
    unfold splice
    simp
    omega
  rw [e] at h
  exact ⟨n, fun i => Value.int k (f i), Nat.le_refl _, ⟨_, h, by simp, fun i hi => by simp [hi]⟩, fun _ _ => rfl⟩

set_option maxHeartbeats 800000 in
theorem copy64_any (a : Option Addr) (b off n c : Nat) (f : Nat → Int) (w : World) (hn : n ≤ 4096) (ha : a = none → n = 0) (hb : 0 < n → a = some ⟨b, off, none⟩)
    (hc : ∀ j, j < n → w.cell? ⟨b, off + j, none⟩ = some (.int .u64 (f j))) :
    Calls Yba.prog 11 #[.slice a n c] w fun e w' => ∃ oa, e = .returned (.slice oa n n) ∧ CopyOf .u64 36 w' a oa w.heap.size n f ∧ Below w.heap.size w w' := by
  have q35 : ∀ (w : World) (a : Option Addr) (n c n' c' : Nat), (binOp .eql 35 (.slice a n c) (.slice none n' c')).run Yba.prog w = .ok (.bool a.isNone) w := fun w a n c n' c' => Lib.run_eql_slice_nil w _ _ a n c n' c' Yba.underlying35
  cases a with
  | none =>
    obtain rfl := ha rfl
    go_enter Yba.func11, Yba.ntmps11
    go_wp2
    go_ret
    exact ⟨none, rfl, .inl ⟨rfl, rfl, rfl⟩, Below.refl _ _⟩
  | some x =>
    have hmk := run_make_row' (P := Yba.prog) 35 36 (.int .u64 0) 8 Yba.underlying35 info36 rfl .i64 .i64 n (by omega) (by omega)
    have B0 : Below w.heap.size w (w.alloc (.cells (madeCells #[.int .u64 0] n) 36)) := (Below.refl _ _).alloc (Nat.le_refl _) _
    have hL : (w.alloc (.cells (madeCells #[.int .u64 0] n) 36)).heap[w.heap.size]? = some (.cells (madeCells #[.int .u64 0] n).toList.toArray 36 (0, 0)) := by
      rw [heap_alloc_new]
    have HL : Hid ((w.alloc (.cells (madeCells #[.int .u64 0] n) 36)).heap[w.heap.size]? = some (.cells (madeCells #[.int .u64 0] n).toList.toArray 36 (0, 0))) := hL
    have HC : Hid (∀ j, j < n → w.cell? ⟨b, off + j, none⟩ = some (.int .u64 (f j))) := hc
    have HB : Hid (0 < n → some x = some (⟨b, off, none⟩ : Addr)) := hb
    clear hL hc hb ha
    go_enter Yba.func11, Yba.ntmps11
    go_wp2_with (refine wpList_copy_splice rfl _ _ 35 35 rfl 36 Yba.underlying35 (by kernel_rfl) _ _ _ _ _ _ rfl rfl w.heap.size 0 (madeCells #[.int .u64 0] n).toList 36 HL.out ((List.range n).map fun i => Value.int .u64 (f i)) ?q1 ?q2 ?q3 ?q4 w.heap.size w B0 (Nat.le_refl _) ?_)
    case q1 => simp
    case q2 =>
      intro h0 j v hj
      obtain rfl : x = ⟨b, off, none⟩ := Option.some.inj (HB.out h0)
      have hjn : j < n := by
        have := (List.getElem?_eq_some_iff.1 hj).1
        simpa using this
      obtain rfl : j = v := by simpa [hjn] using hj
      have h1 := World.block_lt_of_cell? w _ (HC.out j hjn)
      rw [Addr.add_lit, World.cell?_of_block (w := w) (Below.heap_alloc w _ b h1), HC.out j hjn]
    case q3 => simp [toList_madeCells_one]
    case q4 => intro u hu; obtain ⟨x, _, rfl⟩ := List.mem_map.1 hu; rfl
    intro w2 hg2 hb2
    go_wp2
    go_ret
    have R := IRow.spliced (by simp [toList_madeCells_one]) hg2.out
    exact ⟨_, rfl, .inr ⟨rfl, rfl, R⟩, hb2⟩
set_option maxHeartbeats 800000 in
theorem copy32_any (a : Option Addr) (b off n c : Nat) (f : Nat → Int) (w : World) (hn : n ≤ 4096) (ha : a = none → n = 0) (hb : 0 < n → a = some ⟨b, off, none⟩)
    (hc : ∀ j, j < n → w.cell? ⟨b, off + j, none⟩ = some (.int .i32 (f j))) :
    Calls Yba.prog 12 #[.slice a n c] w fun e w' => ∃ oa, e = .returned (.slice oa n n) ∧ CopyOf .i32 21 w' a oa w.heap.size n f ∧ Below w.heap.size w w' := by
  have q30 : ∀ (w : World) (a : Option Addr) (n c n' c' : Nat), (binOp .eql 30 (.slice a n c) (.slice none n' c')).run Yba.prog w = .ok (.bool a.isNone) w := fun w a n c n' c' => Lib.run_eql_slice_nil w _ _ a n c n' c' Yba.underlying30
  cases a with
  | none =>
    obtain rfl := ha rfl
    go_enter Yba.func12, Yba.ntmps12
    go_wp2
    go_ret
    exact ⟨none, rfl, .inl ⟨rfl, rfl, rfl⟩, Below.refl _ _⟩
  | some x =>
    have hmk := run_make_row' (P := Yba.prog) 30 21 (.int .i32 0) 4 Yba.underlying30 info21 rfl .i64 .i64 n (by omega) (by omega)
    have B0 : Below w.heap.size w (w.alloc (.cells (madeCells #[.int .i32 0] n) 21)) := (Below.refl _ _).alloc (Nat.le_refl _) _
    have hL : (w.alloc (.cells (madeCells #[.int .i32 0] n) 21)).heap[w.heap.size]? = some (.cells (madeCells #[.int .i32 0] n).toList.toArray 21 (0, 0)) := by
      rw [heap_alloc_new]
    have HL : Hid ((w.alloc (.cells (madeCells #[.int .i32 0] n) 21)).heap[w.heap.size]? = some (.cells (madeCells #[.int .i32 0] n).toList.toArray 21 (0, 0))) := hL
    have HC : Hid (∀ j, j < n → w.cell? ⟨b, off + j, none⟩ = some (.int .i32 (f j))) := hc
    have HB : Hid (0 < n → some x = some (⟨b, off, none⟩ : Addr)) := hb
    clear hL hc hb ha
    go_enter Yba.func12, Yba.ntmps12
    go_wp2_with (refine wpList_copy_splice rfl _ _ 30 30 rfl 21 Yba.underlying30 (by kernel_rfl) _ _ _ _ _ _ rfl rfl w.heap.size 0 (madeCells #[.int .i32 0] n).toList 21 HL.out ((List.range n).map fun i => Value.int .i32 (f i)) ?q1 ?q2 ?q3 ?q4 w.heap.size w B0 (Nat.le_refl _) ?_)
    case q1 => simp
    case q2 =>
      intro h0 j v hj
      obtain rfl : x = ⟨b, off, none⟩ := Option.some.inj (HB.out h0)
      have hjn : j < n := by
        have := (List.getElem?_eq_some_iff.1 hj).1
        simpa using this
      obtain rfl : j = v := by simpa [hjn] using hj
      have h1 := World.block_lt_of_cell? w _ (HC.out j hjn)
      rw [Addr.add_lit, World.cell?_of_block (w := w) (Below.heap_alloc w _ b h1), HC.out j hjn]
    case q3 => simp [toList_madeCells_one]
    case q4 => intro u hu; obtain ⟨x, _, rfl⟩ := List.mem_map.1 hu; rfl
    intro w2 hg2 hb2
    go_wp2
    go_ret
    have R := IRow.spliced (by simp [toList_madeCells_one]) hg2.out
    exact ⟨_, rfl, .inr ⟨rfl, rfl, R⟩, hb2⟩

/-- append WHERE THERE IS ROOM, at the list of a plain region's operations. -/
theorem wpList_append_room {P : Program} {w : World} {ops : Array Oper} {rest : List Oper} {o : Oper} {a : Act} {Q : Exit → Act → World → Prop}
    (hg : o.guard = none) (s x : Operand) (t : TypeId) (hop : o.op = Op.call { callee := Callee.builtin Builtin.append, args := #[s, x], argTypes := #[t, t] })
    (e : TypeId) (i : TypeInfo) (size : Nat) (h1 : P.underlying t = some (.slice e)) (h2 : P.info? e = some i) (h4 : i.size = size)
    (b off n cap : Nat) (hs : a.eval s = .slice (some ⟨b, off, none⟩) n cap)
    (ad : Addr) (m c : Nat) (news : List Value) (hx : a.eval x = .slice (some ad) m c) (hn : news.length = m * size) (hc : ∀ j u, news[j]? = some u → w.cell? (ad.add j) = some u) (h1c : ∀ u ∈ news, u.oneCell' = true)
    (hroom : n + m ≤ cap) (hspare : ∀ j, j < news.length → (w.cell? ⟨b, off + n * size + j, none⟩).isSome = true ∧ w.frozen? ⟨b, off + n * size + j, none⟩ = false)
    (hK : wpList P ops Q rest (a.put o.dst (.slice (some ⟨b, off, none⟩) (n + m) cap)) (w.setCells b (off + n * size) news)) : wpList P ops Q (o :: rest) a w := by
  refine wpList_plain hg fun K hK' => ?_
  subst h4
  have hrun := run_append_room_cells (P := P) w t o.type e i h1 h2 b off n cap ad m c news hn hc h1c hroom (fun j hj => (hspare j hj).1) (fun j hj => (hspare j hj).2)
  unfold Oper.wp
  simp [execOp, hop, resolve, invoke, builtin, hs, hx, hrun, Result.andThen]
  exact hK' _ _ hK

/-- The six fields of a walk. -/
def six (a b c d e f : Value) : Nat → Value
  | 0 => a
  | 1 => b
  | 2 => c
  | 3 => d
  | 4 => e
  | _ => f

/-- 'make([]T, n)' at a kind of numbers, THE WORLD BEHIND IT A LETTER. -/
theorem wpList_make_irow {P : Program} {w : World} {ops : Array Oper} {rest : List Oper} {o : Oper} {a : Act} {Q : Exit → Act → World → Prop}
    (hg : o.guard = none) (l c : Operand) (t : TypeId) (hop : o.op = Op.makeSlice t l c)
    (k : IntKind) (e : TypeId) (bytes : Nat) (ht : P.underlying t = some (.slice e)) (hinfo : (P.info? e).map (fun i => (i.zero, i.size, i.bytes)) = some (some (.int k 0), 1, bytes))
    (kl kc : IntKind) (L C : Int) (n : Nat) (hl : a.eval l = .int kl L) (hc : a.eval c = .int kc C) (hL : L = (n : Int)) (hC : C = (n : Int)) (hbytes : bytes * n ≤ 281474976710656) (h63 : n ≤ 9223372036854775807)
    (hK : ∀ w', IRow k e w' w.heap.size n (fun _ => 0) → Below w.heap.size w w' → w'.heap.size = w.heap.size + 1 → wpList P ops Q rest (a.put o.dst (.slice (some ⟨w.heap.size, 0, none⟩) n n)) w') :
    wpList P ops Q (o :: rest) a w := by
  subst hL; subst hC
  refine wpList_plain hg fun K hK' => ?_
  have hrun := run_make_row' (P := P) t e (.int k 0) bytes ht hinfo rfl kl kc n hbytes h63 w
  unfold Oper.wp
  simp [execOp, hop, hl, hc, hrun, Result.andThen]
  exact hK' _ _ (hK _ (IRow.made k e w n) ((Below.refl _ _).alloc (Nat.le_refl _) _) (Deep.nblk_alloc _ _))

/-- w' is w but for new blocks and the blocks in X. -/
structure FrameBut (w w' : World) (X : Nat → Prop) : Prop where
  os : w'.os = w.os
  tape : w'.tape = w.tape
  output : w'.output = w.output
  size : w.heap.size ≤ w'.heap.size
  block : ∀ b, b < w.heap.size → ¬ X b → w'.heap[b]? = w.heap[b]?
theorem FrameBut.refl (w : World) (X : Nat → Prop) : FrameBut w w X := ⟨rfl, rfl, rfl, Nat.le_refl _, fun _ _ _ => rfl⟩
theorem FrameBut.trans {a b c : World} {X : Nat → Prop} (h : FrameBut a b X) (k : FrameBut b c X) : FrameBut a c X :=
  ⟨k.os.trans h.os, k.tape.trans h.tape, k.output.trans h.output, Nat.le_trans h.size k.size, fun i hi hx => (k.block i (Nat.lt_of_lt_of_le hi h.size) hx).trans (h.block i hi hx)⟩
theorem FrameBut.alloc {a b : World} {X : Nat → Prop} (h : FrameBut a b X) (o : Obj) : FrameBut a (b.alloc o) X :=
  ⟨h.os, h.tape, h.output, by rw [Deep.nblk_alloc]; have := h.size; omega, fun i hi hx => by rw [Deep.blk_alloc_lt _ _ _ (Nat.lt_of_lt_of_le hi h.size)]; exact h.block i hi hx⟩
theorem FrameBut.set {a b : World} {X : Nat → Prop} (h : FrameBut a b X) {p : Addr} (hp : X p.block ∨ a.heap.size ≤ p.block) (v : Value) : FrameBut a (b.setCell p v) X :=
  ⟨h.os, h.tape, h.output, by rw [Deep.nblk_setCell]; exact h.size, fun i hi hx => by
    rw [Deep.blk_setCell_other _ _ _ _ (fun e => by
      rcases hp with hp | hp
      · exact hx (by rw [e]; exact hp)
      · omega)]
    exact h.block i hi hx⟩
theorem FrameBut.of_below {a b : World} {X : Nat → Prop} (h : Below a.heap.size a b) : FrameBut a b X := ⟨h.os, h.tape, h.output, h.size, fun i hi _ => h.block i hi⟩
theorem FrameBut.mono {a b : World} {X Y : Nat → Prop} (h : FrameBut a b X) (k : ∀ i, X i → Y i) : FrameBut a b Y := ⟨h.os, h.tape, h.output, h.size, fun i hi hy => h.block i hi (fun hx => hy (k i hx))⟩
theorem FrameBut.below {a b : World} {X : Nat → Prop} {B : Nat} (h : FrameBut a b X) (hB : B ≤ a.heap.size) (hX : ∀ i, X i → B ≤ i) : Below B a b :=
  ⟨h.os, h.tape, h.output, h.size, fun i hi => h.block i (by omega) (fun hx => by have := hX i hx; omega)⟩

/-- 'append(xs[:0], f)': into the array of xs where it has room, into a new one where it has none: THE WORLD BEHIND IT A LETTER. -/
theorem wpList_append_first {P : Program} {w : World} {ops : Array Oper} {rest : List Oper} {o : Oper} {a : Act} {Q : Exit → Act → World → Prop}
    (hg : o.guard = none) (s x : Operand) (t : TypeId) (hop : o.op = Op.call { callee := Callee.builtin Builtin.append, args := #[s, x], argTypes := #[t, t] })
    (e : TypeId) (h1 : P.underlying t = some (.slice e)) (hinfo : (P.info? e).map (fun i => (i.zero, i.size, i.bytes)) = some (some (.int .i32 0), 1, 4))
    (ob : Option Addr) (gb no : Nat) (O : Nat → Int) (fv : Int) (hs : a.eval s = .slice ob 0 no) (ad : Addr) (hx : a.eval x = .slice (some ad) 1 1) (had : w.cell? ad = some (.int .i32 fv))
    (hob : (ob = none ∧ no = 0) ∨ (ob = some ⟨gb, 0, none⟩ ∧ IRow .i32 e w gb no O))
    (hK : ∀ o' co w', w'.cell? ⟨o', 0, none⟩ = some (.int .i32 fv) → (0 < no → IRow .i32 e w' gb no (fun i => if i = 0 then fv else O i)) → FrameBut w w' (fun b => 0 < no ∧ b = gb) → ((0 < no ∧ o' = gb) ∨ w.heap.size ≤ o') → wpList P ops Q rest (a.put o.dst (.slice (some ⟨o', 0, none⟩) 1 co)) w') :
    wpList P ops Q (o :: rest) a w := by
  obtain ⟨i0, hi0, hz0, hz1, hz2⟩ := info_parts hinfo
  have hnews : ∀ j u, [Value.int .i32 fv][j]? = some u → w.cell? (ad.add j) = some u := by
    intro j u hj
    match j, hj with
    | 0, hj =>
      simp at hj
      subst hj
      have e0 : ad.add 0 = ad := by
        obtain ⟨b, off, spot⟩ := ad
        have := World.cell?_spot had
        simp at this
        subst this
        rw [Addr.add_lit]; simp
      rw [e0]; exact had
  have hone : ∀ u ∈ [Value.int .i32 fv], u.oneCell' = true := by intro u hu; simp at hu; subst hu; rfl
  by_cases hno : 0 < no
  · rcases hob with ⟨_, h0⟩ | ⟨rfl, R⟩
    · omega
    refine wpList_append_room hg s x t hop e i0 1 h1 hi0 hz1 gb 0 0 no hs ad 1 1 [.int .i32 fv] hx rfl hnews hone (by omega) (fun j hj => ?_) ?_
    · have : j = 0 := by simpa using hj
      subst this
      exact ⟨by rw [show 0 + 0 * 1 + 0 = 0 from rfl, R.cell hno]; rfl, R.frozen _⟩
    · have e1 : w.setCells gb (0 + 0 * 1) [.int .i32 fv] = w.setCell ⟨gb, 0, none⟩ (.int .i32 fv) := by simp [World.setCells]
      rw [e1]
      have R' := R.set 0 fv
      exact hK gb no _ (by rw [R'.cell hno]; rfl) (fun _ => R') ((FrameBut.refl _ _).set (.inl ⟨hno, rfl⟩) _) (.inl ⟨hno, rfl⟩)
  · refine wpList_append_grows w hg s x t hop e i0 (.int .i32 0) 1 4 h1 hi0 hz0 hz1 hz2 rfl (by omega) ob 0 no [] hs (fun _ => ⟨rfl, by omega⟩) rfl (fun b _ j u hj => by simp at hj) ad 1 1 [.int .i32 fv] hx rfl hnews hone (by omega) (by unfold maxLen; omega) (by omega) ?_
    intro v' w' hown hgrow
    rcases hown.2 with ⟨_, h0⟩ | ⟨g, cap, cur, rfl, hb, _⟩
    · omega
    have hown' : w'.ownsRow w.heap.size e 1 (.slice (some ⟨g, 0, none⟩) 1 cap) 1 [.int .i32 fv] := hown
    have R := IRow.of_owns (k := .i32) (f := fun _ => fv) hown' (fun i hi => by
      have : i = 0 := by omega
      subst this; rfl)
    exact hK g cap w' (R.cell (by omega)) (fun h => absurd h hno) ⟨hgrow.os, hgrow.tape, hgrow.output, hgrow.size, fun b hb' _ => hgrow.block b hb' (by simp)⟩ (.inr hb)
end Go.Proofs.Ybulkbphy
