/-
  CONTRACT: newRawVote.
-/
import Derived.Test.YbulkbpjoVote
import Derived.Deep.Cut
namespace Go.Proofs.Ybulkbpjo
open Go.RowKit Go.Deep Go.Lib
set_option linter.unusedVariables false

def ten (a b c d e f g h i j : Value) : Nat → Value
  | 0 => a | 1 => b | 2 => c | 3 => d | 4 => e | 5 => f | 6 => g | 7 => h | 8 => i | _ => j
def seven (a b c d e f g : Option Addr) : Nat → Value
  | 0 => .pointer a | 1 => .pointer b | 2 => .pointer c | 3 => .pointer d | 4 => .pointer e | 5 => .pointer f | _ => .pointer g

/-- A cell that lies neither in R nor in R0. -/
structure Pt (W : World) (R0 R : Nat) (b o : Nat) (v : Value) : Prop where
  cell : W.cell? ⟨b, o, none⟩ = some v
  n0 : b ≠ R0
  n : b ≠ R
theorem Pt.alloc {W : World} {R0 R b o : Nat} {v : Value} (h : Pt W R0 R b o v) (x : Obj) : Pt (W.alloc x) R0 R b o v :=
  ⟨(World.cell?_of_block (w := W) (blk_alloc_lt W x b (World.block_lt_of_cell? W _ h.cell))).trans h.cell, h.n0, h.n⟩
theorem Pt.set {W : World} {R0 R b o : Nat} {v : Value} (h : Pt W R0 R b o v) (k : Nat) (x : Value) : Pt (W.setCell ⟨R, k, none⟩ x) R0 R b o v :=
  ⟨(World.cell?_of_block (w := W) (blk_setCell_other W _ x b h.n)).trans h.cell, h.n0, h.n⟩
theorem Pt.below {W W' : World} {R0 R b o : Nat} {v : Value} (h : Pt W R0 R b o v) (hb : Below W.heap.size W W') : Pt W' R0 R b o v :=
  ⟨(hb.cell (p := ⟨b, o, none⟩) (World.block_lt_of_cell? W _ h.cell)).trans h.cell, h.n0, h.n⟩

/-- A checkpoint. -/
def ChkP (W : World) (R0 R : Nat) (p : Option Addr) (ep : Int) (hs : ByteArray) : Prop :=
  ∃ a b bo c co, p = some ⟨a, 0, none⟩ ∧ Pt W R0 R a 0 (.pointer (some ⟨b, bo, none⟩)) ∧ Pt W R0 R a 1 (.pointer (some ⟨c, co, none⟩)) ∧ Pt W R0 R b bo (.int .u64 ep) ∧ Pt W R0 R c co (.string hs)

/-- What is laid so far: source and target. -/
def Src (W : World) (R0 R : Nat) (ho : Bool) (se te : Int) (sh th : ByteArray) (p1 p2 : Option Addr) : Prop :=
  (ho = true ∧ p1 = none ∧ p2 = none) ∨ (ho = false ∧ ChkP W R0 R p1 se sh ∧ ChkP W R0 R p2 te th)
/-- Slot and head. -/
def Hea (W : World) (R0 R : Nat) (hd : ByteArray) (sl : Int) (p3 p4 : Option Addr) : Prop :=
  (hd.toList.isEmpty = true ∧ p3 = none ∧ p4 = none) ∨ (hd.toList.isEmpty = false ∧ ∃ b o b' o', p3 = some ⟨b, o, none⟩ ∧ Pt W R0 R b o (.int .u64 sl) ∧ p4 = some ⟨b', o', none⟩ ∧ Pt W R0 R b' o' (.string hd))
/-- A signature. -/
def Sg (W : World) (R0 R : Nat) (p a : Option Addr) (n : Nat) (f : Nat → Int) : Prop :=
  (a = none ∧ p = none) ∨ (a.isNone = false ∧ ∃ b o, p = some ⟨b, o, none⟩ ∧ Pt W R0 R b o (.string (hexS f n)))

section
variable {W W' : World} {R0 R : Nat}
/-- What holds of a world behind a step that turns no cell outside R and R0. -/
def Keeps (W W' : World) (R0 R : Nat) : Prop := ∀ b o v, Pt W R0 R b o v → Pt W' R0 R b o v
theorem ChkP.keep {p : Option Addr} {ep : Int} {hs : ByteArray} (k : Keeps W W' R0 R) (h : ChkP W R0 R p ep hs) : ChkP W' R0 R p ep hs := by
  obtain ⟨a, b, bo, c, co, h1, h2, h3, h4, h5⟩ := h
  exact ⟨a, b, bo, c, co, h1, k _ _ _ h2, k _ _ _ h3, k _ _ _ h4, k _ _ _ h5⟩
theorem Src.keep {ho : Bool} {se te : Int} {sh th : ByteArray} {p1 p2 : Option Addr} (k : Keeps W W' R0 R) (h : Src W R0 R ho se te sh th p1 p2) : Src W' R0 R ho se te sh th p1 p2 := by
  rcases h with h | ⟨h1, h2, h3⟩
  · exact .inl h
  · exact .inr ⟨h1, h2.keep k, h3.keep k⟩
theorem Hea.keep {hd : ByteArray} {sl : Int} {p3 p4 : Option Addr} (k : Keeps W W' R0 R) (h : Hea W R0 R hd sl p3 p4) : Hea W' R0 R hd sl p3 p4 := by
  rcases h with h | ⟨h1, b, o, b', o', h2, h3, h4, h5⟩
  · exact .inl h
  · exact .inr ⟨h1, b, o, b', o', h2, k _ _ _ h3, h4, k _ _ _ h5⟩
theorem Sg.keep {p a : Option Addr} {n : Nat} {f : Nat → Int} (k : Keeps W W' R0 R) (h : Sg W R0 R p a n f) : Sg W' R0 R p a n f := by
  rcases h with h | ⟨h1, b, o, h2, h3⟩
  · exact .inl h
  · exact .inr ⟨h1, b, o, h2, k _ _ _ h3⟩
end

/-- The vote in block V, the raw vote that is being laid in R, the result's place R0. -/
structure St (w W : World) (V R0 R : Nat) (vf : Nat → Value) (p0 p1 p2 p3 p4 p5 p6 : Option Addr) : Prop where
  v : W.rowIs V 29 10 vf
  r0 : ∃ f, W.rowIs R0 34 7 f
  r : W.rowIs R 34 7 (seven p0 p1 p2 p3 p4 p5 p6)
  below : Below w.heap.size w W
  hV : w.heap.size ≤ V
  hR0 : w.heap.size ≤ R0
  hR : w.heap.size ≤ R
  n1 : R0 ≠ R
  n2 : V ≠ R
  n3 : V ≠ R0

section
variable {w W W' : World} {V R0 R : Nat} {vf : Nat → Value} {p0 p1 p2 p3 p4 p5 p6 : Option Addr}
theorem St.alloc (h : St w W V R0 R vf p0 p1 p2 p3 p4 p5 p6) (x : Obj) : St w (W.alloc x) V R0 R vf p0 p1 p2 p3 p4 p5 p6 := by
  obtain ⟨f, hf⟩ := h.r0
  exact ⟨h.v.alloc x, ⟨f, hf.alloc x⟩, h.r.alloc x, h.below.alloc h.below.size x, h.hV, h.hR0, h.hR, h.n1, h.n2, h.n3⟩
theorem St.later (h : St w W V R0 R vf p0 p1 p2 p3 p4 p5 p6) (hb : Below W.heap.size W W') : St w W' V R0 R vf p0 p1 p2 p3 p4 p5 p6 := by
  obtain ⟨f, hf⟩ := h.r0
  exact ⟨h.v.of_block (hb.block V h.v.lt), ⟨f, hf.of_block (hb.block R0 hf.lt)⟩, h.r.of_block (hb.block R h.r.lt), h.below.trans (hb.mono h.below.size), h.hV, h.hR0, h.hR, h.n1, h.n2, h.n3⟩
/-- A store into field k of the raw vote. -/
theorem St.put (h : St w W V R0 R vf p0 p1 p2 p3 p4 p5 p6) (k : Nat) (q : Option Addr) (hk : k < 7) {q0 q1 q2 q3 q4 q5 q6 : Option Addr}
    (e : ∀ i, i < 7 → (if i = k then Value.pointer q else seven p0 p1 p2 p3 p4 p5 p6 i) = seven q0 q1 q2 q3 q4 q5 q6 i) : St w (W.setCell ⟨R, k, none⟩ (.pointer q)) V R0 R vf q0 q1 q2 q3 q4 q5 q6 := by
  obtain ⟨f, hf⟩ := h.r0
  exact ⟨h.v.setOther (a := ⟨R, k, none⟩) h.n2 _, ⟨f, hf.setOther (a := ⟨R, k, none⟩) h.n1 _⟩, (h.r.set k _).congr e, h.below.setCell (p := ⟨R, k, none⟩) h.hR _, h.hV, h.hR0, h.hR, h.n1, h.n2, h.n3⟩
end

theorem ten_alloc (w : World) (a b c d e f g h i j : Value) : (w.alloc (.cells #[a, b, c, d, e, f, g, h, i, j] 29)).rowIs w.heap.size 29 10 (ten a b c d e f g h i j) :=
  World.rowIs_alloc w #[a, b, c, d, e, f, g, h, i, j] 29 _ (fun k hk => by
    match k, hk with
    | 0, _ => rfl
    | 1, _ => rfl
    | 2, _ => rfl
    | 3, _ => rfl
    | 4, _ => rfl
    | 5, _ => rfl
    | 6, _ => rfl
    | 7, _ => rfl
    | 8, _ => rfl
    | 9, _ => rfl)
theorem seven_alloc (w : World) (a b c d e f g : Option Addr) : (w.alloc (.cells #[.pointer a, .pointer b, .pointer c, .pointer d, .pointer e, .pointer f, .pointer g] 34)).rowIs w.heap.size 34 7 (seven a b c d e f g) :=
  World.rowIs_alloc w #[.pointer a, .pointer b, .pointer c, .pointer d, .pointer e, .pointer f, .pointer g] 34 _ (fun k hk => by
    match k, hk with
    | 0, _ => rfl
    | 1, _ => rfl
    | 2, _ => rfl
    | 3, _ => rfl
    | 4, _ => rfl
    | 5, _ => rfl
    | 6, _ => rfl)

/-- The world when the vote is boxed and the raw vote begun. -/
def begun (w : World) (a b c d e f g h i j : Value) : World :=
  ((w.alloc (.cells #[a, b, c, d, e, f, g, h, i, j] 29)).alloc (.cells #[.pointer none, .pointer none, .pointer none, .pointer none, .pointer none, .pointer none, .pointer none] 34)).alloc
    (.cells #[.pointer (some ⟨w.heap.size, 0, none⟩), .pointer none, .pointer none, .pointer none, .pointer none, .pointer none, .pointer none] 34)
theorem begun_st (w : World) (a b c d e f g h i j : Value) : St w (begun w a b c d e f g h i j) w.heap.size (w.heap.size + 1) (w.heap.size + 1 + 1) (ten a b c d e f g h i j) (some ⟨w.heap.size, 0, none⟩) none none none none none none := by
  have hV := ten_alloc w a b c d e f g h i j
  obtain ⟨W1, h1⟩ : ∃ W1, W1 = w.alloc (.cells #[a, b, c, d, e, f, g, h, i, j] 29) := ⟨_, rfl⟩
  have s1 : W1.heap.size = w.heap.size + 1 := by rw [h1, nblk_alloc]
  have hR0 := seven_alloc W1 none none none none none none none
  obtain ⟨W2, h2⟩ : ∃ W2, W2 = W1.alloc (.cells #[.pointer none, .pointer none, .pointer none, .pointer none, .pointer none, .pointer none, .pointer none] 34) := ⟨_, rfl⟩
  have s2 : W2.heap.size = w.heap.size + 1 + 1 := by rw [h2, nblk_alloc, s1]
  have hR := seven_alloc W2 (some ⟨w.heap.size, 0, none⟩) none none none none none none
  have e : begun w a b c d e f g h i j = W2.alloc (.cells #[.pointer (some ⟨w.heap.size, 0, none⟩), .pointer none, .pointer none, .pointer none, .pointer none, .pointer none, .pointer none] 34) := by rw [h2, h1]; rfl
  rw [e]
  rw [← h1] at hV
  rw [← h2, s1] at hR0
  rw [s2] at hR
  refine ⟨?_, ⟨_, hR0.alloc _⟩, hR, ?_, by omega, by omega, by omega, by omega, by omega, by omega⟩
  · have := hV.alloc (.cells #[.pointer none, .pointer none, .pointer none, .pointer none, .pointer none, .pointer none, .pointer none] 34)
    rw [← h2] at this
    exact this.alloc _
  · have b1 : Below w.heap.size w W1 := by rw [h1]; exact (Below.refl _ _).alloc (Nat.le_refl _) _
    have b2 : Below w.heap.size w W2 := by rw [h2]; exact b1.alloc (by omega) _
    exact b2.alloc (by omega) _

section
variable {w W W' : World} {V R0 R : Nat} {vf : Nat → Value} {p0 p1 p2 p3 p4 p5 p6 : Option Addr}
theorem St.pt (h : St w W V R0 R vf p0 p1 p2 p3 p4 p5 p6) (k : Nat) (hk : k < 10) {x : Value} (hx : vf k = x) : Pt W R0 R V k x := ⟨by rw [h.v.cell hk, hx], h.n3, h.n2⟩
/-- A new block behind stores into R. -/
theorem pt_new {U : World} {R0 R B k : Nat} {c : Array Value} {t : TypeId} {x : Value} (hB : U.heap.size = B) (hR0 : R0 < U.heap.size) (hR : R < U.heap.size) (hx : c[k]? = some x) : Pt (U.alloc (.cells c t)) R0 R B k x := by
  refine ⟨?_, by omega, by omega⟩
  have h := blk_alloc_new U (.cells c t)
  rw [hB] at h
  rw [cell_of_row _ B k c t (0, 0) h]
  simpa using hx

theorem src_step {se te : Int} {sh th : ByteArray} (h : St w W V R0 R vf p0 none none none none none none) (e1 : vf 1 = .int .u64 se) (e2 : vf 2 = .string sh) (e3 : vf 3 = .int .u64 te) (e4 : vf 4 = .string th) :
    ∃ p1 p2, St w ((((W.setCell ⟨R, 1, none⟩ (.pointer (some ⟨W.heap.size, 0, none⟩))).setCell ⟨R, 2, none⟩ (.pointer (some ⟨W.heap.size + 1, 0, none⟩))).alloc (.cells #[.pointer (some ⟨V, 1, none⟩), .pointer (some ⟨V, 2, none⟩)] 53)).alloc (.cells #[.pointer (some ⟨V, 3, none⟩), .pointer (some ⟨V, 4, none⟩)] 53)) V R0 R vf p0 p1 p2 none none none none ∧
      Src ((((W.setCell ⟨R, 1, none⟩ (.pointer (some ⟨W.heap.size, 0, none⟩))).setCell ⟨R, 2, none⟩ (.pointer (some ⟨W.heap.size + 1, 0, none⟩))).alloc (.cells #[.pointer (some ⟨V, 1, none⟩), .pointer (some ⟨V, 2, none⟩)] 53)).alloc (.cells #[.pointer (some ⟨V, 3, none⟩), .pointer (some ⟨V, 4, none⟩)] 53)) R0 R false se te sh th p1 p2 := by
  have hRl := h.r.lt
  obtain ⟨f0, hf0⟩ := h.r0
  have hR0l := hf0.lt
  have S2 : St w ((W.setCell ⟨R, 1, none⟩ (.pointer (some ⟨W.heap.size, 0, none⟩))).setCell ⟨R, 2, none⟩ (.pointer (some ⟨W.heap.size + 1, 0, none⟩))) V R0 R vf p0 (some ⟨W.heap.size, 0, none⟩) (some ⟨W.heap.size + 1, 0, none⟩) none none none none :=
    (h.put 1 (some ⟨W.heap.size, 0, none⟩) (by omega) (q0 := p0) (q1 := some ⟨W.heap.size, 0, none⟩) (q2 := none) (q3 := none) (q4 := none) (q5 := none) (q6 := none) (fun i hi => by
      match i, hi with
      | 0, _ => rfl
      | 1, _ => rfl
      | 2, _ => rfl
      | 3, _ => rfl
      | 4, _ => rfl
      | 5, _ => rfl
      | 6, _ => rfl)).put 2 (some ⟨W.heap.size + 1, 0, none⟩) (by omega) (fun i hi => by
      match i, hi with
      | 0, _ => rfl
      | 1, _ => rfl
      | 2, _ => rfl
      | 3, _ => rfl
      | 4, _ => rfl
      | 5, _ => rfl
      | 6, _ => rfl)
  have z2 : ((W.setCell ⟨R, 1, none⟩ (.pointer (some ⟨W.heap.size, 0, none⟩))).setCell ⟨R, 2, none⟩ (.pointer (some ⟨W.heap.size + 1, 0, none⟩))).heap.size = W.heap.size := by rw [nblk_setCell, nblk_setCell]
  generalize ((W.setCell ⟨R, 1, none⟩ (.pointer (some ⟨W.heap.size, 0, none⟩))).setCell ⟨R, 2, none⟩ (.pointer (some ⟨W.heap.size + 1, 0, none⟩))) = U at S2 z2 ⊢
  have S4 := (S2.alloc (.cells #[.pointer (some ⟨V, 1, none⟩), .pointer (some ⟨V, 2, none⟩)] 53)).alloc (.cells #[.pointer (some ⟨V, 3, none⟩), .pointer (some ⟨V, 4, none⟩)] 53)
  have z3 : (U.alloc (.cells #[.pointer (some ⟨V, 1, none⟩), .pointer (some ⟨V, 2, none⟩)] 53)).heap.size = W.heap.size + 1 := by rw [nblk_alloc, z2]
  refine ⟨_, _, S4, .inr ⟨rfl, ⟨W.heap.size, V, 1, V, 2, rfl, ?_, ?_, S4.pt 1 (by omega) e1, S4.pt 2 (by omega) e2⟩, ⟨W.heap.size + 1, V, 3, V, 4, rfl, ?_, ?_, S4.pt 3 (by omega) e3, S4.pt 4 (by omega) e4⟩⟩⟩
  · exact (pt_new z2 (by omega) (by omega) rfl).alloc _
  · exact (pt_new z2 (by omega) (by omega) rfl).alloc _
  · exact pt_new z3 (by omega) (by omega) rfl
  · exact pt_new z3 (by omega) (by omega) rfl

theorem keeps_set {U : World} (k : Nat) (x : Value) : Keeps U (U.setCell ⟨R, k, none⟩ x) R0 R := fun _ _ _ h => h.set k x
theorem keeps_trans {A B C : World} (h : Keeps A B R0 R) (k : Keeps B C R0 R) : Keeps A C R0 R := fun b o v q => k b o v (h b o v q)
theorem keeps_below {A B : World} (h : Below A.heap.size A B) : Keeps A B R0 R := fun _ _ _ q => q.below h
theorem keeps_alloc {A : World} (x : Obj) : Keeps A (A.alloc x) R0 R := fun _ _ _ q => q.alloc x

theorem head_step {sl : Int} {hd : ByteArray} (h : St w W V R0 R vf p0 p1 p2 none none none none) (e5 : vf 5 = .int .u64 sl) (e6 : vf 6 = .string hd) (he : hd.toList.isEmpty = false) :
    St w ((W.setCell ⟨R, 3, none⟩ (.pointer (some ⟨V, 5, none⟩))).setCell ⟨R, 4, none⟩ (.pointer (some ⟨V, 6, none⟩))) V R0 R vf p0 p1 p2 (some ⟨V, 5, none⟩) (some ⟨V, 6, none⟩) none none ∧
      Hea ((W.setCell ⟨R, 3, none⟩ (.pointer (some ⟨V, 5, none⟩))).setCell ⟨R, 4, none⟩ (.pointer (some ⟨V, 6, none⟩))) R0 R hd sl (some ⟨V, 5, none⟩) (some ⟨V, 6, none⟩) := by
  have S2 : St w ((W.setCell ⟨R, 3, none⟩ (.pointer (some ⟨V, 5, none⟩))).setCell ⟨R, 4, none⟩ (.pointer (some ⟨V, 6, none⟩))) V R0 R vf p0 p1 p2 (some ⟨V, 5, none⟩) (some ⟨V, 6, none⟩) none none :=
    (h.put 3 (some ⟨V, 5, none⟩) (by omega) (q0 := p0) (q1 := p1) (q2 := p2) (q3 := some ⟨V, 5, none⟩) (q4 := none) (q5 := none) (q6 := none) (fun i hi => by
      match i, hi with
      | 0, _ => rfl
      | 1, _ => rfl
      | 2, _ => rfl
      | 3, _ => rfl
      | 4, _ => rfl
      | 5, _ => rfl
      | 6, _ => rfl)).put 4 (some ⟨V, 6, none⟩) (by omega) (fun i hi => by
      match i, hi with
      | 0, _ => rfl
      | 1, _ => rfl
      | 2, _ => rfl
      | 3, _ => rfl
      | 4, _ => rfl
      | 5, _ => rfl
      | 6, _ => rfl)
  exact ⟨S2, .inr ⟨he, V, 5, V, 6, rfl, S2.pt 5 (by omega) e5, rfl, S2.pt 6 (by omega) e6⟩⟩

theorem sig5_step {w1 : World} {s : ByteArray} (h : St w W V R0 R vf p0 p1 p2 p3 p4 none none) (hb : Below W.heap.size W w1) :
    St w ((w1.setCell ⟨R, 5, none⟩ (.pointer (some ⟨w1.heap.size, 0, none⟩))).alloc (.cells #[.string s] 9)) V R0 R vf p0 p1 p2 p3 p4 (some ⟨w1.heap.size, 0, none⟩) none ∧
      Pt ((w1.setCell ⟨R, 5, none⟩ (.pointer (some ⟨w1.heap.size, 0, none⟩))).alloc (.cells #[.string s] 9)) R0 R w1.heap.size 0 (.string s) ∧
      Keeps W ((w1.setCell ⟨R, 5, none⟩ (.pointer (some ⟨w1.heap.size, 0, none⟩))).alloc (.cells #[.string s] 9)) R0 R := by
  have h1 := h.later hb
  obtain ⟨f0, hf0⟩ := h1.r0
  refine ⟨(h1.put 5 (some ⟨w1.heap.size, 0, none⟩) (by omega) (fun i hi => by
      match i, hi with
      | 0, _ => rfl
      | 1, _ => rfl
      | 2, _ => rfl
      | 3, _ => rfl
      | 4, _ => rfl
      | 5, _ => rfl
      | 6, _ => rfl)).alloc _, pt_new (by rw [nblk_setCell]) (by rw [nblk_setCell]; exact hf0.lt) (by rw [nblk_setCell]; exact h1.r.lt) rfl, keeps_trans (keeps_below hb) (keeps_trans (keeps_set 5 _) (keeps_alloc _))⟩
theorem sig6_step {w1 : World} {s : ByteArray} (h : St w W V R0 R vf p0 p1 p2 p3 p4 p5 none) (hb : Below W.heap.size W w1) :
    St w ((w1.setCell ⟨R, 6, none⟩ (.pointer (some ⟨w1.heap.size, 0, none⟩))).alloc (.cells #[.string s] 9)) V R0 R vf p0 p1 p2 p3 p4 p5 (some ⟨w1.heap.size, 0, none⟩) ∧
      Pt ((w1.setCell ⟨R, 6, none⟩ (.pointer (some ⟨w1.heap.size, 0, none⟩))).alloc (.cells #[.string s] 9)) R0 R w1.heap.size 0 (.string s) ∧
      Keeps W ((w1.setCell ⟨R, 6, none⟩ (.pointer (some ⟨w1.heap.size, 0, none⟩))).alloc (.cells #[.string s] 9)) R0 R := by
  have h1 := h.later hb
  obtain ⟨f0, hf0⟩ := h1.r0
  refine ⟨(h1.put 6 (some ⟨w1.heap.size, 0, none⟩) (by omega) (fun i hi => by
      match i, hi with
      | 0, _ => rfl
      | 1, _ => rfl
      | 2, _ => rfl
      | 3, _ => rfl
      | 4, _ => rfl
      | 5, _ => rfl
      | 6, _ => rfl)).alloc _, pt_new (by rw [nblk_setCell]) (by rw [nblk_setCell]; exact hf0.lt) (by rw [nblk_setCell]; exact h1.r.lt) rfl, keeps_trans (keeps_below hb) (keeps_trans (keeps_set 6 _) (keeps_alloc _))⟩
end
end Go.Proofs.Ybulkbpjo
