/-
  ROWS OF NUMBERS IN MEMORY OF THE CALL's OWN.
-/
import Derived.Deep.OwnRows
import Derived.Deep.Draws
import Derived.Below
import Derived.WalkSmall
namespace Go.Proofs.Ybulkbphy
open Go.RowKit Go.Deep

/-- Block b is a row, none of it frozen, whose first n cells hold the numbers f 0 .. f (n-1). -/
def IRow (k : IntKind) (t : TypeId) (w : World) (b n : Nat) (f : Nat → Int) : Prop :=
  ∃ (N : Nat) (F : Nat → Value), n ≤ N ∧ w.rowIs b t N F ∧ ∀ i, i < n → F i = .int k (f i)

section
variable {k : IntKind} {t : TypeId} {w w' : World} {b n : Nat} {f g : Nat → Int}

theorem IRow.cell (h : IRow k t w b n f) {i : Nat} (hi : i < n) : w.cell? ⟨b, i, none⟩ = some (.int k (f i)) := by
  obtain ⟨N, F, hN, hr, hF⟩ := h
  rw [hr.cell (i := i) (by omega), hF i hi]
theorem IRow.frozen (h : IRow k t w b n f) (i : Nat) : w.frozen? ⟨b, i, none⟩ = false := by
  obtain ⟨N, F, hN, hr, hF⟩ := h
  exact hr.frozen i
theorem IRow.lt (h : IRow k t w b n f) : b < w.heap.size := by
  obtain ⟨N, F, hN, hr, hF⟩ := h
  exact hr.lt
theorem IRow.congr (h : IRow k t w b n f) (e : ∀ i, i < n → f i = g i) : IRow k t w b n g := by
  obtain ⟨N, F, hN, hr, hF⟩ := h
  exact ⟨N, F, hN, hr, fun i hi => by rw [hF i hi, e i hi]⟩
theorem IRow.of_block (h : IRow k t w b n f) (e : w'.heap[b]? = w.heap[b]?) : IRow k t w' b n f := by
  obtain ⟨N, F, hN, hr, hF⟩ := h
  exact ⟨N, F, hN, hr.of_block e, hF⟩
theorem IRow.set (h : IRow k t w b n f) (i : Nat) (x : Int) : IRow k t (w.setCell ⟨b, i, none⟩ (.int k x)) b n (fun j => if j = i then x else f j) := by
  obtain ⟨N, F, hN, hr, hF⟩ := h
  refine ⟨N, _, hN, hr.set i (.int k x), fun j hj => ?_⟩
  by_cases e : j = i
  · simp [e]
  · simp [e, hF j hj]
theorem IRow.setOther (h : IRow k t w b n f) {a : Addr} (ha : b ≠ a.block) (v : Value) : IRow k t (w.setCell a v) b n f := h.of_block (blk_setCell_other _ _ _ _ ha)
theorem IRow.alloc (h : IRow k t w b n f) (o : Obj) : IRow k t (w.alloc o) b n f := h.of_block (blk_alloc_lt _ _ _ h.lt)
theorem IRow.drew (h : IRow k t w b n f) : IRow k t w.drew b n f := h
theorem IRow.drewN (h : IRow k t w b n f) (m : Nat) : IRow k t (w.drewN m) b n f := h
theorem IRow.below {B : Nat} (h : IRow k t w b n f) (hb : Below B w w') (hB : b < B) : IRow k t w' b n f := h.of_block (hb.block b hB)
theorem IRow.shorter {m : Nat} (h : IRow k t w b n f) (hm : m ≤ n) : IRow k t w b m f := by
  obtain ⟨N, F, hN, hr, hF⟩ := h
  exact ⟨N, F, by omega, hr, fun i hi => hF i (by omega)⟩
end

theorem IRow.made (k : IntKind) (t : TypeId) (w : World) (n : Nat) : IRow k t (w.alloc (.cells (madeCells #[.int k 0] n) t)) w.heap.size n (fun _ => 0) :=
  ⟨n, _, Nat.le_refl _, World.rowIs_made w _ n t, fun _ _ => rfl⟩

/-- Out of what 'append' and its like hand over. -/
theorem IRow.of_owns {k : IntKind} {t : TypeId} {w : World} {base g n cap : Nat} {xs : List Value} {f : Nat → Int} (h : w.ownsRow base t 1 (.slice (some ⟨g, 0, none⟩) n cap) n xs)
    (hx : ∀ i, i < n → xs[i]? = some (.int k (f i))) : IRow k t w g n f := by
  rcases h.2 with ⟨h1, _⟩ | ⟨g', cap', cur, e, _, hg, hn, _, hs, ht⟩
  · cases h1
  · simp only [Value.slice.injEq, Option.some.injEq, Addr.mk.injEq, true_and, and_true] at e
    obtain ⟨rfl, rfl⟩ := e
    refine ⟨cap, fun i => cur[i]?.getD (.int k 0), hn, ⟨cur, hg, by omega, fun i hi => ?_⟩, fun i hi => ?_⟩
    · have hlt : i < cur.size := by omega
      show cur[i]? = some (cur[i]?.getD (.int k 0))
      rw [Array.getElem?_eq_getElem hlt]
      rfl
    · have h2 := hx i hi
      rw [← ht, List.getElem?_take] at h2
      rw [if_pos (by omega)] at h2
      have h3 : cur[i]? = some (.int k (f i)) := by simpa using h2
      show cur[i]?.getD _ = _
      rw [h3]; rfl

/-- 'grownBy', carried on. -/
theorem grownBy_trans {a b c : World} {row : Option Nat} (h : a.grownBy b row) (h' : b.grownBy c row) : a.grownBy c row :=
  ⟨h'.os.trans h.os, h'.tape.trans h.tape, h'.output.trans h.output, Nat.le_trans h.size h'.size, fun k hk hne => (h'.block k (Nat.lt_of_lt_of_le hk h.size) hne).trans (h.block k hk hne)⟩
theorem grownBy_alloc {a b : World} {row : Option Nat} (h : a.grownBy b row) (o : Obj) : a.grownBy (b.alloc o) row := grownBy_trans h (World.grownBy_alloc b o row)
theorem grownBy_drew {a b : World} {row : Option Nat} (h : a.grownBy b row) : a.grownBy b.drew row := ⟨h.os, h.tape, h.output, h.size, h.block⟩
theorem grownBy_drewN {a b : World} {row : Option Nat} (h : a.grownBy b row) (m : Nat) : a.grownBy (b.drewN m) row := ⟨h.os, h.tape, h.output, h.size, h.block⟩
theorem grownBy_set {a b : World} {row : Option Nat} (h : a.grownBy b row) {p : Addr} (hp : a.heap.size ≤ p.block ∨ row = some p.block) (v : Value) : a.grownBy (b.setCell p v) row :=
  ⟨h.os, h.tape, h.output, by rw [nblk_setCell]; exact h.size, fun k hk hne => by
    rw [blk_setCell_other _ _ _ _ (fun e => by
      rcases hp with hp | hp
      · omega
      · exact hne (by rw [hp, e]))]
    exact h.block k hk hne⟩
/-- What lies below everything that is at hand is kept. -/
theorem grownBy_below {a b c : World} {row : Option Nat} (h : a.grownBy b row) (h' : Below b.heap.size b c) : a.grownBy c row :=
  ⟨h'.os.trans h.os, h'.tape.trans h.tape, h'.output.trans h.output, Nat.le_trans h.size h'.size, fun k hk hne => (h'.block k (Nat.lt_of_lt_of_le hk h.size)).trans (h.block k hk hne)⟩
theorem IRow.grown {k : IntKind} {t : TypeId} {w w' : World} {b n : Nat} {f : Nat → Int} {row : Option Nat} (h : IRow k t w b n f) (hg : w.grownBy w' row) (hne : some b ≠ row) : IRow k t w' b n f := h.of_block (hg.block b h.lt hne)

end Go.Proofs.Ybulkbphy
