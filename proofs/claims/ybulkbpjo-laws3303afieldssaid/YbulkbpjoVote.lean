/-
  CONTRACTS: zzs3303acheck, zzs3303asig, newRawVote.
-/
import Derived.Test.YbulkbpjoHex
import Derived.Laws.Pointers
import Derived.Deep.QuietTactic
import Derived.BigQuiet
namespace Go.Proofs.Ybulkbpjo
open Go.RowKit Go.Deep Go.Lib
set_option linter.unusedVariables false

theorem bcell {W w1 : World} (hb : Below W.heap.size W w1) : (∀ b o, b < W.heap.size → w1.cell? ⟨b, o, none⟩ = W.cell? ⟨b, o, none⟩) ∧ (∀ b o, b < W.heap.size → w1.frozen? ⟨b, o, none⟩ = W.frozen? ⟨b, o, none⟩) :=
  ⟨fun b o h => hb.cell (p := ⟨b, o, none⟩) h, fun b o h => hb.frozen (p := ⟨b, o, none⟩) h⟩

theorem ptr_eql (t : TypeId) (h : Yba.prog.underlying t = some (.pointer (Yba.prog.pointee t))) : ∀ (w : World) (p : Option Addr), (binOp .eql t (.pointer p) (.pointer none)).run Yba.prog w = .ok (.bool p.isNone) w := fun w p => run_eql_pointer_nil w t p h
theorem ptr_neq (t : TypeId) (h : Yba.prog.underlying t = some (.pointer (Yba.prog.pointee t))) : ∀ (w : World) (p : Option Addr), (binOp .neq t (.pointer p) (.pointer none)).run Yba.prog w = .ok (.bool (!p.isNone)) w := fun w p => run_neq_pointer_nil w t p h
theorem u30 : Yba.prog.underlying 30 = some (.pointer (Yba.prog.pointee 30)) := by kernel_rfl
theorem u31 : Yba.prog.underlying 31 = some (.pointer (Yba.prog.pointee 31)) := by kernel_rfl
theorem u32 : Yba.prog.underlying 32 = some (.pointer (Yba.prog.pointee 32)) := by kernel_rfl

/-- A checkpoint as newRawVote lays it. -/
structure Chk (w : World) (p : Option Addr) (ep : Int) (hs : ByteArray) : Prop where
  out : ∃ a b bo c co, p = some ⟨a, 0, none⟩ ∧ w.cell? ⟨a, 0, none⟩ = some (.pointer (some ⟨b, bo, none⟩)) ∧ w.cell? ⟨a, 1, none⟩ = some (.pointer (some ⟨c, co, none⟩)) ∧ w.cell? ⟨b, bo, none⟩ = some (.int .u64 ep) ∧ w.cell? ⟨c, co, none⟩ = some (.string hs)

set_option maxRecDepth 100000 in
set_option maxHeartbeats 1000000 in
theorem check_any (p : Option Addr) (ep : Int) (hs : ByteArray) (w : World) (h : Chk w p ep hs) :
    Calls Yba.prog 6 #[.pointer p, .int .u64 ep, .string hs] w fun e w' => e = .returned (.bool true) ∧ w' = w := by
  obtain ⟨a, b, bo, c, co, rfl, h1, h2, h3, h4⟩ := h.out
  have n30 := ptr_neq 30 u30
  have n31 := ptr_neq 31 u31
  have n32 := ptr_neq 32 u32
  clear h
  go_enter Yba.func6, Yba.ntmps6
  go_wp2
  go_ret
  exact ⟨rfl, rfl⟩

/-- What newRawVote lays for a signature. -/
def SigP (w : World) (p : Option Addr) (a : Option Addr) (n : Nat) (f : Nat → Int) : Prop :=
  (a = none ∧ p = none) ∨ (a.isNone = false ∧ ∃ g go, p = some ⟨g, go, none⟩ ∧ w.cell? ⟨g, go, none⟩ = some (.string (hexS f n)))

set_option maxRecDepth 100000 in
set_option maxHeartbeats 1000000 in
theorem sig_any (p a : Option Addr) (b off n c : Nat) (f : Nat → Int) (w : World) (hn : n ≤ 4096) (ha : a = none → n = 0) (hI : BIn w a b off n f) (h : SigP w p a n f) :
    Calls Yba.prog 7 #[.pointer p, .slice a n c] w fun e w' => e = .returned (.bool true) ∧ Below w.heap.size w w' := by
  have q23 : ∀ (w : World) (a : Option Addr) (n c n' c' : Nat), (binOp .eql 23 (.slice a n c) (.slice none n' c')).run Yba.prog w = .ok (.bool a.isNone) w := fun w a n c n' c' => Lib.run_eql_slice_nil w _ _ a n c n' c' Yba.underlying23
  have e30 := ptr_eql 30 u30
  have n30 := ptr_neq 30 u30
  rcases h with ⟨rfl, rfl⟩ | ⟨h1, g, go, rfl, h2⟩
  · obtain rfl := ha rfl
    go_enter Yba.func7, Yba.ntmps7
    go_wp2
    go_ret
    exact ⟨rfl, Below.refl _ _⟩
  · obtain ⟨x, rfl⟩ : ∃ x, a = some x := by
      cases a with
      | none => cases h1
      | some x => exact ⟨x, rfl⟩
    have HE : Hid (∀ W, Below w.heap.size w W → Calls Yba.prog 11 #[.slice (some x) n c] W fun e w' => e = .returned (.string (hexS f n)) ∧ Below W.heap.size W w') := fun W hW => ahex_any (some x) b off n c f W hn (hI.later hW)
    have hgl := World.block_lt_of_cell? w _ h2
    have B0 : Below w.heap.size w w.drew := (Below.refl _ _).drew
    clear h1 hI ha
    go_enter Yba.func7, Yba.ntmps7
    go_wp2_with fail
    go_region_held3 (fun w' => w'.cell? ⟨g, go, none⟩ = some (.string (hexS f n)))
      (first
        | go_keep
        | (rw [hb1.cell (p := ⟨g, go, none⟩) (by simp; omega)]; assumption))
      ((go_at_call 11; refine Calls.mono (HE.out _ B0) ?_; rintro e w1 ⟨rfl, hb1⟩))
    all_goals
      have HB : Hid (Below w.heap.size w w1) := B0.trans hb1
      clear hb1 B0
      go_wp2
      go_ret
      exact ⟨rfl, HB.out⟩
end Go.Proofs.Ybulkbpjo
