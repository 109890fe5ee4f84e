/-
  THE PROOF OF 'Rows.LawS3303AFieldsSaid': the frame, turned to one struct by value of ten one-cell fields.
-/
import Derived.Test.YbulkbpjoFields
import Derived.WalkKit
import Derived.ProofKit
import Derived.OpenShut
import Derived.ShutString
import Derived.ChangeOld
import Derived.Below
namespace Go.Proofs.Ybulkbpjo.lawS3303AFields
open Go.ChangeShapes Go.WideShapes Go.ChangeAt Go.RowKit
open Go.ChangeMaps (open_string shut_string)
set_option linter.unusedVariables false

theorem own : ownKnob Yba.prog.godebug = none := by kernel_rfl
theorem laidOut : laidOutB Yba.prog = true := by kernel_rfl

theorem list10 {α : Type} {l : List α} (h : l.length = 10) : ∃ a b c d e f g i j k, l = [a, b, c, d, e, f, g, i, j, k] := by
  match l, h with
  | [a, b, c, d, e, f, g, i, j, k], _ => exact ⟨a, b, c, d, e, f, g, i, j, k, rfl⟩

/-- What is told of a slice of bytes that came in. -/
def IsBytes (w : World) (a : Option Addr) (len : Nat) : Prop :=
  (a = none → len = 0) ∧ ∃ b off f, Go.Proofs.Ybulkbpjo.BIn w a b off len f

theorem isBytes_of {w : World} {H : Type} {enc : TypeId × Value → H} {spare : Nat → Bool} {held : Bool} {base fuel : Nat} {v : Value} {x : DataW H × List MemPlace}
    (h : DataW.trod enc Yba.prog w base spare held fuel 23 [v] = some x) (hsp : ∀ b, spare b = true) : ∃ a len cap, v = .slice a len cap ∧ IsBytes w a len := by
  rcases open_ints Yba.underlying23 Yba.underlying5 (by kernel_rfl) h with ⟨hcs, _⟩ | ⟨x, l, c, zs, hcs, _, hl, hm, hz, _, hcell, hwz⟩
  · simp only [List.cons.injEq, and_true] at hcs
    subst hcs
    exact ⟨none, 0, 0, rfl, fun _ => rfl, 0, 0, fun _ => 0, fun h => absurd h (by omega), fun j hj => absurd hj (by omega), fun _ => by omega⟩
  · simp only [List.cons.injEq, and_true] at hcs
    subst hcs
    rw [if_pos (hsp _)] at hz
    refine ⟨some x, l, c, rfl, fun h => by simp at h, ?_⟩
    by_cases h0 : l = 0
    · subst h0
      exact ⟨0, 0, fun _ => 0, fun h => absurd h (by omega), fun i hi => absurd hi (by omega), fun _ => by omega⟩
    · obtain ⟨b, off, spot⟩ := x
      have hc0 := hcell 0 (by omega)
      have hspot : spot = none := by simpa [Addr.add] using World.cell?_spot hc0
      subst hspot
      have bd : ∀ i, 0 ≤ zs.getD i 0 ∧ zs.getD i 0 < 256 := fun i => by
        by_cases hi : i < zs.length
        · have hm : zs.getD i 0 ∈ zs := by rw [List.getD_eq_getElem?_getD, List.getElem?_eq_getElem hi]; exact List.getElem_mem hi
          have := bounds_u8 (hwz _ hm)
          omega
        · rw [List.getD_eq_getElem?_getD, List.getElem?_eq_none (by omega)]; simp
      refine ⟨b, off, fun i => zs.getD i 0, fun _ => rfl, fun i hi => ?_, bd⟩
      rw [← add_plain]
      exact hcell i (by omega)

theorem opened {w : World} {H : Type} {enc : TypeId × Value → H} {spare : Nat → Bool} {held : Bool} {base b0 : Nat} {r : Reach} {v : Value} {d : DataW H} {p : List MemPlace}
    (hv : Value.okWide Yba.prog w r b0 25 v) (h : DataW.Trod enc Yba.prog w base spare held 25 v d p) (hsp : ∀ b, spare b = true) :
    ∃ va se sh te th sl hd ho sa sn sc ha hn hc, v = .agg #[.string va, .int .u64 se, .string sh, .int .u64 te, .string th, .int .u64 sl, .string hd, .bool ho, .slice sa sn sc, .slice ha hn hc] ∧ IsBytes w sa sn ∧ IsBytes w ha hn := by
  obtain ⟨cs, rfl, hsz⟩ := okWide_struct Yba.underlying25 hv
  obtain ⟨cs⟩ := cs
  have h10 : cs.length = 10 := hsz.trans (by kernel_rfl)
  obtain ⟨v0, v1, v2, v3, v4, v5, v6, v7, v8, v9, rfl⟩ := list10 h10
  obtain ⟨fuel, hf⟩ := h
  obtain ⟨xs, n, _, _, _, hlen, hfs⟩ := DataW.trod_struct Yba.underlying25 hf
  obtain ⟨y0, y1, y2, y3, y4, y5, y6, y7, y8, y9, rfl⟩ := list10 (l := xs) hlen
  have k9 : Yba.prog.cellsOf 9 = 1 := by kernel_rfl
  have k22 : Yba.prog.cellsOf 22 = 1 := by kernel_rfl
  have k4 : Yba.prog.cellsOf 4 = 1 := by kernel_rfl
  have k23 : Yba.prog.cellsOf 23 = 1 := by kernel_rfl
  have h0 := hfs 0 _ rfl
  have h1 := hfs 1 _ rfl
  have h2 := hfs 2 _ rfl
  have h3 := hfs 3 _ rfl
  have h4 := hfs 4 _ rfl
  have h5 := hfs 5 _ rfl
  have h6 := hfs 6 _ rfl
  have h7 := hfs 7 _ rfl
  have h8 := hfs 8 _ rfl
  have h9 := hfs 9 _ rfl
  simp [Value.cells, k9, k22, k4, k23] at h0 h1 h2 h3 h4 h5 h6 h7 h8 h9
  obtain ⟨va, e0, _⟩ := DataW.trod_string Yba.underlying9 h0
  obtain ⟨se, e1, _⟩ := DataW.trod_int Yba.underlying22 h1
  obtain ⟨sh, e2, _⟩ := DataW.trod_string Yba.underlying9 h2
  obtain ⟨te, e3, _⟩ := DataW.trod_int Yba.underlying22 h3
  obtain ⟨th, e4, _⟩ := DataW.trod_string Yba.underlying9 h4
  obtain ⟨sl, e5, _⟩ := DataW.trod_int Yba.underlying22 h5
  obtain ⟨hd, e6, _⟩ := DataW.trod_string Yba.underlying9 h6
  obtain ⟨ho, e7, _⟩ := DataW.trod_bool Yba.underlying4 h7
  obtain ⟨sa, sn, sc, e8, b8⟩ := isBytes_of h8 hsp
  obtain ⟨ha, hn, hc, e9, b9⟩ := isBytes_of h9 hsp
  simp only [List.cons.injEq, and_true] at e0 e1 e2 e3 e4 e5 e6 e7
  subst e0 e1 e2 e3 e4 e5 e6 e7 e8 e9
  exact ⟨va, se, sh, te, th, sl, hd, ho, sa, sn, sc, ha, hn, hc, rfl, b8, b9⟩

theorem walk (va sh th hd : ByteArray) (se te sl : Int) (ho : Bool) (sa ha : Option Addr) (sn sc hn hc : Nat) (w : World) (S : IsBytes w sa sn) (H : IsBytes w ha hn) :
    Calls Yba.prog 3 #[.agg #[.string va, .int .u64 se, .string sh, .int .u64 te, .string th, .int .u64 sl, .string hd, .bool ho, .slice sa sn sc, .slice ha hn hc]] w fun e w' => e = .returned (.bool true) ∧ Below w.heap.size w w' := by
  by_cases h : 4096 < sn ∨ 4096 < hn
  · exact fields.walk_long va sh th hd se te sl ho sa ha sn sc hn hc w h
  obtain ⟨s0, b, o, f, SB⟩ := S
  obtain ⟨h0, b', o', f', HB⟩ := H
  exact fields.walk_all va sh th hd se te sl ho sa ha b o sn sc b' o' hn hc f f' w (by omega) (by omega) SB HB s0 h0

/-! ### THE ROW's STEP -/
set_option maxRecDepth 100000 in
theorem lifted (os : Os) (started : os.Started) (H : Type) (enc : TypeId × Value → H) :
    ReturnsInHanded {} Yba.checked os 3 .any (Rows.lawS3303AFieldsSpec.pre6 enc Yba.prog Yba.f3 Rows.lawS3303AFieldsRow.domain false) (Rows.lawS3303AFieldsSpec.post enc Yba.prog Yba.f3 false true false false) := by
  refine returnsInHanded_of_change (C := Yba.checked) own started (by kernel_rfl) Yba.func3
    (ChangeSpec.witness6 (enc := enc) (C := Yba.checked) false ⟨#[], #[.agg #[.string ⟨#[]⟩, .int .u64 0, .string ⟨#[]⟩, .int .u64 0, .string ⟨#[]⟩, .int .u64 0, .string ⟨#[]⟩, .bool false, .slice none 0 0, .slice none 0 0]], []⟩ 8 (by kernel_rfl) (by kernel_rfl) (by kernel_rfl) (by kernel_rfl)) ?_
  intro W base args ds gs before hval0 hW hcnd _
  have hval : ∀ (j : Nat) t v, Yba.f3.params[j]? = some t → args[j]? = some v → Value.okWide Yba.prog W .any base t v := hval0
  have hW' := hW
  obtain ⟨p, q, hA0, hV, rfl, hfz, hnd⟩ := hW
  have hA : DataW.TrodAll enc Yba.prog W 0 (fun _ => true) true Yba.f3.params.toList args.toList ds p := hA0
  rw [Yba.params3] at hA hval
  obtain ⟨v0, vs0, d0, ds0, p0, q0, hargs, rfl, rfl, h0, r0⟩ := trodAll_cons hA
  obtain ⟨rfl, rfl, rfl⟩ := trodAll_nil r0
  obtain rfl : args = #[v0] := by cases args; simp_all
  obtain ⟨rfl, rfl⟩ := trodVars_none hV
  have k0 := h0
  have lt0 : ∀ x ∈ p0, x.block < W.heap.size := by obtain ⟨m, hm⟩ := k0; exact DataW.trod_lt m _ _ _ hm
  obtain ⟨va, se, sh, te, th, sl, hd, ho, sa, sn, sc, ha, hn, hc, rfl, b8, b9⟩ := opened (hval 0 25 v0 rfl rfl) h0 (fun _ => rfl)
  clear hA0 hval0
  refine (walk va sh th hd se te sl ho sa ha sn sc hn hc W b8 b9).mono fun e W' ⟨he, bel⟩ => ?_
  subst he
  exact ⟨_, rfl, _, _, _, [], _, [], hW', trodAll_mk1 (shut_bool Yba.underlying4 _), (trodAll_cons_mk (Below.trod laidOut (by kernel_rfl) (of_decide_eq_true (by kernel_rfl)) k0 bel lt0) trodAll_mk0), rfl, bel.frame _, fun h => by cases h⟩

theorem over : Rows.lawS3303AFieldsRow.holds Yba.pinned (OpenSpec.ofChange Rows.lawS3303AFieldsSpec) :=
  OpenClaim.holds_of_wide 3 Yba.f3 rfl rfl rfl rfl rfl rfl rfl ⟨rfl, rfl, rfl, rfl, rfl⟩ rfl rfl rfl rfl rfl (by kernel_rfl) Yba.func3 (by kernel_rfl)
    (of_decide_eq_true (by kernel_rfl)) (by unfold Func.isWrapper; first | (rw [if_pos (by decide +kernel)]; kernel_rfl) | (rw [if_neg (by decide +kernel)]; exact ⟨rfl, rfl⟩))
    (fun os started H enc _ => lifted os started H enc)

/-- ████ THE STATEMENT ████ -/
theorem proved : Rows.LawS3303AFieldsSaid := over
end Go.Proofs.Ybulkbpjo.lawS3303AFields
