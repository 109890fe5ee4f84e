/-
  CONTRACT: newRawVote: the walk.
-/
import Derived.Test.YbulkbpjoRaw
namespace Go.Proofs.Ybulkbpjo
open Go.RowKit Go.Deep Go.Lib
set_option linter.unusedVariables false

/-- What newRawVote hands back. -/
def RawOK (w w' : World) (e : Ending) (va sh th hd : ByteArray) (se te sl : Int) (ho : Bool) (sa ha : Option Addr) (sn hn : Nat) (sf hf : Nat → Int) : Prop :=
  ∃ (R0 R : Nat) (V : Nat) (p1 p2 p3 p4 p5 p6 : Option Addr), e = .returned (.agg #[.pointer (some ⟨V, 0, none⟩), .pointer p1, .pointer p2, .pointer p3, .pointer p4, .pointer p5, .pointer p6]) ∧
    w'.cell? ⟨V, 0, none⟩ = some (.string va) ∧ Src w' R0 R ho se te sh th p1 p2 ∧ Hea w' R0 R hd sl p3 p4 ∧ Sg w' R0 R p5 sa sn sf ∧ Sg w' R0 R p6 ha hn hf ∧ Below w.heap.size w w'

theorem Pt.set0 {W : World} {R0 R b o : Nat} {v : Value} (h : Pt W R0 R b o v) (k : Nat) (x : Value) : Pt (W.setCell ⟨R0, k, none⟩ x) R0 R b o v :=
  ⟨(World.cell?_of_block (w := W) (blk_setCell_other W _ x b h.n0)).trans h.cell, h.n0, h.n⟩
theorem fin_step {w W : World} {V R0 R : Nat} {vf : Nat → Value} {p0 p1 p2 p3 p4 p5 p6 : Option Addr} {va sh th hd : ByteArray} {se te sl : Int} {ho : Bool} {sa ha : Option Addr} {sn hn : Nat} {sf hf : Nat → Int} (h : St w W V R0 R vf p0 p1 p2 p3 p4 p5 p6)
    (h1 : Src W R0 R ho se te sh th p1 p2) (h2 : Hea W R0 R hd sl p3 p4) (h3 : Sg W R0 R p5 sa sn sf) (h4 : Sg W R0 R p6 ha hn hf) (hv : vf 0 = .string va) :
    W.cell? ⟨V, 0, none⟩ = some (.string va) ∧ V ≠ R0 ∧ Src W R0 R ho se te sh th p1 p2 ∧ Hea W R0 R hd sl p3 p4 ∧ Sg W R0 R p5 sa sn sf ∧ Sg W R0 R p6 ha hn hf ∧ Below w.heap.size w W ∧ w.heap.size ≤ R0 :=
  ⟨by rw [h.v.cell (by omega), hv], h.n3, h1, h2, h3, h4, h.below, h.hR0⟩

set_option maxRecDepth 100000 in
set_option maxHeartbeats 4000000 in
theorem raw_any (va sh th hd : ByteArray) (se te sl : Int) (ho : Bool) (sa ha : Option Addr) (sb so sn sc hb hoo hn hc : Nat) (sf hf : Nat → Int) (w : World) (h1 : sn ≤ 4096) (h2 : hn ≤ 4096)
    (S : BIn w sa sb so sn sf) (H : BIn w ha hb hoo hn hf) (hs0 : sa = none → sn = 0) (hh0 : ha = none → hn = 0) :
    Calls Yba.prog 5 #[.agg #[.string va, .int .u64 se, .string sh, .int .u64 te, .string th, .int .u64 sl, .string hd, .bool ho, .slice sa sn sc, .slice ha hn hc]] w
      fun e w' => RawOK w w' e va sh th hd se te sl ho sa ha sn hn sf hf := by
  have q23 : ∀ (w : World) (a : Option Addr) (n c n' c' : Nat), (binOp .neq 23 (.slice a n c) (.slice none n' c')).run Yba.prog w = .ok (.bool (!a.isNone)) w := fun w a n c n' c' => run_neq_slice_nil_any w _ _ a n c n' c' Yba.underlying23
  have HS : Hid (BIn w sa sb so sn sf ∧ BIn w ha hb hoo hn hf ∧ (sa = none → sn = 0) ∧ (ha = none → hn = 0)) := ⟨S, H, hs0, hh0⟩
  clear S H hs0 hh0
  go_enter Yba.func5, Yba.ntmps5
  go_upto_if 10 with fail
  have hst := begun_st w (.string va) (.int .u64 se) (.string sh) (.int .u64 te) (.string th) (.int .u64 sl) (.string hd) (.bool ho) (.slice sa sn sc) (.slice ha hn hc)
  rw [show ((w.alloc (.cells #[.string va, .int .u64 se, .string sh, .int .u64 te, .string th, .int .u64 sl, .string hd, .bool ho, .slice sa sn sc, .slice ha hn hc] 29)).alloc (.cells #[.pointer none, .pointer none, .pointer none, .pointer none, .pointer none, .pointer none, .pointer none] 34)).alloc
    (.cells #[.pointer (some ⟨w.heap.size, 0, none⟩), .pointer none, .pointer none, .pointer none, .pointer none, .pointer none, .pointer none] 34) = begun w (.string va) (.int .u64 se) (.string sh) (.int .u64 te) (.string th) (.int .u64 sl) (.string hd) (.bool ho) (.slice sa sn sc) (.slice ha hn hc) from rfl]
  generalize begun w (.string va) (.int .u64 se) (.string sh) (.int .u64 te) (.string th) (.int .u64 sl) (.string hd) (.bool ho) (.slice sa sn sc) (.slice ha hn hc) = W at hst ⊢
  obtain ⟨V, hV⟩ : ∃ V, V = w.heap.size := ⟨_, rfl⟩
  obtain ⟨R0, hR0⟩ : ∃ R0, R0 = w.heap.size + 1 := ⟨_, rfl⟩
  obtain ⟨R, hR⟩ : ∃ R, R = w.heap.size + 1 + 1 := ⟨_, rfl⟩
  rw [← hR, ← hR0, ← hV] at hst ⊢
  clear hV hR0 hR
  obtain ⟨vf, hvf⟩ : ∃ vf, vf = (ten (.string va) (.int .u64 se) (.string sh) (.int .u64 te) (.string th) (.int .u64 sl) (.string hd) (.bool ho) (.slice sa sn sc) (.slice ha hn hc)) := ⟨_, rfl⟩
  have HV : Hid (vf = (ten (.string va) (.int .u64 se) (.string sh) (.int .u64 te) (.string th) (.int .u64 sl) (.string hd) (.bool ho) (.slice sa sn sc) (.slice ha hn hc))) := hvf
  rw [← hvf] at hst
  have HST : Hid (St w W V R0 R vf (some ⟨V, 0, none⟩) none none none none none none) := hst
  clear hvf hst
  go_cut [] from 6 (fun wx => ∃ p1 p2, St w wx V R0 R vf (some ⟨V, 0, none⟩) p1 p2 none none none none ∧ Src wx R0 R ho se te sh th p1 p2)
  case first =>
    cases ho with
    | true =>
      go_wp2
      go_meet
      exact ⟨none, none, HST.out, .inl ⟨rfl, rfl, rfl⟩⟩
    | false =>
      have k1 : W.cell? ⟨R, 1, none⟩ = some (.pointer none) := HST.out.r.cell (i := 1) (by omega)
      have k2 : W.cell? ⟨R, 2, none⟩ = some (.pointer none) := HST.out.r.cell (i := 2) (by omega)
      have f1 := HST.out.r.frozen 1
      have f2 := HST.out.r.frozen 2
      have hRl := HST.out.r.lt
      go_wp2
      go_meet
      exact src_step HST.out (by rw [HV.out]; rfl) (by rw [HV.out]; rfl) (by rw [HV.out]; rfl) (by rw [HV.out]; rfl)
  case rest =>
    clear HST
    obtain ⟨p1, p2, hst, hsrc⟩ := hcut
    have HST : Hid (St w wc V R0 R vf (some ⟨V, 0, none⟩) p1 p2 none none none none ∧ Src wc R0 R ho se te sh th p1 p2) := ⟨hst, hsrc⟩
    have k6 : wc.cell? ⟨V, 6, none⟩ = some (.string hd) := by rw [hst.v.cell (i := 6) (by omega), HV.out]; rfl
    clear hst hsrc
    obtain ⟨W1, hW1⟩ : ∃ W1, W1 = wc := ⟨_, rfl⟩
    rw [← hW1] at HST k6 ⊢
    clear hW1
    go_upto_if 27 with fail
    clear k6
    go_cut [] from 6 (fun wx => ∃ p1 p2 p3 p4, St w wx V R0 R vf (some ⟨V, 0, none⟩) p1 p2 p3 p4 none none ∧ Src wx R0 R ho se te sh th p1 p2 ∧ Hea wx R0 R hd sl p3 p4)
    case first =>
      cases he : hd.toList.isEmpty with
      | true =>
        go_wp2
        go_meet
        exact ⟨p1, p2, none, none, HST.out.1, HST.out.2, .inl ⟨he, rfl, rfl⟩⟩
      | false =>
        have k3 : W1.cell? ⟨R, 3, none⟩ = some (.pointer none) := HST.out.1.r.cell (i := 3) (by omega)
        have k4 : W1.cell? ⟨R, 4, none⟩ = some (.pointer none) := HST.out.1.r.cell (i := 4) (by omega)
        have f3 := HST.out.1.r.frozen 3
        have f4 := HST.out.1.r.frozen 4
        go_wp2
        go_meet
        have hh := head_step HST.out.1 (sl := sl) (hd := hd) (by rw [HV.out]; rfl) (by rw [HV.out]; rfl) he
        exact ⟨p1, p2, _, _, hh.1, HST.out.2.keep (keeps_trans (keeps_set 3 _) (keeps_set 4 _)), hh.2⟩
    case rest =>
      clear HST
      obtain ⟨p1, p2, p3, p4, hst, hsrc, hhea⟩ := hcut
      have HST : Hid (St w wc V R0 R vf (some ⟨V, 0, none⟩) p1 p2 p3 p4 none none ∧ Src wc R0 R ho se te sh th p1 p2 ∧ Hea wc R0 R hd sl p3 p4) := ⟨hst, hsrc, hhea⟩
      have k8 : wc.cell? ⟨V, 8, none⟩ = some (.slice sa sn sc) := by rw [hst.v.cell (i := 8) (by omega), HV.out]; rfl
      clear hst hsrc hhea
      obtain ⟨W2, hW2⟩ : ∃ W2, W2 = wc := ⟨_, rfl⟩
      rw [← hW2] at HST k8 ⊢
      clear hW2
      go_upto_if 34 with fail
      go_cut [] from 6 (fun wx => ∃ p1 p2 p3 p4 p5, St w wx V R0 R vf (some ⟨V, 0, none⟩) p1 p2 p3 p4 p5 none ∧ Src wx R0 R ho se te sh th p1 p2 ∧ Hea wx R0 R hd sl p3 p4 ∧ Sg wx R0 R p5 sa sn sf)
      case first =>
        cases sa with
        | none =>
          go_wp2
          go_meet
          exact ⟨p1, p2, p3, p4, none, HST.out.1, HST.out.2.1, HST.out.2.2, .inl ⟨rfl, rfl⟩⟩
        | some x =>
          have HE : Hid _ := encode_any (some x) sb so sn sc sf W2 h1 (HS.out.1.later HST.out.1.below)
          go_wp2_with fail
          refine Calls.mono HE.out ?_
          rintro e w1 ⟨rfl, hb1⟩
          have hh := sig5_step (s := hexS sf sn) HST.out.1 hb1
          have k5 : w1.cell? ⟨R, 5, none⟩ = some (.pointer none) := (HST.out.1.later hb1).r.cell (i := 5) (by omega)
          have f5 := (HST.out.1.later hb1).r.frozen 5
          have hRl := (HST.out.1.later hb1).r.lt
          have HH : Hid _ := hh
          clear hh hb1 HE k8
          go_wp2
          go_meet
          exact ⟨p1, p2, p3, p4, _, HH.out.1, HST.out.2.1.keep HH.out.2.2, HST.out.2.2.keep HH.out.2.2, .inr ⟨rfl, _, _, rfl, HH.out.2.1⟩⟩
      case rest =>
        clear HST k8
        obtain ⟨p1, p2, p3, p4, p5, hst, hsrc, hhea, hsg⟩ := hcut
        have HST : Hid (St w wc V R0 R vf (some ⟨V, 0, none⟩) p1 p2 p3 p4 p5 none ∧ Src wc R0 R ho se te sh th p1 p2 ∧ Hea wc R0 R hd sl p3 p4 ∧ Sg wc R0 R p5 sa sn sf) := ⟨hst, hsrc, hhea, hsg⟩
        have k9 : wc.cell? ⟨V, 9, none⟩ = some (.slice ha hn hc) := by rw [hst.v.cell (i := 9) (by omega), HV.out]; rfl
        clear hst hsrc hhea hsg
        obtain ⟨W3, hW3⟩ : ∃ W3, W3 = wc := ⟨_, rfl⟩
        rw [← hW3] at HST k9 ⊢
        clear hW3
        go_upto_if 41 with fail
        go_cut [] from 6 (fun wx => ∃ p1 p2 p3 p4 p5 p6, St w wx V R0 R vf (some ⟨V, 0, none⟩) p1 p2 p3 p4 p5 p6 ∧ Src wx R0 R ho se te sh th p1 p2 ∧ Hea wx R0 R hd sl p3 p4 ∧ Sg wx R0 R p5 sa sn sf ∧ Sg wx R0 R p6 ha hn hf)
        case first =>
          cases ha with
          | none =>
            go_wp2
            go_meet
            exact ⟨p1, p2, p3, p4, p5, none, HST.out.1, HST.out.2.1, HST.out.2.2.1, HST.out.2.2.2, .inl ⟨rfl, rfl⟩⟩
          | some x =>
            have HE : Hid _ := encode_any (some x) hb hoo hn hc hf W3 h2 (HS.out.2.1.later HST.out.1.below)
            go_wp2_with fail
            refine Calls.mono HE.out ?_
            rintro e w1 ⟨rfl, hb1⟩
            have hh := sig6_step (s := hexS hf hn) HST.out.1 hb1
            have k6 : w1.cell? ⟨R, 6, none⟩ = some (.pointer none) := (HST.out.1.later hb1).r.cell (i := 6) (by omega)
            have f6 := (HST.out.1.later hb1).r.frozen 6
            have hRl := (HST.out.1.later hb1).r.lt
            have HH : Hid _ := hh
            clear hh hb1 HE k9
            go_wp2
            go_meet
            exact ⟨p1, p2, p3, p4, p5, _, HH.out.1, HST.out.2.1.keep HH.out.2.2, HST.out.2.2.1.keep HH.out.2.2, HST.out.2.2.2.keep HH.out.2.2, .inr ⟨rfl, _, _, rfl, HH.out.2.1⟩⟩
        case rest =>
          clear HST k9
          obtain ⟨p1, p2, p3, p4, p5, p6, hst, hsrc, hhea, hsg, hsh⟩ := hcut
          have c0 : wc.cell? ⟨R, 0, none⟩ = some (.pointer (some ⟨V, 0, none⟩)) := hst.r.cell (i := 0) (by omega)
          have c1 : wc.cell? ⟨R, 1, none⟩ = some (.pointer p1) := hst.r.cell (i := 1) (by omega)
          have c2 : wc.cell? ⟨R, 2, none⟩ = some (.pointer p2) := hst.r.cell (i := 2) (by omega)
          have c3 : wc.cell? ⟨R, 3, none⟩ = some (.pointer p3) := hst.r.cell (i := 3) (by omega)
          have c4 : wc.cell? ⟨R, 4, none⟩ = some (.pointer p4) := hst.r.cell (i := 4) (by omega)
          have c5 : wc.cell? ⟨R, 5, none⟩ = some (.pointer p5) := hst.r.cell (i := 5) (by omega)
          have c6 : wc.cell? ⟨R, 6, none⟩ = some (.pointer p6) := hst.r.cell (i := 6) (by omega)
          obtain ⟨f0, hf0⟩ := hst.r0
          have d0 := hf0.cell (i := 0) (by omega)
          have e0 := hf0.frozen 0
          have d1 := hf0.cell (i := 1) (by omega)
          have e1 := hf0.frozen 1
          have d2 := hf0.cell (i := 2) (by omega)
          have e2 := hf0.frozen 2
          have d3 := hf0.cell (i := 3) (by omega)
          have e3 := hf0.frozen 3
          have d4 := hf0.cell (i := 4) (by omega)
          have e4 := hf0.frozen 4
          have d5 := hf0.cell (i := 5) (by omega)
          have e5 := hf0.frozen 5
          have d6 := hf0.cell (i := 6) (by omega)
          have e6 := hf0.frozen 6
          have hfin := fin_step hst hsrc hhea hsg hsh (by rw [HV.out]; rfl)
          have HF : Hid _ := hfin
          have hn1 := hst.n1
          clear hst hsrc hhea hsg hsh hf0 hfin
          go_wp2
          have hk : Keeps wc (((((((wc.setCell ⟨R0, 0, none⟩ (.pointer (some ⟨V, 0, none⟩))).setCell ⟨R0, 1, none⟩ (.pointer p1)).setCell ⟨R0, 2, none⟩ (.pointer p2)).setCell ⟨R0, 3, none⟩ (.pointer p3)).setCell ⟨R0, 4, none⟩ (.pointer p4)).setCell ⟨R0, 5, none⟩ (.pointer p5)).setCell ⟨R0, 6, none⟩ (.pointer p6)) R0 R :=
            fun b o v q => ((((((q.set0 0 _).set0 1 _).set0 2 _).set0 3 _).set0 4 _).set0 5 _).set0 6 _
          refine bodyPost_ret (v := .agg #[.pointer (some ⟨V, 0, none⟩), .pointer p1, .pointer p2, .pointer p3, .pointer p4, .pointer p5, .pointer p6]) (by simp [results, Yba.results5, go_sem, d0, d1, d2, d3, d4, d5, d6]) rfl
            ⟨R0, R, V, p1, p2, p3, p4, p5, p6, rfl, ?_, HF.out.2.2.1.keep hk, HF.out.2.2.2.1.keep hk, HF.out.2.2.2.2.1.keep hk, HF.out.2.2.2.2.2.1.keep hk, ?_⟩
          · rw [World.cell?_of_block (w := wc)]
            · exact HF.out.1
            · show (((((((wc.setCell ⟨R0, 0, none⟩ (.pointer (some ⟨V, 0, none⟩))).setCell ⟨R0, 1, none⟩ (.pointer p1)).setCell ⟨R0, 2, none⟩ (.pointer p2)).setCell ⟨R0, 3, none⟩ (.pointer p3)).setCell ⟨R0, 4, none⟩ (.pointer p4)).setCell ⟨R0, 5, none⟩ (.pointer p5)).setCell ⟨R0, 6, none⟩ (.pointer p6)).heap[V]? = _
              have hVn := HF.out.2.1
              rw [blk_setCell_other _ _ _ _ (by exact hVn), blk_setCell_other _ _ _ _ (by exact hVn), blk_setCell_other _ _ _ _ (by exact hVn), blk_setCell_other _ _ _ _ (by exact hVn), blk_setCell_other _ _ _ _ (by exact hVn), blk_setCell_other _ _ _ _ (by exact hVn), blk_setCell_other _ _ _ _ (by exact hVn)]
          · have hB := HF.out.2.2.2.2.2.2.1
            have hz := HF.out.2.2.2.2.2.2.2
            exact ((((((hB.setCell (p := ⟨R0, 0, none⟩) hz _).setCell (p := ⟨R0, 1, none⟩) hz _).setCell (p := ⟨R0, 2, none⟩) hz _).setCell (p := ⟨R0, 3, none⟩) hz _).setCell (p := ⟨R0, 4, none⟩) hz _).setCell (p := ⟨R0, 5, none⟩) hz _).setCell (p := ⟨R0, 6, none⟩) hz _
end Go.Proofs.Ybulkbpjo
