/-
  From behind the loop over the iterator to the end.
-/
import Derived.Test.YbulkdsaoLk
import Derived.Test.YbulkdsaoLn
namespace Go.Proofs.Ybulkdsao
open Go.ChangeShapes Go.WideShapes Go.ChangeAt Go.RowKit
set_option linter.unusedVariables false

theorem cutAt_len (lim : Nat) (L : List (Nat × Int × Int)) : (cutAt lim L).length ≤ L.length := by
  unfold cutAt
  split
  · exact Nat.le_refl _
  · simp; omega

theorem tail24 (Q : Exit → Act → World → Prop) (t : Array Value) (ds : List Deferred) (W : World) (x : Fx) (fb VB vcap PB pcap P2 cap2 b25 c25 b26 c26 b33 c33 gb lb lim N : Nat) (pa pa2 : Option Addr) (D : Vd) (E : Pd) (sg sz ah : Int) (hA : At t x)
    (h13 : x.s13 = .int .i64 sz) (h14 : x.s14 = .int .i64 sg) (h15 : x.s15 = .int .i64 ah) (h22 : x.s22 = .slice pa2 E.np cap2) (h25 : x.s25 = .slice (some ⟨b25, 0, none⟩) D.nv c25) (h26 : x.s26 = .slice (some ⟨b26, 0, none⟩) D.nv c26)
    (h33 : x.s33 = .slice (some ⟨b33, 0, none⟩) D.nv c33) (h34 : x.s34 = .pointer (some ⟨fb, 0, none⟩)) (h36 : x.s36 = .pointer (some ⟨lb, 0, none⟩)) (h37 : x.s37 = .pointer (some ⟨gb, 0, none⟩))
    (hb : Bds sg sz) (hD : D.Ok) (hE : E.Ok sz) (ha0 : 0 ≤ ah) (ha1 : ah ≤ 255) (hl16 : lim ≤ 16) (hm : Mdl W P2 b25 b26 pa2 D E) (vs : Vs W fb VB vcap D) (pl : Ps W fb PB pcap pa E) (hcu : CurOk W fb D)
    (hgi : GI D gb lb N lim (cutAt lim (allOuts E D sg sz ah)) W) (l33 : ∀ i, i < D.nv → W.cell? ⟨b33, i, none⟩ = some (.pointer (some ⟨D.vb i, 0, none⟩)))
    (hvb : ∀ i, i < D.nv → W.heap[D.vb i]? = some (.cells (vcells (D.st i) (D.pos i) (D.b i)).toArray 49 (0, 0))) (hv : ∀ i, i < D.nv → ∀ o u, (vcells (D.st i) (D.pos i) (D.b i))[o]? = some u → W.cell? ⟨b25, i * 10 + o, none⟩ = some u)
    (hQ : ∀ t' W', t'.size = 497 → t'[12]? = some (.bool true) → Below W.heap.size W W' → Q .ret ⟨t', ds⟩ W') :
    Code.wp Yba.prog (rest 24) Q ⟨t, ds⟩ W := by
  have hlen : (allOuts E D sg sz ah).length ≤ 70000 := outs_small hb hD
  refine st24 Q t ds W x P2 b25 b26 cap2 c25 c26 pa2 D E sg sz ah hA h13 h14 h15 h22 h25 h26 hb hD hE ha0 ha1 hm ?_
  intro t1 v39 W1 hA1 B1 own1
  refine st26 Q t1 ds W W1 { x with s39 := v39 } P2 b25 b26 b33 c25 c26 c33 pa2 D E sg sz ah hA1 h13 h14 h15 h25 h26 h33 hb hD hE ha0 ha1 hm l33 B1 own1 ?_
  intro t2 v49 W2 hA2 B2 own2
  have keep : ∀ {b o : Nat} {v : Value}, W.cell? ⟨b, o, none⟩ = some v → W2.cell? ⟨b, o, none⟩ = some v := fun hc => (B2.cell (World.block_lt_of_cell? _ _ hc)).trans hc
  have keepb : ∀ {b : Nat} {o : Obj}, W.heap[b]? = some o → W2.heap[b]? = some o := fun hc => (B2.block _ (Array.getElem?_eq_some_iff.1 hc).1).trans hc
  obtain ⟨⟨gv, hgv, hgo⟩, hlb⟩ := hgi
  have gu := Units.of hgo
  refine st29 Q t2 ds W2 { x with s39 := v39, s49 := v49 } D (allOuts E D sg sz ah) lb lim hA2 h36 (keep (cell_of_box hlb).1) hl16 hlen (Units.of own2) ?_
  intro t3 v49' hA3 hu3
  have gu2 : Units W2 gv D (cutAt lim (allOuts E D sg sz ah)) := by
    obtain ⟨a, b, cap, e1, e2, e3, e4⟩ := gu
    exact ⟨a, b, cap, e1, e2, e3, fun q hq => ⟨keep (e4 q hq).1, keep (e4 q hq).2.1, keep (e4 q hq).2.2⟩⟩
  refine st30 Q t3 ds W2 { x with s39 := v39, s49 := v49' } D (cutAt lim (allOuts E D sg sz ah)) gb gv hA3 h37 (keep (cell_of_box hgv).1) (Nat.le_trans (cutAt_len _ _) hlen) hu3 gu2 ?_
  intro t4 n4 hA4
  refine st32 Q t4 ds (W2.drewN n4) { x with s39 := v39, s49 := v49' } fb D.nv E.np pcap cap2 vcap c33 b33 VB PB P2 pa pa2 E.ps E.pe hA4 h34 h22 h33 (keep pl.fp) (keep vs.fv) hE.n pl.pa hm.pa
    (fun j hj => keep (pl.s j hj)) (fun j hj => keep (pl.e j hj)) (fun j hj => keep (hm.ps j hj)) (fun j hj => keep (hm.pe j hj)) ?_
  intro t5 n5 hA5
  refine st33 Q t5 ds ((W2.drewN n4).drewN n5) { x with s39 := v39, s49 := v49' } fb vcap c33 c25 b25 b33 VB D hA5 h34 h33 h25 (keep vs.fv) hD.n (fun i hi => keep (vs.el i hi)) (fun i hi => keep (l33 i hi)) (fun i hi => keepb (hvb i hi)) (fun i hi o u hu => keep (hv i hi o u hu)) ?_
  intro t6 n6 hA6
  have hcu2 : CurOk (((W2.drewN n4).drewN n5).drewN n6) fb D := by
    obtain ⟨CB, cap, h⟩ := hcu
    refine ⟨CB, cap, ?_⟩
    rcases h with ⟨h0, h1⟩ | ⟨h1, h2⟩
    · exact .inl ⟨h0, keep h1⟩
    · exact .inr ⟨keep h1, fun j hj => keep (h2 j hj)⟩
  refine st34 Q t6 ds (((W2.drewN n4).drewN n5).drewN n6) { x with s39 := v39, s49 := v49' } fb c33 b33 D hA6 h34 h33 hD.n (fun i hi => keep (l33 i hi)) hcu2 ?_
  intro t7 n7 hs h12
  exact hQ t7 _ hs h12 ⟨B2.os, B2.tape, B2.output, B2.size, B2.block⟩
end Go.Proofs.Ybulkdsao
