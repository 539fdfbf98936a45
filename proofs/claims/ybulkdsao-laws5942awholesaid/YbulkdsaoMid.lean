/-
  From behind the viewers' loop to the end.
-/
import Derived.Test.YbulkdsaoTail
namespace Go.Proofs.Ybulkdsao
open Go.ChangeShapes Go.WideShapes Go.ChangeAt Go.RowKit
set_option linter.unusedVariables false

theorem rowCell {w : World} {N e size n cap g : Nat} {xs : List Value} (h : w.ownsRow N e size (.slice (some ⟨g, 0, none⟩) n cap) n xs) {j : Nat} {u : Value} (hj : xs[j]? = some u) : w.cell? ⟨g, j, none⟩ = some u := by
  have := h.cells (g := g) rfl j u hj
  rwa [Addr.add_lit, Nat.zero_add] at this

theorem ptrsTo_get (vb : Nat → Nat) {k j : Nat} (h : j < k) : (ptrsTo vb k)[j]? = some (.pointer (some ⟨vb j, 0, none⟩)) := by simp [ptrsTo, h]
theorem bssTo_get (b : Nat → Int) {k j : Nat} (h : j < k) : (bssTo b k)[j]? = some (.int .i64 (b j)) := by simp [bssTo, h]
theorem valsTo_len (st pos b : Nat → Int) : ∀ k, (valsTo st pos b k).length = k * 10
  | 0 => rfl
  | k + 1 => by rw [valsTo_succ, List.length_append, valsTo_len st pos b k]; simp [vcells]; omega
theorem valsTo_get (st pos b : Nat → Int) : ∀ k j o u, j < k → (vcells (st j) (pos j) (b j))[o]? = some u → (valsTo st pos b k)[j * 10 + o]? = some u
  | 0, j, o, u, hj, _ => by omega
  | k + 1, j, o, u, hj, hu => by
    have ho : o < 10 := by
      have := (List.getElem?_eq_some_iff.1 hu).1
      simpa [vcells] using this
    have hl := valsTo_len st pos b k
    rw [valsTo_succ]
    by_cases e : j = k
    · subst e
      rw [List.getElem?_append_right (by omega), hl, show j * 10 + o - j * 10 = o by omega]
      exact hu
    · rw [List.getElem?_append_left (by omega)]
      exact valsTo_get st pos b k j o u (by omega) hu

set_option maxHeartbeats 1000000 in
theorem mid18 (Q : Exit → Act → World → Prop) (t : Array Value) (w : World) (x : Fx) (N PB pcap P2 cap2 tb b24 b25 b26 : Nat) (pa pa2 : Option Addr) (D : Vd) (E : Pd) (sg sz ah stp : Int) (hA : At t x)
    (h13 : x.s13 = .int .i64 sz) (h14 : x.s14 = .int .i64 sg) (h15 : x.s15 = .int .i64 ah) (h5 : x.s5 = .int .u8 stp) (hs0 : 0 ≤ stp) (hs1 : stp ≤ 255) (h20 : x.s20 = .slice pa E.np pcap) (h22 : x.s22 = .slice pa2 E.np cap2) (h23 : x.s23 = .pointer (some ⟨tb, 0, none⟩))
    (h24 : x.s24 = .slice (some ⟨b24, 0, none⟩) D.nv D.nv) (h25 : x.s25 = .slice (some ⟨b25, 0, none⟩) D.nv D.nv) (h26 : x.s26 = .slice (some ⟨b26, 0, none⟩) D.nv D.nv)
    (hb : Bds sg sz) (hD : D.Ok) (hE : E.Ok sz) (ha0 : 0 ≤ ah) (ha1 : ah ≤ 255)
    (pap : 0 < E.np → pa = some ⟨PB, 0, none⟩) (hPB : PB < w.heap.size) (pps : ∀ j, j < E.np → w.cell? ⟨PB, j * 2, none⟩ = some (.int .i64 (E.ps j))) (ppe : ∀ j, j < E.np → w.cell? ⟨PB, j * 2 + 1, none⟩ = some (.int .i64 (E.pe j)))
    (pap2 : 0 < E.np → pa2 = some ⟨P2, 0, none⟩) (pps2 : ∀ j, j < E.np → w.cell? ⟨P2, j * 2, none⟩ = some (.int .i64 (E.ps j))) (ppe2 : ∀ j, j < E.np → w.cell? ⟨P2, j * 2 + 1, none⟩ = some (.int .i64 (E.pe j)))
    (htb : w.heap[tb]? = some (.cells (titleCells sz sg) 35 (0, 0))) (hvb : Vbs N w D.vb D.st D.pos D.b D.nv)
    (o24 : w.ownsRow b24 41 1 (.slice (some ⟨b24, 0, none⟩) D.nv D.nv) D.nv (ptrsTo D.vb D.nv)) (o25 : w.ownsRow b25 49 10 (.slice (some ⟨b25, 0, none⟩) D.nv D.nv) D.nv (valsTo D.st D.pos D.b D.nv)) (o26 : w.ownsRow b26 2 1 (.slice (some ⟨b26, 0, none⟩) D.nv D.nv) D.nv (bssTo D.b D.nv))
    (hQ : ∀ t' W' b, t'.size = 497 → t'[12]? = some (.bool true) → W'.heap[b]? = some (.deferred (some [])) → w.heap.size ≤ b → (W'.os = w.os ∧ W'.output = w.output) → w.heap.size ≤ W'.heap.size → (∀ k, k < w.heap.size → W'.heap[k]? = w.heap[k]?) → Q .ret ⟨t', [{ target := .collected b, args := #[] }]⟩ W') :
    Code.wp Yba.prog (rest 18) Q ⟨t, []⟩ w := by
  have hone : ∀ u ∈ ptrsTo D.vb D.nv, u.oneCell' = true := by
    intro u hu
    obtain ⟨j, _, rfl⟩ := List.mem_map.1 hu
    rfl
  refine st18 Q t [] w x b24 D.nv tb b24 E.np pcap pa (ptrsTo D.vb D.nv) ah stp hA h20 h23 h24 h15 h5 hs0 hs1 hD.n (by rw [h24]; exact o24) hone ?_
  intro t1 w1 v33 fb nw lb gb cf hA1 B1 o33 n33 l33 q1 q2 q3 q4 hfb c0 c1 c23 c24 c45 hnw hlb hgb
  obtain ⟨lim, hlim⟩ : ∃ lim : Nat, (lim : Int) = stp % 16 := ⟨(stp % 16).toNat, by have := Int.emod_nonneg stp (show (16 : Int) ≠ 0 by omega); omega⟩
  have hl16 : lim ≤ 16 := by have := Int.emod_lt_of_pos stp (show (0 : Int) < 16 by omega); omega
  rw [← hlim] at hlb
  obtain ⟨b33, c33, rfl⟩ : ∃ b33 c33, v33 = .slice (some ⟨b33, 0, none⟩) D.nv c33 := by
    rcases o33.2 with ⟨h, _⟩ | ⟨g, cap, cur, h, _⟩
    · exact absurd h n33
    · exact ⟨g, cap, h⟩
  have hb33 : b33 < fb := l33 b33 rfl
  have cfc : ∀ {o : Nat} {v : Value}, cf[o]? = some v → w1.cell? ⟨fb, o, none⟩ = some v := fun h => by rw [cell_of_row _ _ _ _ _ _ hfb]; exact h
  have keep : ∀ {b o : Nat} {v : Value}, w.cell? ⟨b, o, none⟩ = some v → w1.cell? ⟨b, o, none⟩ = some v := fun hc => (B1.cell (World.block_lt_of_cell? _ _ hc)).trans hc
  have keepb : ∀ {b : Nat} {o : Obj}, w.heap[b]? = some o → w1.heap[b]? = some o := fun hc => (B1.block _ (Array.getElem?_eq_some_iff.1 hc).1).trans hc
  have tbc : ∀ {o : Nat} {v : Value}, (titleCells sz sg)[o]? = some v → w1.cell? ⟨tb, o, none⟩ = some v := fun h => by rw [cell_of_row _ _ _ _ _ _ (keepb htb)]; exact h
  have ltb : tb < w.heap.size := (Array.getElem?_eq_some_iff.1 htb).1
  have lb24 : b24 < w.heap.size := (o24.lt _ rfl).2
  have lb25 : b25 < w.heap.size := (o25.lt _ rfl).2
  have lb26 : b26 < w.heap.size := (o26.lt _ rfl).2
  have lfb : fb < w1.heap.size := (Array.getElem?_eq_some_iff.1 hfb).1
  have lvb : ∀ j, j < D.nv → D.vb j < w.heap.size := fun j hj => (Array.getElem?_eq_some_iff.1 (hvb.blk j hj)).1
  have s1 := B1.size
  have vcell : ∀ j, j < D.nv → ∀ {o : Nat} {v : Value}, (vcells (D.st j) (D.pos j) (D.b j))[o]? = some v → w1.cell? ⟨D.vb j, o, none⟩ = some v := fun j hj o v h => by
    rw [cell_of_row _ _ _ _ _ _ (keepb (hvb.blk j hj))]
    simpa using h
  have el : ∀ i, i < D.nv → w1.cell? ⟨b24, i, none⟩ = some (.pointer (some ⟨D.vb i, 0, none⟩)) := fun i hi => keep (rowCell o24 (ptrsTo_get D.vb hi))
  refine st23 Q t1 [] w1 _ fb nw tb b24 D.nv PB pcap gb lb lim pa D E sg sz ah hA1 rfl rfl rfl rfl hnw hb hD hE ha0 ha1 ⟨cfc c0, cfc c1, tbc rfl, tbc rfl⟩ (tbc rfl)
    ⟨cfc c23, el, fun i hi => ⟨vcell i hi rfl, vcell i hi rfl, vcell i hi rfl, vcell i hi rfl, vcell i hi rfl⟩⟩
    ⟨cfc c24, pap, fun j hj => keep (pps j hj), fun j hj => keep (ppe j hj)⟩ (fun j hj => ⟨_, _, keepb (hvb.blk j hj)⟩)
    ⟨lfb, by omega⟩ ⟨by omega, by omega⟩ ⟨by omega, by omega⟩ ⟨by omega, by omega⟩ (fun j hj => by have := lvb j hj; exact ⟨by omega, by omega⟩)
    (cfc c45) (by simp [World.frozen?, hfb]) ⟨by omega, fun _ => by omega⟩ (fun i j hi hj e => by
      rcases Nat.lt_trichotomy i j with h | h | h
      · have := hvb.inc i j h hj; omega
      · exact h
      · have := hvb.inc j i h hi; omega)
    hgb hlb (by omega) (by omega) hl16 ?_
  intro t2 W hA2 vs2 pl2 hcu hgi hk hdf hsz hio
  have kc : ∀ {b o : Nat} {v : Value}, b < fb → w1.cell? ⟨b, o, none⟩ = some v → W.cell? ⟨b, o, none⟩ = some v := fun {b o v} hb hc => (World.cell?_of_block (a := ⟨b, o, none⟩) (hk b (by omega) (by omega) (by omega))).trans hc
  have kb : ∀ {b : Nat} {o : Obj}, b < fb → w1.heap[b]? = some o → W.heap[b]? = some o := fun {b o} hb hc => (hk b (by omega) (by omega) (by omega)).trans hc
  have lP2 : ∀ {j : Nat} {o : Nat} {v : Value}, w.cell? ⟨P2, o, none⟩ = some v → P2 < fb := fun h => by have := World.block_lt_of_cell? _ _ h; simp at this; omega
  have hv : ∀ i, i < D.nv → ∀ o u, (vcells (D.st i) (D.pos i) (D.b i))[o]? = some u → W.cell? ⟨b25, i * 10 + o, none⟩ = some u := fun i hi o u hu => kc (by omega) (keep (rowCell o25 (valsTo_get D.st D.pos D.b D.nv i o u hi hu)))
  refine tail24 Q t2 [{ target := .collected (w1.heap.size + 2), args := #[] }] W _ fb b24 D.nv PB pcap P2 cap2 b25 D.nv b26 D.nv b33 c33 gb lb lim (w1.heap.size + 4) pa pa2 D E sg sz ah hA2 h13 h14 h15 h22 h25 h26 rfl rfl rfl rfl hb hD hE ha0 ha1 hl16
    ⟨pap2, fun j hj => kc (lP2 (j := 0) (pps2 j hj)) (keep (pps2 j hj)), fun j hj => kc (lP2 (j := 0) (ppe2 j hj)) (keep (ppe2 j hj)), fun j hj => hv j hj 0 _ rfl, fun j hj => hv j hj 1 _ rfl, fun j hj => kc (by omega) (keep (rowCell o26 (bssTo_get D.b hj)))⟩
    vs2 pl2 hcu hgi (fun i hi => kc hb33 (rowCell o33 (ptrsTo_get D.vb hi))) (fun i hi => kb (by have := lvb i hi; omega) (keepb (hvb.blk i hi))) hv ?_
  intro t3 W3 hs3 h12 B3'
  refine hQ t3 W3 (w1.heap.size + 2) hs3 h12 ((B3'.block _ (by omega)).trans hdf) (by omega) ⟨B3'.os.trans (hio.1.trans B1.os), B3'.output.trans (hio.2.trans B1.output)⟩ (by have := B3'.size; omega) ?_
  intro k hk'
  rw [B3'.block k (by omega), hk k (by omega) (by omega) (by omega), B1.block k hk']
end Go.Proofs.Ybulkdsao
