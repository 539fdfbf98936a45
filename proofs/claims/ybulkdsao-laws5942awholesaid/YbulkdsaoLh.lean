/-
  'for u := range f.units(now) { .. }': the statement.
-/
import Derived.Test.YbulkdsaoLg
namespace Go.Proofs.Ybulkdsao
open Go.ChangeShapes Go.WideShapes Go.ChangeAt Go.RowKit
set_option linter.unusedVariables false

/-- All of the iterator's yield. -/
def allOuts (E : Pd) (D : Vd) (sg sz ah : Int) : List (Nat × Int × Int) := outs E D sg sz ah (left sz (fun j => offL sg sz (D.pos j)) D.nv + 1) (fun j => offL sg sz (D.pos j))

/-- The cursors behind the loop. -/
def CurOk (W : World) (fb : Nat) (D : Vd) : Prop := ∃ CB cap, (D.nv = 0 ∧ W.cell? ⟨fb, 45, none⟩ = some (.slice none 0 0)) ∨ (W.cell? ⟨fb, 45, none⟩ = some (.slice (some ⟨CB, 0, none⟩) D.nv cap) ∧ ∀ j, j < D.nv → W.cell? ⟨CB, j * 3, none⟩ = some (.pointer (some ⟨D.vb j, 0, none⟩)))

set_option maxRecDepth 100000 in
set_option maxHeartbeats 1000000 in
theorem st23 (Q : Exit → Act → World → Prop) (t : Array Value) (ds : List Deferred) (w : World) (x : Fx) (fb nw tb VB vcap PB pcap gb lb lim : Nat) (pa : Option Addr) (D : Vd) (E : Pd) (sg sz ah : Int) (hA : At t x)
    (h34 : x.s34 = .pointer (some ⟨fb, 0, none⟩)) (h35 : x.s35 = .pointer (some ⟨nw, 0, none⟩)) (h36 : x.s36 = .pointer (some ⟨lb, 0, none⟩)) (h37 : x.s37 = .pointer (some ⟨gb, 0, none⟩))
    (hnw : w.heap[nw]? = some (.cells #[.int .u64 0, .int .i64 0, .pointer none] 45 (0, 0)))
    (hb : Bds sg sz) (hD : D.Ok) (hE : E.Ok sz) (ha0 : 0 ≤ ah) (ha1 : ah ≤ 255) (fx : Fix w fb tb sg sz ah) (du : w.cell? ⟨tb, 3, none⟩ = some (.float .f64 (fw sz))) (vs : Vs w fb VB vcap D) (pl : Ps w fb PB pcap pa E)
    (vk : ∀ j, j < D.nv → ∃ c t, w.heap[D.vb j]? = some (Obj.cells c t (0, 0)))
    (z1 : fb < w.heap.size ∧ fb ≠ gb) (z2 : tb < w.heap.size ∧ tb ≠ gb) (z3 : VB < w.heap.size ∧ VB ≠ gb) (z4 : PB < w.heap.size ∧ PB ≠ gb) (z5 : ∀ j, j < D.nv → D.vb j < w.heap.size ∧ D.vb j ≠ gb)
    (hcur : w.cell? ⟨fb, 45, none⟩ = some (.slice none 0 0)) (hff : w.frozen? ⟨fb, 45, none⟩ = false) (h45 : VB ≠ fb ∧ (0 < E.np → PB ≠ fb)) (hinj : ∀ i j, i < D.nv → j < D.nv → D.vb i = D.vb j → i = j)
    (hgb : Boxed w gb 87 (.slice none 0 0)) (hlb : Boxed w lb 3 (.int .i64 lim)) (hgf : gb ≠ fb) (hlf : lb ≠ fb) (hl16 : lim ≤ 16)
    (hQ : ∀ t' W, At t' x → Vs W fb VB vcap D → Ps W fb PB pcap pa E → CurOk W fb D → GI D gb lb (w.heap.size + 4) lim (cutAt lim (allOuts E D sg sz ah)) W → (∀ k, k < w.heap.size → k ≠ gb → k ≠ fb → W.heap[k]? = w.heap[k]?) →
      W.heap[w.heap.size + 2]? = some (.deferred (some [])) → w.heap.size + 4 ≤ W.heap.size → (W.os = w.os ∧ W.output = w.output) → Code.wp Yba.prog (rest 24) Q ⟨t', { target := .collected (w.heap.size + 2), args := #[] } :: ds⟩ W) :
    Code.wp Yba.prog (rest 23) Q ⟨t, ds⟩ w := by
  have n0 : w.cell? ⟨nw, 0, none⟩ = some (.int .u64 0) := by rw [cell_of_row _ _ _ _ _ _ hnw]; rfl
  have n1 : w.cell? ⟨nw, 1, none⟩ = some (.int .i64 0) := by rw [cell_of_row _ _ _ _ _ _ hnw]; rfl
  have n2 : w.cell? ⟨nw, 2, none⟩ = some (.pointer none) := by rw [cell_of_row _ _ _ _ _ _ hnw]; rfl
  obtain ⟨w2, hw2⟩ : ∃ w2, (w.alloc (.cells #[.pointer (some ⟨fb, 0, none⟩)] 51)).alloc (.cells #[.int .u64 0, .int .i64 0, .pointer none] 45) = w2 := ⟨_, rfl⟩
  have hs2 : w2.heap.size = w.heap.size + 2 := by rw [← hw2]; simp
  have old : ∀ k, k < w.heap.size → w2.heap[k]? = w.heap[k]? := fun k hk => by rw [← hw2]; exact (Below.heap_alloc _ _ k (by simp; omega)).trans (Below.heap_alloc _ _ k hk)
  have oc : ∀ {b o : Nat} {v : Value}, w.cell? ⟨b, o, none⟩ = some v → w2.cell? ⟨b, o, none⟩ = some v := fun hc => (World.cell?_of_block (old _ (World.block_lt_of_cell? _ _ hc))).trans hc
  have hx2 : w2.heap[w.heap.size]? = some (.cells #[.pointer (some ⟨fb, 0, none⟩)] 51 (0, 0)) := by rw [← hw2]; exact (Below.heap_alloc _ _ _ (by simp)).trans (heap_alloc_new _ _)
  have hn2 : w2.heap[w.heap.size + 1]? = some (.cells #[.int .u64 0, .int .i64 0, .pointer none] 45 (0, 0)) := by
    rw [← hw2]
    have := heap_alloc_new (w.alloc (.cells #[.pointer (some ⟨fb, 0, none⟩)] 51)) (.cells #[.int .u64 0, .int .i64 0, .pointer none] 45)
    rwa [World.size_alloc] at this
  have env : Env (fun k => k < w2.heap.size ∧ k ≠ gb) w2 w.heap.size (w.heap.size + 1) fb tb VB vcap PB pcap pa D E sg sz ah := by
    have glt := hgb.lt
    refine ⟨by rw [cell_of_row _ _ _ _ _ _ hx2]; rfl, by rw [cell_of_row _ _ _ _ _ _ hn2]; rfl, by rw [cell_of_row _ _ _ _ _ _ hn2]; rfl, by rw [cell_of_row _ _ _ _ _ _ hn2]; rfl, ⟨oc fx.ft, oc fx.fa, oc fx.ts, oc fx.tg⟩, oc du,
      ⟨oc vs.fv, fun i hi => oc (vs.el i hi), fun i hi => ⟨oc (vs.vw i hi).s, oc (vs.vw i hi).p, oc (vs.vw i hi).b0, oc (vs.vw i hi).b1, oc (vs.vw i hi).b2⟩⟩, ⟨oc pl.fp, pl.pa, fun j hj => oc (pl.s j hj), fun j hj => oc (pl.e j hj)⟩, ?_, ?_⟩
    · intro j hj
      obtain ⟨c, t, h⟩ := vk j hj
      exact ⟨c, t, (old _ (z5 j hj).1).trans h⟩
    · exact ⟨⟨by omega, by omega⟩, ⟨by omega, by omega⟩, ⟨by omega, z1.2⟩, ⟨by omega, z2.2⟩, ⟨by omega, z3.2⟩, ⟨by omega, z4.2⟩, fun j hj => ⟨by have := (z5 j hj).1; omega, (z5 j hj).2⟩⟩
  have hcur2 := oc hcur
  have hff2 : w2.frozen? ⟨fb, 45, none⟩ = false := (World.frozen?_of_block (old fb z1.1)).trans hff
  have hgb2 : Boxed w2 gb 87 (.slice none 0 0) := (old gb hgb.lt).trans hgb
  have hlb2 : Boxed w2 lb 3 (.int .i64 lim) := (old lb hlb.lt).trans hlb
  have hio2 : w2.os = w.os ∧ w2.output = w.output := by rw [← hw2]; exact ⟨rfl, rfl⟩
  obtain ⟨s0, s1, s2, s3, s4, s5, s13, s14, s15, s16, s17, s20, s22, s23, s24, s25, s26, s33, s34, s35, s36, s37, s39, s49⟩ := x
  obtain ⟨g, hg, rfl⟩ := hA.lit
  dsimp only at hg h34 h35 h36 h37
  subst h34 h35 h36 h37
  refine rest_step 23 (by kernel_rfl) ?_
  conv => arg 2; whnf
  simp only [slotsFrom, Nat.reduceAdd, hg]
  clear hA hg
  have C := hideIt (units_any fb w)
  rw [hw2] at C
  have H2 : Hid (∀ (Q : Exit → Act → World → Prop) (t : Array Value), t.size = 497 → t[36]? = some (.pointer (some ⟨lb, 0, none⟩)) → t[37]? = some (.pointer (some ⟨gb, 0, none⟩)) →
      t[200]? = some (.func (.func 20) #[] #[.pointer (some ⟨w.heap.size, 0, none⟩), .pointer (some ⟨w.heap.size + 1, 0, none⟩)]) →
      (∀ W, Vs W fb VB vcap D → Ps W fb PB pcap pa E → CurOk W fb D → GI D gb lb (w.heap.size + 4) lim (cutAt lim (allOuts E D sg sz ah)) W → (∀ k, k < w.heap.size → k ≠ gb → k ≠ fb → W.heap[k]? = w.heap[k]?) →
        W.heap[w.heap.size + 2]? = some (.deferred (some [])) → w.heap.size + 4 ≤ W.heap.size → (W.os = w.os ∧ W.output = w.output) →
        Q .normal ⟨t, { target := .collected (w.heap.size + 2), args := #[] } :: ds⟩ W ∧ Q (.exit 6) ⟨t, { target := .collected (w.heap.size + 2), args := #[] } :: ds⟩ W) →
      (Code.rangeFunc (.tmp 200) #[201] asg bod).wp Yba.prog Q ⟨t, ds⟩ w2) := by
    intro Q t hn e36 e37 e200 hfin
    refine wpIn_wide.1 (range23 Q t ds w2 _ _ fb tb VB vcap PB pcap pa D E sg sz ah _ gb lb lim hn e36 e37 e200 hb hD hE ha0 ha1 env (fun k hk => hk) hcur2 hff2 h45 hinj hgb2 hlb2 hgf hlf hl16 ?_)
    rw [hs2]
    intro W he hcu hgi hk hdf hsz hio
    refine hfin W he.vs he.pl ?_ hgi (fun k k1 k2 k3 => (hk k (by omega) k2 k3).trans (old k k1)) hdf hsz ⟨hio.1.trans hio2.1, hio.2.trans hio2.2⟩
    obtain ⟨CB, cap, c, h⟩ := hcu
    refine ⟨CB, cap, ?_⟩
    rcases h with h | ⟨h1, h2⟩
    · exact .inl h
    · exact .inr ⟨h1, h2.v⟩
  have HQ := hideIt hQ
  clear hQ hnw fx du vs pl vk z1 z2 z3 z4 z5 hcur hff hgb hlb env hcur2 hff2 hgb2 hlb2 hx2 hn2 old hio2 oc hw2 hinj hE hD hb h45
  go_wp2_with fail
  refine C.out.mono ?_
  rintro e w' ⟨rfl, rfl⟩
  clear C n0 n1 n2
  go_wp2_with fail
  refine H2.out _ _ rfl rfl rfl rfl ?_
  intro W a1 a2 a3 a4 a5 a6 a7 a8
  refine ⟨?_, ?_⟩
  · show Code.wp Yba.prog (rest 24) Q _ W
    exact HQ.out _ W ⟨rfl, rfl, rfl, rfl, rfl, rfl, rfl, rfl, rfl, rfl, rfl, rfl, rfl, rfl, rfl, rfl, rfl, rfl, rfl, rfl, rfl, rfl, rfl, rfl, rfl⟩ a1 a2 a3 a4 a5 a6 a7 a8
  · show Code.wp Yba.prog (rest 24) Q _ W
    exact HQ.out _ W ⟨rfl, rfl, rfl, rfl, rfl, rfl, rfl, rfl, rfl, rfl, rfl, rfl, rfl, rfl, rfl, rfl, rfl, rfl, rfl, rfl, rfl, rfl, rfl, rfl, rfl⟩ a1 a2 a3 a4 a5 a6 a7 a8
end Go.Proofs.Ybulkdsao
