/-
  'for u := range f.units(now) { .. }': the statement, by the iterator's contract.
-/
import Derived.Test.YbulkdsaoUn9
import Derived.RangeFuncBox
namespace Go.Proofs.Ybulkdsao
open Go.ChangeShapes Go.WideShapes Go.ChangeAt Go.RowKit Go.Sort
set_option linter.unusedVariables false

/-- A unit's cells. -/
def cellsU (D : Vd) (u : Nat × Int × Int) : List Value := [.int .i64 u.2.1, .int .i64 u.2.2, .pointer (some ⟨D.vb u.1, 0, none⟩)]
def cellsUs (D : Vd) (us : List (Nat × Int × Int)) : List Value := us.flatMap (cellsU D)

/-- The caller's own: got in its box, the limit in its box. -/
structure GI (D : Vd) (gb lb N0 lim : Nat) (pre : List (Nat × Int × Int)) (W : World) : Prop where
  got : ∃ v, Boxed W gb 87 v ∧ W.ownsRow N0 92 3 v pre.length (cellsUs D pre)
  lim : Boxed W lb 3 (.int .i64 lim)

/-- What a body keeps. -/
structure KeepB (gb N0 : Nat) (W W' : World) : Prop where
  io : W'.os = W.os ∧ W'.output = W.output
  others : KeepsOthers W W'
  below : ∀ k, k < N0 → k ≠ gb → W'.heap[k]? = W.heap[k]?
  rows : ∀ (k t : Nat) (cur : Array Value), t = 101 ∨ t = 29 → W.heap[k]? = some (Obj.cells cur t (0, 0)) → W'.heap[k]? = some (Obj.cells cur t (0, 0))

def bPost (D : Vd) (gb lb N0 lim xid : Nat) (pre : List (Nat × Int × Int)) (W : World) : Exit → Act → World → Prop
  | .normal, _, W' => KeepB gb N0 W W' ∧ GI D gb lb N0 lim pre W' ∧ (lim = 0 ∨ pre.length < lim)
  | .exit id, _, W' => id = xid ∧ KeepB gb N0 W W' ∧ GI D gb lb N0 lim pre W' ∧ 0 < lim ∧ pre.length = lim
  | _, _, _ => False

theorem GI.kept {D : Vd} {gb lb N0 lim : Nat} {pre : List (Nat × Int × Int)} {W W' : World} {r : Nat} (h : GI D gb lb N0 lim pre W) (hg : W.grownBy W' (some r)) (hr : ∀ o, W.heap[r]? = some o → (∀ cur, o ≠ Obj.cells cur 87 (0, 0)) ∧ (∀ cur, o ≠ Obj.cells cur 92 (0, 0)) ∧ (∀ cur, o ≠ Obj.cells cur 3 (0, 0))) : GI D gb lb N0 lim pre W' := by
  obtain ⟨v, hv, hrow⟩ := h.got
  refine ⟨⟨v, hv.kept hg ?_, hrow.kept hg ?_⟩, h.lim.kept hg ?_⟩
  · intro e
    cases e
    exact (hr _ hv).1 _ rfl
  · rcases hrow.2 with ⟨rfl, _⟩ | ⟨g, cap, cur, rfl, _, hgb, _⟩
    · exact .inl rfl
    · refine .inr fun e => ?_
      have e' : g = r := by simpa [Value.ownBlock] using e
      subst e'
      exact (hr _ hgb).2.1 _ rfl
  · intro e
    cases e
    exact (hr _ h.lim).2.2 _ rfl

/-- The caller's list, cut at the limit. -/
def cutAt (lim : Nat) (L : List (Nat × Int × Int)) : List (Nat × Int × Int) := if lim = 0 then L else L.take lim

/-- Between two rounds. -/
structure RI (D : Vd) (gb lb fb lim l : Nat) (rec : LoopState → Option Code → Loop) (w : World) (st : LoopState) (pend : Option Code) (pre : List (Nat × Int × Int)) (W : World) : Prop where
  gi : GI D gb lb (w.heap.size + 2) lim pre W
  rl : W.heap[w.heap.size + 1]? = some (.loop (rec st pend))
  df : W.heap[w.heap.size]? = some (.deferred (some []))
  bl : ∀ k, k < w.heap.size → k ≠ gb → k ≠ fb → W.heap[k]? = w.heap[k]?
  sz : w.heap.size + 2 ≤ W.heap.size
  io : W.os = w.os ∧ W.output = w.output

theorem RI.kept {D : Vd} {gb lb fb lim l : Nat} {rec : LoopState → Option Code → Loop} {w : World} {st : LoopState} {pend : Option Code} {pre : List (Nat × Int × Int)} {W W' : World} {r : Nat} {cur : Array Value} (h : RI D gb lb fb lim l rec w st pend pre W)
    (hc : W.heap[r]? = some (Obj.cells cur 101 (0, 0))) (hr : w.heap.size + 2 ≤ r) (hg : W.grownBy W' (some r)) : RI D gb lb fb lim l rec w st pend pre W' := by
  have ne : ∀ k, k < w.heap.size + 2 → W'.heap[k]? = W.heap[k]? := fun k hk => hg.block k (by have := h.sz; omega) (by simp; omega)
  refine ⟨h.gi.kept hg (fun o ho => ?_), (ne _ (by omega)).trans h.rl, (ne _ (by omega)).trans h.df, fun k hk h1 h2 => (ne k (by omega)).trans (h.bl k hk h1 h2), Nat.le_trans h.sz hg.size, hg.os.trans h.io.1, hg.output.trans h.io.2⟩
  rw [hc] at ho
  cases ho
  exact ⟨fun c e => (by cases e), fun c e => (by cases e), fun c e => (by cases e)⟩

set_option maxHeartbeats 1000000 in
/-- The statement. -/
theorem range_units (g : Operand) (p : Tmp) (assign body : Code) (Q : Exit → Act → World → Prop) (a : Act) (w : World) (xb nb fb tb VB vcap PB pcap : Nat) (pa : Option Addr) (D : Vd) (E : Pd) (sg sz ah : Int) (Z : Nat → Prop) (gb lb lim xid : Nat)
    (hg : a.eval g = .func (.func 20) #[] #[.pointer (some ⟨xb, 0, none⟩), .pointer (some ⟨nb, 0, none⟩)])
    (hb : Bds sg sz) (hD : D.Ok) (hE : E.Ok sz) (ha0 : 0 ≤ ah) (ha1 : ah ≤ 255) (env : Env Z w xb nb fb tb VB vcap PB pcap pa D E sg sz ah) (hZ : ∀ k, Z k → k < w.heap.size ∧ k ≠ gb)
    (hcur : w.cell? ⟨fb, 45, none⟩ = some (.slice none 0 0)) (hff : w.frozen? ⟨fb, 45, none⟩ = false) (h45 : VB ≠ fb ∧ (0 < E.np → PB ≠ fb)) (hinj : ∀ i j, i < D.nv → j < D.nv → D.vb i = D.vb j → i = j)
    (hgb : Boxed w gb 87 (.slice none 0 0)) (hlb : Boxed w lb 3 (.int .i64 lim)) (hgf : gb ≠ fb) (hlf : lb ≠ fb) (a₁ : Nat × Int × Int → Nat → Act)
    (hassign : ∀ (l : Nat) (u : Nat × Int × Int) (W : World) (K : Act → World → Prop), K (a₁ u W.heap.size) (W.alloc (.cells (cellsU D u).toArray 92)) →
      assign.wpIn (Fence.wide.inRound l) 3 Yba.prog (Exit.then K (fun _ _ _ => False)) { tmps := a.tmps.setIfInBounds p (encU D u), defers := [] } W)
    (hbody : ∀ (l : Nat) (pre : List (Nat × Int × Int)) (u : Nat × Int × Int) (ub : Nat) (W : World), GI D gb lb (w.heap.size + 2) lim pre W → W.heap[ub]? = some (Obj.cells (cellsU D u).toArray 92 (0, 0)) → (lim = 0 ∨ pre.length < lim) →
      pre.length < (outs E D sg sz ah (left sz (fun j => offL sg sz (D.pos j)) D.nv + 1) (fun j => offL sg sz (D.pos j))).length → w.heap.size + 2 ≤ W.heap.size →
      body.wpIn (Fence.wide.inRound l) 3 Yba.prog (bPost D gb lb (w.heap.size + 2) lim xid (pre ++ [u]) W) (a₁ u ub) W)
    (hfin : ∀ (W : World), Env Z W xb nb fb tb VB vcap PB pcap pa D E sg sz ah →
      (∃ CB cap c, (D.nv = 0 ∧ W.cell? ⟨fb, 45, none⟩ = some (.slice none 0 0)) ∨ (W.cell? ⟨fb, 45, none⟩ = some (.slice (some ⟨CB, 0, none⟩) D.nv cap) ∧ Cs W CB D E c)) →
      GI D gb lb (w.heap.size + 2) lim (cutAt lim (outs E D sg sz ah (left sz (fun j => offL sg sz (D.pos j)) D.nv + 1) (fun j => offL sg sz (D.pos j)))) W →
      (∀ k, k < w.heap.size → k ≠ gb → k ≠ fb → W.heap[k]? = w.heap[k]?) → W.heap[w.heap.size]? = some (.deferred (some [])) → w.heap.size + 2 ≤ W.heap.size → (W.os = w.os ∧ W.output = w.output) →
      Q .normal { a with defers := { target := .collected w.heap.size, args := #[] } :: a.defers } W ∧ (Code.exit xid).wpIn Fence.wide 5 Yba.prog Q { a with defers := { target := .collected w.heap.size, args := #[] } :: a.defers } W) :
    (Code.rangeFunc g #[p] assign body).wpIn Fence.wide 5 Yba.prog Q a w := by
  refine wpIn_rangeFunc ?_
  intro fn hfn
  obtain ⟨rec, hrec⟩ : ∃ rec : LoopState → Option Code → Loop, rec = fun st pe => { state := st, pending := pe, fn, tmps := a.tmps, params := #[p], assign, body, defers := w.heap.size } := ⟨_, rfl⟩
  obtain ⟨W1, hW1⟩ : ∃ W1, (w.alloc (.deferred (some []))).alloc (.loop (rec .ready none)) = W1 := ⟨_, rfl⟩
  have hs1 : W1.heap.size = w.heap.size + 2 := by rw [← hW1]; simp
  have hold : ∀ k, k < w.heap.size → W1.heap[k]? = w.heap[k]? := fun k hk => by rw [← hW1]; exact (Below.heap_alloc _ _ k (by simp; omega)).trans (Below.heap_alloc _ _ k hk)
  have hL1 : W1.heap[w.heap.size + 1]? = some (.loop (rec .ready none)) := by
    rw [← hW1]; have := World.alloc_heap_new (w.alloc (.deferred (some []))) (.loop (rec .ready none)); rwa [World.size_alloc] at this
  have hK1 : W1.heap[w.heap.size]? = some (.deferred (some [])) := by
    rw [← hW1]; exact (Below.heap_alloc _ _ _ (by simp)).trans (World.alloc_heap_new w _)
  refine ⟨w.heap.size + 1, [{ target := .collected w.heap.size, args := #[] }], W1, { target := .fn (.func 20) #[.pointer (some ⟨xb, 0, none⟩), .pointer (some ⟨nb, 0, none⟩)], args := #[.func (.yield (w.heap.size + 1)) #[] #[]] }, W1, 20,
    #[.func (.yield (w.heap.size + 1)) #[] #[], .pointer (some ⟨xb, 0, none⟩), .pointer (some ⟨nb, 0, none⟩)], W1, ?_, ?_, fun _ _ => trivial, ?_, fun _ => by omega, ?_⟩
  · rw [← hW1, hrec]; exact run_enterLoop_outer _ _ _ _ _
  · simp only [resolve, hg]
    simp [go_sem]
  · simp [invoke, go_sem]
  · have env1 : Env Z W1 xb nb fb tb VB vcap PB pcap pa D E sg sz ah := env.keep (fun k hk => hold k (hZ k hk).1)
    have hlf' : fb < w.heap.size := block_lt_of_cell hcur
    have hcur1 : W1.cell? ⟨fb, 45, none⟩ = some (.slice none 0 0) := (World.cell?_of_block (hold fb hlf')).trans hcur
    have hff1 : W1.frozen? ⟨fb, 45, none⟩ = false := (World.frozen?_of_block (hold fb hlf')).trans hff
    refine callsIn_wide.2 ((units1_any (w.heap.size + 1) xb nb fb tb VB vcap PB pcap pa D E sg sz ah Z W1 hb hD hE ha0 ha1 env1 (fun k hk => by have := (hZ k hk).1; omega) hcur1 hff1 h45 hinj
      (fun pre W => RI D gb lb fb lim 0 rec w .ready none pre W ∧ (lim = 0 ∨ pre.length < lim))
      (fun pre W => RI D gb lb fb lim 0 rec w .done (some (.exit xid)) pre W ∧ 0 < lim ∧ pre.length = lim) ⟨?st, ?go⟩ ?i0).mono ?post)
    case st => exact fun pre W W' r cur hc hr hg ⟨h1, h2⟩ => ⟨h1.kept hc (by omega) hg, h2⟩
    case i0 =>
      intro W hs hio hk
      refine ⟨⟨⟨⟨_, (hk gb (by have := hgb.lt; omega) hgf).trans ((hold gb hgb.lt).trans hgb), World.ownsRow_nil _ _ _ _⟩, (hk lb (by have := hlb.lt; omega) hlf).trans ((hold lb hlb.lt).trans hlb)⟩,
        (hk _ (by omega) (by omega)).trans hL1, (hk _ (by omega) (by omega)).trans hK1, fun k k1 k2 k3 => (hk k (by omega) k3).trans (hold k k1), by omega, by rw [← hW1] at hio; exact hio⟩, by simp; omega⟩
    case go =>
      rintro pre u rest W htot ⟨hri, hlim⟩
      have hy : (Instr.yield (w.heap.size + 1) #[encU D u]).run Yba.prog W = .ok (.round (w.heap.size + 1) fn (a.tmps.setIfInBounds p (encU D u)) assign body) W := by
        have hy := run_yield (P := Yba.prog) (args := #[encU D u]) hri.rl (by rw [hrec]; simp)
        rw [hrec] at hy
        simpa using hy
      have hrl2 : (W.alloc (.cells (cellsU D u).toArray 92)).heap[w.heap.size + 1]? = some (.loop (rec .ready none)) := (Below.heap_alloc _ _ _ (by have := hri.sz; omega)).trans hri.rl
      refine ⟨fn, _, assign, body, hy, roundIn_of_wpIn trivial ?_⟩
      have hri0 := hri
      obtain ⟨WA, hWA⟩ : ∃ WA, W.alloc (.cells (cellsU D u).toArray 92) = WA := ⟨_, rfl⟩
      have hbr := run_beginRound (P := Yba.prog) hrl2 (by rw [hrec])
      rw [hWA] at hbr hrl2
      obtain ⟨W3, hW3⟩ : ∃ W3, WA.putObj (w.heap.size + 1) (.loop { rec .ready none with state := .busy }) = W3 := ⟨_, rfl⟩
      rw [hW3] at hbr
      have hsA : WA.heap.size = W.heap.size + 1 := by rw [← hWA]; simp
      have hs3 : W3.heap.size = W.heap.size + 1 := by rw [← hW3, World.putObj_size]; exact hsA
      have hgA : W.grownBy WA (some (w.heap.size + 1)) := by rw [← hWA]; exact World.grownBy_alloc _ _ _
      have hg3 : W.grownBy W3 (some (w.heap.size + 1)) := grownBy_trans hgA (by rw [← hW3]; exact grownBy_putObj' _ _ _)
      have hrl3 : W3.heap[w.heap.size + 1]? = some (.loop { rec .ready none with state := .busy }) := by rw [← hW3]; exact World.putObj_heap_same (by have := hri.sz; omega)
      have hb3 : ∀ k, k < W.heap.size → k ≠ w.heap.size + 1 → W3.heap[k]? = W.heap[k]? := fun k k1 k2 => hg3.block k k1 (by simpa using k2)
      have hgi3 : GI D gb lb (w.heap.size + 2) lim pre W3 := hri.gi.kept hg3 (fun o ho => by
        rw [hri.rl] at ho
        cases ho
        exact ⟨fun c e => (by cases e), fun c e => (by cases e), fun c e => (by cases e)⟩)
      have hu3 : W3.heap[W.heap.size]? = some (Obj.cells (cellsU D u).toArray 92 (0, 0)) := by
        rw [← hW3, World.putObj_heap_other (by have := hri.sz; omega), ← hWA]; exact heap_alloc_new _ _
      have hbw := hbody (w.heap.size + 1) pre u W.heap.size W3 hgi3 hu3 hlim (by rw [← htot]; simp) (by have := hri.sz; omega)
      refine hassign (w.heap.size + 1) u W _ ?_
      rw [hWA]
      refine ⟨W3, hbr, wpIn_mono hbw ?_⟩
      have fin : ∀ (jump : Option Code) (W4 : World), KeepB gb (w.heap.size + 2) W3 W4 → GI D gb lb (w.heap.size + 2) lim (pre ++ [u]) W4 → ∃ W5, (Instr.endRound (w.heap.size + 1) jump).run Yba.prog W4 = .ok (.bool jump.isNone) W5 ∧
          RI D gb lb fb lim 0 rec w (if jump.isNone then .ready else .done) jump (pre ++ [u]) W5 ∧ W.heap.size ≤ W5.heap.size ∧ (∀ k, Z k → W5.heap[k]? = W.heap[k]?) ∧
          (∀ (k t : Nat) (cur : Array Value), t = 101 ∨ t = 29 → W.heap[k]? = some (Obj.cells cur t (0, 0)) → W5.heap[k]? = some (Obj.cells cur t (0, 0))) := fun jump W4 hk4 hgi4 => by
        have hl4 := hk4.others.same _ _ hrl3 rfl
        have hrun := run_endRound (P := Yba.prog) jump hl4
        have hsz4 := hk4.others.size
        obtain ⟨W5, hW5⟩ : ∃ W5, W4.putObj (w.heap.size + 1) (.loop (rec (if jump.isNone then .ready else .done) jump)) = W5 := ⟨_, rfl⟩
        have hg5 : W4.grownBy W5 (some (w.heap.size + 1)) := by rw [← hW5]; exact grownBy_putObj' _ _ _
        have hb5 : ∀ k, k ≠ w.heap.size + 1 → W5.heap[k]? = W4.heap[k]? := fun k hk => by rw [← hW5]; exact World.putObj_heap_other hk
        refine ⟨W5, ?_, ⟨hgi4.kept hg5 (fun o ho => ?_), ?_, ?_, ?_, ?_, ⟨hg5.os.trans (hk4.io.1.trans (hg3.os.trans hri.io.1)), hg5.output.trans (hk4.io.2.trans (hg3.output.trans hri.io.2))⟩⟩, ?_, ?_, ?_⟩
        · rw [← hW5]; rw [hrec] at hrun ⊢; exact hrun
        · rw [hl4] at ho
          cases ho
          exact ⟨fun c e => (by cases e), fun c e => (by cases e), fun c e => (by cases e)⟩
        · rw [← hW5]; exact World.putObj_heap_same (Array.getElem?_eq_some_iff.1 hl4).1
        · rw [hb5 _ (by omega), hk4.others.same w.heap.size _ ((hb3 _ (by have := hri.sz; omega) (by omega)).trans hri.df) rfl]
        · intro k k1 k2 k3
          rw [hb5 _ (by omega), hk4.below k (by omega) k2, hb3 k (by have := hri.sz; omega) (by omega)]
          exact hri.bl k k1 k2 k3
        · have := hri.sz; have := hg5.size; omega
        · have := hg5.size; omega
        · intro k hk
          have := hZ k hk
          rw [hb5 _ (by omega), hk4.below k (by omega) this.2, hb3 k (by have := hri.sz; omega) (by omega)]
        · intro k t cur ht hc
          have hkl := (Array.getElem?_eq_some_iff.1 hc).1
          have hkn : k ≠ w.heap.size + 1 := fun e => by subst e; rw [hri.rl] at hc; cases hc
          rw [hb5 _ hkn]
          exact hk4.rows k t cur ht ((hb3 k hkl hkn).trans hc)
      intro e a3 W4 hp
      cases e with
      | normal =>
        obtain ⟨hk4, hgi4, hl4⟩ := hp
        obtain ⟨W5, h1, h2, h3, h4, h5⟩ := fin none W4 hk4 hgi4
        exact ⟨_, W5, h1, h3, h4, h5, .inl ⟨rfl, h2, hl4⟩⟩
      | exit id =>
        obtain ⟨rfl, hk4, hgi4, hl4⟩ := hp
        obtain ⟨W5, h1, h2, h3, h4, h5⟩ := fin (some (.exit id)) W4 hk4 hgi4
        exact ⟨_, W5, h1, h3, h4, h5, .inr ⟨rfl, h2, hl4⟩⟩
      | ret => exact hp.elim
      | goto t => exact hp.elim
      | panic ch => exact hp.elim
      | outgrown => exact hp.elim
    case post =>
      rintro e W2 ⟨⟨v, rfl⟩, henv, hcu, hcase⟩
      obtain ⟨L, hL⟩ : ∃ L, outs E D sg sz ah (left sz (fun j => offL sg sz (D.pos j)) D.nv + 1) (fun j => offL sg sz (D.pos j)) = L := ⟨_, rfl⟩
      rw [hL] at hcase hfin
      have fin : ∀ (st : LoopState) (pend : Option Code), st ≠ .busy → RI D gb lb fb lim 0 rec w st pend (cutAt lim L) W2 →
          ∃ W4, (Instr.endLoop (w.heap.size + 1)).run Yba.prog W2 = .ok pend W4 ∧ (Q .normal { a with defers := { target := .collected w.heap.size, args := #[] } :: a.defers } W4 ∧ (Code.exit xid).wpIn Fence.wide 5 Yba.prog Q { a with defers := { target := .collected w.heap.size, args := #[] } :: a.defers } W4) := by
        intro st pend hst h
        have hrun := run_endLoop (P := Yba.prog) h.rl (by rw [hrec]; exact hst)
        obtain ⟨W4, hW4⟩ : ∃ W4, W2.putObj (w.heap.size + 1) (.loop { rec st pend with state := .exhausted }) = W4 := ⟨_, rfl⟩
        rw [hW4] at hrun
        have hg4 : W2.grownBy W4 (some (w.heap.size + 1)) := by rw [← hW4]; exact grownBy_putObj' _ _ _
        have hb4 : ∀ k, k ≠ w.heap.size + 1 → W4.heap[k]? = W2.heap[k]? := fun k hk => by rw [← hW4]; exact World.putObj_heap_other hk
        refine ⟨W4, by rw [hrun, hrec], hfin W4 (henv.keep fun k hk => hb4 k (by have := (hZ k hk).1; omega)) ?_ (h.gi.kept hg4 ?_) ?_ ((hb4 _ (by omega)).trans h.df) (by have := h.sz; have := hg4.size; omega) ⟨hg4.os.trans h.io.1, hg4.output.trans h.io.2⟩⟩
        · obtain ⟨CB, cap, c, hc⟩ := hcu
          refine ⟨CB, cap, c, ?_⟩
          have hfb : W4.cell? ⟨fb, 45, none⟩ = W2.cell? ⟨fb, 45, none⟩ := World.cell?_of_block (hb4 fb (by omega))
          rcases hc with ⟨h0, h1⟩ | ⟨h1, h2⟩
          · exact .inl ⟨h0, hfb.trans h1⟩
          · refine .inr ⟨hfb.trans h1, h2.keep (hb4 CB fun e => ?_)⟩
            obtain ⟨cur, hcur⟩ := h2.blk
            rw [e, h.rl] at hcur
            cases hcur
        · intro o ho
          rw [h.rl] at ho
          cases ho
          exact ⟨fun c e => (by cases e), fun c e => (by cases e), fun c e => (by cases e)⟩
        · intro k k1 k2 k3
          rw [hb4 k (by omega)]
          exact h.bl k k1 k2 k3
      rcases hcase with ⟨h, hl⟩ | ⟨m, h, hl0, hl⟩
      · have hcut : cutAt lim L = L := by
          unfold cutAt
          split
          · rfl
          · exact List.take_of_length_le (by omega)
        obtain ⟨W4, h1, h2⟩ := fin .ready none (by simp) (by rw [hcut]; exact h)
        exact ⟨none, W4, h1, h2.1⟩
      · have hcut : cutAt lim L = L.take (m + 1) := by
          unfold cutAt
          rw [if_neg (by omega), List.take_eq_take_iff, ← hl, List.length_take]
          omega
        obtain ⟨W4, h1, h2⟩ := fin .done (some (.exit xid)) (by simp) (by rw [hcut]; exact h)
        exact ⟨some (.exit xid), W4, h1, h2.2⟩
end Go.Proofs.Ybulkdsao
