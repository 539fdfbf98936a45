/-
  The proof of 'Rows.LawS5942AWholeSaid': the frame. The walk: YbulkdsaoLaw.
-/
import Derived.Test.YbulkdsaoRows
import Derived.WalkKit
import Derived.ProofKit
import Derived.OpenShut
import Derived.ChangeOld
import Derived.Below
import Derived.Carry
import Derived.Deep.Strs
import Derived.Test.YbulkdsaoLaw
namespace Go.Proofs.Ybulkdsao.lawS5942AWhole
open Go.ChangeShapes Go.WideShapes Go.ChangeAt Go.RowKit
set_option linter.unusedVariables false

theorem own : ownKnob Yba.prog.godebug = none := by kernel_rfl
theorem laidOut : laidOutB Yba.prog = true := by kernel_rfl
theorem cells40 : Yba.prog.cellsOf 40 = 3 := by kernel_rfl
theorem cells5 : Yba.prog.cellsOf 5 = 1 := by kernel_rfl
theorem cells38 : Yba.prog.cellsOf 38 = 1 := by kernel_rfl

theorem u8_bd {n : Int} (h : (Lit.int .u8 n).wf = true) : 0 ≤ n ∧ n ≤ 255 := by
  have h' : IntKind.u8.min ≤ n ∧ n ≤ IntKind.u8.max := by simpa [Lit.wf] using h
  rwa [show IntKind.u8.min = 0 from rfl, show IntKind.u8.max = 255 from rfl] at h'
theorem i8_bd {n : Int} (h : (Lit.int .i8 n).wf = true) : -128 ≤ n ∧ n ≤ 127 := by
  have h' : IntKind.i8.min ≤ n ∧ n ≤ IntKind.i8.max := by simpa [Lit.wf] using h
  rwa [show IntKind.i8.min = -128 from rfl, show IntKind.i8.max = 127 from rfl] at h'

/-- Of what was there nothing has turned. -/
structure Kept (W W' : World) : Prop where
  os : W'.os = W.os
  output : W'.output = W.output
  block : ∀ k, k < W.heap.size → W'.heap[k]? = W.heap[k]?
theorem Kept.same {W W' : World} (h : Kept W W') {p : MemPlace} (hp : p.block < W.heap.size) : W.sameAt W' p := by
  cases p with
  | cell b o => exact World.cell?_of_block (w := W) (h.block b hp)
  | map b => exact h.block b hp
theorem Kept.frame {W W' : World} (h : Kept W W') (may : MemPlace → Prop) : W.keptBut W' may := by
  refine ⟨h.os, h.output, fun i hi => ?_⟩
  rw [h.block i hi]
  split <;> simp_all
theorem Kept.trod {H : Type} {enc : TypeId × Value → H} {P : Program} {t : TypeId} (hl : laidOutB P = true) (hr : P.readableRec t = true) (hrow : t < P.types.size) {W W' : World} {v : Value} {d : DataW H} {ps : List MemPlace}
    (h : DataW.Trod enc P W 0 (fun _ => true) true t v d ps) (hb : Kept W W') (hlt : ∀ x ∈ ps, x.block < W.heap.size) :
    DataW.Trod enc P W' 0 (fun b => decide (b < W.heap.size)) true t v d ps :=
  WideElems.Trod_stays hl hr hrow h (fun x hx => hb.same (hlt x hx)) (fun x hx => by simpa using hlt x hx)

/-- The cuts. -/
theorem open_cuts {H : Type} {enc : TypeId × Value → H} {W : World} {a : Option Addr} {len cap : Nat} {d : DataW H} {p : List MemPlace} (h : DataW.Trod enc Yba.prog W 0 (fun _ => true) true 22 (.slice a len cap) d p) :
    len ≤ maxLen ∧ ∃ c, Cin W a len c := by
  obtain ⟨fuel, hf⟩ := h
  rcases open_ints Yba.underlying22 Yba.underlying5 (by kernel_rfl) hf with ⟨hcs, _⟩ | ⟨x, l, c, zs, hcs, _, hl, hm, hz, _, hcell, hwz⟩
  · simp [Value.cells] at hcs
    obtain ⟨rfl, rfl, rfl⟩ := hcs
    exact ⟨by simp, fun _ => 0, fun i hi => by omega⟩
  · simp [Value.cells] at hcs
    obtain ⟨rfl, rfl, rfl⟩ := hcs
    have hz' : zs.length = cap := by simpa using hz
    refine ⟨by omega, fun i => zs.getD i 0, fun i hi => ?_⟩
    obtain ⟨b, off, spot⟩ := x
    have hc := hcell i (by omega)
    have hspot : spot = none := by simpa [Addr.add] using World.cell?_spot (hcell 0 (by omega))
    subst hspot
    rw [Addr.add_lit] at hc
    have hmem : zs.getD i 0 ∈ zs := getD_mem (by omega)
    have hb := u8_bd (hwz _ hmem)
    exact ⟨b, off, rfl, World.block_lt_of_cell? _ _ hc, hc, hb.1, hb.2⟩

set_option maxRecDepth 100000 in
/-- The viewers. -/
theorem open_viewers {H : Type} {enc : TypeId × Value → H} {W : World} {a : Option Addr} {len cap : Nat} {d : DataW H} {p : List MemPlace} (h : DataW.Trod enc Yba.prog W 0 (fun _ => true) true 23 (.slice a len cap) d p) :
    len ≤ maxLen ∧ ∃ q k g, Vin0 W a len q k g := by
  obtain ⟨fuel, hf⟩ := h
  rcases Go.Deep.open_slice Yba.underlying23 hf with ⟨hcs, _⟩ | ⟨x, l, c, m, n, Dd, Pl, hcs, _, hl, hm, hmm, _, hel⟩
  · simp [Value.cells] at hcs
    obtain ⟨rfl, rfl, rfl⟩ := hcs
    exact ⟨by simp, fun _ => 0, fun _ => 0, fun _ => 0, fun i hi => by omega⟩
  · simp [Value.cells] at hcs
    obtain ⟨rfl, rfl, rfl⟩ := hcs
    have hmc : m = cap := by simpa using hmm
    subst hmc
    have each : ∀ j, j < len → ∃ z : Int × Int × Int, W.cell? (x.add (j * 3)) = some (.int .u8 z.1) ∧ W.cell? ((x.add (j * 3)).add 1) = some (.int .u8 z.2.1) ∧ W.cell? ((x.add (j * 3)).add 2) = some (.int .i8 z.2.2) ∧
        (0 ≤ z.1 ∧ z.1 ≤ 255) ∧ (0 ≤ z.2.1 ∧ z.2.1 ≤ 255) ∧ (-128 ≤ z.2.2 ∧ z.2.2 ≤ 127) := by
      intro j hj
      obtain ⟨cs, hcs, htr⟩ := hel j (by omega)
      rw [cells40] at hcs
      obtain ⟨_, hlen, hget⟩ := World.cells?_some hcs
      obtain ⟨y0, y1, y2, n', _, hl3, t0, t1, t2⟩ := Go.Deep.trod_struct3 Yba.underlying40 htr
      rw [cells40] at hl3
      obtain ⟨v0, v1, v2, rfl⟩ : ∃ v0 v1 v2, cs = [v0, v1, v2] := by
        match cs, hl3 with
        | [v0, v1, v2], _ => exact ⟨v0, v1, v2, rfl⟩
      simp only [cells5, cells38, List.drop_zero, List.drop_succ_cons, List.take_succ_cons, List.take_zero] at t0 t1 t2
      obtain ⟨z0, e0, _, w0⟩ := DataW.trod_int Yba.underlying5 t0
      obtain ⟨z1, e1, _, w1⟩ := DataW.trod_int Yba.underlying5 t1
      obtain ⟨z2, e2, _, w2⟩ := DataW.trod_int Yba.underlying38 t2
      simp only [List.cons.injEq, and_true] at e0 e1 e2
      subst e0 e1 e2
      have g0 := hget 0 (by omega)
      have g1 := hget 1 (by omega)
      have g2 := hget 2 (by omega)
      exact ⟨(z0, z1, z2), by simpa [Addr.add] using g0, by simpa using g1, by simpa using g2, u8_bd w0, u8_bd w1, i8_bd w2⟩
    obtain ⟨Z, hZ⟩ := Go.Deep.choose_lt each
    refine ⟨by omega, fun j => (Z j).1, fun j => (Z j).2.1, fun j => (Z j).2.2, fun j hj => ?_⟩
    obtain ⟨c0, c1, c2, b0, b1, b2⟩ := hZ j hj
    obtain ⟨b, off, spot⟩ := x
    have hspot : spot = none := by
      have h := World.cell?_spot (hZ 0 (by omega)).1
      simpa [Addr.add] using h
    subst hspot
    simp only [Addr.add_lit] at c0 c1 c2
    exact ⟨b, off, rfl, World.block_lt_of_cell? _ _ c0, c0, c1, c2, b0.1, b0.2, b1.1, b1.2, b2.1, b2.2⟩

set_option maxRecDepth 100000 in
theorem lifted (os : Os) (started : os.Started) (H : Type) (enc : TypeId × Value → H) :
    ReturnsInHanded {} Yba.checked os 3 .any (Rows.lawS5942AWholeSpec.pre6 enc Yba.prog Yba.f3 Rows.lawS5942AWholeRow.domain false) (Rows.lawS5942AWholeSpec.post enc Yba.prog Yba.f3 false true false false) := by
  refine returnsInHanded_of_change (C := Yba.checked) own started (by kernel_rfl) Yba.func3
    (ChangeSpec.witness6 (enc := enc) (C := Yba.checked) false ⟨#[], #[.int .u8 0, .int .u8 0, .int .u8 0, .slice none 0 0, .slice none 0 0, .int .u8 0], []⟩ 8 (by kernel_rfl) (by kernel_rfl) (by kernel_rfl) (by kernel_rfl)) ?_
  intro W base args ds gs before hval0 hW hcnd _
  have hval : ∀ (j : Nat) t v, Yba.f3.params[j]? = some t → args[j]? = some v → Value.okWide Yba.prog W .any base t v := hval0
  have hW' := hW
  obtain ⟨p, q, hA0, hV, rfl, hfz, hnd⟩ := hW
  have hA : DataW.TrodAll enc Yba.prog W 0 (fun _ => true) true Yba.f3.params.toList args.toList ds p := hA0
  rw [Yba.params3] at hA hval
  obtain ⟨v0, vs0, d0, ds0, p0, q0, hargs, rfl, rfl, h0, r0⟩ := trodAll_cons hA
  obtain ⟨v1, vs1, d1, ds1, p1, q1, rfl, rfl, rfl, h1, r1⟩ := trodAll_cons r0
  obtain ⟨v2, vs2, d2, ds2, p2, q2, rfl, rfl, rfl, h2, r2⟩ := trodAll_cons r1
  obtain ⟨v3, vs3, d3, ds3, p3, q3, rfl, rfl, rfl, h3, r3⟩ := trodAll_cons r2
  obtain ⟨v4, vs4, d4, ds4, p4, q4, rfl, rfl, rfl, h4, r4⟩ := trodAll_cons r3
  obtain ⟨v5, vs5, d5, ds5, p5, q5, rfl, rfl, rfl, h5, r5⟩ := trodAll_cons r4
  obtain ⟨rfl, rfl, rfl⟩ := trodAll_nil r5
  obtain rfl : args = #[v0, v1, v2, v3, v4, v5] := by cases args; simp_all
  obtain ⟨rfl, rfl⟩ := trodVars_none hV
  obtain ⟨z0, rfl, rfl, rfl, w0⟩ := open_int Yba.underlying5 (hval 0 5 v0 rfl rfl) h0
  obtain ⟨z1, rfl, rfl, rfl, w1⟩ := open_int Yba.underlying5 (hval 1 5 v1 rfl rfl) h1
  obtain ⟨z2, rfl, rfl, rfl, w2⟩ := open_int Yba.underlying5 (hval 2 5 v2 rfl rfl) h2
  obtain ⟨a3, len3, cap3, rfl⟩ := okWide_slice Yba.underlying22 (hval 3 22 v3 rfl rfl)
  obtain ⟨a4, len4, cap4, rfl⟩ := okWide_slice Yba.underlying23 (hval 4 23 v4 rfl rfl)
  obtain ⟨z5, rfl, rfl, rfl, w5⟩ := open_int Yba.underlying5 (hval 5 5 v5 rfl rfl) h5
  have lt3 : ∀ x ∈ p3, x.block < W.heap.size := by obtain ⟨m, hm⟩ := h3; exact DataW.trod_lt m _ _ _ hm
  have lt4 : ∀ x ∈ p4, x.block < W.heap.size := by obtain ⟨m, hm⟩ := h4; exact DataW.trod_lt m _ _ _ hm
  obtain ⟨m3, c, hc⟩ := open_cuts h3
  obtain ⟨m4, qq, kk, gg, hv⟩ := open_viewers h4
  clear hA0 hval0
  refine (law_any W z0 z1 z2 z5 len3 len4 cap3 cap4 a3 a4 c qq kk gg (u8_bd w0) (u8_bd w1) (u8_bd w2) (u8_bd w5) m3 m4 hc hv).mono fun e W' ⟨he, ho, hu, _, hk⟩ => ?_
  subst he
  have bel : Kept W W' := ⟨ho, hu, hk⟩
  exact ⟨_, rfl, _, _, _, [], _, [], hW', trodAll_mk1 (shut_bool Yba.underlying4 _), (trodAll_cons_mk (shut_int Yba.underlying5 w0) (trodAll_cons_mk (shut_int Yba.underlying5 w1) (trodAll_cons_mk (shut_int Yba.underlying5 w2)
    (trodAll_cons_mk (Kept.trod laidOut (by kernel_rfl) (of_decide_eq_true (by kernel_rfl)) h3 bel lt3) (trodAll_cons_mk (Kept.trod laidOut (by kernel_rfl) (of_decide_eq_true (by kernel_rfl)) h4 bel lt4) (trodAll_cons_mk (shut_int Yba.underlying5 w5) trodAll_mk0)))))), rfl, bel.frame _, fun h => by cases h⟩

theorem over : Rows.lawS5942AWholeRow.holds Yba.pinned (OpenSpec.ofChange Rows.lawS5942AWholeSpec) :=
  OpenClaim.holds_of_wide 3 Yba.f3 rfl rfl rfl rfl rfl rfl rfl ⟨rfl, rfl, rfl, rfl, rfl⟩ rfl rfl rfl rfl rfl (by kernel_rfl) Yba.func3 (by kernel_rfl)
    (of_decide_eq_true (by kernel_rfl)) (by unfold Func.isWrapper; first | (rw [if_pos (by decide +kernel)]; kernel_rfl) | (rw [if_neg (by decide +kernel)]; exact ⟨rfl, rfl⟩))
    (fun os started H enc _ => lifted os started H enc)

/-- ████ THE STATEMENT ████ -/
theorem proved : Rows.LawS5942AWholeSaid := over
end Go.Proofs.Ybulkdsao.lawS5942AWhole
