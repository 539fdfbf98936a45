/-
  The contract of (*fetcher).owner (27).
-/
import Derived.Test.YbulkdsaoNeed
import Derived.Deep.RegionWith
namespace Go.Proofs.Ybulkdsao
open Go.ChangeShapes Go.WideShapes Go.ChangeAt Go.RowKit Go.Sort
set_option linter.unusedVariables false

/-- The viewers' data, by their numbers. -/
structure Vd where
  nv : Nat
  vb : Nat → Nat
  st : Nat → Int
  pos : Nat → Int
  b : Nat → Int

/-- The bounds of the viewers' data. -/
structure Vd.Ok (D : Vd) : Prop where
  n : D.nv ≤ 256
  s0 : ∀ i, i < D.nv → -10 ≤ D.st i
  s1 : ∀ i, i < D.nv → D.st i ≤ 400
  p0 : ∀ i, i < D.nv → 0 ≤ D.pos i
  p1 : ∀ i, i < D.nv → D.pos i ≤ 400
  b0 : ∀ i, i < D.nv → -200 ≤ D.b i
  b1 : ∀ i, i < D.nv → D.b i ≤ 200

/-- The viewers in memory: the fetcher's list VB, each viewer in a block of its own. -/
structure Vs (w : World) (fb VB cap : Nat) (D : Vd) : Prop where
  fv : w.cell? ⟨fb, 23, none⟩ = some (.slice (some ⟨VB, 0, none⟩) D.nv cap)
  el : ∀ i, i < D.nv → w.cell? ⟨VB, i, none⟩ = some (.pointer (some ⟨D.vb i, 0, none⟩))
  vw : ∀ i, i < D.nv → Vw w (D.vb i) (D.st i) (D.pos i) (D.b i)

theorem Vs.grow {w : World} {fb VB cap : Nat} {D : Vd} (h : Vs w fb VB cap D) (n : Nat) (os : Array Obj) : Vs (grow (w.drewN n) os) fb VB cap D :=
  ⟨cell_grown (block_lt_of_cell h.fv) h.fv n os, fun i hi => cell_grown (block_lt_of_cell (h.el i hi)) (h.el i hi) n os, fun i hi => (h.vw i hi).grow n os⟩

/-- Viewer i's need of the segment that holds byte x. -/
def need (D : Vd) (sg x : Int) (i : Nat) : Int := needL sg (D.st i) (D.b i) (x / sg)
def hold (D : Vd) (sg sz ah x : Int) (i : Nat) : Bool := holdsL sg sz ah (D.pos i) x

/-- Of the first k viewers whose spans hold byte x, the first of the greatest need. -/
def ownTo (D : Vd) (sg sz ah x : Int) : Nat → Option Nat
  | 0 => none
  | i + 1 => match ownTo D sg sz ah x i with
    | none => if hold D sg sz ah x i then some i else none
    | some j => if hold D sg sz ah x i && decide (need D sg x j < need D sg x i) then some i else some j

def ptrOf (D : Vd) (o : Option Nat) : Value := .pointer (o.map fun j => (⟨D.vb j, 0, none⟩ : Addr))

theorem ownTo_lt (D : Vd) (sg sz ah x : Int) : ∀ k j, ownTo D sg sz ah x k = some j → j < k := by
  intro k
  induction k with
  | zero => intro j h; cases h
  | succ k ih =>
    intro j h
    simp only [ownTo] at h
    split at h
    · split at h
      · cases h; omega
      · cases h
    · rename_i hj
      split at h
      · cases h; omega
      · cases h; have := ih _ hj; omega

theorem needL_bd {sg sz st b k : Int} (hb : Bds sg sz) (hk0 : 0 ≤ k) (hk1 : k ≤ 400) (hs0 : -10 ≤ st) (hs1 : st ≤ 400) (hb0 : -200 ≤ b) (hb1 : b ≤ 200) : -20000 ≤ needL sg st b k ∧ needL sg st b k ≤ 20000 := by
  obtain ⟨m0, m1⟩ := mul_bd (k := k - st) (sg := sg) (by omega) (by omega) hb.g0 hb.g1
  unfold needL; omega

theorem gt_fw (x y : Int) (hx : x.natAbs < 2 ^ 53) (hy : y.natAbs < 2 ^ 53) : (FloatKind.f64.format.order (fw x) (fw y) == some .gt) = decide (y < x) := by
  have h : FloatKind.f64.format.order (fw x) (fw y) = some (compare x y) := fw_cmp x y hx hy
  rw [h]
  simp only [compare, compareOfLessAndEq]
  rcases (show x < y ∨ x = y ∨ y < x by omega) with h | h | h
  · rw [if_pos h, decide_eq_false (by omega)]; rfl
  · rw [if_neg (by omega), if_pos h, decide_eq_false (by omega)]; rfl
  · rw [if_neg (by omega), if_neg (by omega), decide_eq_true h]; rfl

set_option maxRecDepth 100000 in
set_option maxHeartbeats 2000000 in
theorem owner_any (fb tb VB cap : Nat) (D : Vd) (x sg sz ah : Int) (hb : Bds sg sz) (hD : D.Ok) (hx0 : 0 ≤ x) (hx1 : x ≤ 300) (ha0 : 0 ≤ ah) (ha1 : ah ≤ 255) (w : World)
    (hw : Fix w fb tb sg sz ah) (hd : w.cell? ⟨tb, 3, none⟩ = some (.float .f64 (fw sz))) (hv : Vs w fb VB cap D) :
    Calls Yba.prog 27 #[.pointer (some ⟨fb, 0, none⟩), .int .i64 x, .agg #[.int .u64 0, .int .i64 0, .pointer none]] w
      fun e w' => e = .returned (ptrOf D (ownTo D sg sz ah x D.nv)) ∧ ∃ q os, w' = grow (w.drewN q) os := by
  have hmo : Yba.prog.follows .mixedOrders = true := by kernel_rfl
  have g0 := hb.g0
  have hne : ¬ sg = 0 := by omega
  obtain ⟨d0, d1⟩ := div_bd hx0 (by omega) hb.g0
  have hnv := hD.n
  obtain ⟨w0, hw0⟩ : ∃ w0, w.alloc (.cells #[.int .u64 0, .int .i64 0, .pointer none] 45) = w0 := ⟨_, rfl⟩
  have hw0' : w0 = grow (w.drewN 0) #[.cells #[.int .u64 0, .int .i64 0, .pointer none] 45] := by rw [← hw0]; rfl
  have n0 : w0.cell? ⟨w.heap.size, 0, none⟩ = some (.int .u64 0) := by rw [← hw0]; simp
  have n1 : w0.cell? ⟨w.heap.size, 1, none⟩ = some (.int .i64 0) := by rw [← hw0]; simp
  have n2 : w0.cell? ⟨w.heap.size, 2, none⟩ = some (.pointer none) := by rw [← hw0]; simp
  have F0 : Fix w0 fb tb sg sz ah := by rw [hw0']; exact hw.grow _ _
  have D0 : w0.cell? ⟨tb, 3, none⟩ = some (.float .f64 (fw sz)) := by rw [hw0']; exact cell_grown (block_lt_of_cell hd) hd _ _
  have V0 : Vs w0 fb VB cap D := by rw [hw0']; exact hv.grow _ _
  have c0 := F0.ft
  have c1 := F0.tg
  have c2 := V0.fv
  have HN0 := hideIt n0
  have HN1 := hideIt n1
  have HN2 := hideIt n2
  have HF0 := hideIt F0
  have HD0 := hideIt D0
  have HV0 := hideIt V0
  have HB := hideIt hb
  have HDok := hideIt hD
  have HW0 := hideIt hw0'
  clear hw0' n0 n1 n2 F0 D0 V0 hw hd hv hb hD
  generalize hnn : D.nv = nv at *
  have HNN := hideIt hnn
  clear hnn
  go_enter Yba.func27, Yba.ntmps27
  go_wp2
  have HW00 := hideIt hw0
  clear hw0 c0 c1 c2
  go_loopw [7, 25] (fun f i wr => ∃ k : Nat, k ≤ nv ∧ i = .int .i64 k ∧ f = ptrOf D (ownTo D sg sz ah x k) ∧ ∃ q os, wr = grow (w0.drewN q) os) (fun _ i _ => nv - (intOf i).toNat)
  case atStart => exact ⟨0, Nat.zero_le _, rfl, rfl, 0, #[], by rw [grow_empty]; rfl⟩
  case round =>
    obtain ⟨k, hk, rfl, rfl, hwr⟩ := hrel
    by_cases hlt : k < nv
    · have hltD : k < D.nv := by rw [HNN.out]; exact hlt
      have F1 : Fix wr fb tb sg sz ah := by obtain ⟨q, os, h⟩ := hwr; rw [h]; exact HF0.out.grow q os
      have D1 : wr.cell? ⟨tb, 3, none⟩ = some (.float .f64 (fw sz)) := by obtain ⟨q, os, h⟩ := hwr; rw [h]; exact cell_grown (block_lt_of_cell HD0.out) HD0.out q os
      have V1 : Vs wr fb VB cap D := by obtain ⟨q, os, h⟩ := hwr; rw [h]; exact HV0.out.grow q os
      have m0 : wr.cell? ⟨w.heap.size, 0, none⟩ = some (.int .u64 0) := by obtain ⟨q, os, h⟩ := hwr; rw [h]; exact cell_grown (block_lt_of_cell HN0.out) HN0.out q os
      have m1 : wr.cell? ⟨w.heap.size, 1, none⟩ = some (.int .i64 0) := by obtain ⟨q, os, h⟩ := hwr; rw [h]; exact cell_grown (block_lt_of_cell HN1.out) HN1.out q os
      have m2 : wr.cell? ⟨w.heap.size, 2, none⟩ = some (.pointer none) := by obtain ⟨q, os, h⟩ := hwr; rw [h]; exact cell_grown (block_lt_of_cell HN2.out) HN2.out q os
      have a0 := fun n os => cell_grown (block_lt_of_cell m0) m0 n os
      have a1 := fun n os => cell_grown (block_lt_of_cell m1) m1 n os
      have a2 := fun n os => cell_grown (block_lt_of_cell m2) m2 n os
      have el := V1.el k hltD
      have HWR := hideIt hwr
      have hki : (k : Int) < (nv : Int) := by omega
      have CH := hideIt (fun n os => holds_any fb tb (D.vb k) (D.pos k) x sg sz ah HB.out (HDok.out.p0 k hltD) (by have := HDok.out.p1 k hltD; omega) hx0 (by omega) ha0 ha1 (grow (wr.drewN n) os) (F1.grow n os) ((V1.vw k hltD).grow n os).p)
      have CN : Hid (∀ i, i < D.nv → ∀ n os, Calls Yba.prog 26 #[.pointer (some ⟨fb, 0, none⟩), .pointer (some ⟨D.vb i, 0, none⟩), .int .i64 (x / sg), .float .f64 0, .agg #[.int .u64 0, .int .i64 0, .pointer none]] (grow (wr.drewN n) os) fun e w' => e = .returned (.float .f64 (fw (need D sg x i))) ∧ ∃ q os', w' = grow ((grow (wr.drewN n) os).drewN q) os') := fun i hi n os =>
        needs_any fb tb (D.vb i) (D.st i) (D.pos i) (D.b i) (x / sg) sg sz ah HB.out d0 (by have := Int.ediv_le_self sg hx0; omega) (HDok.out.s0 i hi) (HDok.out.s1 i hi) (HDok.out.b0 i hi) (HDok.out.b1 i hi) (grow (wr.drewN n) os) (F1.grow n os) (cell_grown (block_lt_of_cell D1) D1 n os) ((V1.vw i hi).grow n os)
      have NB : Hid (∀ i, i < D.nv → (need D sg x i).natAbs < 2 ^ 53) := fun i hi => by
        have := needL_bd HB.out d0 (by have := Int.ediv_le_self sg hx0; omega) (HDok.out.s0 i hi) (HDok.out.s1 i hi) (HDok.out.b0 i hi) (HDok.out.b1 i hi)
        unfold need; omega
      change Hid (∀ n os, Calls Yba.prog 23 #[.pointer (some ⟨fb, 0, none⟩), .pointer (some ⟨D.vb k, 0, none⟩), .int .i64 x] (grow (wr.drewN n) os) fun e w' => e = .returned (.bool (hold D sg sz ah x k)) ∧ ∃ m, w' = (grow (wr.drewN n) os).drewN m) at CH
      clear F1 D1 V1 m0 m1 m2 hwr
      cases ho : ownTo D sg sz ah x k with
      | none =>
        cases hh : hold D sg sz ah x k with
        | false =>
          have hnext : ownTo D sg sz ah x (k + 1) = none := by simp [ownTo, ho, hh]
          rw [hh] at CH
          have HX := hideIt hnext
          clear hnext ho hh
          simp only [ptrOf, Option.map_none]
          go_wp2_with fail
          refine wp_region_quiet_grown hmo (by kernel_rfl) ?_
          repeat (go_big_quiet_step (first | (go_at_call 23; refine Calls.grown_of (grown_of_drew (CH.out _ _)))))
          refine wpQuiet_nil ?_
          intro _ hw'
          obtain ⟨⟨nq, osq⟩, hw''⟩ := hw'
          subst hw''
          go_wp2
          go_roundw
          case rel => exact ⟨k + 1, by omega, by go_num, by rw [HX.out]; rfl, by
            obtain ⟨q, os, h⟩ := HWR.out
            exact ⟨q + nq, os ++ osq, by rw [h]; show grow (grow ((w0.drewN q).drewN nq) os) osq = _; rw [grow_grow, World.drewN_drewN]⟩⟩
          case measure => simp [intOf]; omega
        | true =>
          have hnext : ownTo D sg sz ah x (k + 1) = some k := by simp [ownTo, ho, hh]
          rw [hh] at CH
          have HX := hideIt hnext
          clear hnext ho hh
          simp only [ptrOf, Option.map_none]
          go_wp2_with fail
          refine wp_region_quiet_grown hmo (by kernel_rfl) ?_
          repeat (go_big_quiet_step (first | (go_at_call 23; refine Calls.grown_of (grown_of_drew (CH.out _ _)))))
          refine wpQuiet_nil ?_
          intro _ hw'
          obtain ⟨⟨nq, osq⟩, hw''⟩ := hw'
          subst hw''
          go_wp2
          go_roundw
          case rel => exact ⟨k + 1, by omega, by go_num, by rw [HX.out]; rfl, by
            obtain ⟨q, os, h⟩ := HWR.out
            exact ⟨q + nq, os ++ osq, by rw [h]; show grow (grow ((w0.drewN q).drewN nq) os) osq = _; rw [grow_grow, World.drewN_drewN]⟩⟩
          case measure => simp [intOf]; omega
      | some j =>
        have hjk := ownTo_lt D sg sz ah x k j ho
        cases hh : hold D sg sz ah x k with
        | false =>
          have hnext : ownTo D sg sz ah x (k + 1) = some j := by simp [ownTo, ho, hh]
          rw [hh] at CH
          have HX := hideIt hnext
          clear hnext ho hh
          simp only [ptrOf, Option.map_some]
          go_wp2_with fail
          refine wp_region_quiet_grown hmo (by kernel_rfl) ?_
          repeat (go_big_quiet_step (first | (go_at_call 23; refine Calls.grown_of (grown_of_drew (CH.out _ _)))))
          refine wpQuiet_nil ?_
          intro _ hw'
          obtain ⟨⟨nq, osq⟩, hw''⟩ := hw'
          subst hw''
          go_wp2
          go_roundw
          case rel => exact ⟨k + 1, by omega, by go_num, by rw [HX.out]; rfl, by
            obtain ⟨q, os, h⟩ := HWR.out
            exact ⟨q + nq, os ++ osq, by rw [h]; show grow (grow ((w0.drewN q).drewN nq) os) osq = _; rw [grow_grow, World.drewN_drewN]⟩⟩
          case measure => simp [intOf]; omega
        | true =>
          rw [hh] at CH
          have hg := gt_fw (need D sg x k) (need D sg x j) (NB.out k hltD) (NB.out j (by omega))
          have CK := hideIt (CN.out k hltD)
          have CJ := hideIt (CN.out j (by omega))
          cases hc : decide (need D sg x j < need D sg x k) with
          | true =>
            have hnext : ownTo D sg sz ah x (k + 1) = some k := by simp only [ownTo, ho, hh, hc]; rfl
            have HX := hideIt hnext
            rw [hc] at hg
            clear hnext ho hh hc CN
            generalize fw (need D sg x k) = fk at hg CK
            generalize fw (need D sg x j) = fj at hg CJ
            simp only [ptrOf, Option.map_some]
            go_wp2_with fail
            refine wp_region_quiet_grown hmo (by kernel_rfl) ?_
            repeat (go_big_quiet_step (first | (go_at_call 23; refine Calls.grown_of (grown_of_drew (CH.out _ _))) | (go_at_call_of 26 (Value.pointer (some ⟨D.vb k, 0, none⟩)); refine Calls.grown_of (CK.out _ _)) | (go_at_call_of 26 (Value.pointer (some ⟨D.vb j, 0, none⟩)); refine Calls.grown_of (CJ.out _ _))))
            refine wpQuiet_nil ?_
            intro _ hw'
            obtain ⟨⟨nq, osq⟩, hw''⟩ := hw'
            subst hw''
            go_wp2
            go_roundw
            case rel => exact ⟨k + 1, by omega, by go_num, by rw [HX.out]; rfl, by
              obtain ⟨q, os, h⟩ := HWR.out
              exact ⟨q + nq, os ++ osq, by rw [h]; show grow (grow ((w0.drewN q).drewN nq) os) osq = _; rw [grow_grow, World.drewN_drewN]⟩⟩
            case measure => simp [intOf]; omega
          | false =>
            have hnext : ownTo D sg sz ah x (k + 1) = some j := by simp only [ownTo, ho, hh, hc]; rfl
            have HX := hideIt hnext
            rw [hc] at hg
            clear hnext ho hh hc CN
            generalize fw (need D sg x k) = fk at hg CK
            generalize fw (need D sg x j) = fj at hg CJ
            simp only [ptrOf, Option.map_some]
            go_wp2_with fail
            refine wp_region_quiet_grown hmo (by kernel_rfl) ?_
            repeat (go_big_quiet_step (first | (go_at_call 23; refine Calls.grown_of (grown_of_drew (CH.out _ _))) | (go_at_call_of 26 (Value.pointer (some ⟨D.vb k, 0, none⟩)); refine Calls.grown_of (CK.out _ _)) | (go_at_call_of 26 (Value.pointer (some ⟨D.vb j, 0, none⟩)); refine Calls.grown_of (CJ.out _ _))))
            refine wpQuiet_nil ?_
            intro _ hw'
            obtain ⟨⟨nq, osq⟩, hw''⟩ := hw'
            subst hw''
            go_wp2
            go_roundw
            case rel => exact ⟨k + 1, by omega, by go_num, by rw [HX.out]; rfl, by
              obtain ⟨q, os, h⟩ := HWR.out
              exact ⟨q + nq, os ++ osq, by rw [h]; show grow (grow ((w0.drewN q).drewN nq) os) osq = _; rw [grow_grow, World.drewN_drewN]⟩⟩
            case measure => simp [intOf]; omega
    · have hkn : k = nv := by omega
      clear hlt
      go_wp2
      go_ret
      refine ⟨by rw [hkn]; rfl, ?_⟩
      obtain ⟨q, os, h⟩ := hwr
      rw [h, HW0.out]
      exact ⟨q, _, by show grow (grow ((w.drewN 0).drewN q) _) _ = _; rw [grow_grow, World.drewN_drewN, Nat.zero_add]⟩
end Go.Proofs.Ybulkdsao
