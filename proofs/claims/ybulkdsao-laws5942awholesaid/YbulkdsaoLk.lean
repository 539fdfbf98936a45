/-
  'slices.SortStableFunc(items, ..); var want []unit; for _, it := range items { .. }'.
-/
import Derived.Test.YbulkdsaoLj
import Derived.Test.YbulkdsaoLi
import Derived.Test.YbulkdsaoLh
namespace Go.Proofs.Ybulkdsao
open Go.ChangeShapes Go.WideShapes Go.ChangeAt Go.RowKit
set_option linter.unusedVariables false

theorem allVis_bd {E : Pd} {D : Vd} {sg sz ah : Int} (hb : Bds sg sz) (hE : E.Ok sz) (ho : ∀ i, i < D.nv → 0 ≤ offL sg sz (D.pos i)) {u : Nat × Int × Int} (hu : u ∈ allVis E D sg sz ah) : u.1 < D.nv ∧ 0 ≤ u.2.1 ∧ u.2.1 < u.2.2 ∧ u.2.2 ≤ sz := by
  obtain ⟨h1, h2⟩ := (vis_mem hb hE _ _ ho (by omega) u).1 hu
  have := us_lo hb hE u.1 _ _ (ho u.1 h1) u.2 h2
  exact ⟨h1, this.2⟩
theorem vis_len (E : Pd) (D : Vd) (sg sz ah : Int) : ∀ f a, (vis E D sg sz ah f a).length ≤ f
  | 0, a => by simp [vis]
  | f + 1, a => by
    simp only [vis]
    split
    · simp
    · simp only [List.length_cons]
      exact Nat.succ_le_succ (vis_len E D sg sz ah f _)
theorem allVis_len {E : Pd} {D : Vd} {sg sz ah : Int} (hb : Bds sg sz) (hD : D.Ok) (ho : ∀ i, i < D.nv → 0 ≤ offL sg sz (D.pos i)) : (allVis E D sg sz ah).length ≤ 70000 := by
  have h1 := vis_len E D sg sz ah (left sz (fun j => offL sg sz (D.pos j)) D.nv + 1) (fun j => offL sg sz (D.pos j))
  have h2 := left_le sz (fun j => offL sg sz (D.pos j)) 256 D.nv (fun i hi => by
    have := ho i hi
    have := hb.z1
    show (sz - offL sg sz (D.pos i)).toNat ≤ 256
    omega)
  have h3 := hD.n
  unfold allVis
  omega

def ownI : Option Nat → Int
  | none => -1
  | some i => i
def bestI (D : Vd) (sg a : Int) : Option Nat → Int
  | none => 0
  | some i => need D sg a i

/-- The units whose owner is their viewer. -/
def mine (D : Vd) (sg sz ah : Int) (u : Nat × Int × Int) : Bool := decide (ownTo D sg sz ah u.2.1 D.nv = some u.1)
def wantTo (D : Vd) (sg sz ah : Int) (U : List (Nat × Int × Int)) (q : Nat) : List (Nat × Int × Int) := (U.take q).filter (mine D sg sz ah)
theorem wantTo_succ {D : Vd} {sg sz ah : Int} {U : List (Nat × Int × Int)} {q : Nat} (h : q < U.length) : wantTo D sg sz ah U (q + 1) = wantTo D sg sz ah U q ++ (if mine D sg sz ah U[q] then [U[q]] else []) := by
  unfold wantTo
  rw [← List.take_append_getElem h, List.filter_append]
  congr 1
  simp [List.filter_cons]
theorem wantTo_len (D : Vd) (sg sz ah : Int) (U : List (Nat × Int × Int)) (q : Nat) : (wantTo D sg sz ah U q).length ≤ q := by
  unfold wantTo
  exact Nat.le_trans (List.length_filter_le _ _) (by simp; omega)
theorem want_all (E : Pd) (D : Vd) (sg sz ah : Int) : wantTo D sg sz ah (allVis E D sg sz ah) (allVis E D sg sz ah).length = allOuts E D sg sz ah := by
  unfold wantTo allOuts
  rw [List.take_length, outs_vis]
  rfl
theorem cellsUs_append (D : Vd) (L M : List (Nat × Int × Int)) : cellsUs D (L ++ M) = cellsUs D L ++ cellsUs D M := by simp [cellsUs]

theorem ownsRow_low {W : World} {base base' : Nat} {e : TypeId} {size : Nat} {v : Value} {k : Nat} {xs : List Value} (h : W.ownsRow base e size v k xs) (hb : base' ≤ base) : W.ownsRow base' e size v k xs := by
  refine ⟨h.1, ?_⟩
  rcases h.2 with hn | ⟨g, cap, cur, hv, hbg, rest⟩
  · exact .inl hn
  · exact .inr ⟨g, cap, cur, hv, Nat.le_trans hb hbg, rest⟩
theorem keepS {N0 k e size b : Nat} {u : Value} {xs : List Value} {wr W w5 : World} {o : Obj} (ob : Obj) (hs : wr.heap[b]? = some o) (hno : ∀ cur, o ≠ Obj.cells cur e (0, 0)) (hown : wr.ownsRow N0 e size u k xs) (hg : W.grownBy w5 u.ownBlock) (hW : W.heap = (wr.alloc ob).heap) : w5.heap[b]? = some o := by
  have hlt := (Array.getElem?_eq_some_iff.1 hs).1
  rw [hg.block b (by rw [hW]; simp; omega) (some_ne_own hown hs hno), hW, Below.heap_alloc _ _ _ hlt]
  exact hs
theorem own_skip {D : Vd} {sg sz ah a : Int} {j : Nat} (h : hold D sg sz ah a j = false) : ownTo D sg sz ah a (j + 1) = ownTo D sg sz ah a j := by
  simp only [ownTo, h]
  cases ownTo D sg sz ah a j <;> simp
theorem own_first {D : Vd} {sg sz ah a : Int} {j : Nat} (h : hold D sg sz ah a j = true) (ho : ownTo D sg sz ah a j = none) : ownTo D sg sz ah a (j + 1) = some j := by
  simp only [ownTo, h, ho]; rfl
theorem own_more {D : Vd} {sg sz ah a : Int} {j i : Nat} (h : hold D sg sz ah a j = true) (ho : ownTo D sg sz ah a j = some i) (hn : need D sg a i < need D sg a j) : ownTo D sg sz ah a (j + 1) = some j := by
  simp only [ownTo, h, ho]; simp [hn]
theorem own_less {D : Vd} {sg sz ah a : Int} {j i : Nat} (ho : ownTo D sg sz ah a j = some i) (hn : ¬ need D sg a i < need D sg a j) : ownTo D sg sz ah a (j + 1) = some i := by
  simp only [ownTo, ho]; simp [hn]

set_option maxRecDepth 100000 in
set_option maxHeartbeats 2000000 in
theorem st26 (Q : Exit → Act → World → Prop) (t : Array Value) (ds : List Deferred) (w0 w : World) (x : Fx) (P2 b25 b26 b33 c25 c26 c33 : Nat) (pa2 : Option Addr) (D : Vd) (E : Pd) (sg sz ah : Int) (hA : At t x)
    (h13 : x.s13 = .int .i64 sz) (h14 : x.s14 = .int .i64 sg) (h15 : x.s15 = .int .i64 ah) (h25 : x.s25 = .slice (some ⟨b25, 0, none⟩) D.nv c25) (h26 : x.s26 = .slice (some ⟨b26, 0, none⟩) D.nv c26) (h33 : x.s33 = .slice (some ⟨b33, 0, none⟩) D.nv c33)
    (hb : Bds sg sz) (hD : D.Ok) (hE : E.Ok sz) (ha0 : 0 ≤ ah) (ha1 : ah ≤ 255) (hm : Mdl w0 P2 b25 b26 pa2 D E) (hv33 : ∀ j, j < D.nv → w0.cell? ⟨b33, j, none⟩ = some (.pointer (some ⟨D.vb j, 0, none⟩)))
    (hbw : Below w0.heap.size w0 w) (hown : w.ownsRow w0.heap.size 96 4 x.s39 (itemsTo E D sg sz ah D.nv).length (itsCells (itemsTo E D sg sz ah D.nv)))
    (hQ : ∀ t' v W, At t' { x with s49 := v } → Below w0.heap.size w0 W → W.ownsRow w0.heap.size 92 3 v (allOuts E D sg sz ah).length (cellsUs D (allOuts E D sg sz ah)) → Code.wp Yba.prog (rest 29) Q ⟨t', ds⟩ W) :
    Code.wp Yba.prog (rest 26) Q ⟨t, ds⟩ w := by
  have hmo : Yba.prog.follows .mixedOrders = true := by kernel_rfl
  have off0 : ∀ i, i < D.nv → 0 ≤ offL sg sz (D.pos i) := fun i hi => by
    have p0 := hD.p0 i hi
    have g0 := hb.g0
    have z0 := hb.z0
    unfold offL
    split
    · exact Int.mul_nonneg p0 (by omega)
    · omega
  have CS := hideIt (sort_items (ah := ah) hb hE hD off0 w _ _ hown)
  have ubd : ∀ u ∈ allVis E D sg sz ah, u.1 < D.nv ∧ 0 ≤ u.2.1 ∧ u.2.1 < u.2.2 ∧ u.2.2 ≤ sz := fun u hu => allVis_bd hb hE off0 hu
  have ulen := allVis_len (E := E) (ah := ah) hb hD off0
  have wall := want_all E D sg sz ah
  obtain ⟨U, hU⟩ : ∃ U, allVis E D sg sz ah = U := ⟨_, rfl⟩
  rw [hU] at CS ubd ulen wall
  obtain ⟨s0, s1, s2, s3, s4, s5, s13, s14, s15, s16, s17, s20, s22, s23, s24, s25, s26, s33, s34, s35, s36, s37, s39, s49⟩ := x
  obtain ⟨g, hg, rfl⟩ := hA.lit
  dsimp only at hg h13 h14 h15 h25 h26 h33
  subst h13 h14 h15 h25 h26 h33
  refine rest_step 26 (by kernel_rfl) ?_
  conv => arg 2; whnf
  simp only [slotsFrom, Nat.reduceAdd, hg]
  clear hA hg
  have HQ := hideIt hQ
  have HM := hideIt hm
  have HB := hideIt hb
  have HD := hideIt hD
  have HV := hideIt hv33
  have HBW := hideIt hbw
  have HUB := hideIt ubd
  have HWA := hideIt wall
  have hz0 := hb.z0
  have hz1 := hb.z1
  have hg0 := hb.g0
  have hg1 := hb.g1
  have hnv := hD.n
  generalize hNV : D.nv = nv at *
  have ENV := hideIt hNV
  clear hQ hm hb hD hE off0 hNV hv33 hbw hown ubd wall hU
  go_wp2_with fail
  refine CS.out.mono ?_
  rintro e w1 ⟨rfl, hsrt, row, hgr, hrow⟩
  have B1 := hideIt (HBW.out.grown hgr HBW.out.size hrow)
  have HS := hideIt hsrt
  clear CS hsrt hgr hrow HBW
  go_wp2
  refine rest_step 27 (by kernel_rfl) ?_
  conv => arg 2; whnf
  go_wp2
  refine rest_step 28 (by kernel_rfl) ?_
  conv => arg 2; whnf
  have M1 := hideIt (show Mdl w1 P2 b25 b26 pa2 D E from HM.out.keep B1.out)
  have V1 : Hid (∀ j, j < D.nv → w1.cell? ⟨b33, j, none⟩ = some (.pointer (some ⟨D.vb j, 0, none⟩))) := fun j hj => by
    have := HV.out j (by rw [← ENV.out]; exact hj)
    exact (B1.out.cell (World.block_lt_of_cell? _ _ this)).trans this
  clear HM HV
  rcases HS.out with ⟨h39, hU0⟩ | ⟨IB, cap, h39, hcells⟩
  · subst h39
    subst hU0
    go_wp2
    go_loopw [49, 297] (fun v i wr => v = .slice none 0 0 ∧ i = .int .i64 0 ∧ wr = w1) (fun _ _ _ => 0)
    case atStart => exact ⟨rfl, rfl, rfl⟩
    case round =>
      obtain ⟨rfl, rfl, rfl⟩ := hrel
      go_wp2
      have e : allOuts E D sg sz ah = [] := by rw [← HWA.out]; rfl
      exact HQ.out _ (.slice none 0 0) _ ⟨rfl, rfl, rfl, rfl, rfl, rfl, rfl, rfl, rfl, rfl, rfl, rfl, rfl, rfl, rfl, rfl, rfl, rfl, rfl, rfl, rfl, rfl, rfl, rfl, rfl⟩ B1.out (by rw [e]; exact World.ownsRow_nil _ _ _ _)
  · subst h39
    have HCE := hideIt hcells
    clear hcells HS
    obtain ⟨n7, hn7⟩ : ∃ n7, U.length = n7 := ⟨_, rfl⟩
    rw [hn7]
    rw [hn7] at ulen HQ
    have HN7 := hideIt hn7
    clear hn7
    go_wp2
    go_loopw [49, 297] (fun v i wr => ∃ q : Nat, q ≤ n7 ∧ i = .int .i64 q ∧ wr.ownsRow w1.heap.size 92 3 v (wantTo D sg sz ah U q).length (cellsUs D (wantTo D sg sz ah U q)) ∧ Below w1.heap.size w1 wr) (fun _ i _ => n7 - (intOf i).toNat)
    case atStart => exact ⟨0, Nat.zero_le _, rfl, World.ownsRow_nil _ _ _ _, Below.refl _ _⟩
    case round =>
      obtain ⟨q, hq, rfl, hown, hbw⟩ := hrel
      have HOWN := hideIt hown
      have HBW := hideIt hbw
      clear hown hbw
      by_cases hlt : q < n7
      · have hqU : q < U.length := by rw [HN7.out]; exact hlt
        obtain ⟨c0, c1, c2, c3⟩ := HCE.out q hqU
        have ub := HUB.out _ (List.getElem_mem hqU)
        obtain ⟨u, hu⟩ : ∃ u, U[q] = u := ⟨_, rfl⟩
        rw [hu] at c0 c1 c2 c3 ub
        obtain ⟨vi, a, e⟩ := u
        dsimp only at c0 c1 c2 c3 ub
        have HU := hideIt hu
        clear hu
        have keep : ∀ {b o : Nat} {v : Value}, w1.cell? ⟨b, o, none⟩ = some v → wr.cell? ⟨b, o, none⟩ = some v := fun hc => (HBW.out.cell (World.block_lt_of_cell? _ _ hc)).trans hc
        have d0 := keep c0
        have d1 := keep c1
        have d2 := keep c2
        have d3 := keep c3
        clear c0 c1 c2 c3 keep
        have hki : (q : Int) < (n7 : Int) := by omega
        have hki0 : (0 : Int) ≤ (q : Int) := by omega
        obtain ⟨sb, hsb⟩ : ∃ sb, wr.heap.size = sb := ⟨_, rfl⟩
        have HSB0 := hideIt hsb
        obtain ⟨dv0, dv1⟩ := div_bd ub.2.1 (show a ≤ 900 by omega) hg0
        have hne : ¬ sg = 0 := by omega
        go_wp2
        generalize hw8 : wr.alloc _ = w8
        have hs8 : w8.heap[sb]? = some (.cells #[.int .i64 a, .int .i64 e, .int .i64 (need D sg a vi), .int .i64 vi] 96 (0, 0)) := by rw [← hw8, ← HSB0.out]; exact heap_alloc_new _ _
        have O8 : Hid (w8.ownsRow w1.heap.size 92 3 u49 (wantTo D sg sz ah U q).length (cellsUs D (wantTo D sg sz ah U q))) := by rw [← hw8]; exact HOWN.out.alloc _
        have B8 : Hid (Below w1.heap.size w1 w8) := by rw [← hw8]; exact HBW.out.alloc HBW.out.size _
        have S8 := hideIt hs8
        clear hw8 hs8 d0 d1 d2 d3 HOWN HBW HSB0
        go_loopw [52, 53, 307] (fun v2 v3 vj wq => ∃ (j nn : Nat), j ≤ nv ∧ vj = .int .i64 j ∧ v2 = .int .i64 (ownI (ownTo D sg sz ah a j)) ∧ v3 = .int .i64 (bestI D sg a (ownTo D sg sz ah a j)) ∧ Hid (wq = w8.drewN nn)) (fun _ _ vj _ => nv - (intOf vj).toNat)
        case atStart => exact ⟨0, 0, Nat.zero_le _, rfl, rfl, rfl, rfl⟩
        case round =>
          obtain ⟨j, nn, hj, rfl, rfl, rfl, HW⟩ := hrel
          by_cases hjl : j < nv
          · have hjD : j < D.nv := by rw [ENV.out]; exact hjl
            have M2 := M1.out.keep B8.out
            have p0 : wr.cell? ⟨b25, j * 10, none⟩ = some (.int .i64 (D.st j)) := by rw [HW.out]; exact M2.st j hjD
            have p1 : wr.cell? ⟨b25, j * 10 + 1, none⟩ = some (.int .i64 (D.pos j)) := by rw [HW.out]; exact M2.po j hjD
            have p2 : wr.cell? ⟨b26, j, none⟩ = some (.int .i64 (D.b j)) := by rw [HW.out]; exact M2.b j hjD
            have f0 : wr.cell? ⟨sb, 0, none⟩ = some (.int .i64 a) := by rw [HW.out]; show w8.cell? _ = _; rw [cell_of_row _ _ _ _ _ _ S8.out]; rfl
            clear M2
            have hjz : (j : Int) < (nv : Int) := by omega
            have hjz0 : (0 : Int) ≤ (j : Int) := by omega
            have CZ := hideIt (fun W => zoff_any (D.pos j) sg sz HB.out (by have := HD.out.p0 j hjD; omega) (by have := HD.out.p1 j hjD; omega) W)
            have hlb := offL_bd HB.out (k := D.pos j) (by have := HD.out.p0 j hjD; omega) (by have := HD.out.p1 j hjD; omega)
            obtain ⟨lo, hlo⟩ : ∃ lo, offL sg sz (D.pos j) = lo := ⟨_, rfl⟩
            rw [hlo] at CZ hlb
            have HLO := hideIt hlo
            clear hlo
            have wlo : IntKind.i64.wrap (lo + ah) = lo + ah := by rw [wrap_small] <;> omega
            go_wp2_with fail
            refine (CZ.out _).mono ?_
            rintro e' w9 ⟨rfl, hw9⟩
            subst hw9
            clear CZ
            by_cases h1 : lo ≤ a
            · by_cases h2 : a < lo + ah
              · have ds0 := HD.out.s0 j hjD
                have ds1 := HD.out.s1 j hjD
                have db0 := HD.out.b0 j hjD
                have db1 := HD.out.b1 j hjD
                obtain ⟨md0, md1⟩ := mul_bd (k := a / sg - D.st j) (sg := sg) (by omega) (by omega) hg0 hg1
                have HH : hold D sg sz ah a j = true := by
                  show holdsL sg sz ah (D.pos j) a = true
                  unfold holdsL
                  rw [HLO.out]
                  simp [h1, h2]
                obtain ⟨nj, hnj⟩ : ∃ nj, -D.b j - (a / sg - D.st j) * sg = nj := ⟨_, rfl⟩
                have HNJ : Hid (need D sg a j = nj) := hnj
                cases ho : ownTo D sg sz ah a j with
                | none =>
                  have HOO := hideIt ho
                  simp only [ownI, bestI]
                  go_wp2
                  go_quiet (fail)
                  go_wp2
                  exact ⟨⟨j + 1, nn + nq, by omega, by go_num, by rw [own_first HH HOO.out]; rfl, by rw [own_first HH HOO.out]; show _ = Value.int _ (need D sg a j); rw [HNJ.out], by show _ = _; rw [HW.out, World.drewN_drewN]⟩, by simp [intOf]; omega⟩
                | some i =>
                  have HOO := hideIt ho
                  simp only [ownI, bestI]
                  have hi0 : ¬ ((i : Int) < 0) := by omega
                  obtain ⟨mi, hmi⟩ : ∃ mi, need D sg a i = mi := ⟨_, rfl⟩
                  have HMI := hideIt hmi
                  rw [hmi]
                  clear hmi ho
                  by_cases hn : mi < nj
                  · go_wp2
                    go_quiet (fail)
                    go_wp2
                    have OM := own_more HH HOO.out (by rw [HMI.out, HNJ.out]; exact hn)
                    exact ⟨⟨j + 1, nn + nq, by omega, by go_num, by rw [OM]; rfl, by rw [OM]; show _ = Value.int _ (need D sg a j); rw [HNJ.out], by show _ = _; rw [HW.out, World.drewN_drewN]⟩, by simp [intOf]; omega⟩
                  · go_wp2
                    go_quiet (fail)
                    go_wp2
                    have OM := own_less HOO.out (by rw [HMI.out, HNJ.out]; omega)
                    exact ⟨⟨j + 1, nn + nq, by omega, by go_num, by rw [OM]; rfl, by rw [OM]; show _ = Value.int _ (need D sg a i); rw [HMI.out], by show _ = _; rw [HW.out, World.drewN_drewN]⟩, by simp [intOf]; omega⟩
              · have HH : hold D sg sz ah a j = false := by
                  show holdsL sg sz ah (D.pos j) a = false
                  unfold holdsL
                  rw [HLO.out]
                  simp [h2]
                go_wp2
                exact ⟨⟨j + 1, nn, by omega, by go_num, by rw [own_skip HH], by rw [own_skip HH], HW⟩, by simp [intOf]; omega⟩
            · have HH : hold D sg sz ah a j = false := by
                show holdsL sg sz ah (D.pos j) a = false
                unfold holdsL
                rw [HLO.out]
                simp [h1]
              go_wp2
              exact ⟨⟨j + 1, nn, by omega, by go_num, by rw [own_skip HH], by rw [own_skip HH], HW⟩, by simp [intOf]; omega⟩
          · obtain rfl : j = nv := by omega
            have hjz : ¬ ((j : Int) < (j : Int)) := by omega
            have viD : vi < D.nv := by have := ENV.out; omega
            have hvz : (vi : Int) < (j : Int) := by omega
            have hvz0 : (0 : Int) ≤ (vi : Int) := by omega
            have c0 : wr.cell? ⟨sb, 0, none⟩ = some (.int .i64 a) := by rw [HW.out]; show w8.cell? _ = _; rw [cell_of_row _ _ _ _ _ _ S8.out]; rfl
            have c1 : wr.cell? ⟨sb, 1, none⟩ = some (.int .i64 e) := by rw [HW.out]; show w8.cell? _ = _; rw [cell_of_row _ _ _ _ _ _ S8.out]; rfl
            have c3 : wr.cell? ⟨sb, 3, none⟩ = some (.int .i64 vi) := by rw [HW.out]; show w8.cell? _ = _; rw [cell_of_row _ _ _ _ _ _ S8.out]; rfl
            have c4 : wr.cell? ⟨b33, vi, none⟩ = some (.pointer (some ⟨D.vb vi, 0, none⟩)) := by
              rw [HW.out]; show w8.cell? _ = _
              have := V1.out vi viD
              exact (B8.out.cell (World.block_lt_of_cell? _ _ this)).trans this
            have O9 : Hid (wr.ownsRow w1.heap.size 92 3 u49 (wantTo D sg sz ah U q).length (cellsUs D (wantTo D sg sz ah U q))) := by rw [HW.out]; exact O8.out
            have B9 : Hid (Below w1.heap.size w1 wr) := by rw [HW.out]; exact ⟨B8.out.os, B8.out.tape, B8.out.output, B8.out.size, B8.out.block⟩
            have S9 : Hid (wr.heap[sb]? = some (.cells #[.int .i64 a, .int .i64 e, .int .i64 (need D sg a vi), .int .i64 vi] 96 (0, 0))) := by rw [HW.out]; exact S8.out
            have BS := B9.out.size
            have hqU2 : q < U.length := by rw [HN7.out]; exact hlt
            have WS := hideIt (wantTo_succ (D := D) (sg := sg) (sz := sz) (ah := ah) hqU2)
            rw [HU.out] at WS
            by_cases hmine : ownTo D sg sz ah a j = some vi
            · have WM : Hid (mine D sg sz ah (vi, a, e) = true) := by show decide _ = true; rw [decide_eq_true_iff, ENV.out]; exact hmine
              rw [hmine]
              simp only [ownI, bestI]
              have WL := wantTo_len D sg sz ah U q
              have b33lt : b33 < w1.heap.size := World.block_lt_of_cell? _ _ (V1.out vi viD)
              have C4 := hideIt c4
              obtain ⟨ia, hia, hz0a, hz1a, hz2a⟩ := info_parts Yba.info92
              have HIa := hideIt hia
              have HZ0a := hideIt hz0a
              have HZ1a := hideIt hz1a
              have HZ2a := hideIt hz2a
              clear hia hz0a hz1a hz2a hmine
              go_wp2
              go_region_held3 (fun W => W.cell? ⟨sb, 0, none⟩ = some (.int .i64 a) ∧ W.cell? ⟨sb, 1, none⟩ = some (.int .i64 e) ∧ W.cell? ⟨sb, 3, none⟩ = some (.int .i64 vi) ∧ W.cell? ⟨b33, vi, none⟩ = some (.pointer (some ⟨D.vb vi, 0, none⟩))) (first | exact ⟨ks1, ks2, ks3, ks4⟩ | go_keep)
                (first
                  | (refine step_append_own rfl (.tmp 359) (.tmp 371) 87 rfl w1.heap.size 92 ia _ 3 24 Yba.underlying87 HIa.out HZ0a.out HZ1a.out HZ2a.out rfl (by decide) u49 _ _ rfl (ownH _ O9.out rfl) ⟨wr.heap.size, 0, none⟩ 1 1 (cellsU D (vi, a, e)) rfl rfl ?apA ?apB ?apC ?apD ?apE ?_
                     case apA => exact newH wr _ _ rfl
                     case apB => (intro z hz; simp [cellsU] at hz; rcases hz with rfl | rfl | rfl <;> rfl)
                     case apC => (unfold maxLen; omega)
                     case apD => omega
                     case apE => (simp; omega)
                     intro v' w5 own5 grow5
                     have K5 := keepS _ S9.out (fun c e => by cases e) O9.out grow5 rfl
                     have ks1 : w5.cell? ⟨sb, 0, none⟩ = some (.int .i64 a) := by rw [cell_of_row _ _ _ _ _ _ K5]; rfl
                     have ks2 : w5.cell? ⟨sb, 1, none⟩ = some (.int .i64 e) := by rw [cell_of_row _ _ _ _ _ _ K5]; rfl
                     have ks3 : w5.cell? ⟨sb, 3, none⟩ = some (.int .i64 vi) := by rw [cell_of_row _ _ _ _ _ _ K5]; rfl
                     have ks4 : w5.cell? ⟨b33, vi, none⟩ = some (.pointer (some ⟨D.vb vi, 0, none⟩)) := keepH _ C4.out b33lt O9.out grow5 rfl))
              go_wp2
              refine ⟨⟨q + 1, by omega, by go_num, ?_, belowH _ B9.out BS grow5 (fun j hj => (O9.out.lt j hj).1) rfl ⟨rfl, rfl, rfl⟩⟩, by simp [intOf]; omega⟩
              rw [WS.out, WM.out, if_pos rfl, List.length_append, cellsUs_append, show cellsUs D [(vi, a, e)] = cellsU D (vi, a, e) by simp [cellsUs]]
              exact own5
            · have WM : Hid (mine D sg sz ah (vi, a, e) = false) := by show decide _ = false; rw [decide_eq_false_iff_not, ENV.out]; exact hmine
              have hoi : ¬ (ownI (ownTo D sg sz ah a j) = (vi : Int)) := by
                intro h
                apply hmine
                cases ho : ownTo D sg sz ah a j with
                | none => rw [ho] at h; simp only [ownI] at h; omega
                | some i => rw [ho] at h; simp only [ownI] at h; rw [show i = vi by omega]
              generalize ownI (ownTo D sg sz ah a j) = oI at *
              generalize bestI D sg a (ownTo D sg sz ah a j) = bI at *
              go_wp2
              refine ⟨⟨q + 1, by omega, by go_num, ?_, B9.out⟩, by simp [intOf]; omega⟩
              rw [WS.out, WM.out]
              simpa using O9.out
      · obtain rfl : q = n7 := by omega
        go_wp2
        have e := HWA.out
        rw [HN7.out] at e
        exact HQ.out _ u49 wr ⟨rfl, rfl, rfl, rfl, rfl, rfl, rfl, rfl, rfl, rfl, rfl, rfl, rfl, rfl, rfl, rfl, rfl, rfl, rfl, rfl, rfl, rfl, rfl, rfl, rfl⟩ (B1.out.trans (HBW.out.mono B1.out.size)) (by rw [← e]; exact ownsRow_low HOWN.out B1.out.size)
end Go.Proofs.Ybulkdsao
