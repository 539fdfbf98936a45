/-
  The model's items: three loops.
-/
import Derived.Test.YbulkdsaoPm
import Derived.Test.YbulkdsaoLe
import Derived.Test.YbulkdsaoLg
namespace Go.Proofs.Ybulkdsao
open Go.ChangeShapes Go.WideShapes Go.ChangeAt Go.RowKit
set_option linter.unusedVariables false

theorem Yba.info96 : (Yba.prog.info? 96).map (fun i => (i.zero, i.size, i.bytes)) = some (some (.agg #[.int .i64 0, .int .i64 0, .int .i64 0, .int .i64 0]), 4, 32) := by kernel_rfl

/-- What the model reads. -/
structure Mdl (w : World) (P2 b25 b26 : Nat) (pa2 : Option Addr) (D : Vd) (E : Pd) : Prop where
  pa : 0 < E.np → pa2 = some ⟨P2, 0, none⟩
  ps : ∀ j, j < E.np → w.cell? ⟨P2, j * 2, none⟩ = some (.int .i64 (E.ps j))
  pe : ∀ j, j < E.np → w.cell? ⟨P2, j * 2 + 1, none⟩ = some (.int .i64 (E.pe j))
  st : ∀ j, j < D.nv → w.cell? ⟨b25, j * 10, none⟩ = some (.int .i64 (D.st j))
  po : ∀ j, j < D.nv → w.cell? ⟨b25, j * 10 + 1, none⟩ = some (.int .i64 (D.pos j))
  b : ∀ j, j < D.nv → w.cell? ⟨b26, j, none⟩ = some (.int .i64 (D.b j))

theorem Mdl.keep {w W : World} {P2 b25 b26 : Nat} {pa2 : Option Addr} {D : Vd} {E : Pd} (h : Mdl w P2 b25 b26 pa2 D E) (hb : Below w.heap.size w W) : Mdl W P2 b25 b26 pa2 D E := by
  have c : ∀ {b o : Nat} {v : Value}, w.cell? ⟨b, o, none⟩ = some v → W.cell? ⟨b, o, none⟩ = some v := fun hc => (hb.cell (World.block_lt_of_cell? _ _ hc)).trans hc
  exact ⟨h.pa, fun j hj => c (h.ps j hj), fun j hj => c (h.pe j hj), fun j hj => c (h.st j hj), fun j hj => c (h.po j hj), fun j hj => c (h.b j hj)⟩

/-- The items so far. -/
def accI (E : Pd) (D : Vd) (sg sz ah : Int) (i : Nat) (ac : List (Int × Int)) : List It := itemsTo E D sg sz ah i ++ ac.map fun u => itOf D sg (i, u)

theorem acc_all {E : Pd} {D : Vd} {sg sz ah : Int} {i : Nat} {a : Int} {ac : List (Int × Int)} (h : ac ++ usR E D sg sz ah i a = usOf E D sg sz ah i) (he : usR E D sg sz ah i a = []) : accI E D sg sz ah i ac = itemsTo E D sg sz ah (i + 1) := by
  rw [he, List.append_nil] at h
  unfold accI
  simp only [itemsTo, itemsOf, h]
theorem accI_snoc (E : Pd) (D : Vd) (sg sz ah : Int) (i : Nat) (ac : List (Int × Int)) (u : Int × Int) : accI E D sg sz ah i (ac ++ [u]) = accI E D sg sz ah i ac ++ [itOf D sg (i, u)] := by simp [accI]
theorem accI_len {E : Pd} {D : Vd} {sg sz ah : Int} (hb : Bds sg sz) {i : Nat} {a : Int} {ac : List (Int × Int)} (h : ac ++ usR E D sg sz ah i a = usOf E D sg sz ah i) (hi : i < 256) (ho : ∀ j, j < i + 1 → 0 ≤ offL sg sz (D.pos j)) : (accI E D sg sz ah i ac).length ≤ 70000 := by
  have h1 := itemsTo_len (E := E) (ah := ah) hb i (fun j hj => ho j (by omega))
  have h2 := usOf_len (E := E) (ah := ah) hb i (ho i (by omega))
  rw [← h, List.length_append] at h2
  unfold accI
  rw [List.length_append, List.length_map]
  have : i * 257 ≤ 256 * 257 := Nat.mul_le_mul_right _ (by omega)
  omega

set_option maxRecDepth 100000 in
set_option maxHeartbeats 2000000 in
theorem st24 (Q : Exit → Act → World → Prop) (t : Array Value) (ds : List Deferred) (w : World) (x : Fx) (P2 b25 b26 cap2 c25 c26 : Nat) (pa2 : Option Addr) (D : Vd) (E : Pd) (sg sz ah : Int) (hA : At t x)
    (h13 : x.s13 = .int .i64 sz) (h14 : x.s14 = .int .i64 sg) (h15 : x.s15 = .int .i64 ah) (h22 : x.s22 = .slice pa2 E.np cap2) (h25 : x.s25 = .slice (some ⟨b25, 0, none⟩) D.nv c25) (h26 : x.s26 = .slice (some ⟨b26, 0, none⟩) D.nv c26)
    (hb : Bds sg sz) (hD : D.Ok) (hE : E.Ok sz) (ha0 : 0 ≤ ah) (ha1 : ah ≤ 255) (hm : Mdl w P2 b25 b26 pa2 D E)
    (hQ : ∀ t' v W, At t' { x with s39 := v } → Below w.heap.size w W → W.ownsRow w.heap.size 96 4 v (itemsTo E D sg sz ah D.nv).length (itsCells (itemsTo E D sg sz ah D.nv)) → Code.wp Yba.prog (rest 26) Q ⟨t', ds⟩ W) :
    Code.wp Yba.prog (rest 24) Q ⟨t, ds⟩ w := by
  have hmo : Yba.prog.follows .mixedOrders = true := by kernel_rfl
  have off0 : ∀ i, i < D.nv → 0 ≤ offL sg sz (D.pos i) := fun i hi => by
    have p0 := hD.p0 i hi
    have g0 := hb.g0
    have z0 := hb.z0
    unfold offL
    split
    · exact Int.mul_nonneg p0 (by omega)
    · omega
  obtain ⟨s0, s1, s2, s3, s4, s5, s13, s14, s15, s16, s17, s20, s22, s23, s24, s25, s26, s33, s34, s35, s36, s37, s39, s49⟩ := x
  obtain ⟨g, hg, rfl⟩ := hA.lit
  dsimp only at hg h13 h14 h15 h22 h25 h26
  subst h13 h14 h15 h22 h25 h26
  refine rest_step 24 (by kernel_rfl) ?_
  conv => arg 2; whnf
  simp only [slotsFrom, Nat.reduceAdd, hg]
  clear hA hg
  go_wp2
  refine rest_step 25 (by kernel_rfl) ?_
  conv => arg 2; whnf
  have HQ := hideIt hQ
  have HM := hideIt hm
  have HB := hideIt hb
  have HD := hideIt hD
  have HE := hideIt hE
  have HO0 := hideIt off0
  have hz0 := hb.z0
  have hz1 := hb.z1
  have hg0 := hb.g0
  have hg1 := hb.g1
  have hnv := hD.n
  have hnp := hE.n
  generalize hNV : D.nv = nv at *
  generalize hNP : E.np = np at *
  have ENV := hideIt hNV
  have ENP := hideIt hNP
  clear hQ hm hb hD hE off0 hNV hNP
  go_wp2
  go_loopw [39, 216] (fun v j wr => ∃ i : Nat, i ≤ nv ∧ j = .int .i64 i ∧ wr.ownsRow w.heap.size 96 4 v (itemsTo E D sg sz ah i).length (itsCells (itemsTo E D sg sz ah i)) ∧ Below w.heap.size w wr) (fun _ j _ => nv - (intOf j).toNat)
  case atStart => exact ⟨0, Nat.zero_le _, rfl, World.ownsRow_nil _ _ _ _, Below.refl _ _⟩
  case round =>
    obtain ⟨i, hi, rfl, hown, hbw⟩ := hrel
    have HOWN := hideIt hown
    have HBW := hideIt hbw
    clear hown hbw
    by_cases hlt : i < nv
    · have hiD : i < D.nv := by rw [ENV.out]; exact hlt
      have M1 := HM.out.keep HBW.out
      have q0 := M1.po i hiD
      have hki : (i : Int) < (nv : Int) := by omega
      have hki0 : (0 : Int) ≤ (i : Int) := by omega
      have CZ := hideIt (fun W => zoff_any (D.pos i) sg sz HB.out (by have := HD.out.p0 i hiD; omega) (by have := HD.out.p1 i hiD; omega) W)
      obtain ⟨lo, hlo⟩ : ∃ lo, offL sg sz (D.pos i) = lo := ⟨_, rfl⟩
      have hlb : 0 ≤ lo ∧ lo ≤ sz := by
        have h1 := HO0.out i hlt
        have h2 := offL_bd HB.out (k := D.pos i) (by have := HD.out.p0 i hiD; omega) (by have := HD.out.p1 i hiD; omega)
        omega
      rw [hlo] at CZ
      have HLO := hideIt hlo
      have wlo : IntKind.i64.wrap (lo + ah) = lo + ah := by rw [wrap_small] <;> omega
      clear M1 hlo
      go_wp2_with fail
      refine (CZ.out _).mono ?_
      rintro e w1 ⟨rfl, rfl⟩
      clear q0 CZ
      go_wp2
      go_loopw [39, 43, 44, 233] (fun v va vd vj wm => ∃ (k : Nat) (a : Int) (dn : Bool) (ac : List (Int × Int)), k ≤ np ∧ vj = .int .i64 k ∧ va = .int .i64 a ∧ vd = .bool dn ∧ 0 ≤ a ∧ a ≤ sz ∧ lo ≤ a ∧ Hid (ac ++ usR E D sg sz ah i a = usOf E D sg sz ah i) ∧
          Hid (dn = false → ∀ j, j < k → E.pe j ≤ a) ∧ Hid (dn = true → usR E D sg sz ah i a = []) ∧ wm.ownsRow w.heap.size 96 4 v (accI E D sg sz ah i ac).length (itsCells (accI E D sg sz ah i ac)) ∧ Below w.heap.size w wm) (fun _ _ _ vj _ => np - (intOf vj).toNat)
      case atStart =>
        refine ⟨0, lo, false, [], Nat.zero_le _, rfl, rfl, rfl, hlb.1, hlb.2, Int.le_refl _, ?_, (fun _ j hj => by omega), (fun h => by cases h), ?_, HBW.out⟩
        · show [] ++ usR E D sg sz ah i lo = _
          rw [← HLO.out]; rfl
        · simpa [accI] using HOWN.out
      case round =>
        obtain ⟨k, a, dn, ac, hk, rfl, rfl, rfl, a0, a1, al, hus, hbf, hdn, hown, hbw⟩ := hrel
        have HOWN2 := hideIt hown
        have HBW2 := hideIt hbw
        clear hown hbw HOWN HBW
        by_cases hkn : k < np
        · have hkE : k < E.np := by rw [ENP.out]; exact hkn
          have hpa := HM.out.pa (by omega)
          subst hpa
          have M1 := HM.out.keep HBW2.out
          have e0 := M1.ps k hkE
          have e1 := M1.pe k hkE
          clear M1
          have hkz : (k : Int) < (np : Int) := by omega
          have hkz0 : (0 : Int) ≤ (k : Int) := by omega
          cases dn with
          | true =>
            go_wp2
            refine ⟨⟨i + 1, by omega, by go_num, ?_, HBW2.out.alloc HBW2.out.size _⟩, by simp [intOf]; omega⟩
            rw [← acc_all hus.out (hdn.out (by trivial))]
            exact HOWN2.out.alloc _
          | false =>
            by_cases c : E.pe k ≤ a
            · go_wp2
              exact ⟨⟨k + 1, a, false, ac, by omega, by go_num, rfl, rfl, a0, a1, al, hus, (fun _ j hj => by
                by_cases e : j = k
                · subst e; exact c
                · exact hbf.out (by trivial) j (by omega)), (fun h => by cases h), HOWN2.out.alloc _, HBW2.out.alloc HBW2.out.size _⟩, by simp [intOf]; omega⟩
            · have hse := HE.out.se k hkE
              have hse0 := HE.out.s0 k hkE
              have hse1 := HE.out.e1 k hkE
              obtain ⟨sb, hsb⟩ : ∃ sb, wr.heap.size = sb := ⟨_, rfl⟩
              have HSB0 := hideIt hsb
              by_cases d : a < E.ps k
              · have HST := hideIt (usR_start (D := D) (ah := ah) (i := i) HB.out HE.out hkE a0 (by omega) (hbf.out (by trivial)) (a' := E.ps k) (by rw [if_pos d]))
                go_wp2
                try rw [hsb]
                clear hsb
                go_loopw [39, 43, 44] (fun v va vd wq => ∃ (a : Int) (ac : List (Int × Int)), va = .int .i64 a ∧ vd = .bool false ∧ 0 ≤ a ∧ a ≤ sz ∧ lo ≤ a ∧ E.ps k ≤ a ∧ a ≤ E.pe k ∧ Hid (ac ++ usR E D sg sz ah i a = usOf E D sg sz ah i) ∧ Hid (∀ j, j < k → E.pe j ≤ a) ∧
                    wq.ownsRow w.heap.size 96 4 v (accI E D sg sz ah i ac).length (itsCells (accI E D sg sz ah i ac)) ∧ Below w.heap.size w wq ∧ wq.heap[sb]? = some (.cells #[.int .i64 (E.ps k), .int .i64 (E.pe k)] 29 (0, 0))) (fun _ va _ _ => (sz - intOf va).toNat)
                case atStart => exact ⟨E.ps k, ac, rfl, rfl, hse0, (by omega), (by omega), Int.le_refl _, (by omega), (by show _ ++ _ = _; rw [← HST.out]; exact hus.out), (fun j hj => by have := hbf.out (by trivial) j hj; omega), (HOWN2.out.alloc _), (HBW2.out.alloc HBW2.out.size _), (by rw [← HSB0.out]; exact heap_alloc_new _ _)⟩
                case round =>
                  clear HOWN2 HBW2 hus hbf hdn a0 a1 al HST d c
                  obtain ⟨a, ac, rfl, rfl, a0, a1, al, asx, ae, HUS, HBF, hown, hbw, hsb⟩ := hrel
                  have HOWN := hideIt hown
                  have HBW := hideIt hbw
                  have HSB := hideIt hsb
                  have f0 : wr.cell? ⟨sb, 0, none⟩ = some (.int .i64 (E.ps k)) := by rw [cell_of_row _ _ _ _ _ _ hsb]; rfl
                  have f1 : wr.cell? ⟨sb, 1, none⟩ = some (.int .i64 (E.pe k)) := by rw [cell_of_row _ _ _ _ _ _ hsb]; rfl
                  clear hown hbw hsb
                  by_cases c1 : a < E.pe k
                  · by_cases c2 : lo + ah ≤ a
                    · go_wp2
                      exact ⟨⟨k + 1, a, true, ac, by omega, by go_num, rfl, rfl, a0, a1, al, HUS, (fun h => by cases h), (fun _ => usR_stop hkE a0 asx c1 HBF.out (by rw [HLO.out]; omega)), HOWN.out, HBW.out⟩, by simp [intOf]; omega⟩
                    · have M2 := HM.out.keep HBW.out
                      have m0 := M2.st i hiD
                      have m1 := M2.b i hiD
                      clear M2
                      obtain ⟨d0, d1⟩ := div_bd a0 (show a ≤ 900 by omega) hg0
                      have hne : ¬ sg = 0 := by omega
                      have CZ := hideIt (fun W => zoff_any (a / sg + 1) sg sz HB.out (by omega) (by omega) W)
                      obtain ⟨bn, hbn⟩ : ∃ bn, offL sg sz (a / sg + 1) = bn := ⟨_, rfl⟩
                      rw [hbn] at CZ
                      have HBN : Hid (bndL sg sz a = bn) := hbn
                      have hbb := offL_bd HB.out (k := a / sg + 1) (by omega) (by omega)
                      rw [hbn] at hbb
                      clear hbn
                      go_wp2
                      go_quiet (first | (go_at_call 10; refine Calls.quiet_of_same (CZ.out _)))
                      obtain ⟨e, he⟩ : ∃ e, min (E.pe k) bn = e := ⟨_, rfl⟩
                      rw [he]
                      have HEU : Hid (unitE E sg sz k a = e) := by
                        show unitE E sg sz k a = e
                        rw [← he, unitE, HBN.out]
                        split <;> omega
                      have ub := unitE_bd HB.out HE.out hkE a0 c1
                      rw [HEU.out] at ub
                      obtain ⟨w2, hw2⟩ : ∃ w2, wr.drewN nq = w2 := ⟨_, rfl⟩
                      rw [hw2]
                      have n0 : w2.cell? ⟨b25, i * 10, none⟩ = some (.int .i64 (D.st i)) := by rw [← hw2]; exact m0
                      have n1 : w2.cell? ⟨b26, i, none⟩ = some (.int .i64 (D.b i)) := by rw [← hw2]; exact m1
                      have OW2 : Hid (w2.ownsRow w.heap.size 96 4 u39 (accI E D sg sz ah i ac).length (itsCells (accI E D sg sz ah i ac))) := by rw [← hw2]; exact HOWN.out
                      have BW2 : Hid (Below w.heap.size w w2) := by rw [← hw2]; exact ⟨HBW.out.os, HBW.out.tape, HBW.out.output, HBW.out.size, HBW.out.block⟩
                      have SB2 : Hid (w2.heap[sb]? = some (.cells #[.int .i64 (E.ps k), .int .i64 (E.pe k)] 29 (0, 0))) := by rw [← hw2]; exact HSB.out
                      clear hw2 m0 m1 f0 f1 HOWN HBW HSB CZ he hbb HBN
                      have ds0 := HD.out.s0 i hiD
                      have ds1 := HD.out.s1 i hiD
                      have db0 := HD.out.b0 i hiD
                      have db1 := HD.out.b1 i hiD
                      obtain ⟨md0, md1⟩ := mul_bd (k := a / sg - D.st i) (sg := sg) (by omega) (by omega) hg0 hg1
                      go_wp2
                      go_quiet (fail)
                      obtain ⟨w3, hw3⟩ : ∃ w3, w2.drewN nq = w3 := ⟨_, rfl⟩
                      rw [hw3]
                      have OW3 : Hid (w3.ownsRow w.heap.size 96 4 u39 (accI E D sg sz ah i ac).length (itsCells (accI E D sg sz ah i ac))) := by rw [← hw3]; exact OW2.out
                      have BW3 : Hid (Below w.heap.size w w3) := by rw [← hw3]; exact ⟨BW2.out.os, BW2.out.tape, BW2.out.output, BW2.out.size, BW2.out.block⟩
                      have SB3 : Hid (w3.heap[sb]? = some (.cells #[.int .i64 (E.ps k), .int .i64 (E.pe k)] 29 (0, 0))) := by rw [← hw3]; exact SB2.out
                      clear hw3 n0 n1 OW2 BW2 SB2
                      have AL := accI_len HB.out HUS.out (by omega) (fun j hj => HO0.out j (by omega))
                      have BS := BW3.out.size
                      obtain ⟨ia, hia, hz0a, hz1a, hz2a⟩ := info_parts Yba.info96
                      have HIa := hideIt hia
                      have HZ0a := hideIt hz0a
                      have HZ1a := hideIt hz1a
                      have HZ2a := hideIt hz2a
                      clear hia hz0a hz1a hz2a ds0 ds1 db0 db1 md0 md1
                      go_wp2_with (first
                        | (at_builtin; refine wpList_append_own _ rfl _ _ 93 rfl w.heap.size 96 ia (.agg #[.int .i64 0, .int .i64 0, .int .i64 0, .int .i64 0]) 4 32 Yba.underlying93 HIa.out HZ0a.out HZ1a.out HZ2a.out rfl (by decide) _ _ _ rfl (OW3.out.alloc _) ⟨w3.heap.size, 0, none⟩ 1 1 (itCells (itOf D sg (i, (a, e)))) rfl rfl ?apA ?apB ?apC ?apD ?apE ?_
                           case apA => exact newN _ _ _
                           case apB => (intro z hz; simp [itCells] at hz; rcases hz with rfl | rfl | rfl | rfl <;> rfl)
                           case apC => (unfold maxLen; omega)
                           case apD => omega
                           case apE => (simp; omega)
                           intro v' w4 own4 grow4 _
                           have X4 := hideIt own4
                           have G4 := hideIt grow4
                           clear own4 grow4))
                      have HU := HUS.out
                      rw [usR_go HB.out HE.out hkE a0 asx c1 HBF.out (by rw [HLO.out]; exact al) (by rw [HLO.out]; omega), HEU.out] at HU
                      have SBL := (Array.getElem?_eq_some_iff.1 SB3.out).1
                      have SB4 : w4.heap[sb]? = some (.cells #[.int .i64 (E.ps k), .int .i64 (E.pe k)] 29 (0, 0)) := by
                        rw [G4.out.block _ (by simp; omega) (some_ne_own OW3.out SB3.out (fun c e => by cases e)), Below.heap_alloc _ _ _ SBL]
                        exact SB3.out
                      refine ⟨⟨e, ac ++ [(a, e)], rfl, rfl, by omega, by omega, by omega, by omega, ub.2.1, (by show _ ++ _ = _; rw [List.append_assoc]; exact HU), (fun j hj => by have := HBF.out j hj; omega), ?_, (BW3.out.alloc BS _).grown G4.out (by simp; omega) (fun j hj => (OW3.out.lt j hj).1), SB4⟩, by simp [intOf]; omega⟩
                      rw [accI_snoc, List.length_append, itsCells_append, show itsCells [itOf D sg (i, (a, e))] = itCells (itOf D sg (i, (a, e))) by simp [itsCells]]
                      exact X4.out
                  · go_wp2
                    exact ⟨⟨k + 1, a, false, ac, by omega, by go_num, rfl, rfl, a0, a1, al, HUS, (fun _ j hj => by
                      by_cases e : j = k
                      · subst e; omega
                      · exact HBF.out j (by omega)), (fun h => by cases h), HOWN.out, HBW.out⟩, by simp [intOf]; omega⟩
              · go_wp2
                try rw [hsb]
                clear hsb
                go_loopw [39, 43, 44] (fun v va vd wq => ∃ (a : Int) (ac : List (Int × Int)), va = .int .i64 a ∧ vd = .bool false ∧ 0 ≤ a ∧ a ≤ sz ∧ lo ≤ a ∧ E.ps k ≤ a ∧ a ≤ E.pe k ∧ Hid (ac ++ usR E D sg sz ah i a = usOf E D sg sz ah i) ∧ Hid (∀ j, j < k → E.pe j ≤ a) ∧
                    wq.ownsRow w.heap.size 96 4 v (accI E D sg sz ah i ac).length (itsCells (accI E D sg sz ah i ac)) ∧ Below w.heap.size w wq ∧ wq.heap[sb]? = some (.cells #[.int .i64 (E.ps k), .int .i64 (E.pe k)] 29 (0, 0))) (fun _ va _ _ => (sz - intOf va).toNat)
                case atStart => exact ⟨a, ac, rfl, rfl, a0, a1, al, (by omega), (by omega), hus, (hbf.out (by trivial)), (HOWN2.out.alloc _), (HBW2.out.alloc HBW2.out.size _), (by rw [← HSB0.out]; exact heap_alloc_new _ _)⟩
                case round =>
                  clear HOWN2 HBW2 hus hbf hdn a0 a1 al d c
                  obtain ⟨a, ac, rfl, rfl, a0, a1, al, asx, ae, HUS, HBF, hown, hbw, hsb⟩ := hrel
                  have HOWN := hideIt hown
                  have HBW := hideIt hbw
                  have HSB := hideIt hsb
                  have f0 : wr.cell? ⟨sb, 0, none⟩ = some (.int .i64 (E.ps k)) := by rw [cell_of_row _ _ _ _ _ _ hsb]; rfl
                  have f1 : wr.cell? ⟨sb, 1, none⟩ = some (.int .i64 (E.pe k)) := by rw [cell_of_row _ _ _ _ _ _ hsb]; rfl
                  clear hown hbw hsb
                  by_cases c1 : a < E.pe k
                  · by_cases c2 : lo + ah ≤ a
                    · go_wp2
                      exact ⟨⟨k + 1, a, true, ac, by omega, by go_num, rfl, rfl, a0, a1, al, HUS, (fun h => by cases h), (fun _ => usR_stop hkE a0 asx c1 HBF.out (by rw [HLO.out]; omega)), HOWN.out, HBW.out⟩, by simp [intOf]; omega⟩
                    · have M2 := HM.out.keep HBW.out
                      have m0 := M2.st i hiD
                      have m1 := M2.b i hiD
                      clear M2
                      obtain ⟨d0, d1⟩ := div_bd a0 (show a ≤ 900 by omega) hg0
                      have hne : ¬ sg = 0 := by omega
                      have CZ := hideIt (fun W => zoff_any (a / sg + 1) sg sz HB.out (by omega) (by omega) W)
                      obtain ⟨bn, hbn⟩ : ∃ bn, offL sg sz (a / sg + 1) = bn := ⟨_, rfl⟩
                      rw [hbn] at CZ
                      have HBN : Hid (bndL sg sz a = bn) := hbn
                      have hbb := offL_bd HB.out (k := a / sg + 1) (by omega) (by omega)
                      rw [hbn] at hbb
                      clear hbn
                      go_wp2
                      go_quiet (first | (go_at_call 10; refine Calls.quiet_of_same (CZ.out _)))
                      obtain ⟨e, he⟩ : ∃ e, min (E.pe k) bn = e := ⟨_, rfl⟩
                      rw [he]
                      have HEU : Hid (unitE E sg sz k a = e) := by
                        show unitE E sg sz k a = e
                        rw [← he, unitE, HBN.out]
                        split <;> omega
                      have ub := unitE_bd HB.out HE.out hkE a0 c1
                      rw [HEU.out] at ub
                      obtain ⟨w2, hw2⟩ : ∃ w2, wr.drewN nq = w2 := ⟨_, rfl⟩
                      rw [hw2]
                      have n0 : w2.cell? ⟨b25, i * 10, none⟩ = some (.int .i64 (D.st i)) := by rw [← hw2]; exact m0
                      have n1 : w2.cell? ⟨b26, i, none⟩ = some (.int .i64 (D.b i)) := by rw [← hw2]; exact m1
                      have OW2 : Hid (w2.ownsRow w.heap.size 96 4 u39 (accI E D sg sz ah i ac).length (itsCells (accI E D sg sz ah i ac))) := by rw [← hw2]; exact HOWN.out
                      have BW2 : Hid (Below w.heap.size w w2) := by rw [← hw2]; exact ⟨HBW.out.os, HBW.out.tape, HBW.out.output, HBW.out.size, HBW.out.block⟩
                      have SB2 : Hid (w2.heap[sb]? = some (.cells #[.int .i64 (E.ps k), .int .i64 (E.pe k)] 29 (0, 0))) := by rw [← hw2]; exact HSB.out
                      clear hw2 m0 m1 f0 f1 HOWN HBW HSB CZ he hbb HBN
                      have ds0 := HD.out.s0 i hiD
                      have ds1 := HD.out.s1 i hiD
                      have db0 := HD.out.b0 i hiD
                      have db1 := HD.out.b1 i hiD
                      obtain ⟨md0, md1⟩ := mul_bd (k := a / sg - D.st i) (sg := sg) (by omega) (by omega) hg0 hg1
                      go_wp2
                      go_quiet (fail)
                      obtain ⟨w3, hw3⟩ : ∃ w3, w2.drewN nq = w3 := ⟨_, rfl⟩
                      rw [hw3]
                      have OW3 : Hid (w3.ownsRow w.heap.size 96 4 u39 (accI E D sg sz ah i ac).length (itsCells (accI E D sg sz ah i ac))) := by rw [← hw3]; exact OW2.out
                      have BW3 : Hid (Below w.heap.size w w3) := by rw [← hw3]; exact ⟨BW2.out.os, BW2.out.tape, BW2.out.output, BW2.out.size, BW2.out.block⟩
                      have SB3 : Hid (w3.heap[sb]? = some (.cells #[.int .i64 (E.ps k), .int .i64 (E.pe k)] 29 (0, 0))) := by rw [← hw3]; exact SB2.out
                      clear hw3 n0 n1 OW2 BW2 SB2
                      have AL := accI_len HB.out HUS.out (by omega) (fun j hj => HO0.out j (by omega))
                      have BS := BW3.out.size
                      obtain ⟨ia, hia, hz0a, hz1a, hz2a⟩ := info_parts Yba.info96
                      have HIa := hideIt hia
                      have HZ0a := hideIt hz0a
                      have HZ1a := hideIt hz1a
                      have HZ2a := hideIt hz2a
                      clear hia hz0a hz1a hz2a ds0 ds1 db0 db1 md0 md1
                      go_wp2_with (first
                        | (at_builtin; refine wpList_append_own _ rfl _ _ 93 rfl w.heap.size 96 ia (.agg #[.int .i64 0, .int .i64 0, .int .i64 0, .int .i64 0]) 4 32 Yba.underlying93 HIa.out HZ0a.out HZ1a.out HZ2a.out rfl (by decide) _ _ _ rfl (OW3.out.alloc _) ⟨w3.heap.size, 0, none⟩ 1 1 (itCells (itOf D sg (i, (a, e)))) rfl rfl ?apA ?apB ?apC ?apD ?apE ?_
                           case apA => exact newN _ _ _
                           case apB => (intro z hz; simp [itCells] at hz; rcases hz with rfl | rfl | rfl | rfl <;> rfl)
                           case apC => (unfold maxLen; omega)
                           case apD => omega
                           case apE => (simp; omega)
                           intro v' w4 own4 grow4 _
                           have X4 := hideIt own4
                           have G4 := hideIt grow4
                           clear own4 grow4))
                      have HU := HUS.out
                      rw [usR_go HB.out HE.out hkE a0 asx c1 HBF.out (by rw [HLO.out]; exact al) (by rw [HLO.out]; omega), HEU.out] at HU
                      have SBL := (Array.getElem?_eq_some_iff.1 SB3.out).1
                      have SB4 : w4.heap[sb]? = some (.cells #[.int .i64 (E.ps k), .int .i64 (E.pe k)] 29 (0, 0)) := by
                        rw [G4.out.block _ (by simp; omega) (some_ne_own OW3.out SB3.out (fun c e => by cases e)), Below.heap_alloc _ _ _ SBL]
                        exact SB3.out
                      refine ⟨⟨e, ac ++ [(a, e)], rfl, rfl, by omega, by omega, by omega, by omega, ub.2.1, (by show _ ++ _ = _; rw [List.append_assoc]; exact HU), (fun j hj => by have := HBF.out j hj; omega), ?_, (BW3.out.alloc BS _).grown G4.out (by simp; omega) (fun j hj => (OW3.out.lt j hj).1), SB4⟩, by simp [intOf]; omega⟩
                      rw [accI_snoc, List.length_append, itsCells_append, show itsCells [itOf D sg (i, (a, e))] = itCells (itOf D sg (i, (a, e))) by simp [itsCells]]
                      exact X4.out
                  · go_wp2
                    exact ⟨⟨k + 1, a, false, ac, by omega, by go_num, rfl, rfl, a0, a1, al, HUS, (fun _ j hj => by
                      by_cases e : j = k
                      · subst e; omega
                      · exact HBF.out j (by omega)), (fun h => by cases h), HOWN.out, HBW.out⟩, by simp [intOf]; omega⟩
        · obtain rfl : k = np := by omega
          go_wp2
          refine ⟨⟨i + 1, by omega, by go_num, ?_, HBW2.out⟩, by simp [intOf]; omega⟩
          have hend : usR E D sg sz ah i a = [] := by
            cases dn with
            | true => exact hdn.out (by trivial)
            | false => exact usR_end (fun j hj => hbf.out (by trivial) j (by have := ENP.out; omega))
          rw [← acc_all hus.out hend]
          exact HOWN2.out
    · obtain rfl : i = nv := by omega
      go_wp2
      exact HQ.out _ u39 _ ⟨rfl, rfl, rfl, rfl, rfl, rfl, rfl, rfl, rfl, rfl, rfl, rfl, rfl, rfl, rfl, rfl, rfl, rfl, rfl, rfl, rfl, rfl, rfl, rfl, rfl⟩ HBW.out HOWN.out
end Go.Proofs.Ybulkdsao
