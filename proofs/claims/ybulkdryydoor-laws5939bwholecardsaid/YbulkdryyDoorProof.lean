/-
  The proof of 'Rows.LawS5939BWholeSaid' and of its tied card 'Rows.LawS5939BWholeCardSaid'.
-/
import Derived.Test.YbulkdryyDoorLaw
import Derived.Test.YbulkdryyDoorTie
import Derived.Test.YbulkdryyDoorCards
import Derived.LaidMore
import Derived.OpenShut
import Derived.Stop.Joined
import Derived.Deep.SlicePairs
import Derived.SevenTiedAt
namespace Go.Proofs.YbulkdryyDoor
open Go.ChangeShapes Go.WideShapes Go.ChangeAt Go.RowKit Go.Deep
set_option linter.unusedVariables false

theorem own : ownKnob Ybad.prog.godebug = none := by kernel_rfl
theorem laidOut : laidOutB Ybad.prog = true := by kernel_rfl
theorem gTab : Ybad.prog.globalNamed "example.com/latchwork/latchwork.compatibility" = some 0 := by kernel_rfl
theorem tTab : (Ybad.prog.globals[0]?).map (·.type) = some 89 := by kernel_rfl
theorem cells88 : Ybad.prog.cellsOf 88 = 7 := by kernel_rfl
theorem cells4 : Ybad.prog.cellsOf 4 = 1 := by kernel_rfl
theorem cells89 : Ybad.prog.cellsOf 89 = 49 := by kernel_rfl

theorem walk_big (a0 : Option Addr) (n c : Nat) (self mode : Int) (w : World) (hn : ¬ n ≤ 1048576) (hm : n ≤ maxLen) :
    Calls Ybad.prog 4 #[.slice a0 n c, .int .u8 self, .int .u8 mode] w fun e w' => e = .returned (.bool true) ∧ Below w.heap.size w w' := by
  unfold maxLen at hm
  have hni : (1048576 : Int) < (n : Int) := by omega
  go_enter Ybad.func4, Ybad.ntmps4
  go_wp2
  go_ret
  exact ⟨rfl, Below.refl _ _⟩

/-- The row's list. -/
theorem door_met (os : Os) (args : Array Value) : laidMetH Ybad.prog Rows.lawS5939BWholeRow.laid ((World.doorLaid Ybad.prog 46 os).forCall (fun _ _ => 0) ⟨#[], args, []⟩).memory :=
  laidMetH_of_parts3 (fuel := 8) (laidMet_of_run' 8 (by kernel_rfl) (by kernel_rfl)) (by kernel_rfl) (by kernel_rfl)

theorem tab_row (r : Nat) (hr : r < 7) (l : List (DataW Unit)) (h : (match (Rows.laid_example_com_latchwork_latchwork_compatibility : DataW Unit) with | .agg rs => rs | _ => [])[r]? = some (.agg l)) : ∀ g, g < 7 → l[g]? = some (.lit (.bool (tabAt r g))) := by
  rcases (show r = 0 ∨ r = 1 ∨ r = 2 ∨ r = 3 ∨ r = 4 ∨ r = 5 ∨ r = 6 by omega) with rfl | rfl | rfl | rfl | rfl | rfl | rfl <;>
  · simp [Rows.laid_example_com_latchwork_latchwork_compatibility] at h
    subst h
    intro g hg
    rcases (show g = 0 ∨ g = 1 ∨ g = 2 ∨ g = 3 ∨ g = 4 ∨ g = 5 ∨ g = 6 by omega) with rfl | rfl | rfl | rfl | rfl | rfl | rfl <;> rfl

/-- WHAT THE CONDITION GIVES THE WALK: the table's cells. -/
theorem of_laid {W : World} (h : laidMetH Ybad.prog Rows.lawS5939BWholeRow.laid W) : HasTab W := by
  rw [MakeChecks.laidMetH_plain _ _ _ (by kernel_rfl)] at h
  obtain ⟨ps, ⟨g0, t0, cs0, f0, p0, q0, hg0, ht0, hv0, hd0, _, _⟩, _, _⟩ := h
  obtain rfl := Option.some.inj (gTab.symm.trans hg0)
  obtain rfl := Option.some.inj (tTab.symm.trans ht0)
  obtain ⟨xs, m1, rfl, hx1, hlen, hn7, hel⟩ := DataW.trod_array Ybad.underlying89 hd0
  simp only [Prod.mk.injEq] at hx1
  intro r g hr hg
  have hr' := hel r hr
  rw [cells88] at hr'
  have hxr : r < xs.length := by omega
  rw [List.getElem?_eq_getElem hxr] at hr'
  obtain ⟨ys, m2, _, hy1, _, hy7, hey⟩ := DataW.trod_array Ybad.underlying88 hr'
  have hg' := hey g hg
  rw [cells4] at hg'
  have hyg : g < ys.length := by omega
  rw [List.getElem?_eq_getElem hyg] at hg'
  obtain ⟨b, hb1, hb2⟩ := DataW.trod_bool Ybad.underlying4 hg'
  have hrow := tab_row r hr (ys.map (·.1)) (by
    rw [hx1.1]
    simp only [List.getElem?_map, List.getElem?_eq_getElem hxr, Option.map_some]
    rw [hy1]) g hg
  simp only [List.getElem?_map, List.getElem?_eq_getElem hyg, Option.map_some, hb2, Option.some.injEq, DataW.lit.injEq, Lit.bool.injEq] at hrow
  subst hrow
  have hc := World.var?_cell hg0 hv0 (r * 7 + g)
  rw [hc]
  have hz : (((cs0.toList.drop (r * 7)).take 7).drop (g * 1)).take 1 = [.bool (tabAt r g)] := hb1
  have := congrArg (fun l => l[0]?) hz
  simp [hg] at this
  simpa using this

theorem open_pairs {H : Type} {enc : TypeId × Value → H} {W : World} {a0 : Option Addr} {len cap : Nat} {d : DataW H} {p : List MemPlace} (h : DataW.Trod enc Ybad.prog W 0 (fun _ => true) true 39 (.slice a0 len cap) d p) :
    ∃ (b off : Nat) (tx md : Nat → Int), len ≤ maxLen ∧ (0 < len → a0 = some ⟨b, off, none⟩) ∧ (∀ k, k < len → 0 ≤ tx k ∧ tx k ≤ 255 ∧ 0 ≤ md k ∧ md k ≤ 255) ∧
      ∀ k, k < len → W.cell? ⟨b, off + k * 2, none⟩ = some (.int .u8 (tx k)) ∧ W.cell? ⟨b, off + k * 2 + 1, none⟩ = some (.int .u8 (md k)) := by
  obtain ⟨fuel, hf⟩ := h
  rcases open_slice_pairs Ybad.underlying39 Ybad.underlying56 (by kernel_rfl) rfl rfl (by kernel_rfl) (by kernel_rfl) hf with ⟨hcs, _⟩ | ⟨a, len', cap', m, n, V0, V1, D0, D1, P0, P1, hcs, _, hl, hm, hmm, _, hx⟩
  · simp [Value.cells] at hcs
    obtain ⟨rfl, rfl, rfl⟩ := hcs
    exact ⟨0, 0, fun _ => 0, fun _ => 0, by simp, fun h => by omega, fun k hk => by omega, fun k hk => by omega⟩
  · simp [Value.cells] at hcs
    obtain ⟨rfl, rfl, rfl⟩ := hcs
    simp only [if_true] at hmm
    subst hmm
    by_cases h0 : len = 0
    · exact ⟨0, 0, fun _ => 0, fun _ => 0, by omega, fun h => by omega, fun k hk => by omega, fun k hk => by omega⟩
    obtain ⟨b, off, spot⟩ := a
    have hspot : spot = none := by simpa [Addr.add] using World.cell?_spot (hx 0 (by omega)).1
    subst hspot
    have each : ∀ i, i < len → ∃ z : Int × Int, (0 ≤ z.1 ∧ z.1 ≤ 255 ∧ 0 ≤ z.2 ∧ z.2 ≤ 255) ∧ W.cell? ⟨b, off + i * 2, none⟩ = some (.int .u8 z.1) ∧ W.cell? ⟨b, off + i * 2 + 1, none⟩ = some (.int .u8 z.2) := by
      intro i hi
      obtain ⟨e1, e2, e3, e4⟩ := hx i (by omega)
      obtain ⟨x, x1, x2, x3⟩ := DataW.trod_int Ybad.underlying5 e3
      obtain ⟨y, y1, y2, y3⟩ := DataW.trod_int Ybad.underlying5 e4
      simp at x1 y1
      have bx := bounds_u8 x3
      have by' := bounds_u8 y3
      rw [add_plain] at e1 e2
      exact ⟨(x, y), ⟨bx.1, bx.2, by'.1, by'.2⟩, by rw [e1, x1], by rw [Nat.add_assoc, e2, y1]⟩
    obtain ⟨f, hf'⟩ := choose_lt each
    exact ⟨b, off, fun i => (f i).1, fun i => (f i).2, by omega, fun _ => rfl, fun k hk => (hf' k hk).1, fun k hk => (hf' k hk).2⟩

theorem walk (a0 : Option Addr) (len cap : Nat) (a1 a2 : Int) (H : Type) (enc : TypeId × Value → H) (d : DataW H) (p : List MemPlace) (W : World) (h : DataW.Trod enc Ybad.prog W 0 (fun _ => true) true 39 (.slice a0 len cap) d p)
    (w1 : (Lit.int .u8 a1).wf = true) (w2 : (Lit.int .u8 a2).wf = true) (ht : HasTab W) :
    Calls Ybad.prog 4 #[.slice a0 len cap, .int .u8 a1, .int .u8 a2] W fun e w' => e = .returned (.bool true) ∧ Below W.heap.size W w' := by
  obtain ⟨b, off, tx, md, hm, ha, hb, hc⟩ := open_pairs h
  by_cases hn : len ≤ 1048576
  · have b1 := bounds_u8 w1
    have b2 := bounds_u8 w2
    exact walk_row a0 b off len cap tx md a1 a2 W hn ha b1.1 b1.2 b2.1 b2.2 hb hc ht
  · exact walk_big a0 len cap a1 a2 W hn hm

set_option maxRecDepth 100000 in
theorem lifted (os : Os) (started : os.Started) (H : Type) (enc : TypeId × Value → H) :
    ReturnsInHanded {} Ybad.checked os 4 .any (fun w args => (Rows.lawS5939BWholeSpec.pre enc Ybad.prog Ybad.f4 [] false w args ∧ laidMetH Ybad.prog Rows.lawS5939BWholeRow.laid w) ∧ sizedMet enc Ybad.prog Ybad.f4 (OpenSpec.ofChange Rows.lawS5939BWholeSpec) false w args)
      (Rows.lawS5939BWholeSpec.post enc Ybad.prog Ybad.f4 false true false false) := by
  refine returnsInHanded_of_change_and (C := Ybad.checked) (X := fun w _ => laidMetH Ybad.prog Rows.lawS5939BWholeRow.laid w) (fun _ _ _ hh h => h.of_heap hh) own started (by kernel_rfl) Ybad.func4
    (ChangeSpec.witness_shaped (enc := enc) (C := Ybad.checked) (os := os) (X := fun w _ => laidMetH Ybad.prog Rows.lawS5939BWholeRow.laid w) false (World.doorLaid Ybad.prog 46 os) #[.slice none 0 0, .int .u8 0, .int .u8 0] 8 rfl (World.shaped_of_RefB (by kernel_rfl) (by kernel_rfl)) (by kernel_rfl) (by kernel_rfl) (by kernel_rfl) (door_met os _)) ?_
  intro W base args ds gs before hval0 hW _ _ hL _
  have hval : ∀ (j : Nat) t v, Ybad.f4.params[j]? = some t → args[j]? = some v → Value.okWide Ybad.prog W .any base t v := hval0
  have hW' := hW
  obtain ⟨p, q, hA0, hV, rfl, hfz, hnd⟩ := hW
  have hA : DataW.TrodAll enc Ybad.prog W 0 (fun _ => true) true Ybad.f4.params.toList args.toList ds p := hA0
  rw [Ybad.params4] at hA hval
  obtain ⟨v0, v1, v2, d0, d1, d2, p0, p1, p2, rfl, rfl, rfl, h0, h1, h2⟩ := trodAll_three hA
  obtain ⟨g, t, cs, fv, dv, pv, rfl, hg, htv, hv, htr, rfl⟩ := trodVars_one hV
  obtain rfl := Option.some.inj (gTab.symm.trans hg)
  obtain rfl := Option.some.inj (tTab.symm.trans htv)
  obtain ⟨a0, len, cap, rfl⟩ := okWide_slice Ybad.underlying39 (hval 0 39 v0 rfl rfl)
  have k0 := h0
  have lt0 : ∀ x ∈ p0, x.block < W.heap.size := by obtain ⟨m, hm⟩ := k0; exact DataW.trod_lt m _ _ _ hm
  obtain ⟨a1, rfl, rfl, rfl, w1⟩ := open_int Ybad.underlying5 (hval 1 5 v1 rfl rfl) h1
  obtain ⟨a2, rfl, rfl, rfl, w2⟩ := open_int Ybad.underlying5 (hval 2 5 v2 rfl rfl) h2
  have ht := of_laid hL
  clear hA0 hval0
  refine (walk a0 len cap a1 a2 H enc d0 p0 W h0 w1 w2 ht).mono fun e W' ⟨he, bel⟩ => ?_
  subst he
  have kv : DataW.Trod enc Ybad.prog W 0 (fun _ => true) true 89 (.agg cs) dv pv := ⟨fv, htr⟩
  have ltv : ∀ x ∈ pv, x.block < W.heap.size := DataW.trod_lt fv _ _ _ htr
  obtain ⟨fv', htr'⟩ := Below.trod laidOut (by kernel_rfl) (of_decide_eq_true (by kernel_rfl)) kv bel ltv
  exact ⟨_, rfl, _, _, _, [], _, _, hW', trodAll_mk1 (shut_bool Ybad.underlying4 _),
    (trodAll_cons_mk (Below.trod laidOut (by kernel_rfl) (of_decide_eq_true (by kernel_rfl)) k0 bel lt0) (trodAll_cons_mk (shut_int Ybad.underlying5 w1) (trodAll_cons_mk (shut_int Ybad.underlying5 w2) trodAll_mk0))),
    trodVars_mk1 gTab tTab (var?_below bel gTab ht.lt hv) htr', bel.frame _, fun h => by cases h⟩

theorem lawS5939BWhole_holds : Rows.LawS5939BWholeSaid :=
  OpenClaim.holds_of_wide 4 Ybad.f4 rfl rfl rfl rfl rfl rfl rfl ⟨rfl, rfl, rfl, rfl, rfl⟩ rfl rfl rfl rfl rfl (by kernel_rfl) Ybad.func4 (by kernel_rfl)
    (of_decide_eq_true (by kernel_rfl)) (by unfold Func.isWrapper; first | (rw [if_pos (by decide +kernel)]; kernel_rfl) | (rw [if_neg (by decide +kernel)]; exact ⟨rfl, rfl⟩))
    (fun os started H enc _ => lifted os started H enc)
end Go.Proofs.YbulkdryyDoor
