/-
  The contracts of zzs5939bpick (function 9) and (holder).conflicts (function 19).
-/
import Derived.Test.YbulkdryyDoorMode
import Derived.LaidEqlPtr
namespace Go.Proofs.YbulkdryyDoor
open Go.ChangeShapes Go.WideShapes Go.ChangeAt Go.RowKit
set_option linter.unusedVariables false

theorem hideIt {p : Prop} (h : p) : Hid p := h

/-- The transaction that number j picks: one of the four in block T, or nil. -/
def pickP (T j : Nat) : Option Addr := if j = 4 then none else some ⟨T, j * 9, none⟩

theorem pick_any (T : Nat) (k : Int) (h0 : 0 ≤ k) (h1 : k ≤ 255) (w : World) :
    Calls Ybad.prog 9 #[.pointer (some ⟨T, 0, none⟩), .int .u8 k] w fun e w' => e = .returned (.pointer (pickP T (k % 5).toNat)) ∧ w' = w := by
  by_cases h4 : k % 5 = 4
  · have e : pickP T (k % 5).toNat = none := by rw [h4]; rfl
    rw [e]
    have hb : (k % 5 == 4) = true := by simp [h4]
    clear e h4
    go_enter Ybad.func9, Ybad.ntmps9
    go_wp2
    go_ret
    exact ⟨rfl, rfl⟩
  · have e : pickP T (k % 5).toNat = some ⟨T, (k % 5).toNat * 9, none⟩ := by unfold pickP; rw [if_neg (by omega)]
    rw [e]
    have hb : (k % 5 == 4) = false := by simp [h4]
    have hlt : k % 5 < 4 := by omega
    have hge : 0 ≤ k % 5 := by omega
    clear e h4
    go_enter Ybad.func9, Ybad.ntmps9
    go_wp2
    go_ret
    exact ⟨rfl, rfl⟩

theorem Ybad.info49 : ∃ j, Ybad.prog.info? 49 = some j ∧ j.size ≠ 0 := by
  have h : (Ybad.prog.info? 49).map (·.size) = some 9 := by kernel_rfl
  cases hj : Ybad.prog.info? 49 with
  | none => rw [hj] at h; cases h
  | some j => rw [hj] at h; simp at h; exact ⟨j, rfl, by omega⟩

/-- '==' between two picked transactions, in a world where their block lies: as their numbers are. -/
theorem run_equalIn_pick (T i j : Nat) (hi : i ≤ 4) (hj : j ≤ 4) (w : World) {ca : Array Value} {ta : TypeId} (hT : w.heap[T]? = some (.cells ca ta (0, 0))) (d : Nat) :
    (Op.equalIn (d + 1) 52 (.pointer (pickP T i)) (.pointer (pickP T j))).run Ybad.prog w = .ok (i == j) w := by
  obtain ⟨jn, hjn, hsz⟩ := Ybad.info49
  by_cases h4 : i = 4
  · by_cases g4 : j = 4
    · subst h4 g4
      simp [pickP, Op.equalIn, run_underlying Ybad.underlying52]
    · have e : (i == j) = false := by simp; omega
      rw [e]
      simp [pickP, h4, g4, Op.equalIn, run_underlying Ybad.underlying52]
  · by_cases g4 : j = 4
    · have e : (i == j) = false := by simp; omega
      rw [e]
      simp [pickP, h4, g4, Op.equalIn, run_underlying Ybad.underlying52]
    · by_cases hij : i = j
      · subst hij
        simp [pickP, h4, Op.equalIn, run_underlying Ybad.underlying52, sizeOf, typeInfo, hjn, run_sameAddr_same]
      · have e : (i == j) = false := by simp [hij]
        have hne : (⟨T, i * 9, none⟩ : Addr) ≠ ⟨T, j * 9, none⟩ := by intro h; injection h with h1 h2; omega
        rw [e]
        simp [pickP, h4, g4, Op.equalIn, run_underlying Ybad.underlying52, sizeOf, typeInfo, hjn, hsz, run_sameAddr_other w hne hT hT]

theorem run_neq_pick (T i j : Nat) (hi : i ≤ 4) (hj : j ≤ 4) (w : World) {ca : Array Value} {ta : TypeId} (hT : w.heap[T]? = some (.cells ca ta (0, 0))) :
    (binOp .neq 52 (.pointer (pickP T i)) (.pointer (pickP T j))).run Ybad.prog w = .ok (.bool (!(i == j))) w := by
  simp only [binOp]
  simp [Op.equal, Op.maxDepth, run_equalIn_pick T i j hi hj w hT 9999]

/-- (holder).conflicts: another transaction's lock, in a mode that does not go with the mode asked for. -/
def confl (i j g r : Nat) : Bool := !(i == j) && !tabAt r g

theorem HasTab.lt {w : World} (h : HasTab w) : 0 < w.heap.size := block_lt_of_cell (h 0 0 (by omega) (by omega))
theorem HasTab.below {w w' : World} (h : HasTab w) (hb : Below w.heap.size w w') : HasTab w' := fun r g hr hg => by
  rw [hb.cell (p := ⟨0, r * 7 + g, none⟩) h.lt]; exact h r g hr hg

set_option maxHeartbeats 400000 in
theorem hconf_any (T i j g r : Nat) (hi : i ≤ 4) (hj : j ≤ 4) (hg : g < 7) (hr : r < 7) (w : World) {ca : Array Value} {ta : TypeId} (hT : w.heap[T]? = some (.cells ca ta (0, 0))) (ht : HasTab w) :
    Calls Ybad.prog 19 #[.agg #[.pointer (pickP T i), .int .u8 g], .pointer (pickP T j), .int .u8 r] w fun e w' => e = .returned (.bool (confl i j g r)) ∧ Below w.heap.size w w' := by
  have hTlt : T < w.heap.size := lt_of_block hT
  have hN := fun o => run_neq_pick T i j hi hj (w.alloc o) ((Below.heap_alloc w o T hTlt).trans hT)
  have HT := hideIt (fun o => compatible_any r g hr hg (w.alloc o) (ht.below ((Below.refl _ w).alloc (Nat.le_refl _) o)))
  clear ht hT
  unfold confl
  generalize tabAt r g = t at HT ⊢
  generalize pickP T i = p at hN ⊢
  generalize pickP T j = q at hN ⊢
  cases hij : (i == j) with
  | true =>
    have hn : (!(i == j)) = false := by simp [hij]
    rw [hn] at hN
    clear hij hn
    go_enter Ybad.func19, Ybad.ntmps19
    go_wp2_with fail
    go_ret
    exact ⟨rfl, (Below.refl _ _).alloc (Nat.le_refl _) _⟩
  | false =>
    have hn : (!(i == j)) = true := by simp [hij]
    rw [hn] at hN
    clear hij hn
    go_enter Ybad.func19, Ybad.ntmps19
    go_wp2_with fail
    refine (HT.out _).mono ?_
    rintro e w1 ⟨rfl, rfl⟩
    go_wp2_with fail
    go_ret
    exact ⟨rfl, (Below.refl _ _).alloc (Nat.le_refl _) _⟩
end Go.Proofs.YbulkdryyDoor
