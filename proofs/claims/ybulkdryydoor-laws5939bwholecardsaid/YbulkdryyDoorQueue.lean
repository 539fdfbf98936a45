/-
  The contract of (*lockQueue).conflicts (function 11).
-/
import Derived.Test.YbulkdryyDoorHold
namespace Go.Proofs.YbulkdryyDoor
open Go.ChangeShapes Go.WideShapes Go.ChangeAt Go.RowKit
set_option linter.unusedVariables false

/-- The row of holders in block G: of each the transaction's number and the mode. -/
def Grant (w : World) (T G : Nat) (hs : List (Nat × Nat)) : Prop :=
  ∀ k, k < hs.length → w.cell? ⟨G, k * 2, none⟩ = some (.pointer (pickP T (hs.getD k (0, 0)).1)) ∧ w.cell? ⟨G, k * 2 + 1, none⟩ = some (.int .u8 ((hs.getD k (0, 0)).2 : Nat))

theorem Grant.below {w w' : World} {T G : Nat} {hs : List (Nat × Nat)} (h : Grant w T G hs) (hb : Below w.heap.size w w') : Grant w' T G hs := fun k hk => by
  obtain ⟨h1, h2⟩ := h k hk
  have hlt := block_lt_of_cell h1
  rw [hb.cell (p := ⟨G, k * 2, none⟩) hlt, hb.cell (p := ⟨G, k * 2 + 1, none⟩) hlt]
  exact ⟨h1, h2⟩

/-- What the law says of the holders. -/
def anyConf (hs : List (Nat × Nat)) (j r : Nat) : Bool := hs.any fun x => confl x.1 j x.2 r

theorem anyConf_hit {hs : List (Nat × Nat)} {j r k : Nat} (hk : k < hs.length) (h : confl (hs.getD k (0, 0)).1 j (hs.getD k (0, 0)).2 r = true) : anyConf hs j r = true := by
  unfold anyConf
  rw [List.any_eq_true]
  refine ⟨hs[k], List.getElem_mem hk, ?_⟩
  simpa [List.getD_eq_getElem?_getD, List.getElem?_eq_getElem hk] using h
theorem anyConf_none {hs : List (Nat × Nat)} {j r : Nat} (h : ∀ k, k < hs.length → confl (hs.getD k (0, 0)).1 j (hs.getD k (0, 0)).2 r = false) : anyConf hs j r = false := by
  unfold anyConf
  rw [List.any_eq_false]
  intro x hx
  obtain ⟨k, hk, rfl⟩ := List.getElem_of_mem hx
  have := h k hk
  simpa [List.getD_eq_getElem?_getD, List.getElem?_eq_getElem hk] using this

set_option maxHeartbeats 800000 in
theorem qconf_any (Q T G j r n c : Nat) (hs : List (Nat × Nat)) (hok : ∀ k, k < hs.length → (hs.getD k (0, 0)).1 ≤ 4 ∧ (hs.getD k (0, 0)).2 < 7) (hn : hs.length = n) (hnm : n ≤ 1048576) (hj : j ≤ 4) (hr : r < 7) (w : World)
    {ca : Array Value} {ta : TypeId} (hT : w.heap[T]? = some (.cells ca ta (0, 0))) (ht : HasTab w) (hq : w.cell? ⟨Q, 3, none⟩ = some (.slice (some ⟨G, 0, none⟩) n c)) (hG : Grant w T G hs) :
    Calls Ybad.prog 11 #[.pointer (some ⟨Q, 0, none⟩), .pointer (pickP T j), .int .u8 r] w fun e w' => e = .returned (.bool (anyConf hs j r)) ∧ Below w.heap.size w w' := by
  have HOK := hideIt hok
  have HN := hideIt hn
  have HT := hideIt hT
  have HTab := hideIt ht
  have HG := hideIt hG
  clear hok hn hT ht hG
  generalize hpj : pickP T j = pj
  have HPJ := hideIt hpj
  clear hpj
  go_enter Ybad.func11, Ybad.ntmps11
  go_wp2
  go_loopw [14] (fun i wr => ∃ k : Nat, k ≤ n ∧ i = .int .i64 k ∧ (∀ m, m < k → confl (hs.getD m (0, 0)).1 j (hs.getD m (0, 0)).2 r = false) ∧ Below w.heap.size w wr) (fun i _ => n - (intOf i).toNat)
  case atStart => exact ⟨0, Nat.zero_le _, rfl, fun m hm => by omega, Below.refl _ _⟩
  case round =>
    obtain ⟨k, hk, rfl, hall, hb⟩ := hrel
    have HA := hideIt hall
    have HB := hideIt hb
    clear hall hb
    by_cases hlt : k < n
    · obtain ⟨c1, c2⟩ := (HG.out.below HB.out) k (by rw [HN.out]; exact hlt)
      obtain ⟨b1, b2⟩ := HOK.out k (by rw [HN.out]; exact hlt)
      have hsz := HB.out.size
      obtain ⟨i, hi⟩ : ∃ i, i = (hs.getD k (0, 0)).1 := ⟨_, rfl⟩
      obtain ⟨g, hg⟩ : ∃ g, g = (hs.getD k (0, 0)).2 := ⟨_, rfl⟩
      rw [← hi] at c1 b1
      rw [← hg] at c2 b2
      have HI := hideIt hi
      have HGG := hideIt hg
      clear hi hg
      have hGlt : G < wr.heap.size := block_lt_of_cell c1
      have hki : (k : Int) < (n : Int) := by omega
      have hTw : wr.heap[T]? = some (.cells ca ta (0, 0)) := by
        rw [HB.out.block T (lt_of_block HT.out)]; exact HT.out
      have hTlt := lt_of_block hTw
      have hc19 : ∀ o, Calls Ybad.prog 19 #[.agg #[.pointer (pickP T i), .int .u8 g], .pointer pj, .int .u8 r] (wr.alloc o) fun e w' => e = .returned (.bool (confl i j g r)) ∧ Below (wr.alloc o).heap.size (wr.alloc o) w' := fun o => by
        rw [← HPJ.out]
        exact hconf_any T i j g r b1 hj b2 hr (wr.alloc o) ((Below.heap_alloc wr o T hTlt).trans hTw) ((HTab.out.below HB.out).below ((Below.refl _ wr).alloc (Nat.le_refl _) o))
      obtain ⟨pi, hpi⟩ : ∃ pi, pickP T i = pi := ⟨_, rfl⟩
      rw [hpi] at c1 hc19
      clear hpi hTw hTlt
      have HC := hideIt hc19
      clear hc19
      cases hcf : confl i j g r with
      | true =>
        rw [hcf] at HC
        have hfin : anyConf hs j r = true := anyConf_hit (k := k) (by rw [HN.out]; exact hlt) (by rw [← HI.out, ← HGG.out]; exact hcf)
        have HF := hideIt hfin
        clear hfin hcf
        go_wp2_with fail
        refine (HC.out _).mono ?_
        rintro e w1 ⟨rfl, hb1⟩
        go_wp2_with fail
        go_ret
        exact ⟨ret_bool HF.out.symm, (HB.out.alloc hsz _).trans (hb1.mono (by simp; omega))⟩
      | false =>
        rw [hcf] at HC
        have hnew : ∀ m, m < k + 1 → confl (hs.getD m (0, 0)).1 j (hs.getD m (0, 0)).2 r = false := fun m hm => by
          by_cases hmk : m = k
          · rw [hmk, ← HI.out, ← HGG.out]; exact hcf
          · exact HA.out m (by omega)
        have HF := hideIt hnew
        clear hnew hcf
        go_wp2_with fail
        refine (HC.out _).mono ?_
        rintro e w1 ⟨rfl, hb1⟩
        go_wp2_with fail
        go_roundw
        case rel => exact ⟨k + 1, by omega, by go_num, HF.out, (HB.out.alloc hsz _).trans (hb1.mono (by simp; omega))⟩
        case measure => simp [intOf]; omega
    · go_wp2
      go_ret
      exact ⟨ret_bool (anyConf_none fun m hm => HA.out m (by have := HN.out; omega)).symm, HB.out⟩
end Go.Proofs.YbulkdryyDoor
