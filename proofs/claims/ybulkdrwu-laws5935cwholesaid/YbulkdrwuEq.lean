/-
  The contracts of (OID).Equal (function 7) and of the law's own model zzs5935ceq (function 6): each answers whether the two rows hold the same numbers.
-/
import Derived.Test.YbulkdrwuRows
import Derived.WalkKit
import Derived.ProofKit
import Derived.Below
import Derived.Deep.QuietTactic
import Derived.BigQuiet
namespace Go.Proofs.Ybulkdrwu
open Go.ChangeShapes Go.WideShapes Go.ChangeAt Go.RowKit
set_option linter.unusedVariables false

/-- What a walk is told of a slice of uint32: its elements are 'xs', and where there is one they lie in a row of cells. -/
def View (w : World) (a : Option Addr) (xs : List Int) : Prop :=
  xs.length ≤ maxLen ∧ (xs = [] ∨ ∃ b off, a = some ⟨b, off, none⟩ ∧ ∀ i, i < xs.length → w.cell? ⟨b, off + i, none⟩ = some (.int .u32 (xs.getD i 0)))

theorem View.drewN {w : World} {a : Option Addr} {xs : List Int} (h : View w a xs) (n : Nat) : View (w.drewN n) a xs := by
  obtain ⟨h1, h2⟩ := h
  refine ⟨h1, ?_⟩
  rcases h2 with h2 | ⟨b, off, h2, h3⟩
  · exact .inl h2
  · exact .inr ⟨b, off, h2, fun i hi => by simpa using h3 i hi⟩

def eqL (x y : List Int) : Bool := x == y

theorem eqL_comm (x y : List Int) : eqL x y = eqL y x := by
  unfold eqL; rw [Bool.eq_iff_iff]; simp only [beq_iff_eq]; exact eq_comm
theorem eqL_self (x : List Int) : eqL x x = true := by unfold eqL; simp
theorem eqL_len {x y : List Int} (h : x.length ≠ y.length) : eqL x y = false := by
  unfold eqL; rw [beq_eq_false_iff_ne]; intro e; exact h (by rw [e])
theorem eqL_miss {x y : List Int} {k : Nat} (h : x.getD k 0 ≠ y.getD k 0) : eqL x y = false := by
  unfold eqL; rw [beq_eq_false_iff_ne]; intro e; exact h (by rw [e])
theorem eqL_all {x y : List Int} (hl : x.length = y.length) (h : ∀ j, j < x.length → x.getD j 0 = y.getD j 0) : eqL x y = true := by
  unfold eqL; rw [beq_iff_eq]
  apply List.ext_getElem hl
  intro i h1 h2
  have := h i h1
  simpa [List.getD_eq_getElem?_getD, List.getElem?_eq_getElem h1, List.getElem?_eq_getElem h2] using this

theorem ret_bool {a b : Bool} (h : a = b) : Ending.returned (.bool a) = .returned (.bool b) := by rw [h]

set_option maxHeartbeats 800000 in
theorem equal_any (a b : Option Addr) (x y : List Int) (c d : Nat) (w : World) (hx : View w a x) (hy : View w b y) :
    Calls Yba.prog 7 #[.slice a x.length c, .slice b y.length d] w fun e w' => e = .returned (.bool (eqL x y)) ∧ ∃ n, w' = w.drewN n := by
  obtain ⟨hm, hx⟩ := hx
  obtain ⟨hm2, hy⟩ := hy
  unfold maxLen at hm hm2
  by_cases hl : x.length = y.length
  · by_cases h0 : x.length = 0
    · have hfin : eqL x y = true := eqL_all hl (fun j hj => by omega)
      rw [hfin, ← hl, h0]
      clear hx hy hfin
      go_enter Yba.func7, Yba.ntmps7
      go_wp2
      refine wp_loop_rounds 1 ?_
      rw [rounds_succ]
      go_wp2
      go_ret
      exact ⟨rfl, 0, rfl⟩
    · have hx' : ∃ b off, a = some ⟨b, off, none⟩ ∧ ∀ i, i < x.length → w.cell? ⟨b, off + i, none⟩ = some (.int .u32 (x.getD i 0)) := by
        rcases hx with hx | hx
        · exact absurd (by simp [hx]) h0
        · exact hx
      have hy' : ∃ b2 off, b = some ⟨b2, off, none⟩ ∧ ∀ i, i < y.length → w.cell? ⟨b2, off + i, none⟩ = some (.int .u32 (y.getD i 0)) := by
        rcases hy with hy | hy
        · exact absurd (by rw [hl]; simp [hy]) h0
        · exact hy
      obtain ⟨xb, xo, rfl, cx⟩ := hx'
      obtain ⟨yb, yo, rfl, cy⟩ := hy'
      clear hx hy
      rw [← hl]
      rw [← hl] at cy hm2
      obtain ⟨n, hn⟩ : ∃ n, n = x.length := ⟨_, rfl⟩
      rw [← hn] at cx cy hm hm2 h0 ⊢
      have HL : Hid (x.length = y.length) := hl
      have HN : Hid (n = x.length) := hn
      have CX : Hid (∀ i, i < n → w.cell? ⟨xb, xo + i, none⟩ = some (.int .u32 (x.getD i 0))) := cx
      have CY : Hid (∀ i, i < n → w.cell? ⟨yb, yo + i, none⟩ = some (.int .u32 (y.getD i 0))) := cy
      clear hl hn cx cy
      go_enter Yba.func7, Yba.ntmps7
      go_wp2
      go_loopw [13] (fun i wr => ∃ k m : Nat, k ≤ n ∧ i = .int .i64 k ∧ (∀ j, j < k → x.getD j 0 = y.getD j 0) ∧ wr = w.drewN m) (fun i _ => n - (intOf i).toNat)
      case atStart => exact ⟨0, 0, Nat.zero_le _, rfl, fun j hj => by omega, rfl⟩
      case round =>
        obtain ⟨k, m, hk, rfl, hall, rfl⟩ := hrel
        have HA : Hid (∀ j, j < k → x.getD j 0 = y.getD j 0) := hall
        clear hall
        by_cases hlt : k < n
        · obtain ⟨p, hp⟩ : ∃ p, p = x.getD k 0 := ⟨_, rfl⟩
          obtain ⟨q, hq⟩ : ∃ q, q = y.getD k 0 := ⟨_, rfl⟩
          have c1 := CX.out k hlt
          have c2 := CY.out k hlt
          rw [← hp] at c1
          rw [← hq] at c2
          have HP : Hid (p = x.getD k 0) := hp
          have HQ : Hid (q = y.getD k 0) := hq
          clear hp hq
          have hki : (k : Int) < (n : Int) := by omega
          by_cases hpq : p = q
          · have hb : (p != q) = false := by simp [hpq]
            have HPQ : Hid (p = q) := hpq
            clear hpq
            go_wp2
            go_quiet (fail)
            go_wp2
            go_roundw
            case rel => exact ⟨k + 1, _, by omega, by go_num, fun j hj => by
              by_cases hjk : j = k
              · rw [hjk, ← HP.out, ← HQ.out]; exact HPQ.out
              · exact HA.out j (by omega), rfl⟩
            case measure => simp [intOf]; omega
          · have hb : (p != q) = true := by simp [hpq]
            have hfin : Hid (eqL x y = false) := eqL_miss (k := k) (by rw [← HP.out, ← HQ.out]; exact hpq)
            clear hpq
            go_wp2
            go_quiet (fail)
            go_wp2
            go_ret
            exact ⟨ret_bool hfin.out.symm, _, World.drewN_drewN _ _ _⟩
        · go_wp2
          go_ret
          exact ⟨ret_bool (eqL_all HL.out (fun j hj => HA.out j (by have := HN.out; omega))).symm, _, rfl⟩
  · have hfin : eqL x y = false := eqL_len hl
    have hb : (((x.length : Int)) != (y.length : Int)) = true := by rw [bne_iff_ne]; omega
    rw [hfin]
    clear hx hy hfin hl
    go_enter Yba.func7, Yba.ntmps7
    go_wp2
    go_ret
    exact ⟨rfl, 0, rfl⟩
set_option maxHeartbeats 800000 in
theorem eq_any (a b : Option Addr) (x y : List Int) (c d : Nat) (w : World) (hx : View w a x) (hy : View w b y) :
    Calls Yba.prog 6 #[.slice a x.length c, .slice b y.length d] w fun e w' => e = .returned (.bool (eqL x y)) ∧ ∃ n, w' = w.drewN n := by
  obtain ⟨hm, hx⟩ := hx
  obtain ⟨hm2, hy⟩ := hy
  unfold maxLen at hm hm2
  by_cases hl : x.length = y.length
  · by_cases h0 : x.length = 0
    · have hfin : eqL x y = true := eqL_all hl (fun j hj => by omega)
      rw [hfin, ← hl, h0]
      clear hx hy hfin
      go_enter Yba.func6, Yba.ntmps6
      go_wp2
      refine wp_loop_rounds 1 ?_
      rw [rounds_succ]
      go_wp2
      go_ret
      exact ⟨rfl, 0, rfl⟩
    · have hx' : ∃ b off, a = some ⟨b, off, none⟩ ∧ ∀ i, i < x.length → w.cell? ⟨b, off + i, none⟩ = some (.int .u32 (x.getD i 0)) := by
        rcases hx with hx | hx
        · exact absurd (by simp [hx]) h0
        · exact hx
      have hy' : ∃ b2 off, b = some ⟨b2, off, none⟩ ∧ ∀ i, i < y.length → w.cell? ⟨b2, off + i, none⟩ = some (.int .u32 (y.getD i 0)) := by
        rcases hy with hy | hy
        · exact absurd (by rw [hl]; simp [hy]) h0
        · exact hy
      obtain ⟨xb, xo, rfl, cx⟩ := hx'
      obtain ⟨yb, yo, rfl, cy⟩ := hy'
      clear hx hy
      rw [← hl]
      rw [← hl] at cy hm2
      obtain ⟨n, hn⟩ : ∃ n, n = x.length := ⟨_, rfl⟩
      rw [← hn] at cx cy hm hm2 h0 ⊢
      have HL : Hid (x.length = y.length) := hl
      have HN : Hid (n = x.length) := hn
      have CX : Hid (∀ i, i < n → w.cell? ⟨xb, xo + i, none⟩ = some (.int .u32 (x.getD i 0))) := cx
      have CY : Hid (∀ i, i < n → w.cell? ⟨yb, yo + i, none⟩ = some (.int .u32 (y.getD i 0))) := cy
      clear hl hn cx cy
      go_enter Yba.func6, Yba.ntmps6
      go_wp2
      go_loopw [5] (fun i wr => ∃ k m : Nat, k ≤ n ∧ i = .int .i64 ((n : Int) - 1 - (k : Int)) ∧ (∀ j, n - k ≤ j → j < n → x.getD j 0 = y.getD j 0) ∧ wr = w.drewN m) (fun i _ => (intOf i + 1).toNat)
      case atStart => exact ⟨0, 0, Nat.zero_le _, by go_num, fun j hj hj2 => by omega, rfl⟩
      case round =>
        obtain ⟨k, m, hk, rfl, hall, rfl⟩ := hrel
        have HA : Hid (∀ j, n - k ≤ j → j < n → x.getD j 0 = y.getD j 0) := hall
        clear hall
        by_cases hlt : k < n
        · obtain ⟨i, hi⟩ : ∃ i, i = n - 1 - k := ⟨_, rfl⟩
          have hii : (n : Int) - 1 - (k : Int) = (i : Int) := by omega
          have hin : i < n := by omega
          have hik : i + k + 1 ≤ n := by omega
          have HIK : Hid (i + k + 1 = n) := by have := hi; exact (by omega : i + k + 1 = n)
          rw [hii]
          clear hi hii
          obtain ⟨p, hp⟩ : ∃ p, p = x.getD i 0 := ⟨_, rfl⟩
          obtain ⟨q, hq⟩ : ∃ q, q = y.getD i 0 := ⟨_, rfl⟩
          have c1 := CX.out i hin
          have c2 := CY.out i hin
          rw [← hp] at c1
          rw [← hq] at c2
          have HP : Hid (p = x.getD i 0) := hp
          have HQ : Hid (q = y.getD i 0) := hq
          clear hp hq
          have hki : (i : Int) < (n : Int) := by omega
          have hki0 : (0 : Int) ≤ (i : Int) := by omega
          by_cases hpq : p = q
          · have hb : (p != q) = false := by simp [hpq]
            have HPQ : Hid (p = q) := hpq
            clear hpq
            go_wp2
            go_quiet (fail)
            go_wp2
            go_roundw
            case rel => exact ⟨k + 1, _, by omega, by have := HIK.out; congr 1; omega, fun j hj hj2 => by
              have := HIK.out
              by_cases hjk : j = i
              · rw [hjk, ← HP.out, ← HQ.out]; exact HPQ.out
              · exact HA.out j (by omega) hj2, rfl⟩
            case measure => simp [intOf]
          · have hb : (p != q) = true := by simp [hpq]
            have hfin : Hid (eqL x y = false) := eqL_miss (k := i) (by rw [← HP.out, ← HQ.out]; exact hpq)
            clear hpq
            go_wp2
            go_quiet (fail)
            go_wp2
            go_ret
            exact ⟨ret_bool hfin.out.symm, _, World.drewN_drewN _ _ _⟩
        · go_wp2
          go_ret
          exact ⟨ret_bool (eqL_all HL.out (fun j hj => HA.out j (by have := HN.out; omega) (by have := HN.out; omega))).symm, _, rfl⟩
  · have hfin : eqL x y = false := eqL_len hl
    have hb : (((x.length : Int)) != (y.length : Int)) = true := by rw [bne_iff_ne]; omega
    rw [hfin]
    clear hx hy hfin hl
    go_enter Yba.func6, Yba.ntmps6
    go_wp2
    go_ret
    exact ⟨rfl, 0, rfl⟩
end Go.Proofs.Ybulkdrwu
