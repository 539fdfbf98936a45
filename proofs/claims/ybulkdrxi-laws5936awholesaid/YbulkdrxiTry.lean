/-
  The contract of (*Mutex).TryLock (function 7) in the run of one goroutine, and the plain arithmetic of its masks.
-/
import Derived.Test.YbulkdrxiAtomic
import Derived.Laws.DeepBits32
namespace Go.Proofs.Ybulkdrxi
open Go.ChangeShapes Go.WideShapes Go.ChangeAt Go.RowKit
set_option linter.unusedVariables false

theorem and5 (x : Nat) : x &&& 5 = x % 2 + 4 * (x / 4 % 2) := by
  have h1 : (x &&& 5) % 2 ^ 3 = x % 2 ^ 3 &&& 5 % 2 ^ 3 := Nat.and_mod_two_pow
  have h2 : x &&& 5 ≤ 5 := Nat.and_le_right
  have h3 : (x &&& 5) % 2 ^ 3 = x &&& 5 := Nat.mod_eq_of_lt (by omega)
  have h4 : ∀ r, r < 8 → r &&& 5 = r % 2 + 4 * (r / 4 % 2) := by decide
  rw [← h3, h1]
  have h5 := h4 (x % 8) (by omega)
  simp only [show (2 : Nat) ^ 3 = 8 by decide, show 5 % 8 = 5 by decide]
  rw [h5]
  omega

theorem wrap_u32_small (n : Int) (h0 : 0 ≤ n) (h1 : n < 4294967296) : IntKind.u32.wrap n = n := by
  simp [IntKind.wrap, IntKind.bits, IntKind.signed]
  omega

theorem bits_and5 (x : Int) (h0 : 0 ≤ x) (h1 : x ≤ 4294967295) : bits .and .u32 x 5 = x % 2 + 4 * (x / 4 % 2) := by
  obtain ⟨n, rfl⟩ := Int.eq_ofNat_of_zero_le h0
  show IntKind.u32.wrap ((BitVec.ofInt 32 (n : Int) &&& BitVec.ofInt 32 5).toNat : Int) = _
  have h5 : (BitVec.ofInt 32 5).toNat = 5 := by decide
  rw [BitVec.toNat_and, ofInt_u32 n (by omega), h5, and5]
  rw [wrap_u32_small _ (by omega) (by omega)]
  omega

theorem bits_or1 (x : Int) (h0 : 0 ≤ x) (h1 : x ≤ 4294967295) (he : x % 2 = 0) : bits .or .u32 x 1 = x + 1 := by
  obtain ⟨n, rfl⟩ := Int.eq_ofNat_of_zero_le h0
  show IntKind.u32.wrap ((BitVec.ofInt 32 (n : Int) ||| BitVec.ofInt 32 1).toNat : Int) = _
  have h5 : (BitVec.ofInt 32 1).toNat = 1 := by decide
  rw [BitVec.toNat_or, ofInt_u32 n (by omega), h5, or_bit n 1 (by omega) (by omega)]
  rw [wrap_u32_small _ (by omega) (by omega)]
  omega

theorem cas_hit (b off : Nat) (x y : Int) (w : World) (hc : w.cell? ⟨b, off, none⟩ = some (.int .u32 x)) (hz : w.frozen? ⟨b, off, none⟩ = false) :
    Calls Yba.prog 15 #[.pointer (some ⟨b, off, none⟩), .int .u32 x, .int .u32 y] w fun e w' => e = .returned (.bool true) ∧ w' = w.setCell ⟨b, off, none⟩ (.int .u32 y) := by
  have hl := run_call_cas_hit (P := Yba.prog) Yba.func20 (by kernel_rfl) (by kernel_rfl) (by kernel_rfl) .u32 (by kernel_rfl) (y := y) hc hz
  go_enter Yba.func15, Yba.ntmps15
  go_wp2
  go_ret
  exact ⟨rfl, rfl⟩

/-- The word has the locked or the starving bit: TryLock fails and turns nothing. -/
theorem try_no (b : Nat) (x : Int) (w : World) (hc : w.cell? ⟨b, 0, none⟩ = some (.int .u32 x)) (hx0 : 0 ≤ x) (hx1 : x ≤ 4294967295) (hno : ¬ (x % 2 = 0 ∧ x / 4 % 2 = 0)) :
    Calls Yba.prog 7 #[.pointer (some ⟨b, 0, none⟩)] w fun e w' => e = .returned (.bool false) ∧ w' = w := by
  have hb : (bits .and .u32 x 5 != 0) = true := by rw [bits_and5 x hx0 hx1, bne_iff_ne]; omega
  clear hno
  go_enter Yba.func7, Yba.ntmps7
  go_wp2_with (go_at_call 8; refine (load_any b 0 x _ hc).mono ?_; rintro e w' ⟨rfl, rfl⟩)
  refine wp_loop_rounds 1 ?_
  rw [rounds_succ]
  go_wp2_with fail
  go_ret
  exact ⟨rfl, rfl⟩

/-- The word has neither: TryLock succeeds; the locked bit is set. -/
theorem try_yes (b : Nat) (x : Int) (w : World) (hc : w.cell? ⟨b, 0, none⟩ = some (.int .u32 x)) (hz : w.frozen? ⟨b, 0, none⟩ = false) (hx0 : 0 ≤ x) (hx1 : x ≤ 4294967295) (hyes : x % 2 = 0 ∧ x / 4 % 2 = 0) :
    Calls Yba.prog 7 #[.pointer (some ⟨b, 0, none⟩)] w fun e w' => e = .returned (.bool true) ∧ w' = w.setCell ⟨b, 0, none⟩ (.int .u32 (x + 1)) := by
  have hb : (bits .and .u32 x 5 != 0) = false := by rw [bits_and5 x hx0 hx1, bne_eq_false_iff_eq]; omega
  have hb2 : bits .or .u32 x 1 = x + 1 := bits_or1 x hx0 hx1 hyes.1
  clear hyes
  go_enter Yba.func7, Yba.ntmps7
  go_wp2_with (go_at_call 8; refine (load_any b 0 x _ hc).mono ?_; rintro e w' ⟨rfl, rfl⟩)
  refine wp_loop_rounds 1 ?_
  rw [rounds_succ]
  go_wp2_with fail
  refine (cas_hit b 0 x _ _ hc hz).mono ?_
  rintro e w2 ⟨rfl, rfl⟩
  go_wp2_with fail
  go_ret
  exact ⟨rfl, rfl⟩
end Go.Proofs.Ybulkdrxi
