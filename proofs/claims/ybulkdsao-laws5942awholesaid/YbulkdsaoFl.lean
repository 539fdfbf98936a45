/-
  The contracts of begins (44), ByteRate (45), Duration.Seconds (43): floats at small whole numbers.
-/
import Derived.Test.YbulkdsaoOff
import Derived.Test.YbulkdsaoIeee
namespace Go.Proofs.Ybulkdsao
open Go.ChangeShapes Go.WideShapes Go.ChangeAt Go.RowKit
set_option linter.unusedVariables false

theorem conv_fw (n : Int) : floatOfInt .f64 n = fw n := rfl

theorem begins_any (j sg : Int) (hj0 : -1000 ≤ j) (hj1 : j ≤ 1000) (hg0 : 1 ≤ sg) (hg1 : sg ≤ 16) (w : World) :
    Calls Yba.prog 44 #[.int .i64 j, .int .i64 sg, .float .f64 (fw 1)] w fun e w' => e = .returned (.float .f64 (fw (j * sg))) ∧ w' = w := by
  obtain ⟨m0, m1⟩ := mul_bd hj0 hj1 hg0 hg1
  have h1 := fun (w : World) => run_float_arith (P := Yba.prog) w .mul 32 .f64 _ _ _ (fw_mul j sg (by omega) (by omega) (by omega) (by omega))
  have h2 := fun (w : World) => run_float_arith (P := Yba.prog) w .quo 32 .f64 _ _ _ (fw_div_one (j * sg) (by omega))
  have hc := conv_fw
  generalize fw 1 = one at *
  generalize hjs : fw (j * sg) = js at *
  clear hjs
  go_enter Yba.func44, Yba.ntmps44
  go_wp2
  go_ret
  exact ⟨rfl, rfl⟩

theorem rate_any (tb : Nat) (sz : Int) (hz0 : 1 ≤ sz) (hz1 : sz ≤ 256) (w : World) (h1 : w.cell? ⟨tb, 2, none⟩ = some (.int .i64 sz)) (h2 : w.cell? ⟨tb, 3, none⟩ = some (.float .f64 (fw sz))) :
    Calls Yba.prog 45 #[.pointer (some ⟨tb, 0, none⟩)] w fun e w' => e = .returned (.float .f64 (fw 1)) ∧ ∃ n, w' = w.drewN n := by
  have h3 := fun (w : World) => run_float_arith (P := Yba.prog) w .quo 32 .f64 _ _ _ (fw_div_self sz (by omega) (by omega))
  have hc := conv_fw
  generalize fw 1 = one at *
  go_enter Yba.func45, Yba.ntmps45
  go_wp2
  go_quiet (fail)
  go_wp2
  go_ret
  exact ⟨rfl, _, rfl⟩

theorem secs_any (b : Int) (hb0 : -1000 ≤ b) (hb1 : b ≤ 1000) (w : World) :
    Calls Yba.prog 43 #[.int .i64 (b * 1000000000)] w fun e w' => e = .returned (.float .f64 (fw b)) ∧ w' = w := by
  have h1 := fun (w : World) => run_float_arith (P := Yba.prog) w .quo 32 .f64 _ _ _ (fw_div_zero 1000000000 (by omega) (by decide))
  have h2 := fun (w : World) => run_float_arith (P := Yba.prog) w .add 32 .f64 _ _ _ (fw_add b 0 (by omega) (by omega) (by omega))
  rw [Int.add_zero] at h2
  rw [fw_billion] at h1
  have hc := conv_fw
  have hd : (b * 1000000000).tdiv 1000000000 = b := Int.mul_tdiv_cancel _ (by omega)
  have hm : (b * 1000000000).tmod 1000000000 = 0 := Int.mul_tmod_left _ _
  have hdb0 : -1000000000000 ≤ b * 1000000000 := by omega
  have hdb1 : b * 1000000000 ≤ 1000000000000 := by omega
  generalize b * 1000000000 = d at *
  go_enter Yba.func43, Yba.ntmps43
  go_wp2
  go_ret
  exact ⟨rfl, rfl⟩
end Go.Proofs.Ybulkdsao
