/-
  The two matrices: 'compatible' (function 25: it reads the package's table) and the law's own masks 'zzs5939bcompat' (function 10).
-/
import Derived.Test.YbulkdryyDoorRows
import Derived.WalkKit
import Derived.ProofKit
import Derived.Below
import Derived.Outline
namespace Go.Proofs.YbulkdryyDoor
open Go.ChangeShapes Go.WideShapes Go.ChangeAt Go.RowKit
set_option linter.unusedVariables false

def tab : List Bool := [true, true, true, true, true, true, true, true, true, true, true, true, true, false, true, true, true, false, false, false, false,
  true, true, false, true, true, false, false, true, true, false, true, false, false, false, true, true, false, false, false, false, false, true, false, false, false, false, false, false]
def tabAt (r g : Nat) : Bool := tab.getD (r * 7 + g) false

/-- The table lies in the package's variable. -/
def HasTab (w : World) : Prop := ∀ r g : Nat, r < 7 → g < 7 → w.cell? ⟨0, r * 7 + g, none⟩ = some (.bool (tabAt r g))

theorem compatible_any (r g : Nat) (hr : r < 7) (hg : g < 7) (w : World) (ht : HasTab w) :
    Calls Ybad.prog 25 #[.int .u8 r, .int .u8 g] w fun e w' => e = .returned (.bool (tabAt r g)) ∧ w' = w := by
  have hc := ht r g hr hg
  have hr1 : (r : Int) < 7 := by omega
  have hg1 : (g : Int) < 7 := by omega
  clear ht
  generalize tabAt r g = t at hc
  go_enter Ybad.func25, Ybad.ntmps25
  go_wp2
  go_ret
  exact ⟨rfl, rfl⟩

theorem mask0 (g : Nat) (hg : g < 7) : (bits .and .u8 ((127 : Int) / 2 ^ g) 1 == 1) = tabAt 0 g := by
  have h : ∀ g, g < 7 → (bits .and .u8 ((127 : Int) / 2 ^ g) 1 == 1) = tabAt 0 g := by decide +kernel
  exact h g hg
theorem mask1 (g : Nat) (hg : g < 7) : (bits .and .u8 ((63 : Int) / 2 ^ g) 1 == 1) = tabAt 1 g := by
  have h : ∀ g, g < 7 → (bits .and .u8 ((63 : Int) / 2 ^ g) 1 == 1) = tabAt 1 g := by decide +kernel
  exact h g hg
theorem mask2 (g : Nat) (hg : g < 7) : (bits .and .u8 ((7 : Int) / 2 ^ g) 1 == 1) = tabAt 2 g := by
  have h : ∀ g, g < 7 → (bits .and .u8 ((7 : Int) / 2 ^ g) 1 == 1) = tabAt 2 g := by decide +kernel
  exact h g hg
theorem mask3 (g : Nat) (hg : g < 7) : (bits .and .u8 ((27 : Int) / 2 ^ g) 1 == 1) = tabAt 3 g := by
  have h : ∀ g, g < 7 → (bits .and .u8 ((27 : Int) / 2 ^ g) 1 == 1) = tabAt 3 g := by decide +kernel
  exact h g hg
theorem mask4 (g : Nat) (hg : g < 7) : (bits .and .u8 ((11 : Int) / 2 ^ g) 1 == 1) = tabAt 4 g := by
  have h : ∀ g, g < 7 → (bits .and .u8 ((11 : Int) / 2 ^ g) 1 == 1) = tabAt 4 g := by decide +kernel
  exact h g hg
theorem mask5 (g : Nat) (hg : g < 7) : (bits .and .u8 ((3 : Int) / 2 ^ g) 1 == 1) = tabAt 5 g := by
  have h : ∀ g, g < 7 → (bits .and .u8 ((3 : Int) / 2 ^ g) 1 == 1) = tabAt 5 g := by decide +kernel
  exact h g hg
theorem mask6 (g : Nat) (hg : g < 7) : (bits .and .u8 ((1 : Int) / 2 ^ g) 1 == 1) = tabAt 6 g := by
  have h : ∀ g, g < 7 → (bits .and .u8 ((1 : Int) / 2 ^ g) 1 == 1) = tabAt 6 g := by decide +kernel
  exact h g hg
theorem ret_bool {a b : Bool} (h : a = b) : Ending.returned (.bool a) = .returned (.bool b) := by rw [h]

theorem compat_any (r g : Nat) (hr : r < 7) (hg : g < 7) (w : World) :
    Calls Ybad.prog 10 #[.int .u8 r, .int .u8 g] w fun e w' => e = .returned (.bool (tabAt r g)) ∧ w' = w := by
  rcases (show r = 0 ∨ r = 1 ∨ r = 2 ∨ r = 3 ∨ r = 4 ∨ r = 5 ∨ r = 6 by omega) with rfl | rfl | rfl | rfl | rfl | rfl | rfl
  · go_enter Ybad.func10, Ybad.ntmps10
    go_wp2
    go_ret
    exact ⟨ret_bool (mask0 g hg), rfl⟩
  · go_enter Ybad.func10, Ybad.ntmps10
    go_wp2
    go_ret
    exact ⟨ret_bool (mask1 g hg), rfl⟩
  · go_enter Ybad.func10, Ybad.ntmps10
    go_wp2
    go_ret
    exact ⟨ret_bool (mask2 g hg), rfl⟩
  · go_enter Ybad.func10, Ybad.ntmps10
    go_wp2
    go_ret
    exact ⟨ret_bool (mask3 g hg), rfl⟩
  · go_enter Ybad.func10, Ybad.ntmps10
    go_wp2
    go_ret
    exact ⟨ret_bool (mask4 g hg), rfl⟩
  · go_enter Ybad.func10, Ybad.ntmps10
    go_wp2
    go_ret
    exact ⟨ret_bool (mask5 g hg), rfl⟩
  · go_enter Ybad.func10, Ybad.ntmps10
    go_wp2
    go_ret
    exact ⟨ret_bool (mask6 g hg), rfl⟩
end Go.Proofs.YbulkdryyDoor
