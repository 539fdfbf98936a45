/-
  The contracts of zzs5942aoff (10), (*fetcher).offset (21), holds (23), boundaryAfter (24).
-/
import Derived.Test.YbulkdsaoRows
import Derived.WalkKit
import Derived.ProofKit
import Derived.Below
import Derived.Outline
import Derived.RegionTactic
import Derived.ChangeAlike
import Derived.Deep.QuietTactic
import Derived.BigQuiet
import Derived.WalkSmall
namespace Go.Proofs.Ybulkdsao
open Go.ChangeShapes Go.WideShapes Go.ChangeAt Go.RowKit
set_option linter.unusedVariables false

theorem hideIt {p : Prop} (h : p) : Hid p := h
theorem ret_bool {a b : Bool} (h : a = b) : Ending.returned (.bool a) = .returned (.bool b) := by rw [h]
theorem ret_i64 {a b : Int} (h : a = b) : Ending.returned (.int .i64 a) = .returned (.int .i64 b) := by rw [h]

/-- Where segment k begins. -/
def offL (sg sz k : Int) : Int := if k * sg ≤ sz then k * sg else sz

theorem mul_bd {k sg : Int} (hk0 : -1000 ≤ k) (hk1 : k ≤ 1000) (hg0 : 1 ≤ sg) (hg1 : sg ≤ 16) : -16000 ≤ k * sg ∧ k * sg ≤ 16000 := by
  have h1 := Int.mul_nonneg (show 0 ≤ k + 1000 by omega) (show 0 ≤ sg by omega)
  have h2 := Int.mul_nonneg (show 0 ≤ 1000 - k by omega) (show 0 ≤ sg by omega)
  rw [Int.add_mul] at h1
  rw [Int.sub_mul] at h2
  omega

/-- The bounds that all of these functions live in. -/
structure Bds (sg sz : Int) : Prop where
  g0 : 1 ≤ sg
  g1 : sg ≤ 16
  z0 : 1 ≤ sz
  z1 : sz ≤ 256

theorem offL_bd {sg sz k : Int} (hb : Bds sg sz) (hk0 : -1000 ≤ k) (hk1 : k ≤ 1000) : -16000 ≤ offL sg sz k ∧ offL sg sz k ≤ sz := by
  obtain ⟨g0, g1, z0, z1⟩ := hb
  have := mul_bd hk0 hk1 g0 g1
  unfold offL; split <;> omega

theorem zoff_any (k sg sz : Int) (hb : Bds sg sz) (hk0 : -1000 ≤ k) (hk1 : k ≤ 1000) (w : World) :
    Calls Yba.prog 10 #[.int .i64 k, .int .i64 sg, .int .i64 sz] w fun e w' => e = .returned (.int .i64 (offL sg sz k)) ∧ w' = w := by
  obtain ⟨g0, g1, z0, z1⟩ := hb
  obtain ⟨m0, m1⟩ := mul_bd hk0 hk1 g0 g1
  by_cases h : k * sg ≤ sz
  · have e : offL sg sz k = k * sg := if_pos h
    rw [e]
    clear e
    go_enter Yba.func10, Yba.ntmps10
    go_wp2
    go_ret
    exact ⟨rfl, rfl⟩
  · have e : offL sg sz k = sz := if_neg h
    rw [e]
    clear e
    go_enter Yba.func10, Yba.ntmps10
    go_wp2
    go_ret
    exact ⟨rfl, rfl⟩

/-- What of the fetcher's and the title's memory these functions read. -/
structure Fix (w : World) (fb tb : Nat) (sg sz ah : Int) : Prop where
  ft : w.cell? ⟨fb, 0, none⟩ = some (.pointer (some ⟨tb, 0, none⟩))
  fa : w.cell? ⟨fb, 1, none⟩ = some (.int .i64 ah)
  ts : w.cell? ⟨tb, 2, none⟩ = some (.int .i64 sz)
  tg : w.cell? ⟨tb, 4, none⟩ = some (.int .i64 sg)

theorem Fix.drewN {w : World} {fb tb : Nat} {sg sz ah : Int} (h : Fix w fb tb sg sz ah) (n : Nat) : Fix (w.drewN n) fb tb sg sz ah :=
  ⟨by simpa using h.ft, by simpa using h.fa, by simpa using h.ts, by simpa using h.tg⟩

theorem offset_any (fb tb : Nat) (k sg sz ah : Int) (hb : Bds sg sz) (hk0 : -1000 ≤ k) (hk1 : k ≤ 1000) (w : World) (hw : Fix w fb tb sg sz ah) :
    Calls Yba.prog 21 #[.pointer (some ⟨fb, 0, none⟩), .int .i64 k] w fun e w' => e = .returned (.int .i64 (offL sg sz k)) ∧ ∃ n, w' = w.drewN n := by
  obtain ⟨g0, g1, z0, z1⟩ := hb
  obtain ⟨h1, h2, h3, h4⟩ := hw
  obtain ⟨m0, m1⟩ := mul_bd hk0 hk1 g0 g1
  by_cases h : k * sg ≤ sz
  · have e : offL sg sz k = k * sg := if_pos h
    rw [e]
    clear e
    go_enter Yba.func21, Yba.ntmps21
    go_wp2
    go_quiet (fail)
    go_wp2
    go_ret
    exact ⟨rfl, _, rfl⟩
  · have e : offL sg sz k = sz := if_neg h
    rw [e]
    clear e
    go_enter Yba.func21, Yba.ntmps21
    go_wp2
    go_quiet (fail)
    go_wp2
    go_ret
    exact ⟨rfl, _, rfl⟩

/-- Does byte 'at' lie within the span planned for a viewer at segment 'pos'? -/
def holdsL (sg sz ah pos x : Int) : Bool := decide (offL sg sz pos ≤ x) && decide (x < offL sg sz pos + ah)

theorem holds_any (fb tb vb : Nat) (pos x sg sz ah : Int) (hb : Bds sg sz) (hp0 : 0 ≤ pos) (hp1 : pos ≤ 1000) (hx0 : 0 ≤ x) (hx1 : x ≤ 1000) (ha0 : 0 ≤ ah) (ha1 : ah ≤ 255) (w : World) (hw : Fix w fb tb sg sz ah)
    (hv : w.cell? ⟨vb, 1, none⟩ = some (.int .i64 pos)) :
    Calls Yba.prog 23 #[.pointer (some ⟨fb, 0, none⟩), .pointer (some ⟨vb, 0, none⟩), .int .i64 x] w fun e w' => e = .returned (.bool (holdsL sg sz ah pos x)) ∧ ∃ n, w' = w.drewN n := by
  have hc := offset_any fb tb pos sg sz ah hb (by omega) (by omega) w hw
  have hbd := offL_bd hb (k := pos) (by omega) (by omega)
  unfold holdsL
  have hz1 := hb.z1
  have h2 := hw.fa
  generalize offL sg sz pos = o at hc hbd ⊢
  obtain ⟨b0, b1⟩ := hbd
  have HC := hideIt hc
  clear hc hw hb
  by_cases ho : o ≤ x
  · have e1 : decide (o ≤ x) = true := by simp [ho]
    go_enter Yba.func23, Yba.ntmps23
    go_wp2_with fail
    refine (HC.out).mono ?_
    rintro e w1 ⟨rfl, n1, rfl⟩
    go_wp2_with fail
    go_ret
    exact ⟨ret_bool (by simp [ho]), _, rfl⟩
  · have e1 : decide (o ≤ x) = false := by simp; omega
    go_enter Yba.func23, Yba.ntmps23
    go_wp2_with fail
    refine (HC.out).mono ?_
    rintro e w1 ⟨rfl, n1, rfl⟩
    go_wp2_with fail
    go_ret
    exact ⟨ret_bool (by simp [e1]), _, rfl⟩

/-- The first segment boundary behind x. -/
def bndL (sg sz x : Int) : Int := offL sg sz (x / sg + 1)

theorem div_bd {x sg : Int} (hx0 : 0 ≤ x) (hx1 : x ≤ 900) (hg0 : 1 ≤ sg) : 0 ≤ x / sg ∧ x / sg ≤ 900 := by
  have h1 := Int.ediv_nonneg hx0 (show 0 ≤ sg by omega)
  have h2 := Int.ediv_le_self sg hx0
  omega

theorem bnd_any (fb tb : Nat) (x sg sz ah : Int) (hb : Bds sg sz) (hx0 : 0 ≤ x) (hx1 : x ≤ 900) (w : World) (hw : Fix w fb tb sg sz ah) :
    Calls Yba.prog 24 #[.pointer (some ⟨fb, 0, none⟩), .int .i64 x] w fun e w' => e = .returned (.int .i64 (bndL sg sz x)) ∧ ∃ n, w' = w.drewN n := by
  obtain ⟨d0, d1⟩ := div_bd hx0 hx1 hb.g0
  have hc := offset_any fb tb (x / sg + 1) sg sz ah hb (by omega) (by omega) w hw
  have HC := hideIt hc
  obtain ⟨h1, h2, h3, h4⟩ := hw
  have g0 := hb.g0
  have hne : ¬ sg = 0 := by omega
  unfold bndL
  clear hc hb
  go_enter Yba.func24, Yba.ntmps24
  go_wp2_with fail
  refine (HC.out).mono ?_
  rintro e w1 ⟨rfl, n1, rfl⟩
  go_wp2_with fail
  go_ret
  exact ⟨rfl, _, rfl⟩
end Go.Proofs.Ybulkdsao
