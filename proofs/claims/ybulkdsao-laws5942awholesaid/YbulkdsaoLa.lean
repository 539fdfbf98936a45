/-
  'for _, c := range cuts { pts = append(pts, int64(c)%(sz+1)) }'.
-/
import Derived.Test.YbulkdsaoSeg
namespace Go.Proofs.Ybulkdsao
open Go.ChangeShapes Go.WideShapes Go.ChangeAt Go.RowKit
set_option linter.unusedVariables false

theorem Yba.info2 : (Yba.prog.info? 2).map (fun i => (i.zero, i.size, i.bytes)) = some (some (.int .i64 0), 1, 8) := by kernel_rfl

/-- A slice of bytes that came in. -/
def Cin (w0 : World) (a0 : Option Addr) (n : Nat) (c : Nat → Int) : Prop :=
  ∀ i, i < n → ∃ cb co, a0 = some ⟨cb, co, none⟩ ∧ cb < w0.heap.size ∧ w0.cell? ⟨cb, co + i, none⟩ = some (.int .u8 (c i)) ∧ 0 ≤ c i ∧ c i ≤ 255

def modc (sz : Int) (c : Nat → Int) (n : Nat) : List Value := (List.range n).map fun i => .int .i64 (c i % (sz + 1))
theorem modc_succ (sz : Int) (c : Nat → Int) (n : Nat) : modc sz c (n + 1) = modc sz c n ++ [.int .i64 (c n % (sz + 1))] := by simp [modc, List.range_succ]

set_option maxRecDepth 100000 in
set_option maxHeartbeats 4000000 in
theorem st7 (Q : Exit → Act → World → Prop) (t : Array Value) (ds : List Deferred) (w0 w : World) (x : Fx) (sz : Int) (n cap0 : Nat) (a0 : Option Addr) (c : Nat → Int) (hA : At t x)
    (h3 : x.s3 = .slice a0 n cap0) (h13 : x.s13 = .int .i64 sz) (hz0 : 1 ≤ sz) (hz1 : sz ≤ 256) (hn : n ≤ 4096) (hc : Cin w0 a0 n c) (hb : Below w0.heap.size w0 w)
    (hown : w.ownsRow w0.heap.size 2 1 x.s17 0 []) (hnn : x.s17 ≠ .slice none 0 0)
    (hQ : ∀ t' v w', At t' { x with s17 := v } → Below w0.heap.size w0 w' → w'.ownsRow w0.heap.size 2 1 v n (modc sz c n) → v ≠ .slice none 0 0 → Code.wp Yba.prog (rest 8) Q ⟨t', ds⟩ w') :
    Code.wp Yba.prog (rest 7) Q ⟨t, ds⟩ w := by
  obtain ⟨s0, s1, s2, s3, s4, s5, s13, s14, s15, s16, s17, s20, s22, s23, s24, s25, s26, s33, s34, s35, s36, s37, s39, s49⟩ := x
  obtain ⟨g, hg, rfl⟩ := hA.lit
  dsimp only at hg h3 h13
  subst h3 h13
  refine rest_step 7 (by kernel_rfl) ?_
  conv => arg 2; whnf
  simp only [slotsFrom, Nat.reduceAdd, hg]
  clear hA hg
  have HB := hideIt hb
  have HO := hideIt hown
  have HN := hideIt hnn
  have HC := hideIt hc
  have HQ := hideIt hQ
  clear hb hown hnn hc hQ
  go_wp2
  go_loopw [17, 89] (fun v i wr => ∃ k : Nat, k ≤ n ∧ i = .int .i64 k ∧ wr.ownsRow w0.heap.size 2 1 v k (modc sz c k) ∧ Below w0.heap.size w0 wr ∧ Hid (v ≠ .slice none 0 0)) (fun _ i _ => n - (intOf i).toNat)
  case atStart => exact ⟨0, Nat.zero_le _, rfl, HO.out, HB.out, HN⟩
  case round =>
    obtain ⟨k, hk, rfl, hown, hbw, hnn⟩ := hrel
    by_cases hlt : k < n
    · obtain ⟨cb, co, rfl, hcb, hcc, hc0, hc1⟩ := HC.out k hlt
      have hcell : wr.cell? ⟨cb, co + k, none⟩ = some (.int .u8 (c k)) := (hbw.cell (p := ⟨cb, co + k, none⟩) hcb).trans hcc
      obtain ⟨ia, hia, hz0a, hz1a, hz2a⟩ := info_parts Yba.info2
      have HIa := hideIt hia
      have HZ0a := hideIt hz0a
      have HZ1a := hideIt hz1a
      have HZ2a := hideIt hz2a
      clear hia hz0a hz1a hz2a
      have HOWN := hideIt hown
      have HBW := hideIt hbw
      have BS := HBW.out.size
      clear hown hbw hcc
      have hki : (k : Int) < (n : Int) := by omega
      have hki0 : (0 : Int) ≤ (k : Int) := by omega
      have ws : IntKind.i64.wrap (sz + 1) = sz + 1 := by rw [wrap_small] <;> omega
      have wc : IntKind.i64.wrap (c k) = c k := by rw [wrap_small] <;> omega
      have hne : ¬ (sz + 1 = 0) := by omega
      have hm0 := Int.emod_nonneg (c k) hne
      have hm1 := Int.emod_lt_of_pos (c k) (show 0 < sz + 1 by omega)
      have htm : (c k).tmod (sz + 1) = c k % (sz + 1) := Int.tmod_eq_emod_of_nonneg hc0
      have wm : IntKind.i64.wrap (c k % (sz + 1)) = c k % (sz + 1) := by rw [wrap_small] <;> omega
      go_wp2_with (first
        | (at_builtin; refine wpList_append_own _ rfl _ _ 24 rfl w0.heap.size 2 ia (.int .i64 0) 1 8 Yba.underlying24 HIa.out HZ0a.out HZ1a.out HZ2a.out rfl (by decide) _ _ _ rfl (HOWN.out.alloc _) ⟨wr.heap.size, 0, none⟩ 1 1 [.int .i64 (c k % (sz + 1))] rfl rfl ?c2 ?c3 ?c4 ?c5 ?c6 ?_
           case c2 => exact newN _ _ _
           case c3 => (intro u hu; simp at hu; subst hu; rfl)
           case c4 => (unfold maxLen; omega)
           case c5 => omega
           case c6 => (simp; omega)
           intro v' w1 hown1 hgrow1 hnil1
           have X : Hid (w1.ownsRow w0.heap.size 2 1 v' (k + 1) (modc sz c k ++ [.int .i64 (c k % (sz + 1))]) ∧ Below w0.heap.size w0 w1 ∧ v' ≠ .slice none 0 0) :=
             ⟨hown1, (HBW.out.alloc (by omega) _).grown hgrow1 (by simp; omega) (fun j hj => (HOWN.out.lt j hj).1), fun e => absurd (hnil1.1 e).2 (by decide)⟩
           clear hown1 hgrow1 hnil1))
      go_roundw
      case rel => exact ⟨k + 1, by omega, by go_num, by rw [modc_succ]; exact X.out.1, X.out.2.1, X.out.2.2⟩
      case measure => simp [intOf]; omega
    · obtain rfl : k = n := by omega
      have HOWN := hideIt hown
      have HBW := hideIt hbw
      clear hown hbw
      go_wp2
      exact HQ.out _ _ _ ⟨rfl, rfl, rfl, rfl, rfl, rfl, rfl, rfl, rfl, rfl, rfl, rfl, rfl, rfl, rfl, rfl, rfl, rfl, rfl, rfl, rfl, rfl, rfl, rfl, rfl⟩ HBW.out HOWN.out hnn.out
end Go.Proofs.Ybulkdsao
