/-
  The proof of 'Rows.LawS5935CWholeSaid'. The frame is the seat's own shell (its builder turned to the one that hands over the form's own reach); the walk is ours.
-/
import Derived.Test.YbulkdrwuRows
import Derived.WalkKit
import Derived.ProofKit
import Derived.OpenShut
import Derived.ShutString
import Derived.ChangeOld
import Derived.Below
import Derived.WalkSmall
import Derived.SizedLaws
import Derived.Test.YbulkdrwuCopy
namespace Go.Proofs.Ybulkdrwu.lawS5935CWhole
open Go.ChangeShapes Go.WideShapes Go.ChangeAt Go.RowKit
open Go.ChangeMaps (open_string shut_string)
set_option linter.unusedVariables false

theorem own : ownKnob Yba.prog.godebug = none := by kernel_rfl
theorem bytes23 : Yba.prog.bytesOf 23 = 4 := by kernel_rfl
theorem laidOut : laidOutB Yba.prog = true := by kernel_rfl

/-- WHAT THE WALK IS TOLD OF A SLICE OF INTEGERS THAT CAME IN: it is nil; or it leads to a row of 'cap' cells, the numbers 'zs' (the first 'len' are its elements, the rest its spare room), each fitting its kind. -/
def IsRow (k : IntKind) (w : World) (a : Option Addr) (len cap : Nat) (zs : List Int) : Prop :=
  (a = none ∧ len = 0 ∧ cap = 0 ∧ zs = []) ∨
  ∃ x, a = some x ∧ len ≤ cap ∧ cap ≤ maxLen ∧ zs.length = cap ∧ (∀ i, i < zs.length → w.cell? (x.add i) = some (.int k (zs.getD i 0))) ∧ ∀ n ∈ zs, (Lit.int k n).wf = true

/-! ### STEP 1: THE WALK -/
theorem view_of {w : World} {a : Option Addr} {len cap : Nat} {zs : List Int} (h : IsRow .u32 w a len cap zs) : View w a (zs.take len) ∧ (zs.take len).length = len := by
  rcases h with ⟨rfl, rfl, rfl, rfl⟩ | ⟨x, rfl, h1, h2, h3, h4, h5⟩
  · exact ⟨⟨by simp, .inl (by simp)⟩, by simp⟩
  · have hl : (zs.take len).length = len := by simp; omega
    refine ⟨⟨by rw [hl]; omega, ?_⟩, hl⟩
    by_cases h0 : len = 0
    · left; rw [h0]; simp
    · right
      obtain ⟨b, off, spot⟩ := x
      have hspot : spot = none := by simpa [Addr.add] using World.cell?_spot (h4 0 (by omega))
      subst hspot
      refine ⟨b, off, rfl, fun i hi => ?_⟩
      rw [hl] at hi
      have hc := h4 i (by omega)
      have hg : (zs.take len).getD i 0 = zs.getD i 0 := by simp [List.getD_eq_getElem?_getD, hi]
      rw [hg, ← add_plain]
      exact hc


theorem nil_of {w : World} {a : Option Addr} {len cap : Nat} {zs : List Int} (h : IsRow .u32 w a len cap zs) : a = none → zs.take len = [] ∧ cap = 0 := by
  rcases h with ⟨rfl, rfl, rfl, rfl⟩ | ⟨x, rfl, h1, h2, h3, h4, h5⟩
  · intro _; simp
  · intro h; cases h

/-- 'same' is false: the other list is b. -/
theorem walk_other (a0 : Option Addr) (x : List Int) (cap0 : Nat) (a1 : Option Addr) (y : List Int) (cap1 : Nat) (fl : Bool) (p : Int) (w : World) (v0 : View w a0 x) (vo : View w a1 y)
    (nil0 : a0 = none → x = [] ∧ cap0 = 0) (nilo : a1 = none → y = [] ∧ cap1 = 0) (hxy : (x.length : Int) + (y.length : Int) ≤ 1048576) :
    Calls Yba.prog 3 #[.slice a0 x.length cap0, .slice a1 y.length cap1, .bool false, .bool fl, .int .u32 p] w fun e w' => e = .returned (.bool true) ∧ Below w.heap.size w w' := by
  go_enter Yba.func3, Yba.ntmps3
  go_wp2_with fail
  refine (copy_any a0 x cap0 _ v0 nil0 (by omega)).mono ?_
  rintro e w1 ⟨r1, m1, rfl, u1, q1, p1, o1, b1⟩
  have Q1 := hideIt q1
  have v0a := v0.below b1
  have voa := vo.below b1
  clear q1 p1 o1
  go_wp2_with fail
  refine (copy_any a1 y cap1 _ voa nilo (by omega)).mono ?_
  rintro e w2 ⟨r2, m2, rfl, u2, q2, p2, o2, b2⟩
  have Q2 := hideIt q2
  have v0b := v0a.below b2
  have vob := voa.below b2
  have u1b := u1.below b2
  clear q2 p2 o2
  go_wp2_with fail
  refine (eq_any r1 r2 x y m1 m2 _ u1b u2).mono ?_
  rintro e w3 ⟨rfl, n3, rfl⟩
  go_wp2_with fail
  refine (equal_any a0 a1 x y cap0 cap1 _ (v0b.drewN _) (vob.drewN _)).mono ?_
  rintro e w4 ⟨rfl, n4, rfl⟩
  have hee : (eqL x y == eqL x y) = true := by simp
  go_wp2_with fail
  refine (same_any a0 r1 x cap0 m1 _ (v0b.drewN _) (u1b.drewN _) Q1.out).mono ?_
  rintro e w5 ⟨rfl, n5, rfl⟩
  go_wp2_with fail
  refine (same_any a1 r2 y cap1 m2 _ (vob.drewN _) (u2.drewN _) Q2.out).mono ?_
  rintro e w6 ⟨rfl, n6, rfl⟩
  go_wp2_with fail
  go_ret
  refine ⟨rfl, ?_⟩
  repeat (refine below_drewN ?_ _)
  exact b1.trans (b2.mono b1.size)

/-- 'same' is true and nothing is turned. -/
theorem walk_keep (a0 : Option Addr) (x : List Int) (cap0 : Nat) (a1 : Option Addr) (n1 : Nat) (cap1 : Nat) (p : Int) (w : World) (v0 : View w a0 x)
    (nil0 : a0 = none → x = [] ∧ cap0 = 0) (hxy : (x.length : Int) + (n1 : Int) ≤ 1048576) :
    Calls Yba.prog 3 #[.slice a0 x.length cap0, .slice a1 n1 cap1, .bool true, .bool false, .int .u32 p] w fun e w' => e = .returned (.bool true) ∧ Below w.heap.size w w' := by
  go_enter Yba.func3, Yba.ntmps3
  go_wp2_with fail
  refine (copy_any a0 x cap0 _ v0 nil0 (by omega)).mono ?_
  rintro e w0 ⟨r0, m0, rfl, vo, q0, nilo, o0, b0⟩
  clear q0 o0
  have v00 := v0.below b0
  clear v0
  have v0 := v00
  clear v00
  go_wp2_with fail
  refine (copy_any a0 x cap0 _ v0 nil0 (by omega)).mono ?_
  rintro e w1 ⟨r1, m1, rfl, u1, q1, p1, o1, b1⟩
  have Q1 := hideIt q1
  have v0a := v0.below b1
  have voa := vo.below b1
  clear q1 p1 o1
  go_wp2_with fail
  refine (copy_any r0 x m0 _ voa nilo (by omega)).mono ?_
  rintro e w2 ⟨r2, m2, rfl, u2, q2, p2, o2, b2⟩
  have Q2 := hideIt q2
  have v0b := v0a.below b2
  have vob := voa.below b2
  have u1b := u1.below b2
  clear q2 p2 o2
  go_wp2_with fail
  refine (eq_any r1 r2 x x m1 m2 _ u1b u2).mono ?_
  rintro e w3 ⟨rfl, n3, rfl⟩
  go_wp2_with fail
  refine (equal_any a0 r0 x x cap0 m0 _ (v0b.drewN _) (vob.drewN _)).mono ?_
  rintro e w4 ⟨rfl, n4, rfl⟩
  have hee : (eqL x x == eqL x x) = true := by simp
  go_wp2_with fail
  refine (same_any a0 r1 x cap0 m1 _ (v0b.drewN _) (u1b.drewN _) Q1.out).mono ?_
  rintro e w5 ⟨rfl, n5, rfl⟩
  go_wp2_with fail
  refine (same_any r0 r2 x m0 m2 _ (vob.drewN _) (u2.drewN _) Q2.out).mono ?_
  rintro e w6 ⟨rfl, n6, rfl⟩
  go_wp2_with fail
  go_ret
  refine ⟨rfl, ?_⟩
  repeat (refine below_drewN ?_ _)
  exact b0.trans ((b1.trans (b2.mono b1.size)).mono b0.size)

/-- 'same' is true and nothing is turned. -/
theorem walk_none (a0 : Option Addr) (x : List Int) (cap0 : Nat) (a1 : Option Addr) (n1 : Nat) (cap1 : Nat) (p : Int) (w : World) (v0 : View w a0 x)
    (nil0 : a0 = none → x = [] ∧ cap0 = 0) (hxy : (x.length : Int) + (n1 : Int) ≤ 1048576) (h0 : (x.length : Int) ≤ 0) :
    Calls Yba.prog 3 #[.slice a0 x.length cap0, .slice a1 n1 cap1, .bool true, .bool true, .int .u32 p] w fun e w' => e = .returned (.bool true) ∧ Below w.heap.size w w' := by
  go_enter Yba.func3, Yba.ntmps3
  go_wp2_with fail
  refine (copy_any a0 x cap0 _ v0 nil0 (by omega)).mono ?_
  rintro e w0 ⟨r0, m0, rfl, vo, q0, nilo, o0, b0⟩
  clear q0 o0
  have v00 := v0.below b0
  clear v0
  have v0 := v00
  clear v00
  go_wp2_with fail
  refine (copy_any a0 x cap0 _ v0 nil0 (by omega)).mono ?_
  rintro e w1 ⟨r1, m1, rfl, u1, q1, p1, o1, b1⟩
  have Q1 := hideIt q1
  have v0a := v0.below b1
  have voa := vo.below b1
  clear q1 p1 o1
  go_wp2_with fail
  refine (copy_any r0 x m0 _ voa nilo (by omega)).mono ?_
  rintro e w2 ⟨r2, m2, rfl, u2, q2, p2, o2, b2⟩
  have Q2 := hideIt q2
  have v0b := v0a.below b2
  have vob := voa.below b2
  have u1b := u1.below b2
  clear q2 p2 o2
  go_wp2_with fail
  refine (eq_any r1 r2 x x m1 m2 _ u1b u2).mono ?_
  rintro e w3 ⟨rfl, n3, rfl⟩
  go_wp2_with fail
  refine (equal_any a0 r0 x x cap0 m0 _ (v0b.drewN _) (vob.drewN _)).mono ?_
  rintro e w4 ⟨rfl, n4, rfl⟩
  have hee : (eqL x x == eqL x x) = true := by simp
  go_wp2_with fail
  refine (same_any a0 r1 x cap0 m1 _ (v0b.drewN _) (u1b.drewN _) Q1.out).mono ?_
  rintro e w5 ⟨rfl, n5, rfl⟩
  go_wp2_with fail
  refine (same_any r0 r2 x m0 m2 _ (vob.drewN _) (u2.drewN _) Q2.out).mono ?_
  rintro e w6 ⟨rfl, n6, rfl⟩
  go_wp2_with fail
  go_ret
  refine ⟨rfl, ?_⟩
  repeat (refine below_drewN ?_ _)
  exact b0.trans ((b1.trans (b2.mono b1.size)).mono b0.size)

theorem own_set {w : World} {g : Nat} {xs : List Int} (h : Own w g xs) (k : Nat) (v : Int) : Own (w.setCell ⟨g, k, none⟩ (.int .u32 v)) g (xs.set k v) := by
  unfold Own at *
  have hlt := lt_of_block h
  have h' : w.heap[g] = .cells (xs.map (Value.int .u32)).toArray 23 (0, 0) := by simpa [Array.getElem?_eq_getElem hlt] using h
  show (w.heap.modify g _)[g]? = _
  rw [Array.getElem?_eq_getElem (by simpa using hlt), Array.getElem_modify_self, h']
  simp [List.map_set]

theorem copy_len (a : Option Addr) (xs : List Int) (c : Nat) (w : World) {n : Nat} (hl : xs.length = n) (hv : View w a xs) (hnil : a = none → xs = [] ∧ c = 0) (hn : n * 4 ≤ 140737488351232) :
    Calls Yba.prog 5 #[.slice a n c] w fun e w' => ∃ r m, e = .returned (.slice r n m) ∧ View w' r xs ∧ r.isNone = a.isNone ∧ (r = none → xs = [] ∧ m = 0) ∧ (xs ≠ [] → r = some ⟨w.heap.size, 0, none⟩ ∧ Own w' w.heap.size xs) ∧ Below w.heap.size w w' := by
  subst hl; exact copy_any a xs c w hv hnil hn
theorem eq_len (a b : Option Addr) (x y : List Int) (c d : Nat) (w : World) {n : Nat} (hl : y.length = n) (hx : View w a x) (hy : View w b y) :
    Calls Yba.prog 6 #[.slice a x.length c, .slice b n d] w fun e w' => e = .returned (.bool (eqL x y)) ∧ ∃ n, w' = w.drewN n := by
  subst hl; exact eq_any a b x y c d w hx hy
theorem equal_len (a b : Option Addr) (x y : List Int) (c d : Nat) (w : World) {n : Nat} (hl : y.length = n) (hx : View w a x) (hy : View w b y) :
    Calls Yba.prog 7 #[.slice a x.length c, .slice b n d] w fun e w' => e = .returned (.bool (eqL x y)) ∧ ∃ n, w' = w.drewN n := by
  subst hl; exact equal_any a b x y c d w hx hy
theorem same_len (a b : Option Addr) (xs : List Int) (c d : Nat) (w : World) {n : Nat} (hl : xs.length = n) (ha : View w a xs) (hb : View w b xs) (hn : b.isNone = a.isNone) :
    Calls Yba.prog 8 #[.slice a n c, .slice b n d] w fun e w' => e = .returned (.bool true) ∧ ∃ n, w' = w.drewN n := by
  subst hl; exact same_any a b xs c d w ha hb hn

/-- 'same' and 'flip': one arc is turned. -/
theorem walk_flip (a0 : Option Addr) (x : List Int) (cap0 : Nat) (a1 : Option Addr) (n1 : Nat) (cap1 : Nat) (p : Int) (w : World) (v0 : View w a0 x)
    (nil0 : a0 = none → x = [] ∧ cap0 = 0) (hxy : (x.length : Int) + (n1 : Int) ≤ 1048576) (hx : 0 < x.length) (hp0 : 0 ≤ p) (hp1 : p ≤ 4294967295) :
    Calls Yba.prog 3 #[.slice a0 x.length cap0, .slice a1 n1 cap1, .bool true, .bool true, .int .u32 p] w fun e w' => e = .returned (.bool true) ∧ Below w.heap.size w w' := by
  go_enter Yba.func3, Yba.ntmps3
  go_wp2_with fail
  refine (copy_any a0 x cap0 _ v0 nil0 (by omega)).mono ?_
  rintro e w0 ⟨r0, m0, rfl, vo, q0, nilo, o0, b0⟩
  obtain ⟨rfl, own⟩ := o0 (by intro h; rw [h] at hx; simp at hx)
  clear q0 o0 nilo
  have hxi : (0 : Int) < (x.length : Int) := by omega
  have hm1 : p % (x.length : Int) < (x.length : Int) := Int.emod_lt_of_pos _ hxi
  have hm0 : 0 ≤ p % (x.length : Int) := Int.emod_nonneg _ (by omega)
  obtain ⟨q, hcell⟩ : ∃ q, w0.cell? ⟨w.heap.size, (p % (x.length : Int)).toNat, none⟩ = some (.int .u32 q) := by
    rcases vo.2 with h | ⟨b, off, h, hc⟩
    · rw [h] at hx; simp at hx
    · simp at h; obtain ⟨rfl, rfl⟩ := h
      have := hc (p % (x.length : Int)).toNat (by omega)
      exact ⟨_, by simpa using this⟩
  have hfree := own.free (p % (x.length : Int)).toNat
  have OWN := hideIt own
  have VO := hideIt vo
  have V0 := hideIt v0
  clear own vo v0
  have OS := own_set OWN.out (p % (x.length : Int)).toNat ((q + 1) % 4294967296)
  have BS := b0.setCell (p := ⟨w.heap.size, (p % (x.length : Int)).toNat, none⟩) (Nat.le_refl _) (.int .u32 ((q + 1) % 4294967296))
  have hyl : (x.set (p % (x.length : Int)).toNat ((q + 1) % 4294967296)).length = x.length := by simp
  have vo := OS.view (by rw [hyl]; exact VO.out.1)
  have v0 := V0.out.below BS
  have HYL := hideIt hyl
  have nilo : (some (⟨w.heap.size, 0, none⟩ : Addr)) = none → x.set (p % (x.length : Int)).toNat ((q + 1) % 4294967296) = [] ∧ m0 = 0 := fun h => by cases h
  clear OS hyl
  generalize hy : x.set (p % (x.length : Int)).toNat ((q + 1) % 4294967296) = y at HYL vo nilo
  clear hy
  go_wp2_with fail
  refine (copy_any a0 x cap0 _ v0 nil0 (by omega)).mono ?_
  rintro e w1 ⟨r1, m1, rfl, u1, q1, p1, o1, b1⟩
  have Q1 := hideIt q1
  have v0a := v0.below b1
  have voa := vo.below b1
  clear q1 p1 o1
  go_wp2_with fail
  refine (copy_len (some ⟨w.heap.size, 0, none⟩) y m0 _ HYL.out voa nilo (by omega)).mono ?_
  rintro e w2 ⟨r2, m2, rfl, u2, q2, p2, o2, b2⟩
  have Q2 := hideIt q2
  have v0b := v0a.below b2
  have vob := voa.below b2
  have u1b := u1.below b2
  clear q2 p2 o2
  go_wp2_with fail
  refine (eq_len r1 r2 x y m1 m2 _ HYL.out u1b u2).mono ?_
  rintro e w3 ⟨rfl, n3, rfl⟩
  go_wp2_with fail
  refine (equal_len a0 (some ⟨w.heap.size, 0, none⟩) x y cap0 m0 _ HYL.out (v0b.drewN _) (vob.drewN _)).mono ?_
  rintro e w4 ⟨rfl, n4, rfl⟩
  have hee : (eqL x y == eqL x y) = true := by simp
  go_wp2_with fail
  refine (same_any a0 r1 x cap0 m1 _ (v0b.drewN _) (u1b.drewN _) Q1.out).mono ?_
  rintro e w5 ⟨rfl, n5, rfl⟩
  go_wp2_with fail
  refine (same_len (some ⟨w.heap.size, 0, none⟩) r2 y m0 m2 _ HYL.out (vob.drewN _) (u2.drewN _) Q2.out).mono ?_
  rintro e w6 ⟨rfl, n6, rfl⟩
  go_wp2_with fail
  go_ret
  refine ⟨rfl, ?_⟩
  repeat (refine below_drewN ?_ _)
  exact BS.trans ((b1.trans (b2.mono b1.size)).mono BS.size)

theorem walk_big (a0 : Option Addr) (len0 cap0 : Nat) (a1 : Option Addr) (len1 cap1 : Nat) (a2 : Bool) (a3 : Bool) (a4 : Int) (w : World) (h0 : len0 * 4 ≤ 140737488351232) (h1 : len1 * 4 ≤ 140737488351232) (hbig : (1048576 : Int) < (len0 : Int) + (len1 : Int)) :
    Calls Yba.prog 3 #[.slice a0 len0 cap0, .slice a1 len1 cap1, .bool a2, .bool a3, .int .u32 a4] w fun e w' => e = .returned (.bool true) ∧ Below w.heap.size w w' := by
  go_enter Yba.func3, Yba.ntmps3
  go_wp2
  go_ret
  exact ⟨rfl, Below.refl _ _⟩

theorem walk (a0 : Option Addr) (len0 cap0 : Nat) (z0 : List Int) (a1 : Option Addr) (len1 cap1 : Nat) (z1 : List Int) (a2 : Bool) (a3 : Bool) (a4 : Int) (w : World) (w0 : IsRow .u32 w a0 len0 cap0 z0) (w1 : IsRow .u32 w a1 len1 cap1 z1) (w4 : (Lit.int .u32 a4).wf = true) (h0 : len0 * 4 ≤ 140737488351232) (h1 : len1 * 4 ≤ 140737488351232) :
    Calls Yba.prog 3 #[.slice a0 len0 cap0, .slice a1 len1 cap1, .bool a2, .bool a3, .int .u32 a4] w fun e w' => e = .returned (.bool true) ∧ Below w.heap.size w w' := by
  by_cases hbig : (1048576 : Int) < (len0 : Int) + (len1 : Int)
  · exact walk_big a0 len0 cap0 a1 len1 cap1 a2 a3 a4 w h0 h1 hbig
  obtain ⟨v0, e0⟩ := view_of w0
  obtain ⟨v1, e1⟩ := view_of w1
  have n0 := nil_of w0
  have n1 := nil_of w1
  generalize z0.take len0 = x at v0 e0 n0
  generalize z1.take len1 = y at v1 e1 n1
  subst e0 e1
  cases a2 with
  | false => exact walk_other a0 x cap0 a1 y cap1 a3 a4 w v0 v1 n0 n1 (by omega)
  | true =>
    cases a3 with
    | false => exact walk_keep a0 x cap0 a1 y.length cap1 a4 w v0 n0 (by omega)
    | true =>
      by_cases hx : 0 < x.length
      · have hb := bounds_u32 w4
        exact walk_flip a0 x cap0 a1 y.length cap1 a4 w v0 n0 (by omega) hx (by omega) (by omega)
      · exact walk_none a0 x cap0 a1 y.length cap1 a4 w v0 n0 (by omega) (by omega)

/-! ### THE ROW's STEP: WRITTEN OUT: LEAVE IT -/
set_option maxRecDepth 100000 in
theorem lifted (os : Os) (started : os.Started) (H : Type) (enc : TypeId × Value → H) :
    ReturnsInHanded {} Yba.checked os 3 .any (Rows.lawS5935CWholeSpec.pre6 enc Yba.prog Yba.f3 Rows.lawS5935CWholeRow.domain false) (Rows.lawS5935CWholeSpec.post enc Yba.prog Yba.f3 false true false false) := by
  refine returnsInHanded_of_change_sized (C := Yba.checked) own started (by kernel_rfl) Yba.func3
    (ChangeSpec.witness6 (enc := enc) (C := Yba.checked) false ⟨#[], #[.slice none 0 0, .slice none 0 0, .bool false, .bool false, .int .u32 0], []⟩ 8 (by kernel_rfl) (by kernel_rfl) (by kernel_rfl) (by kernel_rfl)) ?_
  intro W base args ds gs before hval0 hW hcnd hsz0 _
  have hsz : (DataW.weightsEach Yba.prog (Yba.f3.params.toList ++ Rows.lawS5935CWholeSpec.plain.varTypes Yba.prog) (ds ++ gs)).all (· ≤ reachBytes) = true := hsz0
  clear hsz0
  have hval : ∀ (j : Nat) t v, Yba.f3.params[j]? = some t → args[j]? = some v → Value.okWide Yba.prog W .any base t v := hval0
  have hW' := hW
  obtain ⟨p, q, hA0, hV, rfl, hfz, hnd⟩ := hW
  have hA : DataW.TrodAll enc Yba.prog W 0 (fun _ => true) true Yba.f3.params.toList args.toList ds p := hA0
  rw [Yba.params3] at hA hval hsz
  obtain ⟨v0, vs0, d0, ds0, p0, q0, hargs, rfl, rfl, h0, r0⟩ := trodAll_cons hA
  obtain ⟨v1, vs1, d1, ds1, p1, q1, rfl, rfl, rfl, h1, r1⟩ := trodAll_cons r0
  obtain ⟨v2, vs2, d2, ds2, p2, q2, rfl, rfl, rfl, h2, r2⟩ := trodAll_cons r1
  obtain ⟨v3, vs3, d3, ds3, p3, q3, rfl, rfl, rfl, h3, r3⟩ := trodAll_cons r2
  obtain ⟨v4, vs4, d4, ds4, p4, q4, rfl, rfl, rfl, h4, r4⟩ := trodAll_cons r3
  obtain ⟨rfl, rfl, rfl⟩ := trodAll_nil r4
  obtain rfl : args = #[v0, v1, v2, v3, v4] := by cases args; simp_all
  obtain ⟨rfl, rfl⟩ := trodVars_none hV
  obtain ⟨a0, len0, cap0, rfl⟩ := okWide_slice Yba.underlying22 (hval 0 22 v0 rfl rfl)
  have k0 := h0
  have lt0 : ∀ x ∈ p0, x.block < W.heap.size := by obtain ⟨m, hm⟩ := k0; exact DataW.trod_lt m _ _ _ hm
  obtain ⟨z0, w0, reach0⟩ : ∃ zs, IsRow .u32 W a0 len0 cap0 zs ∧ len0 * 4 ≤ 140737488351232 := by
    obtain ⟨fuel, hf⟩ := h0
    rcases open_ints Yba.underlying22 Yba.underlying23 (by kernel_rfl) hf with ⟨hcs, _⟩ | ⟨x, l, c, zs, hcs, _, hl, hm, hz, hx, hcell, hwz⟩
    · simp [Value.cells] at hcs
      obtain ⟨rfl, rfl, rfl⟩ := hcs
      exact ⟨[], .inl ⟨rfl, rfl, rfl, rfl⟩, by omega⟩
    · simp [Value.cells] at hcs
      obtain ⟨rfl, rfl, rfl⟩ := hcs
      have hz' : zs.length = cap0 := by simpa using hz
      refine ⟨zs, .inr ⟨_, rfl, hl, hm, hz', hcell, hwz⟩, ?_⟩
      simp only [Prod.mk.injEq] at hx
      have hy := sized_slice hsz (j := 0) (t := 22) (e := 23) rfl (by rw [hx.1]; rfl) Yba.underlying22
      rw [bytes23] at hy
      simp only [lits, List.length_map, List.length_take, List.length_drop, reachBytes] at hy
      omega
  obtain ⟨a1, len1, cap1, rfl⟩ := okWide_slice Yba.underlying22 (hval 1 22 v1 rfl rfl)
  have k1 := h1
  have lt1 : ∀ x ∈ p1, x.block < W.heap.size := by obtain ⟨m, hm⟩ := k1; exact DataW.trod_lt m _ _ _ hm
  obtain ⟨z1, w1, reach1⟩ : ∃ zs, IsRow .u32 W a1 len1 cap1 zs ∧ len1 * 4 ≤ 140737488351232 := by
    obtain ⟨fuel, hf⟩ := h1
    rcases open_ints Yba.underlying22 Yba.underlying23 (by kernel_rfl) hf with ⟨hcs, _⟩ | ⟨x, l, c, zs, hcs, _, hl, hm, hz, hx, hcell, hwz⟩
    · simp [Value.cells] at hcs
      obtain ⟨rfl, rfl, rfl⟩ := hcs
      exact ⟨[], .inl ⟨rfl, rfl, rfl, rfl⟩, by omega⟩
    · simp [Value.cells] at hcs
      obtain ⟨rfl, rfl, rfl⟩ := hcs
      have hz' : zs.length = cap1 := by simpa using hz
      refine ⟨zs, .inr ⟨_, rfl, hl, hm, hz', hcell, hwz⟩, ?_⟩
      simp only [Prod.mk.injEq] at hx
      have hy := sized_slice hsz (j := 1) (t := 22) (e := 23) rfl (by rw [hx.1]; rfl) Yba.underlying22
      rw [bytes23] at hy
      simp only [lits, List.length_map, List.length_take, List.length_drop, reachBytes] at hy
      omega
  obtain ⟨a2, rfl, rfl, rfl⟩ := open_bool Yba.underlying4 (hval 2 4 v2 rfl rfl) h2
  obtain ⟨a3, rfl, rfl, rfl⟩ := open_bool Yba.underlying4 (hval 3 4 v3 rfl rfl) h3
  obtain ⟨a4, rfl, rfl, rfl, w4⟩ := open_int Yba.underlying23 (hval 4 23 v4 rfl rfl) h4
  clear hA0 hval0
  refine (walk a0 len0 cap0 z0 a1 len1 cap1 z1 a2 a3 a4 W w0 w1 w4 reach0 reach1).mono fun e W' ⟨he, bel⟩ => ?_
  subst he
  exact ⟨_, rfl, _, _, _, [], _, [], hW', trodAll_mk1 (shut_bool Yba.underlying4 _), (trodAll_cons_mk (Below.trod laidOut (by kernel_rfl) (of_decide_eq_true (by kernel_rfl)) k0 bel lt0) (trodAll_cons_mk (Below.trod laidOut (by kernel_rfl) (of_decide_eq_true (by kernel_rfl)) k1 bel lt1) (trodAll_cons_mk (shut_bool Yba.underlying4 _) (trodAll_cons_mk (shut_bool Yba.underlying4 _) (trodAll_cons_mk (shut_int Yba.underlying23 w4) trodAll_mk0))))), rfl, bel.frame _, fun h => by cases h⟩

theorem over : Rows.lawS5935CWholeRow.holds Yba.pinned (OpenSpec.ofChange Rows.lawS5935CWholeSpec) :=
  OpenClaim.holds_of_wide 3 Yba.f3 rfl rfl rfl rfl rfl rfl rfl ⟨rfl, rfl, rfl, rfl, rfl⟩ rfl rfl rfl rfl rfl (by kernel_rfl) Yba.func3 (by kernel_rfl)
    (of_decide_eq_true (by kernel_rfl)) (by unfold Func.isWrapper; first | (rw [if_pos (by decide +kernel)]; kernel_rfl) | (rw [if_neg (by decide +kernel)]; exact ⟨rfl, rfl⟩))
    (fun os started H enc _ => lifted os started H enc)

/-- ████ THE STATEMENT ████ -/
theorem proved : Rows.LawS5935CWholeSaid := over
end Go.Proofs.Ybulkdrwu.lawS5935CWhole
