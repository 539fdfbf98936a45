/-
  The contracts of zzs5935ccopy (function 5: a copy in new memory; nil stays nil) and zzs5935csame (function 8).
-/
import Derived.Test.YbulkdrwuEq
import Derived.Laws.CopyOwn
import Derived.OwnWalk
import Derived.Deep.DeepMust
import Derived.Lib.SliceRun
import Derived.Outline
import Derived.WalkSmall
namespace Go.Proofs.Ybulkdrwu
open Go.ChangeShapes Go.WideShapes Go.ChangeAt Go.RowKit
set_option linter.unusedVariables false

theorem Yba.info23 : (Yba.prog.info? 23).map (fun i => (i.zero, i.size, i.bytes)) = some (some (.int .u32 0), 1, 4) := by kernel_rfl
theorem hideIt {p : Prop} (h : p) : Hid p := h
theorem Yba.size23 : (Yba.prog.info? 23).map (·.size) = some 1 := by kernel_rfl

/-- What has been read stays readable: 'Below' keeps every old cell. -/
theorem View.below {w w' : World} {a : Option Addr} {xs : List Int} (h : View w a xs) (hb : Below w.heap.size w w') : View w' a xs := by
  obtain ⟨h1, h2⟩ := h
  refine ⟨h1, ?_⟩
  rcases h2 with h2 | ⟨b, off, h2, h3⟩
  · exact .inl h2
  · refine .inr ⟨b, off, h2, fun i hi => ?_⟩
    have hc := h3 i hi
    have hlt := block_lt_of_cell hc
    rw [hb.cell hlt]; exact hc

/-- A block of the call's own that holds 'xs'. -/
def Own (w : World) (g : Nat) (xs : List Int) : Prop := w.heap[g]? = some (.cells (xs.map (Value.int .u32)).toArray 23 (0, 0))

theorem Own.view {w : World} {g : Nat} {xs : List Int} (h : Own w g xs) (hm : xs.length ≤ maxLen) : View w (some ⟨g, 0, none⟩) xs := by
  refine ⟨hm, .inr ⟨g, 0, rfl, fun i hi => ?_⟩⟩
  have hc := cell_of_row w g (0 + i) _ _ _ h
  rw [hc]
  simp [List.getD_eq_getElem?_getD, List.getElem?_eq_getElem hi]

theorem Own.free {w : World} {g : Nat} {xs : List Int} (h : Own w g xs) (j : Nat) : w.frozen? ⟨g, j, none⟩ = false := by
  unfold Own at h
  simp [World.frozen?, h]

theorem nilTest : ∀ (w : World) (a : Option Addr) (n c n' c' : Nat), (binOp .eql 22 (.slice a n c) (.slice none n' c')).run Yba.prog w = .ok (.bool a.isNone) w := fun w a n c n' c' => Lib.run_eql_slice_nil w _ _ a n c n' c' Yba.underlying22

set_option maxHeartbeats 400000 in
theorem copy_nil (w : World) : Calls Yba.prog 5 #[.slice none 0 0] w fun e w' => e = .returned (.slice none 0 0) ∧ w' = w := by
  have q22 := nilTest
  go_enter Yba.func5, Yba.ntmps5
  go_wp2
  go_ret
  exact ⟨rfl, rfl⟩

set_option maxHeartbeats 400000 in
theorem copy_some (x : Addr) (xs : List Int) (c : Nat) (w : World) (hv : View w (some x) xs) (hn : xs.length * 4 ≤ 140737488351232) :
    Calls Yba.prog 5 #[.slice (some x) xs.length c] w fun e w' => e = .returned (.slice (some ⟨w.heap.size, 0, none⟩) xs.length xs.length) ∧ Own w' w.heap.size xs ∧ Below w.heap.size w w' := by
  obtain ⟨i0, hi, hz0, hz1, hz2⟩ := info_parts Yba.info23
  obtain ⟨n, hnn⟩ : ∃ n, n = xs.length := ⟨_, rfl⟩
  rw [← hnn] at hn ⊢
  have HV : Hid (View w (some x) xs) := hv
  have HN : Hid (n = xs.length) := hnn
  have HI : Hid (Yba.prog.info? 23 = some i0) := hi
  have HZ0 : Hid (i0.zero = some (.int .u32 0)) := hz0
  have HZ1 : Hid (i0.size = 1) := hz1
  have HZ2 : Hid (i0.bytes = 4) := hz2
  clear hv hnn hi hz0 hz1 hz2
  have q22 := nilTest
  go_enter Yba.func5, Yba.ntmps5
  go_wp2_with (at_make; refine wpList_make_full _ rfl _ _ 22 rfl w.heap.size 23 i0 (.int .u32 0) 1 Yba.underlying22 HI.out HZ0.out HZ1.out _ _ _ _ n rfl rfl rfl rfl (by rw [HZ2.out]; omega) (by unfold maxLen; omega) (Nat.le_refl _) ?_)
  intro w1 hown hgrow
  have hblk : w1.heap[w.heap.size]? = some (.cells (List.replicate n (Value.int .u32 0)).toArray 23 (0, 0)) := by
    obtain ⟨h1, h2⟩ := hown
    rcases h2 with ⟨h2, _⟩ | ⟨g, cap, cur, e1, e2, e3, e4, e5, e6, e7⟩
    · cases h2
    · simp at e1
      obtain ⟨rfl, rfl⟩ := e1
      rw [e3]
      have : cur.toList = List.replicate n (Value.int .u32 0) := by
        rw [← toList_madeCells_one, ← e7, List.take_of_length_le (by simp; omega)]
      rw [← this]
  have hB1 : Below w.heap.size w w1 := (Below.refl _ _).grown hgrow (Nat.le_refl _) (fun k hk => by cases hk)
  have hv1 := HV.out.below hB1
  have HB : Hid (w1.heap[w.heap.size]? = some (.cells (List.replicate n (Value.int .u32 0)).toArray 23 (0, 0))) := hblk
  have HV1 : Hid (View w1 (some x) xs) := hv1
  clear hown hgrow hblk hv1
  obtain ⟨B, hBB⟩ : ∃ B, B = w.heap.size := ⟨_, rfl⟩
  go_wp2_with (refine wpList_copy_splice rfl _ _ 22 22 rfl 23 Yba.underlying22 Yba.size23 _ _ _ _ _ _ rfl rfl w.heap.size 0 (List.replicate n (Value.int .u32 0)) 23 HB.out (xs.map (Value.int .u32)) ?c1 ?c2 ?c3 ?c4 w.heap.size w hB1 (Nat.le_refl _) ?_)
  case c1 => have := HN.out; simp; omega
  case c2 =>
    intro hpos j v hj
    obtain ⟨h1, h2⟩ := HV1.out
    rcases h2 with h2 | ⟨b, off, h2, h3⟩
    · subst h2; simp at hj
    · simp at h2; subst h2
      have hjl : j < xs.length := by
        rcases Nat.lt_or_ge j xs.length with h | h
        · exact h
        · simp [List.getElem?_eq_none h] at hj
      have := h3 j hjl
      rw [add_plain, this]
      simp [List.getElem?_eq_getElem hjl] at hj
      simp [List.getD_eq_getElem?_getD, List.getElem?_eq_getElem hjl, hj]
  case c3 => have := HN.out; simp; omega
  case c4 => intro v hv; simp at hv; obtain ⟨z, _, rfl⟩ := hv; rfl
  intro w2 HG2 hB2
  go_wp2
  go_ret
  refine ⟨rfl, ?_, hB2⟩
  unfold Own
  rw [HG2.out]
  have e : splice (List.replicate n (Value.int .u32 0)) 0 (xs.map (Value.int .u32)) = xs.map (Value.int .u32) := by
    have := HN.out
    simp [splice, this]
  rw [e]

/-- One contract for both: what comes back reads as what went in, and is nil just where that was. -/
theorem copy_any (a : Option Addr) (xs : List Int) (c : Nat) (w : World) (hv : View w a xs) (hnil : a = none → xs = [] ∧ c = 0) (hn : xs.length * 4 ≤ 140737488351232) :
    Calls Yba.prog 5 #[.slice a xs.length c] w fun e w' => ∃ r m, e = .returned (.slice r xs.length m) ∧ View w' r xs ∧ r.isNone = a.isNone ∧ (r = none → xs = [] ∧ m = 0) ∧ (xs ≠ [] → r = some ⟨w.heap.size, 0, none⟩ ∧ Own w' w.heap.size xs) ∧ Below w.heap.size w w' := by
  cases a with
  | none =>
    obtain ⟨rfl, rfl⟩ := hnil rfl
    refine (copy_nil w).mono ?_
    rintro e w' ⟨rfl, rfl⟩
    exact ⟨none, 0, rfl, hv, rfl, fun _ => ⟨rfl, rfl⟩, fun h => absurd rfl h, Below.refl _ _⟩
  | some x =>
    refine (copy_some x xs c w hv hn).mono ?_
    rintro e w' ⟨rfl, ho, hb⟩
    exact ⟨_, _, rfl, ho.view hv.1, rfl, (fun h => by cases h), fun _ => ⟨rfl, ho⟩, hb⟩

set_option maxHeartbeats 400000 in
theorem same_any (a b : Option Addr) (xs : List Int) (c d : Nat) (w : World) (ha : View w a xs) (hb : View w b xs) (hn : b.isNone = a.isNone) :
    Calls Yba.prog 8 #[.slice a xs.length c, .slice b xs.length d] w fun e w' => e = .returned (.bool true) ∧ ∃ n, w' = w.drewN n := by
  have q22 := nilTest
  have h1 := eq_any a b xs xs c d w ha hb
  rw [eqL_self] at h1
  have H1 := hideIt h1
  obtain ⟨p, hp⟩ : ∃ p, p = a.isNone := ⟨_, rfl⟩
  rw [← hp] at hn
  have hq : a.isNone = p := hp.symm
  have hpp : (p != p) = false := by simp
  clear h1 ha hb hp
  go_enter Yba.func8, Yba.ntmps8
  go_wp2_with fail
  refine H1.out.mono ?_
  rintro e w' ⟨rfl, n1, rfl⟩
  go_wp2_with fail
  go_ret
  exact ⟨rfl, n1, rfl⟩
end Go.Proofs.Ybulkdrwu
