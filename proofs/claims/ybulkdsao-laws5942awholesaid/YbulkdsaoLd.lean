/-
  slices.Clone at this dump; 'poolCopy := slices.Clone(pool); t := &title.Title{..}'; the three makes.
-/
import Derived.Test.YbulkdsaoLb
import Derived.Test.YbulkdsaoLa
import Derived.Test.YbulkdsaoShelf
import Derived.Test.YbulkdsaoFl
import Derived.OwnWalk
namespace Go.Proofs.Ybulkdsao
open Go.ChangeShapes Go.WideShapes Go.ChangeAt Go.RowKit
set_option linter.unusedVariables false

theorem Yba.info41 : (Yba.prog.info? 41).map (fun i => (i.zero, i.size, i.bytes)) = some (some (.pointer none), 1, 8) := by kernel_rfl
theorem Yba.inf49 : (Yba.prog.info? 49).map (fun i => (i.zero, i.size, i.bytes)) = some (some (.agg #[.int .i64 0, .int .i64 0, .int .u64 0, .int .i64 0, .pointer none, .float .f64 0, .int .i64 0, .int .u64 0, .int .i64 0, .pointer none]), 10, 80) := by kernel_rfl

theorem clone6_any (w : World) (N n : Nat) (v : Value) (cs : List Value) (h : w.ownsRow N 29 2 v n cs) (hn : n ≤ 4096) (h1 : ∀ u ∈ cs, u.oneCell' = true) :
    Calls Yba.prog 6 #[v] w fun e w' => ∃ v', e = .returned v' ∧ w'.ownsRow w.heap.size 29 2 v' n cs ∧ Below w.heap.size w w' := by
  rcases h.2 with ⟨rfl, rfl⟩ | ⟨g, cap, cur, rfl, hbase, hblk, h2, h3, h4, h5⟩
  · refine (AnyE.slices_Clone_nil Yba.laysClone6 0 0 w).mono ?_
    rintro e w' ⟨rfl, rfl⟩
    have h0 : cs = [] := List.eq_nil_of_length_eq_zero (by simpa using h.1)
    subst h0
    exact ⟨_, rfl, World.ownsRow_nil _ _ _ _, Below.refl _ _⟩
  · obtain ⟨i0, hi, hz0, hz1, hz2⟩ := info_parts Yba.info29
    refine (AnyE.slices_Clone Yba.laysClone6 i0 _ 2 16 hi hz0 hz1 hz2 rfl (by decide) Yba.sizeOf29 g 0 n cap cs w h.1 (by unfold maxLen; omega) (by omega) (fun j u hj => ?_) h1).mono ?_
    · have := h.cells (g := g) rfl j u hj
      rwa [Addr.add_lit] at this
    · rintro e w' ⟨v', rfl, o, _, b⟩
      exact ⟨v', rfl, o, b⟩

theorem clone8_any (w : World) (N n : Nat) (v : Value) (cs : List Value) (h : w.ownsRow N 41 1 v n cs) (hn : n ≤ 4096) (hv : v ≠ .slice none 0 0) (h1 : ∀ u ∈ cs, u.oneCell' = true) :
    Calls Yba.prog 8 #[v] w fun e w' => ∃ v', e = .returned v' ∧ w'.ownsRow w.heap.size 41 1 v' n cs ∧ v' ≠ .slice none 0 0 ∧ Below w.heap.size w w' := by
  rcases h.2 with ⟨rfl, rfl⟩ | ⟨g, cap, cur, rfl, hbase, hblk, h2, h3, h4, h5⟩
  · exact absurd rfl hv
  · obtain ⟨i0, hi, hz0, hz1, hz2⟩ := info_parts Yba.info41
    refine (AnyE.slices_Clone Yba.laysClone8 i0 _ 1 8 hi hz0 hz1 hz2 rfl (by decide) Yba.sizeOf41 g 0 n cap cs w h.1 (by unfold maxLen; omega) (by omega) (fun j u hj => ?_) h1).mono ?_
    · have := h.cells (g := g) rfl j u hj
      rwa [Addr.add_lit] at this
    · rintro e w' ⟨v', rfl, o, hne, b⟩
      exact ⟨v', rfl, o, hne, b⟩

/-- The title's block. -/
def titleCells (sz sg : Int) : Array Value := #[.string ByteArray.empty, .string ByteArray.empty, .int .i64 sz, .float .f64 (fw sz), .int .i64 sg, .slice none 0 0, .string ByteArray.empty, .slice none 0 0]

set_option maxRecDepth 100000 in
set_option maxHeartbeats 1000000 in
theorem st12 (Q : Exit → Act → World → Prop) (t : Array Value) (ds : List Deferred) (w : World) (x : Fx) (N n m cap4 : Nat) (a4 : Option Addr) (sz sg : Int) (cs : List Value) (hA : At t x)
    (h13 : x.s13 = .int .i64 sz) (h14 : x.s14 = .int .i64 sg) (h4 : x.s4 = .slice a4 m cap4) (hn : n ≤ 4096) (hm : m ≤ 256) (hown : w.ownsRow N 29 2 x.s20 n cs) (h1 : ∀ u ∈ cs, u.oneCell' = true)
    (hQ : ∀ t' w' v22 tb b24 b25 b26, At t' { x with s22 := v22, s23 := .pointer (some ⟨tb, 0, none⟩), s24 := .slice (some ⟨b24, 0, none⟩) 0 m, s25 := .slice (some ⟨b25, 0, none⟩) 0 m, s26 := .slice (some ⟨b26, 0, none⟩) 0 m } →
      Below w.heap.size w w' → w'.ownsRow w.heap.size 29 2 v22 n cs → (∀ k, v22.ownBlock = some k → k < tb) → w.heap.size ≤ tb → tb < b24 → b24 < b25 → b25 < b26 → w'.heap[tb]? = some (.cells (titleCells sz sg) 35 (0, 0)) →
      w'.ownsRow b24 41 1 (.slice (some ⟨b24, 0, none⟩) 0 m) 0 [] → w'.ownsRow b25 49 10 (.slice (some ⟨b25, 0, none⟩) 0 m) 0 [] → w'.ownsRow b26 2 1 (.slice (some ⟨b26, 0, none⟩) 0 m) 0 [] → Code.wp Yba.prog (rest 17) Q ⟨t', ds⟩ w') :
    Code.wp Yba.prog (rest 12) Q ⟨t, ds⟩ w := by
  have hmo : Yba.prog.follows .mixedOrders = true := by kernel_rfl
  obtain ⟨s0, s1, s2, s3, s4, s5, s13, s14, s15, s16, s17, s20, s22, s23, s24, s25, s26, s33, s34, s35, s36, s37, s39, s49⟩ := x
  obtain ⟨g, hg, rfl⟩ := hA.lit
  dsimp only at hg h13 h14 h4
  subst h13 h14 h4
  refine rest_step 12 (by kernel_rfl) ?_
  conv => arg 2; whnf
  simp only [slotsFrom, Nat.reduceAdd, hg]
  clear hA hg
  have C := hideIt (clone6_any w N n s20 cs hown hn h1)
  have HQ := hideIt hQ
  clear hQ hown h1
  go_wp2_with fail
  refine C.out.mono ?_
  rintro e w1 ⟨v22, rfl, o1, b1⟩
  have O1 := hideIt o1
  have B1 := hideIt b1
  clear o1 b1 C
  go_wp2
  refine rest_step 13 (by kernel_rfl) ?_
  conv => arg 2; whnf
  have hc := conv_fw
  go_wp2
  obtain ⟨w2, hw2⟩ : ∃ w2, w1.alloc (Obj.cells #[Value.string { data := #[] }, Value.string { data := #[] }, Value.int IntKind.i64 sz, Value.float FloatKind.f64 (fw sz), Value.int IntKind.i64 sg, Value.slice none 0 0, Value.string { data := #[] }, Value.slice none 0 0] 35) = w2 := ⟨_, rfl⟩
  rw [hw2]
  have HW2 := hideIt hw2
  clear hw2 hc
  refine rest_step 14 (by kernel_rfl) ?_
  conv => arg 2; whnf
  obtain ⟨ia, hia, hz0a, hz1a, hz2a⟩ := info_parts Yba.info41
  go_wp2_with (first
    | (at_make; refine wpList_make_own _ rfl _ _ 36 rfl w2.heap.size 41 ia (.pointer none) 1 Yba.underlying36 hia hz0a hz1a .i64 .i64 _ m rfl rfl rfl (by rw [hz2a]; omega) (by unfold maxLen; omega) (Nat.le_refl _) ?_
       intro w3 owna growa
       have Oa := hideIt owna
       have Ga := hideIt growa
       clear owna growa))
  clear hia hz0a hz1a hz2a
  refine rest_step 15 (by kernel_rfl) ?_
  conv => arg 2; whnf
  obtain ⟨ib, hib, hz0b, hz1b, hz2b⟩ := info_parts Yba.inf49
  go_wp2_with (first
    | (at_make; refine wpList_make_own _ rfl _ _ 37 rfl w3.heap.size 49 ib (.agg #[.int .i64 0, .int .i64 0, .int .u64 0, .int .i64 0, .pointer none, .float .f64 0, .int .i64 0, .int .u64 0, .int .i64 0, .pointer none]) 10 Yba.underlying37 hib hz0b hz1b .i64 .i64 _ m rfl rfl rfl (by rw [hz2b]; omega) (by unfold maxLen; omega) (Nat.le_refl _) ?_
       intro w4 ownb growb
       have Ob := hideIt ownb
       have Gb := hideIt growb
       clear ownb growb))
  clear hib hz0b hz1b hz2b
  refine rest_step 16 (by kernel_rfl) ?_
  conv => arg 2; whnf
  obtain ⟨ic, hic, hz0c, hz1c, hz2c⟩ := info_parts Yba.info2
  go_wp2_with (first
    | (at_make; refine wpList_make_own _ rfl _ _ 24 rfl w4.heap.size 2 ic (.int .i64 0) 1 Yba.underlying24 hic hz0c hz1c .i64 .i64 _ m rfl rfl rfl (by rw [hz2c]; omega) (by unfold maxLen; omega) (Nat.le_refl _) ?_
       intro w5 ownc growc
       have Oc := hideIt ownc
       have Gc := hideIt growc
       clear ownc growc))
  clear hic hz0c hz1c hz2c
  have hw2 := HW2.out
  have s1 : w.heap.size ≤ w1.heap.size := B1.out.size
  have s2 : w2.heap.size = w1.heap.size + 1 := by rw [← hw2]; simp
  have l3 := (Oa.out.lt _ rfl).2
  have l4 := (Ob.out.lt _ rfl).2
  have l5 := (Oc.out.lt _ rfl).2
  have z3 := Ga.out.size
  have z4 := Gb.out.size
  have z5 := Gc.out.size
  have g2 : w1.grownBy w2 none := by rw [← hw2]; exact World.grownBy_alloc _ _ _
  have nb : ∀ {v : Value}, v.ownBlock = none ∨ v.ownBlock ≠ none := fun {v} => by cases v.ownBlock <;> simp
  have keep : ∀ {A B : World} {base e size n : Nat} {v : Value} {xs : List Value}, A.ownsRow base e size v n xs → A.grownBy B none → B.ownsRow base e size v n xs := fun h1 h2 => h1.kept h2 nb
  have hbel : Below w.heap.size w w5 := ((((B1.out.grown g2 s1 (fun k hk => by cases hk)).grown Ga.out (by omega) (fun k hk => by cases hk)).grown Gb.out (by omega) (fun k hk => by cases hk)).grown Gc.out (by omega) (fun k hk => by cases hk))
  have htb : w5.heap[w1.heap.size]? = some (.cells (titleCells sz sg) 35 (0, 0)) := by
    rw [Gc.out.block _ (by omega) (by simp), Gb.out.block _ (by omega) (by simp), Ga.out.block _ (by omega) (by simp), ← hw2]
    exact heap_alloc_new _ _
  exact HQ.out _ _ v22 w1.heap.size w2.heap.size w3.heap.size w4.heap.size ⟨rfl, rfl, rfl, rfl, rfl, rfl, rfl, rfl, rfl, rfl, rfl, rfl, rfl, rfl, rfl, rfl, rfl, rfl, rfl, rfl, rfl, rfl, rfl, rfl, rfl⟩ hbel (keep (keep (keep (keep O1.out g2) Ga.out) Gb.out) Gc.out) (fun k hk => (O1.out.lt k hk).2) s1 (by omega) (by omega) (by omega) htb
    (keep (keep Oa.out Gb.out) Gc.out) (keep Ob.out Gc.out) Oc.out
end Go.Proofs.Ybulkdsao
