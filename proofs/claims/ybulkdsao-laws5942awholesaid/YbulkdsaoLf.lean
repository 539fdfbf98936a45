/-
  'vlist := slices.Clone(viewers); f := &fetcher{..}; var now; limit; var got'.
-/
import Derived.Test.YbulkdsaoLe
import Derived.Test.YbulkdsaoRange
namespace Go.Proofs.Ybulkdsao
open Go.ChangeShapes Go.WideShapes Go.ChangeAt Go.RowKit
set_option linter.unusedVariables false

set_option maxRecDepth 100000 in
set_option maxHeartbeats 1000000 in
theorem st18 (Q : Exit → Act → World → Prop) (t : Array Value) (ds : List Deferred) (w : World) (x : Fx) (N m tb b24 np pcap : Nat) (pa : Option Addr) (cs : List Value) (ah stp : Int) (hA : At t x)
    (h20 : x.s20 = .slice pa np pcap) (h23 : x.s23 = .pointer (some ⟨tb, 0, none⟩)) (h24 : x.s24 = .slice (some ⟨b24, 0, none⟩) m m)
    (h15 : x.s15 = .int .i64 ah) (h5 : x.s5 = .int .u8 stp) (hs0 : 0 ≤ stp) (hs1 : stp ≤ 255) (hm : m ≤ 256) (hown : w.ownsRow N 41 1 x.s24 m cs) (h1 : ∀ u ∈ cs, u.oneCell' = true)
    (hQ : ∀ t' w' v33 fb nb lb gb cf, At t' { x with s33 := v33, s34 := .pointer (some ⟨fb, 0, none⟩), s35 := .pointer (some ⟨nb, 0, none⟩), s36 := .pointer (some ⟨lb, 0, none⟩), s37 := .pointer (some ⟨gb, 0, none⟩) } →
      Below w.heap.size w w' → w'.ownsRow w.heap.size 41 1 v33 m cs → v33 ≠ .slice none 0 0 → (∀ k, v33.ownBlock = some k → k < fb) → w.heap.size ≤ fb → fb < nb → nb < lb → lb < gb →
      w'.heap[fb]? = some (.cells cf 86 (0, 0)) → cf[0]? = some (.pointer (some ⟨tb, 0, none⟩)) → cf[1]? = some (.int .i64 ah) → cf[23]? = some (.slice (some ⟨b24, 0, none⟩) m m) → cf[24]? = some (.slice pa np pcap) → cf[45]? = some (.slice none 0 0) →
      w'.heap[nb]? = some (.cells #[.int .u64 0, .int .i64 0, .pointer none] 45 (0, 0)) → Boxed w' lb 3 (.int .i64 (stp % 16)) → Boxed w' gb 87 (.slice none 0 0) → Code.wp Yba.prog (rest 23) Q ⟨t', ds⟩ w') :
    Code.wp Yba.prog (rest 18) Q ⟨t, ds⟩ w := by
  have hmo : Yba.prog.follows .mixedOrders = true := by kernel_rfl
  obtain ⟨s0, s1, s2, s3, s4, s5, s13, s14, s15, s16, s17, s20, s22, s23, s24, s25, s26, s33, s34, s35, s36, s37, s39, s49⟩ := x
  obtain ⟨g, hg, rfl⟩ := hA.lit
  dsimp only at hg h15 h5 h20 h23 h24
  subst h15 h5 h20 h23 h24
  refine rest_step 18 (by kernel_rfl) ?_
  conv => arg 2; whnf
  simp only [slotsFrom, Nat.reduceAdd, hg]
  clear hA hg
  have C := hideIt (clone8_any w N m _ cs hown (by omega) (by simp) h1)
  have HQ := hideIt hQ
  clear hQ hown h1
  go_wp2_with fail
  refine C.out.mono ?_
  rintro e w1 ⟨v33, rfl, o1, n1, b1⟩
  have O1 := hideIt o1
  have N1 := hideIt n1
  have B1 := hideIt b1
  clear o1 n1 b1 C
  go_wp2
  refine rest_step 19 (by kernel_rfl) ?_
  conv => arg 2; whnf
  go_wp2
  generalize hw2 : w1.alloc _ = w2
  refine rest_step 20 (by kernel_rfl) ?_
  conv => arg 2; whnf
  go_wp2
  refine rest_step 21 (by kernel_rfl) ?_
  conv => arg 2; whnf
  go_wp2
  refine rest_step 22 (by kernel_rfl) ?_
  conv => arg 2; whnf
  go_wp2
  have s1 := B1.out.size
  have s2 : w2.heap.size = w1.heap.size + 1 := by rw [← hw2]; simp
  have hf2 := (congrArg (fun W : World => W.heap[w1.heap.size]?) hw2).symm.trans (heap_alloc_new w1 _)
  have g2 : w1.grownBy w2 none := by rw [← hw2]; exact World.grownBy_alloc _ _ _
  clear hw2
  have nb : ∀ {v : Value}, v.ownBlock = none ∨ v.ownBlock ≠ none := fun {v} => by cases v.ownBlock <;> simp
  refine HQ.out _ _ v33 w1.heap.size w2.heap.size (w2.heap.size + 1) (w2.heap.size + 1 + 1) _ ⟨rfl, rfl, rfl, rfl, rfl, rfl, rfl, rfl, rfl, rfl, rfl, rfl, rfl, rfl, rfl, rfl, rfl, rfl, rfl, rfl, rfl, rfl, rfl, rfl, rfl⟩ ?belB (((((O1.out.kept g2 nb)).alloc _).alloc _).alloc _) N1.out (fun k hk => (O1.out.lt k hk).2) s1 (by omega) (by omega) (by omega)
    ((Below.heap_alloc _ _ _ (by simp; omega)).trans ((Below.heap_alloc _ _ _ (by simp; omega)).trans ((Below.heap_alloc _ _ _ (by omega)).trans hf2))) rfl rfl rfl rfl rfl ?nowB ?limB ?gotB
  case belB => exact (((B1.out.grown g2 s1 (fun k hk => by cases hk)).alloc (by omega) _).alloc (by simp; omega) _).alloc (by simp; omega) _
  case nowB => exact (Below.heap_alloc _ _ _ (by simp; omega)).trans ((Below.heap_alloc _ _ _ (by simp)).trans (heap_alloc_new _ _))
  case limB =>
    have := heap_alloc_new (w2.alloc (Obj.cells #[Value.int IntKind.u64 0, Value.int IntKind.i64 0, Value.pointer none] 45)) (Obj.cells #[Value.int IntKind.i64 (stp % 16)] 3)
    rw [World.size_alloc] at this
    exact (Below.heap_alloc _ _ _ (by simp)).trans this
  case gotB =>
    have := heap_alloc_new ((w2.alloc (Obj.cells #[Value.int IntKind.u64 0, Value.int IntKind.i64 0, Value.pointer none] 45)).alloc (Obj.cells #[Value.int IntKind.i64 (stp % 16)] 3)) (Obj.cells #[Value.slice none 0 0] 87)
    rw [World.size_alloc, World.size_alloc] at this
    exact this
end Go.Proofs.Ybulkdsao
