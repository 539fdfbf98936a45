/-
  The law's body, whole.
-/
import Derived.Test.YbulkdsaoMid
import Derived.Test.YbulkdsaoLo
import Derived.Test.YbulkdsaoLc
namespace Go.Proofs.Ybulkdsao
open Go.ChangeShapes Go.WideShapes Go.ChangeAt Go.RowKit
set_option linter.unusedVariables false

theorem ownsRow_blk {w W : World} {base e size n : Nat} {v : Value} {xs : List Value} (h : w.ownsRow base e size v n xs) (hk : ∀ k, v.ownBlock = some k → W.heap[k]? = w.heap[k]?) : W.ownsRow base e size v n xs := by
  refine ⟨h.1, ?_⟩
  rcases h.2 with hn | ⟨g, cap, cur, rfl, hb, hg, r⟩
  · exact .inl hn
  · exact .inr ⟨g, cap, cur, rfl, hb, (hk g rfl).trans hg, r⟩

theorem spansTo_len (P : Nat → Int) : ∀ k, (spansTo P k).length = k * 2
  | 0 => rfl
  | k + 1 => by rw [spansTo_succ, List.length_append, spansTo_len P k]; simp; omega
theorem spansTo_get (P : Nat → Int) : ∀ k j, j < k → (spansTo P k)[j * 2]? = some (.int .i64 (P (2 * j))) ∧ (spansTo P k)[j * 2 + 1]? = some (.int .i64 (P (2 * j + 1)))
  | 0, j, hj => by omega
  | k + 1, j, hj => by
    have hl := spansTo_len P k
    rw [spansTo_succ]
    by_cases e : j = k
    · subst e
      rw [List.getElem?_append_right (by omega), List.getElem?_append_right (by omega), hl, show j * 2 - j * 2 = 0 by omega, show j * 2 + 1 - j * 2 = 1 by omega]
      exact ⟨rfl, rfl⟩
    · rw [List.getElem?_append_left (by omega), List.getElem?_append_left (by omega)]
      exact spansTo_get P k j (by omega)
theorem spansTo_one (P : Nat → Int) (k : Nat) : ∀ u ∈ spansTo P k, u.oneCell' = true := by
  intro u hu
  unfold spansTo at hu
  obtain ⟨j, _, hj⟩ := List.mem_flatMap.1 hu
  simp at hj
  rcases hj with rfl | rfl <;> rfl

theorem spanRow {w : World} {N n k : Nat} {v : Value} {P : Nat → Int} (h : w.ownsRow N 29 2 v n (spansTo P n)) (hk : k < w.heap.size) :
    ∃ pa PB cap, v = .slice pa n cap ∧ (0 < n → pa = some ⟨PB, 0, none⟩) ∧ PB < w.heap.size ∧ (∀ j, j < n → w.cell? ⟨PB, j * 2, none⟩ = some (.int .i64 (P (2 * j)))) ∧ (∀ j, j < n → w.cell? ⟨PB, j * 2 + 1, none⟩ = some (.int .i64 (P (2 * j + 1)))) := by
  rcases h.2 with ⟨rfl, rfl⟩ | ⟨g, cap, cur, rfl, hb, hg, r⟩
  · exact ⟨none, k, 0, rfl, fun h => by omega, hk, fun j hj => by omega, fun j hj => by omega⟩
  · exact ⟨_, g, cap, rfl, fun _ => rfl, (Array.getElem?_eq_some_iff.1 hg).1, fun j hj => rowCell h (spansTo_get P n j hj).1, fun j hj => rowCell h (spansTo_get P n j hj).2⟩

/-- The viewers that came in. -/
def Vin0 (w : World) (a4 : Option Addr) (m : Nat) (p k g : Nat → Int) : Prop :=
  ∀ j, j < m → ∃ ab ao, a4 = some ⟨ab, ao, none⟩ ∧ ab < w.heap.size ∧ w.cell? ⟨ab, ao + j * 3, none⟩ = some (.int .u8 (p j)) ∧ w.cell? ⟨ab, ao + j * 3 + 1, none⟩ = some (.int .u8 (k j)) ∧ w.cell? ⟨ab, ao + j * 3 + 2, none⟩ = some (.int .i8 (g j)) ∧
    0 ≤ p j ∧ p j ≤ 255 ∧ 0 ≤ k j ∧ k j ≤ 255 ∧ -128 ≤ g j ∧ g j ≤ 127

theorem getD_lt {ys : List Int} (h : ys.Pairwise (· < ·)) {i j : Nat} (hij : i < j) (hj : j < ys.length) : ys.getD i 0 < ys.getD j 0 := by
  simp only [List.getD_eq_getElem?_getD, List.getElem?_eq_getElem hj, List.getElem?_eq_getElem (show i < ys.length by omega), Option.getD_some]
  exact List.pairwise_iff_getElem.1 h i j (by omega) hj hij
theorem getD_mem {ys : List Int} {i : Nat} (hi : i < ys.length) : ys.getD i 0 ∈ ys := by
  simp only [List.getD_eq_getElem?_getD, List.getElem?_eq_getElem hi, Option.getD_some]
  exact List.getElem_mem hi

set_option maxHeartbeats 1000000 in
theorem front (Q : Exit → Act → World → Prop) (t : Array Value) (w : World) (x : Fx) (size seg ahead stp : Int) (n m cap0 cap4 : Nat) (a0 a4 : Option Addr) (c p bk gn : Nat → Int) (hA : At t x)
    (h0 : x.s0 = .int .u8 size) (h1 : x.s1 = .int .u8 seg) (h2 : x.s2 = .int .u8 ahead) (h3 : x.s3 = .slice a0 n cap0) (h4 : x.s4 = .slice a4 m cap4) (h5 : x.s5 = .int .u8 stp)
    (r0 : 0 ≤ size ∧ size ≤ 255) (r1 : 0 ≤ seg ∧ seg ≤ 255) (r2 : 0 ≤ ahead ∧ ahead ≤ 255) (r5 : 0 ≤ stp ∧ stp ≤ 255) (hnb : n ≤ maxLen) (hmb : m ≤ maxLen) (hc : Cin w a0 n c) (hv : Vin0 w a4 m p bk gn)
    (hR : ∀ t', t'.size = 497 → t'[12]? = some (.bool true) → Q .ret ⟨t', []⟩ w)
    (hQ : ∀ t' W' b, t'.size = 497 → t'[12]? = some (.bool true) → W'.heap[b]? = some (.deferred (some [])) → w.heap.size ≤ b → (W'.os = w.os ∧ W'.output = w.output) → w.heap.size ≤ W'.heap.size → (∀ k, k < w.heap.size → W'.heap[k]? = w.heap[k]?) → Q .ret ⟨t', [{ target := .collected b, args := #[] }]⟩ W') :
    Code.wp Yba.prog (rest 0) Q ⟨t, []⟩ w := by
  refine st0 Q t [] w x size seg ahead n m cap0 cap4 a0 a4 hA h0 h1 h2 h3 h4 r0 r1 r2 hnb hmb hR ?_
  intro hn hm t1 v1 w1 hA1 B1 o1 n1
  have m16 : 0 ≤ seg % 16 ∧ seg % 16 ≤ 15 := by omega
  obtain ⟨sz, hsz⟩ : ∃ sz, size + 1 = sz := ⟨_, rfl⟩
  obtain ⟨sg, hsg⟩ : ∃ sg, seg % 16 + 1 = sg := ⟨_, rfl⟩
  rw [hsz, hsg] at hA1
  obtain ⟨ns, hns⟩ : ∃ ns, (sz + sg - 1) / sg = ns := ⟨_, rfl⟩
  rw [hns] at hA1
  have hb : Bds sg sz := ⟨by omega, by omega, by omega, by omega⟩
  have ns0 : 0 ≤ ns := by rw [← hns]; exact Int.ediv_nonneg (by omega) (by omega)
  have ns1 : ns ≤ 300 := by
    have := Int.ediv_le_self sg (show 0 ≤ sz + sg - 1 by omega)
    omega
  refine st7 Q t1 [] w w1 _ sz n cap0 a0 c hA1 h3 rfl (by omega) (by omega) hn hc B1 o1 n1 ?_
  intro t2 v2 w2 hA2 B2 o2 n2
  obtain ⟨zs, hzs⟩ : ∃ zs, (List.range n).map (fun i => c i % (sz + 1)) = zs := ⟨_, rfl⟩
  have hzl : zs.length = n := by rw [← hzs]; simp
  have hmz : modc sz c n = zs.map (Value.int .i64) := by rw [← hzs]; simp [modc]
  have hzb : ∀ y ∈ zs, 0 ≤ y ∧ y ≤ sz := by
    intro y hy
    rw [← hzs] at hy
    obtain ⟨i, _, rfl⟩ := List.mem_map.1 hy
    have := Int.emod_nonneg (c i) (show sz + 1 ≠ 0 by omega)
    have := Int.emod_lt_of_pos (c i) (show 0 < sz + 1 by omega)
    omega
  refine st8 Q t2 [] w w2 _ zs hA2 (by omega) B2 (by rw [hzl, ← hmz]; exact o2) n2 ?_
  intro t3 w3 PB0 cap3 hA3 Bw3 hc3
  obtain ⟨ys, hys⟩ : ∃ ys, sortedOnce zs = ys := ⟨_, rfl⟩
  have hyl : ys.length ≤ 4096 := by rw [← hys]; have := sortedOnce_len zs; omega
  have hyi : ys.Pairwise (· < ·) := by rw [← hys]; exact sortedOnce_incr zs
  have hym : ∀ y ∈ ys, 0 ≤ y ∧ y ≤ sz := fun y hy => hzb y (sortedOnce_mem (by rw [hys]; exact hy))
  rw [hys] at hA3 hc3
  refine st11 Q t3 [] w3 _ ys.length cap3 PB0 (fun i => ys.getD i 0) hA3 rfl rfl hyl hc3 ?_
  intro t4 v20 w4 hA4 B4 o4
  refine st12 Q t4 [] w4 _ w3.heap.size (ys.length / 2) m cap4 a4 sz sg _ hA4 rfl rfl h4 (by omega) hm o4 (spansTo_one _ _) ?_
  intro t5 w5 v22 tb b24 b25 b26 hA5 B5 o22 l22 q1 q2 q3 q4 htb o24 o25 o26
  have s3 := Bw3.size
  have s4 := B4.size
  have s5 := B5.size
  have old5 : ∀ k, k < w.heap.size → w5.heap[k]? = w.heap[k]? := fun k hk => by rw [B5.block k (by omega), B4.block k (by omega), Bw3.block k hk]
  have hvin : Vin w5 a4 m (B3 b24 b25 b26) p bk gn := by
    intro j hj
    obtain ⟨ab, ao, e, l, c0, c1, c2, r⟩ := hv j hj
    have kc : ∀ {o : Nat} {v : Value}, w.cell? ⟨ab, o, none⟩ = some v → w5.cell? ⟨ab, o, none⟩ = some v := fun h => (World.cell?_of_block (a := ⟨ab, _, none⟩) (old5 ab l)).trans h
    exact ⟨ab, ao, e, by unfold Ybulkdsao.B3; omega, kc c0, kc c1, kc c2, r⟩
  refine st17 Q t5 [] w5 _ m cap4 b24 b25 b26 a4 ns p bk gn (fun j => p j % (ns + 1) - bk j % 4) (fun j => p j % (ns + 1)) hA5 h4 rfl rfl rfl rfl hm ns0 ns1 hvin q3 q4 (fun _ => rfl) (fun _ => rfl) o24 o25 o26 ?_
  intro t6 w6 vb hA6 K6 V6 r24 r25 r26
  have s6 := K6.size
  have ltb5 : tb < w5.heap.size := (Array.getElem?_eq_some_iff.1 htb).1
  have o20' : w6.ownsRow w3.heap.size 29 2 v20 (ys.length / 2) (spansTo (fun i => ys.getD i 0) (ys.length / 2)) := ownsRow_blk o4 (fun k hk => by
    have := (o4.lt k hk).2
    rw [K6.block k (by omega) (by unfold Ybulkdsao.B3; omega), B5.block k this])
  have o22' : w6.ownsRow w4.heap.size 29 2 v22 (ys.length / 2) (spansTo (fun i => ys.getD i 0) (ys.length / 2)) := ownsRow_blk o22 (fun k hk => by
    have := l22 k hk
    rw [K6.block k (by omega) (by unfold Ybulkdsao.B3; omega)])
  have ltb6 : tb < w6.heap.size := by omega
  obtain ⟨pa, PB, pcap, rfl, e1, e2, e3, e4⟩ := spanRow o20' ltb6
  obtain ⟨pa2, P2, cap2, rfl, f1, f2, f3, f4⟩ := spanRow o22' ltb6
  have hE : Pd.Ok ⟨ys.length / 2, fun j => ys.getD (2 * j) 0, fun j => ys.getD (2 * j + 1) 0⟩ sz := by
    refine ⟨?_, ?_, ?_, ?_⟩
    · show ys.length / 2 ≤ 4096; omega
    · intro j hj
      have hj' : j < ys.length / 2 := hj
      exact (hym _ (getD_mem (by omega))).1
    · intro j hj
      have hj' : j < ys.length / 2 := hj
      exact getD_lt hyi (by omega) (by omega)
    · intro j hj
      have hj' : j < ys.length / 2 := hj
      exact (hym _ (getD_mem (by omega))).2
  have pb : ∀ j, 0 ≤ p j % (ns + 1) ∧ p j % (ns + 1) ≤ 300 := fun j => by
    have := Int.emod_nonneg (p j) (show ns + 1 ≠ 0 by omega)
    have := Int.emod_lt_of_pos (p j) (show 0 < ns + 1 by omega)
    omega
  have kb : ∀ j, 0 ≤ bk j % 4 ∧ bk j % 4 < 4 := fun j => ⟨Int.emod_nonneg _ (by omega), Int.emod_lt_of_pos _ (by omega)⟩
  have hD : Vd.Ok ⟨m, vb, fun j => p j % (ns + 1) - bk j % 4, fun j => p j % (ns + 1), gn⟩ := by
    refine ⟨hm, fun i hi => ?_, fun i hi => ?_, fun i hi => (pb i).1, fun i hi => ?_, fun i hi => ?_, fun i hi => ?_⟩
    · have := pb i; have := kb i; show -10 ≤ p i % (ns + 1) - bk i % 4; omega
    · have := pb i; have := kb i; show p i % (ns + 1) - bk i % 4 ≤ 400; omega
    · have := pb i; show p i % (ns + 1) ≤ 400; omega
    · obtain ⟨_, _, _, _, _, _, _, r⟩ := hv i hi; show -200 ≤ gn i; omega
    · obtain ⟨_, _, _, _, _, _, _, r⟩ := hv i hi; show gn i ≤ 200; omega
  have htb6 : w6.heap[tb]? = some (.cells (titleCells sz sg) 35 (0, 0)) := (K6.block tb ltb5 (by unfold Ybulkdsao.B3; omega)).trans htb
  refine mid18 Q t6 w6 _ w5.heap.size PB pcap P2 cap2 tb b24 b25 b26 pa pa2 ⟨m, vb, fun j => p j % (ns + 1) - bk j % 4, fun j => p j % (ns + 1), gn⟩ ⟨ys.length / 2, fun j => ys.getD (2 * j) 0, fun j => ys.getD (2 * j + 1) 0⟩ sg sz ahead stp hA6
    rfl rfl rfl h5 r5.1 r5.2 rfl rfl rfl rfl rfl rfl hb hD hE r2.1 r2.2 e1 e2 e3 e4 f1 f3 f4 htb6 V6 r24 r25 r26 ?_
  intro t7 W' b hs h12 hdf hbb hio hsz hk
  refine hQ t7 W' b hs h12 hdf (by omega) ⟨hio.1.trans (K6.os.trans (B5.os.trans (B4.os.trans Bw3.os))), hio.2.trans (K6.output.trans (B5.output.trans (B4.output.trans Bw3.output)))⟩ (by omega) ?_
  intro k hk'
  rw [hk k (by omega), K6.block k (by omega) (by unfold Ybulkdsao.B3; omega), old5 k hk']
end Go.Proofs.Ybulkdsao
