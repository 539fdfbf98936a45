/-
  The iterator units$1 (20).
-/
import Derived.Test.YbulkdsaoIt
import Derived.Test.YbulkdsaoHeld
import Derived.Deep.LoopGhost
import Derived.Deep.RegionHeld3
import Derived.Deep.RegionLawGrows
import Derived.Laws.LoneSync
import Derived.LaidEqlPtr
import Derived.CallsIn
namespace Go.Proofs.Ybulkdsao
open Go.ChangeShapes Go.WideShapes Go.ChangeAt Go.RowKit Go.Sort
set_option linter.unusedVariables false
set_option linter.unusedSimpArgs false

theorem run_frombits (n : Int) (w : World) : (callFunc 41 #[.int .u64 n]).run Yba.prog w = .ok (.value (.float .f64 n.toNat)) w := by
  rw [run_callFunc_extern (e := Extern.MathFloatBits.float64frombits) Yba.func41 (by kernel_rfl) (by kernel_rfl) (by kernel_rfl) (by kernel_rfl)]
  rfl
theorem inf_any (w : World) : Calls Yba.prog 25 #[.int .i64 (-1)] w fun e w' => (∃ b, e = .returned (.float .f64 b)) ∧ w' = w := by
  have h := fun w => run_frombits 18442240474082181120 w
  generalize Int.toNat 18442240474082181120 = b at h
  go_enter Yba.func25, Yba.ntmps25
  go_wp2
  go_ret
  exact ⟨⟨_, rfl⟩, rfl⟩

/-- append to a slice of one's own, as one step of a region that draws. -/
theorem step_append_own {P : Program} {ops : Array Oper} {o : Oper} {a : Act} {w : World} {K : Act → World → Prop} {Q : Exit → Act → World → Prop} {E : Prop}
    (hg : o.guard = none) (s x : Operand) (t : TypeId) (hop : o.op = Op.call { callee := Callee.builtin Builtin.append, args := #[s, x], argTypes := #[t, t] })
    (base : Nat) (e : TypeId) (i : TypeInfo) (z : Value) (size bytes : Nat) (h1 : P.underlying t = some (.slice e)) (h2 : P.info? e = some i) (h3 : i.zero = some z) (h4 : i.size = size) (h5 : i.bytes = bytes) (h6 : z.cells.size = size) (h7 : 0 < size)
    (v : Value) (n : Nat) (xs : List Value) (hs : a.eval s = v) (hown : w.ownsRow base e size v n xs)
    (ad : Addr) (m c : Nat) (news : List Value) (hx : a.eval x = .slice (some ad) m c) (hn : news.length = m * size) (hc : ∀ j u, news[j]? = some u → w.cell? (ad.add j) = some u) (h1c : ∀ u ∈ news, u.oneCell' = true)
    (b1 : n + m ≤ maxLen) (b2 : (n + m) * bytes ≤ 140737488355328) (hb : base ≤ w.heap.size)
    (hK : ∀ v' w', w'.ownsRow base e size v' (n + m) (xs ++ news) → w.grownBy w' v.ownBlock → K (a.put o.dst v') w') :
    if Region.wanted o (yielded ops a.tmps) = true then Oper.wp P o a w K Q else E := by
  have hw : Region.wanted o (yielded ops a.tmps) = true := by simp [Region.wanted, hg]
  rw [if_pos hw]
  obtain ⟨v', w', hrun, r1, r2, _⟩ := run_append_own (P := P) w base t o.type e i z size bytes h1 h2 h3 h4 h5 h6 h7 v n xs hown ad m c news hn hc h1c b1 b2 hb
  unfold Oper.wp
  simp [execOp, hop, resolve, invoke, builtin, hs, hx, hrun, Result.andThen]
  exact hK v' w' r1 r2

theorem Yba.info101 : (Yba.prog.info? 101).map (fun i => (i.zero, i.size, i.bytes)) = some (some (.agg #[.pointer none, .int .i64 0, .int .i64 0]), 3, 24) := by kernel_rfl

/-- The cells of the first k cursors as they start. -/
def curs (D : Vd) (sg sz : Int) : Nat → List Value
  | 0 => []
  | k + 1 => curs D sg sz k ++ [.pointer (some ⟨D.vb k, 0, none⟩), .int .i64 0, .int .i64 (offL sg sz (D.pos k))]

theorem grownBy_own {a b c : World} {r : Option Nat} (h : a.grownBy b none) (k : b.grownBy c r) (hr : ∀ g, r = some g → a.heap.size ≤ g) : a.grownBy c none :=
  ⟨k.os.trans h.os, k.tape.trans h.tape, k.output.trans h.output, Nat.le_trans h.size k.size, fun i hi _ => (k.block i (Nat.lt_of_lt_of_le hi h.size) (fun e => by have := hr i e.symm; omega)).trans (h.block i hi (by simp))⟩

theorem new3 (w : World) (t : TypeId) (a b c : Value) : ∀ j u, [a, b, c][j]? = some u → (w.alloc (.cells #[a, b, c] t)).cell? (Addr.add ⟨w.heap.size, 0, none⟩ j) = some u := by
  intro j u hu
  have hadd : (⟨w.heap.size, 0, none⟩ : Addr).add j = ⟨w.heap.size, j, none⟩ := by unfold Addr.add; split <;> simp_all
  rw [hadd, cell_of_row _ _ _ _ _ _ (heap_alloc_new w _)]
  match j, hu with
  | 0, hu => exact hu
  | 1, hu => exact hu
  | 2, hu => exact hu
  | j + 3, hu => cases hu
theorem keep_append {N0 k e size : Nat} {u v : Value} {xs : List Value} {wr W w1 : World} {ob : Obj} {b o : Nat} (hc : wr.cell? ⟨b, o, none⟩ = some v) (hb : b < N0) (hown : wr.ownsRow N0 e size u k xs) (hg : (W.alloc ob).grownBy w1 u.ownBlock) (hW : W.heap = wr.heap) : w1.cell? ⟨b, o, none⟩ = some v := by
  have hlt := block_lt_of_cell hc
  refine hg.cell (a := ⟨b, o, none⟩) ?_ ?_
  · rw [World.cell?_of_block (w := wr) (w' := W.alloc ob) ((Below.heap_alloc W ob b (by rw [hW]; exact hlt)).trans (by rw [hW]))]
    exact hc
  · intro e
    have := (hown.lt b e.symm).1
    omega

theorem curs_len (D : Vd) (sg sz : Int) : ∀ k, (curs D sg sz k).length = k * 3
  | 0 => rfl
  | k + 1 => by simp only [curs, List.length_append, curs_len D sg sz k, List.length_cons, List.length_nil]; omega
theorem curs_get (D : Vd) (sg sz : Int) : ∀ k j, j < k → (curs D sg sz k)[j * 3]? = some (.pointer (some ⟨D.vb j, 0, none⟩)) ∧ (curs D sg sz k)[j * 3 + 1]? = some (.int .i64 0) ∧ (curs D sg sz k)[j * 3 + 2]? = some (.int .i64 (offL sg sz (D.pos j)))
  | 0, j, h => by omega
  | k + 1, j, h => by
    have hl := curs_len D sg sz k
    by_cases e : j = k
    · subst e
      simp only [curs]
      rw [List.getElem?_append_right (by omega), List.getElem?_append_right (by omega), List.getElem?_append_right (by omega), hl]
      simp only [Nat.sub_self, show j * 3 + 1 - j * 3 = 1 by omega, show j * 3 + 2 - j * 3 = 2 by omega]
      exact ⟨rfl, rfl, rfl⟩
    · have := curs_get D sg sz k j (by omega)
      simp only [curs]
      rw [List.getElem?_append_left (by omega), List.getElem?_append_left (by omega), List.getElem?_append_left (by omega)]
      exact this
theorem Cs.start {w : World} {CB cap N0 : Nat} {cur : Array Value} {D : Vd} {E : Pd} {sg sz : Int} (hblk : w.heap[CB]? = some (Obj.cells cur 101 (0, 0))) (htake : cur.toList.take (D.nv * 3) = curs D sg sz D.nv) : Cs w CB D E (fun j => offL sg sz (D.pos j)) := by
  have c : ∀ o v, (curs D sg sz D.nv)[o]? = some v → w.cell? ⟨CB, o, none⟩ = some v := fun o v h => by
    rw [cell_of_row w CB o cur 101 (0, 0) hblk]
    rw [← htake, List.getElem?_take] at h
    split at h
    · simpa using h
    · cases h
  exact ⟨⟨cur, hblk⟩, fun j hj => c _ _ (curs_get D sg sz D.nv j hj).1, fun j hj => ⟨0, Nat.zero_le _, rfl, c _ _ (curs_get D sg sz D.nv j hj).2.1⟩, fun j hj => c _ _ (curs_get D sg sz D.nv j hj).2.2⟩

theorem Env.set45 {Z : Nat → Prop} {w : World} {xb nb fb tb VB vcap PB pcap : Nat} {pa : Option Addr} {D : Vd} {E : Pd} {sg sz ah : Int} (h : Env Z w xb nb fb tb VB vcap PB pcap pa D E sg sz ah) (v : Value) (h1 : VB ≠ fb) (h2 : 0 < E.np → PB ≠ fb) :
    Env Z (w.setCell ⟨fb, 45, none⟩ v) xb nb fb tb VB vcap PB pcap pa D E sg sz ah := by
  have c : ∀ {b o : Nat} {u : Value}, (b ≠ fb ∨ o ≠ 45) → w.cell? ⟨b, o, none⟩ = some u → (w.setCell ⟨fb, 45, none⟩ v).cell? ⟨b, o, none⟩ = some u := fun hn hc => by
    rw [World.cell?_setCell_other _ _ _ _ (by intro e; injection e with e1 e2; rcases hn with hn | hn; exact hn e1.symm; exact hn e2.symm)]; exact hc
  exact ⟨c (.inr (by decide)) h.x, c (.inr (by decide)) h.n0, c (.inr (by decide)) h.n1, c (.inr (by decide)) h.n2, ⟨c (.inr (by decide)) h.fx.ft, c (.inr (by decide)) h.fx.fa, c (.inr (by decide)) h.fx.ts, c (.inr (by decide)) h.fx.tg⟩, c (.inr (by decide)) h.du,
    ⟨c (.inr (by decide)) h.vs.fv, fun i hi => c (.inl h1) (h.vs.el i hi), fun i hi => ⟨c (.inr (by decide)) (h.vs.vw i hi).s, c (.inr (by decide)) (h.vs.vw i hi).p, c (.inr (by decide)) (h.vs.vw i hi).b0, c (.inr (by decide)) (h.vs.vw i hi).b1, c (.inr (by decide)) (h.vs.vw i hi).b2⟩⟩,
    ⟨c (.inr (by decide)) h.pl.fp, h.pl.pa, fun j hj => c (.inl (h2 (by omega))) (h.pl.s j hj), fun j hj => c (.inl (h2 (by omega))) (h.pl.e j hj)⟩, fun j hj => by
      obtain ⟨cc, t, hh⟩ := h.vk j hj
      by_cases e : D.vb j = fb
      · rw [e] at hh ⊢
        obtain ⟨cur, hc⟩ := blk_setCell (o := 45) (v := v) ⟨cc, hh⟩
        exact ⟨cur, t, hc⟩
      · exact ⟨cc, t, (heap_setCell_other _ _ _ _ e).trans hh⟩, h.z⟩

/-- A unit as yield gets it. -/
def encU (D : Vd) (u : Nat × Int × Int) : Value := .agg #[.int .i64 u.2.1, .int .i64 u.2.2, .pointer (some ⟨D.vb u.1, 0, none⟩)]

def nxt (CB : Nat) : Option (Nat × Int × Int) → Value
  | none => .pointer none
  | some u => .pointer (some ⟨CB, u.1 * 3, none⟩)
def ubox : Option (Nat × Int × Int) → Array Value
  | none => #[.int .i64 0, .int .i64 0]
  | some u => #[.int .i64 u.2.1, .int .i64 u.2.2]

theorem Hw.cs {w w' : World} {CB k kk : Nat} {D : Vd} {E : Pd} {a : Nat → Int} (h : Hw w w' CB (k * 3) kk) (hc : Cs w CB D E a) (hk : k < D.nv) (hkk : kk ≤ E.np) (ha : adv E (a k) kk = adv E (a k) 0) : Cs w' CB D E a := by
  obtain ⟨q, os, rfl⟩ := h
  have h1 := hc.setI hk hkk ha
  refine h1.keep ?_
  obtain ⟨cur, hb⟩ := h1.blk
  have hlt := (Array.getElem?_eq_some_iff.1 hb).1
  exact Array.getElem?_append_left hlt
theorem Hw.other {w w' : World} {CB o k b : Nat} (h : Hw w w' CB o k) (hb : b ≠ CB) (hl : b < w.heap.size) : w'.heap[b]? = w.heap[b]? := h.grownBy.block b hl (by simpa using hb)
theorem box_set2 {w : World} {b t : Nat} {p q x e : Value} (h : w.heap[b]? = some (Obj.cells #[p, q] t (0, 0))) : ((w.setCell ⟨b, 0, none⟩ x).setCell ⟨b, 1, none⟩ e).heap[b]? = some (Obj.cells #[x, e] t (0, 0)) := by
  simp only [World.setCell]
  rw [Array.getElem?_modify, if_pos rfl, Array.getElem?_modify, if_pos rfl, h]
  rfl
theorem ubox_two (o : Option (Nat × Int × Int)) : ∃ p q : Int, ubox o = #[.int .i64 p, .int .i64 q] := by
  cases o with
  | none => exact ⟨_, _, rfl⟩
  | some u => exact ⟨_, _, rfl⟩

theorem adv_on' {E : Pd} {a a' : Int} {k : Nat} (hk : k ≤ E.np) (h : adv E a k = adv E a 0) (ha : a ≤ a') : adv E a' k = adv E a' 0 := by
  have h1 := (adv_le (E := E) (a := a) _ k rfl hk).1
  have := adv_skip (E := E) (a := a') k 0 (by omega) (fun j h2 h3 => by
    have := adv_before (E := E) (a := a) _ 0 rfl (by omega) j (by omega) (by omega)
    omega)
  rw [this, Nat.zero_add]
theorem Yba.info49 : ∃ j, Yba.prog.info? 49 = some j ∧ j.size ≠ 0 := by
  have h : (Yba.prog.info? 49).map (fun i => i.size != 0) = some true := by kernel_rfl
  obtain ⟨j, hj, hs⟩ := Option.map_eq_some_iff.1 h
  exact ⟨j, hj, by simpa using hs⟩

/-- What the caller's round promises. -/
structure Rounds (l N0 : Nat) (Z : Nat → Prop) (D : Vd) (tot : List (Nat × Int × Int)) (I Ix : List (Nat × Int × Int) → World → Prop) : Prop where
  st : ∀ (pre : List (Nat × Int × Int)) (W W' : World) (r : Nat) (cur : Array Value), W.heap[r]? = some (Obj.cells cur 101 (0, 0)) → N0 ≤ r → W.grownBy W' (some r) → I pre W → I pre W'
  go : ∀ (pre : List (Nat × Int × Int)) (u : Nat × Int × Int) (rest : List (Nat × Int × Int)) (W : World), pre ++ u :: rest = tot → I pre W → ∃ fn tmps assign body, (Instr.yield l #[encU D u]).run Yba.prog W = .ok (.round l fn tmps assign body) W ∧
    RoundIn Fence.wide 3 Yba.prog l fn tmps assign body W (fun e W' => W.heap.size ≤ W'.heap.size ∧ (∀ (k : Nat), Z k → W'.heap[k]? = W.heap[k]?) ∧
      (∀ (k t : Nat) (cur : Array Value), t = 101 ∨ t = 29 → W.heap[k]? = some (Obj.cells cur t (0, 0)) → W'.heap[k]? = some (Obj.cells cur t (0, 0))) ∧
      ((e = .returned (.bool true) ∧ I (pre ++ [u]) W') ∨ (e = .returned (.bool false) ∧ Ix (pre ++ [u]) W')))

theorem take_one {α : Type} (pre : List α) (u : α) (rest : List α) : (pre ++ u :: rest).take (pre.length + 1) = pre ++ [u] := by
  rw [List.take_append, List.take_of_length_le (by omega), show pre.length + 1 - pre.length = 1 by omega]; rfl

/-- Is the owner the viewer at hand? -/
theorem own_eq {D : Vd} {o : Option Nat} {j : Nat} {W : World} (hj : j < D.nv) (ho : ∀ i, o = some i → i < D.nv) (hinj : ∀ i j, i < D.nv → j < D.nv → D.vb i = D.vb j → i = j) (hk : ∀ j, j < D.nv → ∃ c t, W.heap[D.vb j]? = some (Obj.cells c t (0, 0))) :
    (binOp .eql 41 (ptrOf D o) (.pointer (some ⟨D.vb j, 0, none⟩))).run Yba.prog W = .ok (.bool (decide (o = some j))) W := by
  obtain ⟨i0, h1, h2⟩ := Yba.info49
  cases o with
  | none =>
    have h : ∀ d : Nat, (Op.equalIn (d + 1) 41 (.pointer none) (.pointer (some ⟨D.vb j, 0, none⟩))).run Yba.prog W = .ok false W := fun d => by
      simp [Op.equalIn, run_underlying Yba.underlying41]
    simp only [ptrOf, Option.map_none, binOp]
    simp [Op.equal, Op.maxDepth, h 9999]
  | some i =>
    simp only [ptrOf, Option.map_some]
    by_cases e : i = j
    · subst e
      rw [decide_eq_true rfl]
      exact run_eql_ptr_same W _ Yba.underlying41 h1
    · rw [decide_eq_false (by intro h; cases h; exact e rfl)]
      obtain ⟨c, t, hc⟩ := hk i (ho i rfl)
      obtain ⟨c', t', hc'⟩ := hk j hj
      exact run_eql_ptr_other W Yba.underlying41 h1 h2 (fun h => e (hinj i j (ho i rfl) hj (by injection h))) hc hc'

set_option maxRecDepth 100000 in
set_option maxHeartbeats 4000000 in
theorem units1_any (l xb nb fb tb VB vcap PB pcap : Nat) (pa : Option Addr) (D : Vd) (E : Pd) (sg sz ah : Int) (Z : Nat → Prop) (w : World)
    (hb : Bds sg sz) (hD : D.Ok) (hE : E.Ok sz) (ha0 : 0 ≤ ah) (ha1 : ah ≤ 255) (env : Env Z w xb nb fb tb VB vcap PB pcap pa D E sg sz ah) (hZ : ∀ k, Z k → k < w.heap.size)
    (hcur : w.cell? ⟨fb, 45, none⟩ = some (.slice none 0 0)) (hff : w.frozen? ⟨fb, 45, none⟩ = false) (h45 : VB ≠ fb ∧ (0 < E.np → PB ≠ fb)) (hinj : ∀ i j, i < D.nv → j < D.nv → D.vb i = D.vb j → i = j)
    (I Ix : List (Nat × Int × Int) → World → Prop) (hR : Rounds l w.heap.size Z D (outs E D sg sz ah (left sz (fun j => offL sg sz (D.pos j)) D.nv + 1) (fun j => offL sg sz (D.pos j))) I Ix)
    (hI0 : ∀ W, w.heap.size ≤ W.heap.size → (W.os = w.os ∧ W.output = w.output) → (∀ k, k < w.heap.size → k ≠ fb → W.heap[k]? = w.heap[k]?) → I [] W) :
    Calls Yba.prog 20 #[.func (.yield l) #[] #[], .pointer (some ⟨xb, 0, none⟩), .pointer (some ⟨nb, 0, none⟩)] w
      fun e W => (∃ v, e = .returned v) ∧ Env Z W xb nb fb tb VB vcap PB pcap pa D E sg sz ah ∧
        (∃ CB cap a, (D.nv = 0 ∧ W.cell? ⟨fb, 45, none⟩ = some (.slice none 0 0)) ∨ (W.cell? ⟨fb, 45, none⟩ = some (.slice (some ⟨CB, 0, none⟩) D.nv cap) ∧ Cs W CB D E a)) ∧
        (I (outs E D sg sz ah (left sz (fun j => offL sg sz (D.pos j)) D.nv + 1) (fun j => offL sg sz (D.pos j))) W ∨
         ∃ m, Ix ((outs E D sg sz ah (left sz (fun j => offL sg sz (D.pos j)) D.nv + 1) (fun j => offL sg sz (D.pos j))).take (m + 1)) W) := by
  have hmo : Yba.prog.follows .mixedOrders = true := by kernel_rfl
  have hmf : ∀ (fn : Fn) (first cap : Array Value) (w : World), (Instr.makeFunc fn first cap).run Yba.prog w = .ok (.func fn first cap) w := fun _ _ _ _ => rfl
  have hx := env.x
  have hv := env.vs.fv
  have hnv := hD.n
  generalize htot : outs E D sg sz ah (left sz (fun j => offL sg sz (D.pos j)) D.nv + 1) (fun j => offL sg sz (D.pos j)) = tot at hR ⊢
  have HTOT := hideIt htot
  clear htot
  generalize hnn : D.nv = nv at *
  have HNN := hideIt hnn
  have HE := hideIt env
  have HB := hideIt hb
  have HD := hideIt hD
  have HEO := hideIt hE
  have HZ := hideIt hZ
  have HI0 := hideIt hI0
  have HR := hideIt hR
  have HJ := hideIt hinj
  clear hnn env hb hD hE hZ hI0 hR hinj
  go_enter Yba.func20, Yba.ntmps20
  go_wp2
  have HCUR := hideIt hcur
  have HFF := hideIt hff
  clear hx hv hcur hff
  go_loopw [4, 27] (fun c i wr => ∃ k : Nat, k ≤ nv ∧ i = .int .i64 k ∧ wr.ownsRow w.heap.size 101 3 c k (curs D sg sz k) ∧ w.grownBy wr none) (fun _ i _ => nv - (intOf i).toNat)
  case atStart => exact ⟨0, Nat.zero_le _, rfl, World.ownsRow_nil _ _ _ _, grownBy_refl _ _⟩
  case round =>
    obtain ⟨k, hk, rfl, hown, hg⟩ := hrel
    by_cases hlt : k < nv
    · have hltD : k < D.nv := by rw [HNN.out]; exact hlt
      have env1 := HE.out.keep (w' := wr) (fun j hj => hg.block j (HZ.out j hj) (by simp))
      have hx := env1.x
      have el := env1.vs.el k hltD
      have hp := (env1.vs.vw k hltD).p
      have hki : (k : Int) < (nv : Int) := by omega
      have hki0 : (0 : Int) ≤ (k : Int) := by omega
      obtain ⟨i0, hi, hz0, hz1, hz2⟩ := info_parts Yba.info101
      have HI := hideIt hi
      have HZ0 := hideIt hz0
      have HZ1 := hideIt hz1
      have HZ2 := hideIt hz2
      have HOWN := hideIt hown
      have HG := hideIt hg
      have HE1 := hideIt env1
      have CO := hideIt (fun W h => offset_any fb tb (D.pos k) sg sz ah HB.out (by have := HD.out.p0 k hltD; omega) (by have := HD.out.p1 k hltD; omega) W h)
      clear hi hz0 hz1 hz2 hown hg env1
      have FX := hideIt HE1.out.fx
      have LX := HZ.out _ HE1.out.z.1
      have LV := HZ.out _ (HE1.out.z.2.2.2.2.2.2 k hltD)
      have hne1 := World.new_ne wr ⟨xb, 0, none⟩ hx
      have hne2 := World.new_ne wr ⟨D.vb k, 1, none⟩ hp
      go_wp2
      go_region_held3 (fun W => W.cell? ⟨xb, 0, none⟩ = some (.pointer (some ⟨fb, 0, none⟩)) ∧ W.cell? ⟨D.vb k, 1, none⟩ = some (.int .i64 (D.pos k))) (first | exact ⟨ks1, ks2⟩ | go_keep)
        (first
          | (go_at_call 21; refine (CO.out _ (FX.out.drewN 1)).mono ?_; rintro e w' ⟨rfl, n, rfl⟩)
          | (refine step_append_own rfl (.tmp 31) (.tmp 40) 83 rfl w.heap.size 101 i0 _ 3 24 Yba.underlying83 HI.out HZ0.out HZ1.out HZ2.out rfl (by decide) u4 k (curs D sg sz k) rfl (HOWN.out.alloc _) ⟨wr.heap.size, 0, none⟩ 1 1 [.pointer (some ⟨D.vb k, 0, none⟩), .int .i64 0, .int .i64 (offL sg sz (D.pos k))] rfl rfl ?cc ?dd ?ee ?ff ?gg ?_
             case cc => exact new3 _ _ _ _ _
             case dd => (intro u hu; simp at hu; rcases hu with rfl | rfl | rfl <;> rfl)
             case ee => (unfold maxLen; omega)
             case ff => omega
             case gg => (have := HG.out.size; simp; omega)
             intro v' w1 hown1 hgrow1
             have ks1 : w1.cell? ⟨xb, 0, none⟩ = some (.pointer (some ⟨fb, 0, none⟩)) := keep_append HE1.out.x LX HOWN.out hgrow1 rfl
             have ks2 : w1.cell? ⟨D.vb k, 1, none⟩ = some (.int .i64 (D.pos k)) := keep_append (HE1.out.vs.vw k hltD).p LV HOWN.out hgrow1 rfl))
      go_wp2
      go_roundw
      case rel => exact ⟨k + 1, by omega, by go_num, hown1, grownBy_own (grownBy_trans HG.out (grownBy_alloc' (grownBy_drewN (grownBy_refl _ none) _) _)) hgrow1 (fun g hg => (HOWN.out.lt g hg).1)⟩
      case measure => simp [intOf]; omega
    · have hkn : nv = k := by omega
      subst hkn
      clear hlt hk
      have env1 := HE.out.keep (w' := wr) (fun j hj => hg.block j (HZ.out j hj) (by simp))
      have hx := env1.x
      have hlf := block_lt_of_cell HCUR.out
      have c45 : wr.cell? ⟨fb, 45, none⟩ = some (.slice none 0 0) := (World.cell?_of_block (hg.block fb hlf (by simp))).trans HCUR.out
      have f45 : wr.frozen? ⟨fb, 45, none⟩ = false := (World.frozen?_of_block (hg.block fb hlf (by simp))).trans HFF.out
      have HI1 : Hid (∀ v, I [] (wr.setCell ⟨fb, 45, none⟩ v)) := fun v => HI0.out _ (by have := hg.size; simpa using this) ⟨hg.os, hg.output⟩ (fun j hj hn => (heap_setCell_other _ _ _ _ hn).trans (hg.block j hj (by simp)))
      have HE1 : Hid (∀ v, Env Z (wr.setCell ⟨fb, 45, none⟩ v) xb nb fb tb VB vcap PB pcap pa D E sg sz ah) := fun v => env1.set45 v h45.1 h45.2
      have HIA : Hid (∀ v, I [] ((wr.setCell ⟨fb, 45, none⟩ v).alloc (.cells #[.int .i64 0, .int .i64 0] 29))) := fun v => HI0.out _ (by have := hg.size; simp; omega) ⟨hg.os, hg.output⟩ (fun j hj hn => (Below.heap_alloc _ _ _ (by have := hg.size; simp; omega)).trans ((heap_setCell_other _ _ _ _ hn).trans (hg.block j hj (by simp))))
      have HGS := hideIt hg.size
      clear env1 hg HE
      rcases hown.2 with ⟨hu4, hk0⟩ | ⟨CB, cap, cur, hu4, hCB, hblk, hcap, hmax, hsz, htake⟩
      · subst hu4
        subst hk0
        have htot : tot = [] := by
          rw [← HTOT.out]; simp only [outs, HNN.out, best]
        have HTT := hideIt htot
        have hgl : w.heap.size ≤ (wr.setCell ⟨fb, 45, none⟩ (.slice none 0 0)).heap.size := by have := HGS.out; simpa using this
        have henv := HE1.out (.slice none 0 0)
        have hI1 : I [] ((wr.setCell ⟨fb, 45, none⟩ (.slice none 0 0)).alloc (.cells #[.int .i64 0, .int .i64 0] 29)) := HIA.out _
        have h451 : (wr.setCell ⟨fb, 45, none⟩ (.slice none 0 0)).cell? ⟨fb, 45, none⟩ = some (.slice none 0 0) := World.cell?_setCell_same _ _ _ c45
        generalize hw5 : wr.setCell ⟨fb, 45, none⟩ (.slice none 0 0) = w5 at *
        have H5 := hideIt henv
        have H5I := hideIt hI1
        have H545 := hideIt h451
        clear henv hI1 h451 htot HE1 HI1
        go_wp2_with fail
        try rw [hw5]
        go_loopg [8] 1 (fun g _ wq => g = 1 ∧ wq = w5)
        case atStart => exact ⟨rfl, rfl⟩
        case round =>
          obtain ⟨rfl, rfl⟩ := hrel
          go_wp2_with (first | (go_at_call 25; refine (inf_any _).mono ?_; rintro e w' ⟨⟨b, rfl⟩, rfl⟩))
          go_loopw [8, 10, 52] (fun nx nd i wi => nx = .pointer none ∧ i = .int .i64 0 ∧ wi = wr.alloc (.cells #[.int .i64 0, .int .i64 0] 29)) (fun _ _ i _ => 0)
          case atStart => exact ⟨rfl, rfl, rfl⟩
          case round =>
            obtain ⟨rfl, rfl, rfl⟩ := hrel
            go_wp2
            first | go_end0 | refine bodyPost_ret (results_none rfl _ _ _) rfl ?_
            refine ⟨⟨_, rfl⟩, H5.out.keep (fun k hk => Below.heap_alloc _ _ _ (by have := HZ.out k hk; omega)), ⟨0, 0, fun _ => 0, ?_⟩, .inl ?_⟩
            · have hh := (World.cell?_of_block (Below.heap_alloc wr (.cells #[.int .i64 0, .int .i64 0] 29) fb (block_lt_of_cell H545.out))).trans H545.out
              first | exact .inl ⟨rfl, hh⟩ | exact .inl hh
            · rw [HTT.out]; exact H5I.out
      · subst hu4
        rw [← HNN.out] at htake
        have hfc : CB ≠ fb := by intro e; subst e; exact absurd hlf (by show ¬ CB < w.heap.size; omega)
        have HCS : Hid (∀ v, Cs (wr.setCell ⟨fb, 45, none⟩ v) CB D E (fun j => offL sg sz (D.pos j))) := fun v => Cs.start (N0 := 0) (cap := 0) ((heap_setCell_other _ _ _ _ hfc).trans hblk) htake
        clear htake hsz hmax hblk hown
        go_wp2_with fail
        go_loopg [8] (left sz (fun j => offL sg sz (D.pos j)) nv + 1) (fun g _ wq => ∃ (a : Nat → Int) (pre : List (Nat × Int × Int)), (∀ j, j < D.nv → 0 ≤ a j ∧ a j ≤ sz) ∧ left sz a D.nv < g ∧ Env Z wq xb nb fb tb VB vcap PB pcap pa D E sg sz ah ∧ Cs wq CB D E a ∧ I pre wq ∧ pre ++ outs E D sg sz ah g a = tot ∧ wq.cell? ⟨fb, 45, none⟩ = some (.slice (some ⟨CB, 0, none⟩) nv cap) ∧ w.heap.size ≤ wq.heap.size)
        case atStart =>
          exact ⟨_, [], fun j hj => ⟨by
            have h1 := HD.out.p0 j hj
            have h2 := HB.out.g0
            have h3 := HB.out.z0
            have := Int.mul_nonneg h1 (show 0 ≤ sg by omega)
            simp only [offL]; split <;> omega, (offL_bd HB.out (by have := HD.out.p0 j hj; omega) (by have := HD.out.p1 j hj; omega)).2⟩, by rw [HNN.out]; omega, HE1.out _, HCS.out _, HI1.out _, HTOT.out, World.cell?_setCell_same _ _ _ c45, by have := HGS.out; simpa using this⟩
        case round =>
          clear HI1 HE1 HCS c45 f45 hx
          obtain ⟨a, pre, hab, hleft, henv, hcs, hI, hout, hc45, hsz⟩ := hrel
          have HAB := hideIt hab
          have HLEFT := hideIt hleft
          have HE := hideIt henv
          have HCS := hideIt hcs
          have HI := hideIt hI
          have HOUT := hideIt hout
          have H45 := hideIt hc45
          have HSZ := hideIt hsz
          have HCBL : CB < wr.heap.size := by obtain ⟨cur, hc⟩ := hcs.blk; exact (Array.getElem?_eq_some_iff.1 hc).1
          clear hab hleft henv hcs hI hout hc45 hsz
          go_wp2_with (first | (go_at_call 25; refine (inf_any _).mono ?_; rintro e w' ⟨⟨b, rfl⟩, rfl⟩))
          obtain ⟨wo, rfl⟩ : ∃ wo : World, wo = wr := ⟨_, rfl⟩
          go_loopw [8, 10, 52] (fun nx nd i wi => ∃ k : Nat, k ≤ nv ∧ i = .int .i64 k ∧ nx = nxt CB (best E D sg sz ah a k) ∧ (∃ b, nd = .float .f64 b ∧ ∀ u, best E D sg sz ah a k = some u → b = fw (need D sg u.2.1 u.1)) ∧ wo.grownBy wi (some CB) ∧ Cs wi CB D E a ∧ wi.heap[wo.heap.size]? = some (Obj.cells (ubox (best E D sg sz ah a k)) 29 (0, 0))) (fun _ _ i _ => nv - (intOf i).toNat)
          case atStart => exact ⟨0, Nat.zero_le _, rfl, rfl, ⟨b, rfl, fun u h => by cases h⟩, World.grownBy_alloc _ _ _, HCS.out.keep (Below.heap_alloc _ _ _ HCBL), heap_alloc_new _ _⟩
          case round =>
            obtain ⟨k, hk, rfl, rfl, ⟨bn, rfl, hbn⟩, hg, hcs, hub⟩ := hrel
            have hZk : ∀ j, Z j → wr.heap[j]? = wo.heap[j]? := fun j hj => hg.block j (by have := HZ.out j hj; have := HSZ.out; omega) (by have := HZ.out j hj; simp; omega)
            have henv := HE.out.keep (w' := wr) hZk
            have HENV := hideIt henv
            have HBN := hideIt hbn
            have HG := hideIt hg
            have HC1 := hideIt hcs
            have HUB := hideIt hub
            have hlo : wo.heap.size < wr.heap.size := (Array.getElem?_eq_some_iff.1 hub).1
            clear hbn hg hcs hub hZk henv
            by_cases hlt : k < nv
            · have hltD : k < D.nv := by rw [HNN.out]; exact hlt
              obtain ⟨kk, hkk, hadv, hci⟩ := HC1.out.i k hltD
              have hki : (k : Int) < (nv : Int) := by omega
              have hki0 : (0 : Int) ≤ (k : Int) := by omega
              have henvh : Ybulkdsao.HE wr xb fb tb PB pcap CB (k * 3) (D.vb k) pa E sg sz ah (D.pos k) (a k) kk :=
                ⟨HENV.out.x, HENV.out.fx, HENV.out.pl, HC1.out.v k hltD, hci, HC1.out.a k hltD, HC1.out.frozen _, (HENV.out.vs.vw k hltD).p, by
                  obtain ⟨z1, z2, z3, z4, z5, z6, z7⟩ := HENV.out.z
                  have y1 := HZ.out _ z1
                  have y2 := HZ.out _ z3
                  have y3 := HZ.out _ z4
                  have y4 := HZ.out _ z6
                  have y5 := HZ.out _ (z7 k hltD)
                  omega⟩
              have CH := hideIt (head_any xb fb tb PB pcap CB (k * 3) (D.vb k) pa E sg sz ah (D.pos k) (a k) kk HB.out HEO.out ha0 ha1 (HD.out.p0 k hltD) (HD.out.p1 k hltD) (HAB.out k hltD).1 (by have := (HAB.out k hltD).2; have := HB.out.z1; omega) hkk wr henvh)
              rw [headL_adv hadv] at CH
              change Hid (Calls Yba.prog 22 #[.pointer (some ⟨CB, k * 3, none⟩), .pointer (some ⟨xb, 0, none⟩)] wr fun e w' => e = .returned (headV (hd E D sg sz ah a k)) ∧ Hw wr w' CB (k * 3) (adv E (a k) kk)) at CH
              have HADV := hideIt hadv
              clear hci henvh hadv
              cases hh : hd E D sg sz ah a k with
              | none =>
                have hnext : best E D sg sz ah a (k + 1) = best E D sg sz ah a k := by simp only [best, hh]
                have HX := hideIt hnext
                rw [hh] at CH
                clear hnext hh
                go_wp2_with (first | (go_at_call 22; refine CH.out.mono ?_; rintro e w' ⟨rfl, hw'⟩; have HW := hideIt hw'; clear hw'; simp only [headV]))
                have hki' : adv E (a k) kk ≤ E.np := (adv_le _ _ rfl hkk).2
                have hc2 := HW.out.cs HC1.out hltD hki' (by rw [HADV.out]; exact adv_idem)
                refine ⟨⟨k + 1, by omega, by go_num, by rw [HX.out], ⟨bn, rfl, by rw [HX.out]; exact HBN.out⟩, grownBy_alloc' (grownBy_trans HG.out HW.out.grownBy) _, hc2.keep (Below.heap_alloc _ _ _ ?_), ?_⟩, ?_⟩
                · obtain ⟨cur, hb⟩ := hc2.blk
                  exact (Array.getElem?_eq_some_iff.1 hb).1
                · rw [HX.out]
                  exact (Below.heap_alloc _ _ _ (by have := HW.out.grownBy.size; omega)).trans ((HW.out.other (by omega) hlo).trans HUB.out)
                · simp [intOf]; omega
              | some xe =>
                obtain ⟨x, e⟩ := xe
                obtain ⟨b0, b1, b2, b3, b4⟩ := headL_bd HB.out HEO.out (HAB.out k hltD).1 hh
                have bz := HB.out.z1
                have bg := HB.out.g0
                have hne : ¬ sg = 0 := by omega
                obtain ⟨d0, d1⟩ := div_bd b0 (by omega) HB.out.g0
                have HH := hideIt hh
                rw [hh] at CH
                clear hh
                go_wp2_with (first | (go_at_call 22; refine CH.out.mono ?_; rintro e w' ⟨rfl, hw'⟩; have HW := hideIt hw'; clear hw'; simp only [headV]))
                have hki' : adv E (a k) kk ≤ E.np := (adv_le _ _ rfl hkk).2
                have hc2 := HW.out.cs HC1.out hltD hki' (by rw [HADV.out]; exact adv_idem)
                have hg2 := grownBy_trans HG.out HW.out.grownBy
                have hub2 := (HW.out.other (b := wo.heap.size) (by omega) hlo).trans HUB.out
                have hl2 : wo.heap.size < w'.heap.size := (Array.getElem?_eq_some_iff.1 hub2).1
                obtain ⟨cur2, hcb2⟩ := hc2.blk
                have hCl : CB < w'.heap.size := (Array.getElem?_eq_some_iff.1 hcb2).1
                generalize hw3 : w'.alloc (Obj.cells #[Value.int IntKind.i64 x, Value.int IntKind.i64 e] 29) = w3
                generalize hhb : w'.heap.size = hb at *
                have hc3 : Cs w3 CB D E a := by rw [← hw3]; exact hc2.keep (Below.heap_alloc _ _ _ (by omega))
                have hg3 : wo.grownBy w3 (some CB) := by rw [← hw3]; exact grownBy_alloc' hg2 _
                have hub3 : w3.heap[wo.heap.size]? = some (Obj.cells (ubox (best E D sg sz ah a k)) 29 (0, 0)) := by rw [← hw3]; exact (Below.heap_alloc _ _ _ (by omega)).trans hub2
                have hhb3 : w3.heap[hb]? = some (Obj.cells #[.int .i64 x, .int .i64 e] 29 (0, 0)) := by rw [← hw3, ← hhb]; exact heap_alloc_new _ _
                have henv3 := HE.out.keep (w' := w3) (fun j hj => hg3.block j (by have := HZ.out j hj; have := HSZ.out; omega) (by have := HZ.out j hj; simp; omega))
                have y1 := fun n os => cell_grown (block_lt_of_cell henv3.x) henv3.x n os
                have y2 := fun n os => cell_grown (block_lt_of_cell henv3.n0) henv3.n0 n os
                have y3 := fun n os => cell_grown (block_lt_of_cell henv3.n1) henv3.n1 n os
                have y4 := fun n os => cell_grown (block_lt_of_cell henv3.n2) henv3.n2 n os
                have y5 := fun n os => cell_grown (block_lt_of_cell henv3.fx.ft) henv3.fx.ft n os
                have y6 := fun n os => cell_grown (block_lt_of_cell henv3.fx.tg) henv3.fx.tg n os
                have y7 := fun n os => cell_grown (block_lt_of_cell (hc3.v k hltD)) (hc3.v k hltD) n os
                have y8' : w3.cell? ⟨hb, 0, none⟩ = some (.int .i64 x) := by rw [cell_of_row w3 _ 0 _ _ _ hhb3]; rfl
                have y8 := fun n os => cell_grown (block_lt_of_cell y8') y8' n os
                have CN : Hid (∀ n os, Calls Yba.prog 26 #[.pointer (some ⟨fb, 0, none⟩), .pointer (some ⟨D.vb k, 0, none⟩), .int .i64 (x / sg), .float .f64 0, .agg #[.int .u64 0, .int .i64 0, .pointer none]] (grow (w3.drewN n) os) fun e w' => e = .returned (.float .f64 (fw (need D sg x k))) ∧ ∃ q os', w' = grow ((grow (w3.drewN n) os).drewN q) os') := fun n os =>
                  needs_any fb tb (D.vb k) (D.st k) (D.pos k) (D.b k) (x / sg) sg sz ah HB.out d0 (by have := Int.ediv_le_self sg b0; omega) (HD.out.s0 k hltD) (HD.out.s1 k hltD) (HD.out.b0 k hltD) (HD.out.b1 k hltD) (grow (w3.drewN n) os) (henv3.fx.grow n os) (cell_grown (block_lt_of_cell henv3.du) henv3.du n os) ((henv3.vs.vw k hltD).grow n os)
                have H3c := hideIt hc3
                have H3g := hideIt hg3
                have H3u := hideIt hub3
                have H3h := hideIt hhb3
                have H3ne : hb ≠ wo.heap.size ∧ hb ≠ CB := by omega
                have H3w := hideIt hw3
                clear hc3 hg3 hub3 hhb3 henv3 y8' hc2 hg2 hub2 hcb2 HW hw3 hhb
                generalize hfk : fw (need D sg x k) = fk at CN
                have HFK := hideIt hfk
                clear hfk
                refine wp_region_quiet_grown hmo (by kernel_rfl) ?_
                repeat (go_big_quiet_step (first | (go_at_call 26; refine Calls.grown_of (CN.out _ _))))
                refine wpQuiet_nil ?_
                intro _ hw'
                obtain ⟨⟨nq, osq⟩, hw''⟩ := hw'
                subst hw''
                obtain ⟨w4, hw4⟩ : ∃ w4, grow (w3.drewN nq) osq = w4 := ⟨_, rfl⟩
                have hg4 : wo.grownBy w4 (some CB) := by rw [← hw4]; exact grownBy_grow H3g.out nq osq
                have hb4 : ∀ j : Nat, j < w3.heap.size → w4.heap[j]? = w3.heap[j]? := fun j hj => by rw [← hw4]; exact Array.getElem?_append_left hj
                have hc4 : Cs w4 CB D E a := by
                  obtain ⟨cur, hb⟩ := H3c.out.blk
                  exact H3c.out.keep (hb4 CB (Array.getElem?_eq_some_iff.1 hb).1)
                have hub4 := (hb4 _ (Array.getElem?_eq_some_iff.1 H3u.out).1).trans H3u.out
                have hhb4 := (hb4 _ (Array.getElem?_eq_some_iff.1 H3h.out).1).trans H3h.out
                change Exit.then _ _ _ _ (grow (w3.drewN nq) osq)
                rw [hw4]
                obtain ⟨p, q, hpq⟩ := ubox_two (best E D sg sz ah a k)
                rw [hpq] at hub4
                have u0 : w4.cell? ⟨wo.heap.size, 0, none⟩ = some (.int .i64 p) := by rw [cell_of_row w4 _ 0 _ _ _ hub4]; rfl
                have u1 : w4.cell? ⟨wo.heap.size, 1, none⟩ = some (.int .i64 q) := by rw [cell_of_row w4 _ 1 _ _ _ hub4]; rfl
                have v0 : w4.frozen? ⟨wo.heap.size, 0, none⟩ = false := by simp [World.frozen?, hub4]
                have v1 : w4.frozen? ⟨wo.heap.size, 1, none⟩ = false := by simp [World.frozen?, hub4]
                have h0 : w4.cell? ⟨hb, 0, none⟩ = some (.int .i64 x) := by rw [cell_of_row w4 _ 0 _ _ _ hhb4]; rfl
                have h1 : w4.cell? ⟨hb, 1, none⟩ = some (.int .i64 e) := by rw [cell_of_row w4 _ 1 _ _ _ hhb4]; rfl
                have H4g := hideIt hg4
                have H4c := hideIt hc4
                have H4u := hideIt hub4
                have HPQ := hideIt hpq
                clear hg4 hb4 hc4 hub4 hhb4 hw4 y1 y2 y3 y4 y5 y6 y7 y8 H3c H3g H3u H3h H3w CN hpq
                obtain ⟨hne1, hne2⟩ := H3ne
                have hne1' : wo.heap.size ≠ hb := fun h => hne1 h.symm
                cases hbk : best E D sg sz ah a k with
                | none =>
                  have hnext : best E D sg sz ah a (k + 1) = some (k, x, e) := by simp only [best, HH.out, hbk]
                  have HX := hideIt hnext
                  clear hnext hbk
                  simp only [nxt]
                  go_wp2
                  go_region_held3 (fun W => W.cell? ⟨hb, 0, none⟩ = some (.int .i64 x) ∧ W.cell? ⟨hb, 1, none⟩ = some (.int .i64 e)) (go_keep) (fail)
                  go_wp2
                  refine ⟨⟨k + 1, by omega, by go_num, by rw [HX.out]; rfl, ⟨fk, rfl, fun u hu => by rw [HX.out] at hu; cases hu; exact HFK.out.symm⟩, ?_, ?_, ?_⟩, ?_⟩
                  · exact grownBy_new (grownBy_new (grownBy_drewN H4g.out _) _ _ _ (Nat.le_refl _)) _ _ _ (Nat.le_refl _)
                  · exact H4c.out.keep ((heap_setCell_other _ _ _ _ (by show CB ≠ wo.heap.size; omega)).trans (heap_setCell_other _ _ _ _ (by show CB ≠ wo.heap.size; omega)))
                  · rw [HX.out]; exact box_set2 H4u.out
                  · simp [intOf]; omega
                | some u =>
                  obtain ⟨j, y, f⟩ := u
                  have hjb := best_spec hbk
                  have hbn : bn = fw (need D sg y j) := HBN.out _ hbk
                  have hjD : j < D.nv := by have := hjb.1; omega
                  obtain ⟨c0, c1, c2, c3, c4⟩ := headL_bd HB.out HEO.out (HAB.out j hjD).1 hjb.2
                  have n1 := needL_bd HB.out d0 (by have := Int.ediv_le_self sg b0; omega) (HD.out.s0 k hltD) (HD.out.s1 k hltD) (HD.out.b0 k hltD) (HD.out.b1 k hltD)
                  have n2 := needL_bd HB.out (div_bd c0 (by omega) HB.out.g0).1 (by have := Int.ediv_le_self sg c0; omega) (HD.out.s0 j hjD) (HD.out.s1 j hjD) (HD.out.b0 j hjD) (HD.out.b1 j hjD)
                  have hgt := gt_fw (need D sg x k) (need D sg y j) (by unfold need; omega) (by unfold need; omega)
                  rw [HFK.out, ← hbn] at hgt
                  clear n1 n2 c0 c1 c2 c3 c4
                  cases hc : decide (need D sg y j < need D sg x k) with
                  | true =>
                    have hnext : best E D sg sz ah a (k + 1) = some (k, x, e) := by simp only [best, HH.out, hbk]; rw [if_pos (of_decide_eq_true hc)]
                    have HX := hideIt hnext
                    rw [hc] at hgt
                    clear hnext hbk hc hbn hjb
                    simp only [nxt]
                    go_wp2
                    go_region_held3 (fun W => W.cell? ⟨hb, 0, none⟩ = some (.int .i64 x) ∧ W.cell? ⟨hb, 1, none⟩ = some (.int .i64 e)) (go_keep) (fail)
                    go_wp2
                    refine ⟨⟨k + 1, by omega, by go_num, by rw [HX.out]; rfl, ⟨fk, rfl, fun u hu => by rw [HX.out] at hu; cases hu; exact HFK.out.symm⟩, ?_, ?_, ?_⟩, ?_⟩
                    · exact grownBy_new (grownBy_new (grownBy_drewN H4g.out _) _ _ _ (Nat.le_refl _)) _ _ _ (Nat.le_refl _)
                    · exact H4c.out.keep ((heap_setCell_other _ _ _ _ (by show CB ≠ wo.heap.size; omega)).trans (heap_setCell_other _ _ _ _ (by show CB ≠ wo.heap.size; omega)))
                    · rw [HX.out]; exact box_set2 H4u.out
                    · simp [intOf]; omega
                  | false =>
                    have hnext : best E D sg sz ah a (k + 1) = best E D sg sz ah a k := by simp only [best, HH.out, hbk]; rw [if_neg (of_decide_eq_false hc)]
                    have HX := hideIt hnext
                    have HBK := hideIt hbk
                    rw [hc] at hgt
                    clear hnext hbk hc hbn hjb
                    simp only [nxt]
                    go_wp2
                    refine ⟨⟨k + 1, by omega, by go_num, by rw [HX.out, HBK.out]; rfl, ⟨bn, rfl, by rw [HX.out]; exact HBN.out⟩, H4g.out, H4c.out, ?_⟩, ?_⟩
                    · rw [HX.out, HPQ.out]; exact H4u.out
                    · simp [intOf]; omega
            · have hkn : nv = k := by omega
              subst hkn
              clear hlt hk
              have hz := HENV.out.z
              have hI1 : I pre wr := by
                obtain ⟨cur, hc⟩ := HCS.out.blk
                exact HR.out.st pre wo wr CB cur hc hCB HG.out HI.out
              have h45' : wr.cell? ⟨fb, 45, none⟩ = some (.slice (some ⟨CB, 0, none⟩) nv cap) := HG.out.cell H45.out (by simp; exact fun e => hfc e.symm)
              have HI1 := hideIt hI1
              have H451 := hideIt h45'
              clear hI1 h45'
              obtain ⟨g', hg'⟩ : ∃ g', gk = g' + 1 := ⟨gk - 1, by have := HLEFT.out; omega⟩
              cases hbk : best E D sg sz ah a nv with
              | none =>
                have hout : outs E D sg sz ah gk a = [] := by
                  rw [hg']; simp only [outs]; rw [HNN.out, hbk]
                have HO := hideIt hout
                clear hout hbk
                simp only [nxt]
                go_wp2
                first | go_end0 | refine bodyPost_ret (results_none rfl _ _ _) rfl ?_
                refine ⟨⟨_, rfl⟩, HENV.out, ⟨CB, cap, a, .inr ⟨H451.out, HC1.out⟩⟩, .inl ?_⟩
                have := HOUT.out
                rw [HO.out, List.append_nil] at this
                rw [← this]
                exact HI1.out
              | some u =>
                obtain ⟨j, x, e⟩ := u
                have hjb := best_spec hbk
                have hjD : j < D.nv := by rw [HNN.out]; exact hjb.1
                obtain ⟨b0, b1, b2, b3, b4⟩ := headL_bd HB.out HEO.out (HAB.out j hjD).1 hjb.2
                have hub := HUB.out
                rw [hbk] at hub
                simp only [ubox] at hub
                have u0 : wr.cell? ⟨wo.heap.size, 0, none⟩ = some (.int .i64 x) := by rw [cell_of_row wr _ 0 _ _ _ hub]; rfl
                have u1 : wr.cell? ⟨wo.heap.size, 1, none⟩ = some (.int .i64 e) := by rw [cell_of_row wr _ 1 _ _ _ hub]; rfl
                have f0 := HC1.out.frozen (j * 3 + 2)
                have a0 := HC1.out.a j hjD
                obtain ⟨kk, hkk, hadv, hci⟩ := HC1.out.i j hjD
                have HCI := hideIt hci
                have HUB1 := hideIt hub
                have HBK := hideIt hbk
                clear hub hbk hci hz
                simp only [nxt]
                go_wp2
                have hcl : CB < wr.heap.size := by obtain ⟨cur, hc⟩ := HC1.out.blk; exact (Array.getElem?_eq_some_iff.1 hc).1
                generalize hw5 : wr.setCell ⟨CB, j * 3 + 2, none⟩ (.int .i64 e) = w5
                have hg5 : wr.grownBy w5 (some CB) := by rw [← hw5]; exact grownBy_set (grownBy_refl _ _) _ _
                have hc5 : Cs w5 CB D E (setA a j e) := by rw [← hw5]; exact HC1.out.setA hjD HCI.out hkk (adv_on' hkk hadv (by omega))
                have he5 : Env Z w5 xb nb fb tb VB vcap PB pcap pa D E sg sz ah := HENV.out.keep (fun i hi => hg5.block i (by have := HZ.out i hi; have := HSZ.out; have := HG.out.size; omega) (by have := HZ.out i hi; simp; omega))
                have hI5 : I pre w5 := by
                  obtain ⟨cur, hc⟩ := HC1.out.blk
                  exact HR.out.st pre wr w5 CB cur hc hCB hg5 HI1.out
                have v0 : w5.cell? ⟨wo.heap.size, 0, none⟩ = some (.int .i64 x) := hg5.cell u0 (by simp; omega)
                have v1 : w5.cell? ⟨wo.heap.size, 1, none⟩ = some (.int .i64 e) := hg5.cell u1 (by simp; omega)
                have h455 := hg5.cell H451.out (by simp; exact fun e => hfc e.symm)
                have y1 := fun n os => cell_grown (block_lt_of_cell he5.x) he5.x n os
                have y2 := fun n os => cell_grown (block_lt_of_cell he5.n0) he5.n0 n os
                have y3 := fun n os => cell_grown (block_lt_of_cell he5.n1) he5.n1 n os
                have y4 := fun n os => cell_grown (block_lt_of_cell he5.n2) he5.n2 n os
                have y5 := fun n os => cell_grown (block_lt_of_cell v0) v0 n os
                have y6 := fun n os => cell_grown (block_lt_of_cell v1) v1 n os
                have y7 := fun n os => cell_grown (block_lt_of_cell (hc5.v j hjD)) (hc5.v j hjD) n os
                have COW : Hid (∀ n os, Calls Yba.prog 27 #[.pointer (some ⟨fb, 0, none⟩), .int .i64 x, .agg #[.int .u64 0, .int .i64 0, .pointer none]] (grow (w5.drewN n) os) fun e w' => e = .returned (ptrOf D (ownTo D sg sz ah x D.nv)) ∧ ∃ q os', w' = grow ((grow (w5.drewN n) os).drewN q) os') := fun n os =>
                  owner_any fb tb VB vcap D x sg sz ah HB.out HD.out b0 (by have := HB.out.z1; omega) ha0 ha1 (grow (w5.drewN n) os) (he5.fx.grow n os) (cell_grown (block_lt_of_cell he5.du) he5.du n os) (he5.vs.grow n os)
                have hu5 : w5.heap[wo.heap.size]? = some (Obj.cells #[.int .i64 x, .int .i64 e] 29 (0, 0)) := (hg5.block _ hlo (by simp; omega)).trans HUB1.out
                have H5u := hideIt hu5
                clear hu5
                have H5c := hideIt hc5
                have H5e := hideIt he5
                have H5I := hideIt hI5
                have H545 := hideIt h455
                have H5s := hideIt (show wr.heap.size ≤ w5.heap.size from hg5.size)
                clear hg5 hc5 he5 hI5 v0 v1 h455 hw5 u0 u1 f0 a0 hcl HCI hadv
                have hsz5 : w.heap.size ≤ w5.heap.size := by have := H5s.out; have := HG.out.size; have := HSZ.out; omega
                have hleft5 : left sz (setA a j e) D.nv < g' := by have := left_lt (sz := sz) (a := a) (j := j) (e := e) (by omega) (by omega) hjD; have := HLEFT.out; omega
                have hab5 : ∀ i, i < D.nv → 0 ≤ setA a j e i ∧ setA a j e i ≤ sz := fun i hi => by
                  have := HAB.out i hi
                  simp only [setA]; split <;> omega
                have H5L := hideIt hleft5
                have H5A := hideIt hab5
                have H5Z := hideIt hsz5
                clear hleft5 hab5 hsz5
                obtain ⟨pv, hpv⟩ : ∃ pv, pv = ptrOf D (ownTo D sg sz ah x D.nv) := ⟨_, rfl⟩
                rw [← hpv] at COW
                obtain ⟨bo, hbo⟩ : ∃ bo, bo = decide (ownTo D sg sz ah x D.nv = some j) := ⟨_, rfl⟩
                have EQP : Hid (∀ W, Env Z W xb nb fb tb VB vcap PB pcap pa D E sg sz ah → (binOp .eql 41 pv (.pointer (some ⟨D.vb j, 0, none⟩))).run Yba.prog W = .ok (.bool bo) W) := fun W hW => by
                  rw [hpv, hbo]
                  exact own_eq hjD (fun i hi => ownTo_lt D sg sz ah x _ i hi) (by rw [HNN.out]; exact HJ.out) hW.vk
                have hgd : ∀ W, (eqGuard .eql 41 (.tmp 104) (.tmp 108) pv (.pointer (some ⟨D.vb j, 0, none⟩))).run Yba.prog W = .ok () W := fun W => by rw [hpv]; rfl
                have HBO := hideIt hbo
                clear hbo hpv
                have SS : Hid (∀ W, Env Z W xb nb fb tb VB vcap PB pcap pa D E sg sz ah → Cs W CB D E (setA a j e) → W.heap[wo.heap.size]? = some (Obj.cells #[.int .i64 x, .int .i64 e] 29 (0, 0)) →
                    (W.cell? ⟨xb, 0, none⟩ = some (.pointer (some ⟨fb, 0, none⟩)) ∧ W.cell? ⟨nb, 0, none⟩ = some (.int .u64 0) ∧ W.cell? ⟨nb, 1, none⟩ = some (.int .i64 0) ∧ W.cell? ⟨nb, 2, none⟩ = some (.pointer none) ∧ W.cell? ⟨wo.heap.size, 0, none⟩ = some (.int .i64 x) ∧ W.cell? ⟨wo.heap.size, 1, none⟩ = some (.int .i64 e) ∧ W.cell? ⟨CB, j * 3, none⟩ = some (.pointer (some ⟨D.vb j, 0, none⟩)) ∧ (binOp .eql 41 pv (.pointer (some ⟨D.vb j, 0, none⟩))).run Yba.prog W = .ok (.bool bo) W)) := fun W h1 h2 h3 =>
                  ⟨h1.x, h1.n0, h1.n1, h1.n2, by rw [cell_of_row W _ 0 _ _ _ h3]; rfl, by rw [cell_of_row W _ 1 _ _ _ h3]; rfl, h2.v j hjD, EQP.out W h1⟩
                refine (wpIn_wide (n := 4)).1 ?_
                refine wpIn_region_H (fun W => W.cell? ⟨xb, 0, none⟩ = some (.pointer (some ⟨fb, 0, none⟩)) ∧ W.cell? ⟨nb, 0, none⟩ = some (.int .u64 0) ∧ W.cell? ⟨nb, 1, none⟩ = some (.int .i64 0) ∧ W.cell? ⟨nb, 2, none⟩ = some (.pointer none) ∧ W.cell? ⟨wo.heap.size, 0, none⟩ = some (.int .i64 x) ∧ W.cell? ⟨wo.heap.size, 1, none⟩ = some (.int .i64 e) ∧ W.cell? ⟨CB, j * 3, none⟩ = some (.pointer (some ⟨D.vb j, 0, none⟩)) ∧ (binOp .eql 41 pv (.pointer (some ⟨D.vb j, 0, none⟩))).run Yba.prog W = .ok (.bool bo) W) hmo ?_
                have HS := SS.out w5.drew (H5e.out.keep fun _ _ => rfl) (H5c.out.keep rfl) H5u.out
                clear y1 y2 y3 y4 y5 y6 y7
                refine wpH_take 0 rfl rfl (by kernel_rfl) (by kernel_rfl) (by kernel_rfl) (fun _ _ _ h => h) (v := ?_) (by assumption) (fun _ => rfl) (Or.inl ⟨by kernel_rfl, ?_⟩) ?_
                rotate_left
                · (intro W hW; obtain ⟨h1, h2, h3, h4, h5, h6, h7, h8⟩ := hW; go_simp; try with_reducible rfl)
                simp only [Act.put, List.getElem_toArray, List.getElem_cons_succ, List.getElem_cons_zero, List.setIfInBounds_toArray, List.set_cons_zero, List.set_cons_succ]
                refine wpH_take 1 rfl rfl (by kernel_rfl) (by kernel_rfl) (by kernel_rfl) (fun _ _ _ h => h) (v := ?_) (by assumption) (fun _ => rfl) (Or.inl ⟨by kernel_rfl, ?_⟩) ?_
                rotate_left
                · (intro W hW; obtain ⟨h1, h2, h3, h4, h5, h6, h7, h8⟩ := hW; go_simp; try with_reducible rfl)
                simp only [Act.put, List.getElem_toArray, List.getElem_cons_succ, List.getElem_cons_zero, List.setIfInBounds_toArray, List.set_cons_zero, List.set_cons_succ]
                refine wpH_take 2 rfl rfl (by kernel_rfl) (by kernel_rfl) (by kernel_rfl) (fun _ _ _ h => h) (v := ?_) (by assumption) (fun _ => rfl) (Or.inl ⟨by kernel_rfl, ?_⟩) ?_
                rotate_left
                · (intro W hW; obtain ⟨h1, h2, h3, h4, h5, h6, h7, h8⟩ := hW; go_simp; try with_reducible rfl)
                simp only [Act.put, List.getElem_toArray, List.getElem_cons_succ, List.getElem_cons_zero, List.setIfInBounds_toArray, List.set_cons_zero, List.set_cons_succ]
                refine wpH_take 3 rfl rfl (by kernel_rfl) (by kernel_rfl) (by kernel_rfl) (fun _ _ _ h => h) (v := ?_) (by assumption) (fun _ => rfl) (Or.inl ⟨by kernel_rfl, ?_⟩) ?_
                rotate_left
                · (intro W hW; obtain ⟨h1, h2, h3, h4, h5, h6, h7, h8⟩ := hW; go_simp; try with_reducible rfl)
                simp only [Act.put, List.getElem_toArray, List.getElem_cons_succ, List.getElem_cons_zero, List.setIfInBounds_toArray, List.set_cons_zero, List.set_cons_succ]
                refine wpH_take 5 rfl rfl (by kernel_rfl) (by kernel_rfl) (by kernel_rfl) (fun _ _ _ h => h) (v := ?_) (by assumption) (fun _ => rfl) (Or.inl ⟨by kernel_rfl, ?_⟩) ?_
                rotate_left
                · (intro W hW; obtain ⟨h1, h2, h3, h4, h5, h6, h7, h8⟩ := hW; go_simp; try with_reducible rfl)
                simp only [Act.put, List.getElem_toArray, List.getElem_cons_succ, List.getElem_cons_zero, List.setIfInBounds_toArray, List.set_cons_zero, List.set_cons_succ]
                refine wpH_take 6 rfl rfl (by kernel_rfl) (by kernel_rfl) (by kernel_rfl) (fun _ _ _ h => h) (v := ?_) (by assumption) (fun _ => rfl) (Or.inl ⟨by kernel_rfl, ?_⟩) ?_
                rotate_left
                · (intro W hW; obtain ⟨h1, h2, h3, h4, h5, h6, h7, h8⟩ := hW; go_simp; try with_reducible rfl)
                simp only [Act.put, List.getElem_toArray, List.getElem_cons_succ, List.getElem_cons_zero, List.setIfInBounds_toArray, List.set_cons_zero, List.set_cons_succ]
                refine wpH_take 7 rfl rfl (by kernel_rfl) (by kernel_rfl) (by kernel_rfl) (fun _ _ _ h => h) (v := ?_) (by assumption) (fun _ => rfl) (Or.inl ⟨by kernel_rfl, ?_⟩) ?_
                rotate_left
                · (intro W hW; obtain ⟨h1, h2, h3, h4, h5, h6, h7, h8⟩ := hW; go_simp; try with_reducible rfl)
                simp only [Act.put, List.getElem_toArray, List.getElem_cons_succ, List.getElem_cons_zero, List.setIfInBounds_toArray, List.set_cons_zero, List.set_cons_succ]
                refine wpH_take 8 rfl rfl (by kernel_rfl) (by kernel_rfl) (by kernel_rfl) (fun _ _ _ h => h) (v := ?_) (by assumption) (fun _ => rfl) (Or.inl ⟨by kernel_rfl, ?_⟩) ?_
                rotate_left
                · (intro W hW; obtain ⟨h1, h2, h3, h4, h5, h6, h7, h8⟩ := hW; go_simp; try with_reducible rfl)
                simp only [Act.put, List.getElem_toArray, List.getElem_cons_succ, List.getElem_cons_zero, List.setIfInBounds_toArray, List.set_cons_zero, List.set_cons_succ]
                refine wpH_one 4 (by kernel_rfl) rfl (by rfl) ?_
                refine ⟨fun _ _ => trivial, ?_⟩
                clear HS
                have HC : Hid (Calls Yba.prog 27 #[.pointer (some ⟨fb, 0, none⟩), .int .i64 x, .agg #[.int .u64 0, .int .i64 0, .pointer none]] w5.drew fun e w' => e = .returned pv ∧ ∃ q os', w' = grow ((w5.drew).drewN q) os') := COW.out 1 #[]
                go_simp
                refine callsIn_wide.2 (HC.out.mono ?_)
                rintro e' w6 ⟨rfl, q, os6, hw6⟩
                have hb6 : ∀ i : Nat, i < w5.heap.size → w6.heap[i]? = w5.heap[i]? := fun i hi => by rw [hw6]; exact Array.getElem?_append_left hi
                have hg6 : w5.grownBy w6 (some CB) := by rw [hw6]; exact grownBy_grow (grownBy_drewN (grownBy_refl _ _) 1) q os6
                have hcl5 : CB < w5.heap.size := by obtain ⟨cur, hc⟩ := H5c.out.blk; exact (Array.getElem?_eq_some_iff.1 hc).1
                have hc6 : Cs w6 CB D E (setA a j e) := H5c.out.keep (hb6 CB hcl5)
                have he6 : Env Z w6 xb nb fb tb VB vcap PB pcap pa D E sg sz ah := H5e.out.keep (fun i hi => hb6 i (by have := HZ.out i hi; have := H5Z.out; omega))
                have hu6 := (hb6 _ (Array.getElem?_eq_some_iff.1 H5u.out).1).trans H5u.out
                have hI6 : I pre w6 := by
                  obtain ⟨cur, hc⟩ := H5c.out.blk
                  exact HR.out.st pre w5 w6 CB cur hc hCB hg6 H5I.out
                have h456 := hg6.cell H545.out (by simp; exact fun e => hfc e.symm)
                have hs6 : w.heap.size ≤ w6.heap.size := by have := H5Z.out; have := hg6.size; omega
                have HS := SS.out w6 he6 hc6 hu6
                have H6c := hideIt hc6
                have H6e := hideIt he6
                have H6u := hideIt hu6
                have H6I := hideIt hI6
                have H645 := hideIt h456
                have H6Z := hideIt hs6
                clear hw6 hb6 hg6 hcl5 hc6 he6 hu6 hI6 h456 hs6 HC COW
                dsimp only
                refine ⟨HS, ?_⟩
                cases bo with
                | false =>
                  have hno : outs E D sg sz ah gk a = outs E D sg sz ah g' (setA a j e) := by
                    rw [hg']; simp only [outs]; rw [HNN.out, HBK.out]; simp only []; rw [if_neg (by rw [← HNN.out]; exact of_decide_eq_false HBO.out.symm)]
                  have HNO := hideIt hno
                  clear hno
                  refine wpH_take 9 rfl rfl (by kernel_rfl) (by kernel_rfl) (by kernel_rfl) (fun _ _ _ h => h) (v := ?_) (by assumption) (fun _ => rfl) (Or.inl ⟨by kernel_rfl, ?_⟩) ?_
                  rotate_left
                  · (intro W hW; obtain ⟨h1, h2, h3, h4, h5, h6, h7, h8⟩ := hW; go_simp; try with_reducible rfl)
                  simp only [Act.put, List.getElem_toArray, List.getElem_cons_succ, List.getElem_cons_zero, List.setIfInBounds_toArray, List.set_cons_zero, List.set_cons_succ]
                  refine wpH_take 10 rfl rfl (by kernel_rfl) (by kernel_rfl) (by kernel_rfl) (fun _ _ _ h => h) (v := ?_) (by assumption) (fun _ => rfl) (Or.inl ⟨by kernel_rfl, ?_⟩) ?_
                  rotate_left
                  · (intro W hW; obtain ⟨h1, h2, h3, h4, h5, h6, h7, h8⟩ := hW; go_simp; try with_reducible rfl)
                  simp only [Act.put, List.getElem_toArray, List.getElem_cons_succ, List.getElem_cons_zero, List.setIfInBounds_toArray, List.set_cons_zero, List.set_cons_succ]
                  refine wpH_take 11 rfl rfl (by kernel_rfl) (by kernel_rfl) (by kernel_rfl) (fun _ _ _ h => h) (v := undef) (by assumption) (fun _ => rfl) (Or.inr ⟨by kernel_rfl, rfl⟩) ?_
                  simp only [Act.put, List.getElem_toArray, List.getElem_cons_succ, List.getElem_cons_zero, List.setIfInBounds_toArray, List.set_cons_zero, List.set_cons_succ]
                  refine wpH_take 12 rfl rfl (by kernel_rfl) (by kernel_rfl) (by kernel_rfl) (fun _ _ _ h => h) (v := undef) (by assumption) (fun _ => rfl) (Or.inr ⟨by kernel_rfl, rfl⟩) ?_
                  simp only [Act.put, List.getElem_toArray, List.getElem_cons_succ, List.getElem_cons_zero, List.setIfInBounds_toArray, List.set_cons_zero, List.set_cons_succ]
                  refine wpH_take 13 rfl rfl (by kernel_rfl) (by kernel_rfl) (by kernel_rfl) (fun _ _ _ h => h) (v := undef) (by assumption) (fun _ => rfl) (Or.inr ⟨by kernel_rfl, rfl⟩) ?_
                  simp only [Act.put, List.getElem_toArray, List.getElem_cons_succ, List.getElem_cons_zero, List.setIfInBounds_toArray, List.set_cons_zero, List.set_cons_succ]
                  refine wpH_take 14 rfl rfl (by kernel_rfl) (by kernel_rfl) (by kernel_rfl) (fun _ _ _ h => h) (v := undef) (by assumption) (fun _ => rfl) (Or.inr ⟨by kernel_rfl, rfl⟩) ?_
                  simp only [Act.put, List.getElem_toArray, List.getElem_cons_succ, List.getElem_cons_zero, List.setIfInBounds_toArray, List.set_cons_zero, List.set_cons_succ]
                  refine wpH_take 15 rfl rfl (by kernel_rfl) (by kernel_rfl) (by kernel_rfl) (fun _ _ _ h => h) (v := undef) (by assumption) (fun _ => rfl) (Or.inr ⟨by kernel_rfl, rfl⟩) ?_
                  simp only [Act.put, List.getElem_toArray, List.getElem_cons_succ, List.getElem_cons_zero, List.setIfInBounds_toArray, List.set_cons_zero, List.set_cons_succ]
                  refine wpH_take 16 rfl rfl (by kernel_rfl) (by kernel_rfl) (by kernel_rfl) (fun _ _ _ h => h) (v := undef) (by assumption) (fun _ => rfl) (Or.inr ⟨by kernel_rfl, rfl⟩) ?_
                  simp only [Act.put, List.getElem_toArray, List.getElem_cons_succ, List.getElem_cons_zero, List.setIfInBounds_toArray, List.set_cons_zero, List.set_cons_succ]
                  refine wpH_take 17 rfl rfl (by kernel_rfl) (by kernel_rfl) (by kernel_rfl) (fun _ _ _ h => h) (v := undef) (by assumption) (fun _ => rfl) (Or.inr ⟨by kernel_rfl, rfl⟩) ?_
                  simp only [Act.put, List.getElem_toArray, List.getElem_cons_succ, List.getElem_cons_zero, List.setIfInBounds_toArray, List.set_cons_zero, List.set_cons_succ]
                  refine wpH_take 18 rfl rfl (by kernel_rfl) (by kernel_rfl) (by kernel_rfl) (fun _ _ _ h => h) (v := undef) (by assumption) (fun _ => rfl) (Or.inr ⟨by kernel_rfl, rfl⟩) ?_
                  simp only [Act.put, List.getElem_toArray, List.getElem_cons_succ, List.getElem_cons_zero, List.setIfInBounds_toArray, List.set_cons_zero, List.set_cons_succ]
                  refine wpH_take 19 rfl rfl (by kernel_rfl) (by kernel_rfl) (by kernel_rfl) (fun _ _ _ h => h) (v := undef) (by assumption) (fun _ => rfl) (Or.inr ⟨by kernel_rfl, rfl⟩) ?_
                  simp only [Act.put, List.getElem_toArray, List.getElem_cons_succ, List.getElem_cons_zero, List.setIfInBounds_toArray, List.set_cons_zero, List.set_cons_succ]
                  refine wpH_take 20 rfl rfl (by kernel_rfl) (by kernel_rfl) (by kernel_rfl) (fun _ _ _ h => h) (v := ?_) (by assumption) (fun _ => rfl) (Or.inl ⟨by kernel_rfl, ?_⟩) ?_
                  rotate_left
                  · (intro W hW; obtain ⟨h1, h2, h3, h4, h5, h6, h7, h8⟩ := hW; go_simp; try with_reducible rfl)
                  simp only [Act.put, List.getElem_toArray, List.getElem_cons_succ, List.getElem_cons_zero, List.setIfInBounds_toArray, List.set_cons_zero, List.set_cons_succ]
                  refine wpH_done (by kernel_rfl) ?_ _
                  clear HS
                  go_wp2
                  go_roundg g'
                  case measure => omega
                  case rel => exact ⟨setA a j e, pre, H5A.out, H5L.out, H6e.out, H6c.out, H6I.out, by rw [← HNO.out]; exact HOUT.out, H645.out, H6Z.out⟩
                | true =>
                  have hyes : outs E D sg sz ah gk a = (j, x, e) :: outs E D sg sz ah g' (setA a j e) := by
                    rw [hg']; simp only [outs]; rw [HNN.out, HBK.out]; simp only []; rw [if_pos (by rw [← HNN.out]; exact of_decide_eq_true HBO.out.symm)]
                  have HYES := hideIt hyes
                  clear hyes
                  refine wpH_take 9 rfl rfl (by kernel_rfl) (by kernel_rfl) (by kernel_rfl) (fun _ _ _ h => h) (v := ?_) (by assumption) (fun _ => rfl) (Or.inl ⟨by kernel_rfl, ?_⟩) ?_
                  rotate_left
                  · (intro W hW; obtain ⟨h1, h2, h3, h4, h5, h6, h7, h8⟩ := hW; go_simp; try with_reducible rfl)
                  simp only [Act.put, List.getElem_toArray, List.getElem_cons_succ, List.getElem_cons_zero, List.setIfInBounds_toArray, List.set_cons_zero, List.set_cons_succ]
                  refine wpH_take 10 rfl rfl (by kernel_rfl) (by kernel_rfl) (by kernel_rfl) (fun _ _ _ h => h) (v := ?_) (by assumption) (fun _ => rfl) (Or.inl ⟨by kernel_rfl, ?_⟩) ?_
                  rotate_left
                  · (intro W hW; obtain ⟨h1, h2, h3, h4, h5, h6, h7, h8⟩ := hW; go_simp; try with_reducible rfl)
                  simp only [Act.put, List.getElem_toArray, List.getElem_cons_succ, List.getElem_cons_zero, List.setIfInBounds_toArray, List.set_cons_zero, List.set_cons_succ]
                  refine wpH_take 11 rfl rfl (by kernel_rfl) (by kernel_rfl) (by kernel_rfl) (fun _ _ _ h => h) (v := ?_) (by assumption) (fun _ => rfl) (Or.inl ⟨by kernel_rfl, ?_⟩) ?_
                  rotate_left
                  · (intro W hW; obtain ⟨h1, h2, h3, h4, h5, h6, h7, h8⟩ := hW; go_simp; try with_reducible rfl)
                  simp only [Act.put, List.getElem_toArray, List.getElem_cons_succ, List.getElem_cons_zero, List.setIfInBounds_toArray, List.set_cons_zero, List.set_cons_succ]
                  refine wpH_take 12 rfl rfl (by kernel_rfl) (by kernel_rfl) (by kernel_rfl) (fun _ _ _ h => h) (v := ?_) (by assumption) (fun _ => rfl) (Or.inl ⟨by kernel_rfl, ?_⟩) ?_
                  rotate_left
                  · (intro W hW; obtain ⟨h1, h2, h3, h4, h5, h6, h7, h8⟩ := hW; go_simp; try with_reducible rfl)
                  simp only [Act.put, List.getElem_toArray, List.getElem_cons_succ, List.getElem_cons_zero, List.setIfInBounds_toArray, List.set_cons_zero, List.set_cons_succ]
                  refine wpH_take 13 rfl rfl (by kernel_rfl) (by kernel_rfl) (by kernel_rfl) (fun _ _ _ h => h) (v := ?_) (by assumption) (fun _ => rfl) (Or.inl ⟨by kernel_rfl, ?_⟩) ?_
                  rotate_left
                  · (intro W hW; obtain ⟨h1, h2, h3, h4, h5, h6, h7, h8⟩ := hW; go_simp; try with_reducible rfl)
                  simp only [Act.put, List.getElem_toArray, List.getElem_cons_succ, List.getElem_cons_zero, List.setIfInBounds_toArray, List.set_cons_zero, List.set_cons_succ]
                  refine wpH_take 14 rfl rfl (by kernel_rfl) (by kernel_rfl) (by kernel_rfl) (fun _ _ _ h => h) (v := ?_) (by assumption) (fun _ => rfl) (Or.inl ⟨by kernel_rfl, ?_⟩) ?_
                  rotate_left
                  · (intro W hW; obtain ⟨h1, h2, h3, h4, h5, h6, h7, h8⟩ := hW; go_simp; try with_reducible rfl)
                  simp only [Act.put, List.getElem_toArray, List.getElem_cons_succ, List.getElem_cons_zero, List.setIfInBounds_toArray, List.set_cons_zero, List.set_cons_succ]
                  refine wpH_take 15 rfl rfl (by kernel_rfl) (by kernel_rfl) (by kernel_rfl) (fun _ _ _ h => h) (v := ?_) (by assumption) (fun _ => rfl) (Or.inl ⟨by kernel_rfl, ?_⟩) ?_
                  rotate_left
                  · (intro W hW; obtain ⟨h1, h2, h3, h4, h5, h6, h7, h8⟩ := hW; go_simp; try with_reducible rfl)
                  simp only [Act.put, List.getElem_toArray, List.getElem_cons_succ, List.getElem_cons_zero, List.setIfInBounds_toArray, List.set_cons_zero, List.set_cons_succ]
                  refine wpH_take 16 rfl rfl (by kernel_rfl) (by kernel_rfl) (by kernel_rfl) (fun _ _ _ h => h) (v := ?_) (by assumption) (fun _ => rfl) (Or.inl ⟨by kernel_rfl, ?_⟩) ?_
                  rotate_left
                  · (intro W hW; obtain ⟨h1, h2, h3, h4, h5, h6, h7, h8⟩ := hW; go_simp; try with_reducible rfl)
                  simp only [Act.put, List.getElem_toArray, List.getElem_cons_succ, List.getElem_cons_zero, List.setIfInBounds_toArray, List.set_cons_zero, List.set_cons_succ]
                  refine wpH_take 17 rfl rfl (by kernel_rfl) (by kernel_rfl) (by kernel_rfl) (fun _ _ _ h => h) (v := ?_) (by assumption) (fun _ => rfl) (Or.inl ⟨by kernel_rfl, ?_⟩) ?_
                  rotate_left
                  · (intro W hW; obtain ⟨h1, h2, h3, h4, h5, h6, h7, h8⟩ := hW; go_simp; try with_reducible rfl)
                  simp only [Act.put, List.getElem_toArray, List.getElem_cons_succ, List.getElem_cons_zero, List.setIfInBounds_toArray, List.set_cons_zero, List.set_cons_succ]
                  refine wpH_one 18 (by kernel_rfl) rfl (by kernel_rfl) ?_
                  refine ⟨fun _ _ => trivial, ?_⟩
                  clear HS
                  obtain ⟨fn, tmps, assign, body, hy, hround⟩ := HR.out.go pre (j, x, e) _ w6 (by rw [← HYES.out]; exact HOUT.out) H6I.out
                  simp only [encU] at hy
                  have HRND := hideIt hround
                  clear hround
                  go_simp
                  refine HRND.out.mono ?_
                  rintro e' w7 ⟨hs7, hz7, hk7, ⟨rfl, hI7⟩ | ⟨rfl, hI7⟩⟩
                  · skip
                    have he7 := H6e.out.keep hz7
                    have hc7 : Cs w7 CB D E (setA a j e) := by
                      obtain ⟨cur, hc⟩ := H6c.out.blk
                      exact H6c.out.keep ((hk7 CB 101 cur (.inl rfl) hc).trans hc.symm)
                    have hu7 := hk7 _ 29 _ (.inr rfl) H6u.out
                    have h457 : w7.cell? ⟨fb, 45, none⟩ = some (.slice (some ⟨CB, 0, none⟩) nv cap) := (World.cell?_of_block (by exact hz7 fb he7.z.2.2.1)).trans H645.out
                    have HS := SS.out w7 he7 hc7 hu7
                    have hs7' : w.heap.size ≤ w7.heap.size := by have := H6Z.out; omega
                    have H7e := hideIt he7
                    have H7c := hideIt hc7
                    have H7I := hideIt hI7
                    have H745 := hideIt h457
                    have H7Z := hideIt hs7'
                    clear he7 hc7 hu7 h457 hz7 hk7 hs7 hI7 hs7'
                    dsimp only
                    refine ⟨HS, ?_⟩
                    refine wpH_take 19 rfl rfl (by kernel_rfl) (by kernel_rfl) (by kernel_rfl) (fun _ _ _ h => h) (v := ?_) (by assumption) (fun _ => rfl) (Or.inl ⟨by kernel_rfl, ?_⟩) ?_
                    rotate_left
                    · (intro W hW; obtain ⟨h1, h2, h3, h4, h5, h6, h7, h8⟩ := hW; go_simp; try with_reducible rfl)
                    simp only [Act.put, List.getElem_toArray, List.getElem_cons_succ, List.getElem_cons_zero, List.setIfInBounds_toArray, List.set_cons_zero, List.set_cons_succ]
                    refine wpH_take 20 rfl rfl (by kernel_rfl) (by kernel_rfl) (by kernel_rfl) (fun _ _ _ h => h) (v := ?_) (by assumption) (fun _ => rfl) (Or.inl ⟨by kernel_rfl, ?_⟩) ?_
                    rotate_left
                    · (intro W hW; obtain ⟨h1, h2, h3, h4, h5, h6, h7, h8⟩ := hW; go_simp; try with_reducible rfl)
                    simp only [Act.put, List.getElem_toArray, List.getElem_cons_succ, List.getElem_cons_zero, List.setIfInBounds_toArray, List.set_cons_zero, List.set_cons_succ]
                    refine wpH_done (by kernel_rfl) ?_ _
                    clear HS
                    go_wp2
                    go_roundg g'
                    case measure => omega
                    case rel => exact ⟨setA a j e, pre ++ [(j, x, e)], H5A.out, H5L.out, H7e.out, H7c.out, H7I.out, by rw [List.append_assoc, List.singleton_append, ← HYES.out]; exact HOUT.out, H745.out, H7Z.out⟩
                  · skip
                    have he7 := H6e.out.keep hz7
                    have hc7 : Cs w7 CB D E (setA a j e) := by
                      obtain ⟨cur, hc⟩ := H6c.out.blk
                      exact H6c.out.keep ((hk7 CB 101 cur (.inl rfl) hc).trans hc.symm)
                    have hu7 := hk7 _ 29 _ (.inr rfl) H6u.out
                    have h457 : w7.cell? ⟨fb, 45, none⟩ = some (.slice (some ⟨CB, 0, none⟩) nv cap) := (World.cell?_of_block (by exact hz7 fb he7.z.2.2.1)).trans H645.out
                    have HS := SS.out w7 he7 hc7 hu7
                    have hs7' : w.heap.size ≤ w7.heap.size := by have := H6Z.out; omega
                    have H7e := hideIt he7
                    have H7c := hideIt hc7
                    have H7I := hideIt hI7
                    have H745 := hideIt h457
                    have H7Z := hideIt hs7'
                    clear he7 hc7 hu7 h457 hz7 hk7 hs7 hI7 hs7'
                    dsimp only
                    refine ⟨HS, ?_⟩
                    refine wpH_take 19 rfl rfl (by kernel_rfl) (by kernel_rfl) (by kernel_rfl) (fun _ _ _ h => h) (v := ?_) (by assumption) (fun _ => rfl) (Or.inl ⟨by kernel_rfl, ?_⟩) ?_
                    rotate_left
                    · (intro W hW; obtain ⟨h1, h2, h3, h4, h5, h6, h7, h8⟩ := hW; go_simp; try with_reducible rfl)
                    simp only [Act.put, List.getElem_toArray, List.getElem_cons_succ, List.getElem_cons_zero, List.setIfInBounds_toArray, List.set_cons_zero, List.set_cons_succ]
                    refine wpH_take 20 rfl rfl (by kernel_rfl) (by kernel_rfl) (by kernel_rfl) (fun _ _ _ h => h) (v := ?_) (by assumption) (fun _ => rfl) (Or.inl ⟨by kernel_rfl, ?_⟩) ?_
                    rotate_left
                    · (intro W hW; obtain ⟨h1, h2, h3, h4, h5, h6, h7, h8⟩ := hW; go_simp; try with_reducible rfl)
                    simp only [Act.put, List.getElem_toArray, List.getElem_cons_succ, List.getElem_cons_zero, List.setIfInBounds_toArray, List.set_cons_zero, List.set_cons_succ]
                    refine wpH_done (by kernel_rfl) ?_ _
                    clear HS
                    go_wp2
                    first | go_end0 | refine bodyPost_ret (results_none rfl _ _ _) rfl ?_
                    refine ⟨⟨_, rfl⟩, H7e.out, ⟨CB, cap, setA a j e, .inr ⟨H745.out, H7c.out⟩⟩, .inr ⟨pre.length, ?_⟩⟩
                    have h := HOUT.out
                    rw [HYES.out] at h
                    rw [← h, take_one]
                    exact H7I.out
end Go.Proofs.Ybulkdsao
