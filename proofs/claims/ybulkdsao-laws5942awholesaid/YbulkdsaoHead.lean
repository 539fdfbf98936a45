/-
  The contract of the iterator's closure 'head' (22).
-/
import Derived.Test.YbulkdsaoOwn
import Derived.Deep.RegionHeld3
namespace Go.Proofs.Ybulkdsao
open Go.ChangeShapes Go.WideShapes Go.ChangeAt Go.RowKit Go.Sort
set_option linter.unusedVariables false

/-- The pool: so many spans [ps j, pe j). -/
structure Pd where
  np : Nat
  ps : Nat → Int
  pe : Nat → Int
structure Pd.Ok (E : Pd) (sz : Int) : Prop where
  n : E.np ≤ 4096
  s0 : ∀ j, j < E.np → 0 ≤ E.ps j
  se : ∀ j, j < E.np → E.ps j < E.pe j
  e1 : ∀ j, j < E.np → E.pe j ≤ sz

/-- The pool in memory. -/
structure Ps (w : World) (fb PB pcap : Nat) (pa : Option Addr) (E : Pd) : Prop where
  fp : w.cell? ⟨fb, 24, none⟩ = some (.slice pa E.np pcap)
  pa : 0 < E.np → pa = some ⟨PB, 0, none⟩
  s : ∀ j, j < E.np → w.cell? ⟨PB, j * 2, none⟩ = some (.int .i64 (E.ps j))
  e : ∀ j, j < E.np → w.cell? ⟨PB, j * 2 + 1, none⟩ = some (.int .i64 (E.pe j))

theorem Ps.grow {w : World} {fb PB pcap : Nat} {pa : Option Addr} {E : Pd} (h : Ps w fb PB pcap pa E) (n : Nat) (os : Array Obj) : Ps (grow (w.drewN n) os) fb PB pcap pa E :=
  ⟨cell_grown (block_lt_of_cell h.fp) h.fp n os, h.pa, fun j hj => cell_grown (block_lt_of_cell (h.s j hj)) (h.s j hj) n os, fun j hj => cell_grown (block_lt_of_cell (h.e j hj)) (h.e j hj) n os⟩

/-- The first span from number i on that does not end at or before byte a. -/
def advF (E : Pd) (a : Int) : (fuel i : Nat) → Nat
  | 0, i => i
  | f + 1, i => if i < E.np ∧ E.pe i ≤ a then advF E a f (i + 1) else i
def adv (E : Pd) (a : Int) (i : Nat) : Nat := advF E a (E.np - i) i

theorem adv_step {E : Pd} {a : Int} {i : Nat} (h1 : i < E.np) (h2 : E.pe i ≤ a) : adv E a i = adv E a (i + 1) := by
  unfold adv
  rw [show E.np - i = (E.np - (i + 1)) + 1 by omega]
  simp only [advF]
  rw [if_pos ⟨h1, h2⟩]
theorem adv_stop {E : Pd} {a : Int} {i : Nat} (h : ¬ (i < E.np ∧ E.pe i ≤ a)) : adv E a i = i := by
  unfold adv
  cases E.np - i with
  | zero => rfl
  | succ f => simp only [advF]; rw [if_neg h]

/-- The unit that a cursor of a viewer at segment 'pos' is at. -/
def headL (E : Pd) (sg sz ah pos a : Int) (i : Nat) : Option (Int × Int) :=
  let j := adv E a i
  if j < E.np then
    let x := if a < E.ps j then E.ps j else a
    if holdsL sg sz ah pos x then some (x, if E.pe j ≤ bndL sg sz x then E.pe j else bndL sg sz x) else none
  else none

def headV : Option (Int × Int) → Value
  | none => .tuple #[.agg #[.int .i64 0, .int .i64 0], .bool false]
  | some x => .tuple #[.agg #[.int .i64 x.1, .int .i64 x.2], .bool true]

/-- The world behind: the cursor's number is k; draws; one new block. -/
theorem setCell_same {w : World} {b o : Nat} {v : Value} (h : w.cell? ⟨b, o, none⟩ = some v) : w.setCell ⟨b, o, none⟩ v = w := by
  have hlt := block_lt_of_cell h
  cases hb : w.heap[b]? with
  | none => simp [World.cell?, hb] at h
  | some ob =>
    have hb' : w.heap[b] = ob := by simpa [Array.getElem?_eq_getElem hlt] using hb
    show { w with heap := w.heap.modify b _ } = w
    have : w.heap.modify b (fun o' => match o' with | .cells c elem frozen => .cells (if (⟨b, o, none⟩ : Addr).spot.isSome then c else c.setIfInBounds (⟨b, o, none⟩ : Addr).off v) elem frozen | o' => o') = w.heap := by
      apply Array.ext_getElem?
      intro i
      rw [Array.getElem?_modify]
      split
      · rename_i e
        subst e
        rw [hb]
        cases ob with
        | cells c elem fr =>
          simp only [Option.map_some, Option.some.injEq, Obj.cells.injEq, and_true]
          simp [World.cell?, hb] at h
          apply Array.ext_getElem?
          intro j
          simp only [Option.isSome_none, Bool.false_eq_true, if_false, Array.getElem?_setIfInBounds]
          split
          · rename_i e; subst e; split
            · exact h.symm
            · rename_i hh; rw [Array.getElem?_eq_none (by omega)] at h; cases h
          · rfl
        | _ => rfl
      · rfl
    exact congrArg (fun hp => { w with heap := hp }) this

/-- All that 'head' reads; the cursor lies at ⟨CB, o⟩, its number is k. -/
structure HE (w : World) (xb fb tb PB pcap CB o vb : Nat) (pa : Option Addr) (E : Pd) (sg sz ah pos a : Int) (k : Nat) : Prop where
  x : w.cell? ⟨xb, 0, none⟩ = some (.pointer (some ⟨fb, 0, none⟩))
  fx : Fix w fb tb sg sz ah
  pl : Ps w fb PB pcap pa E
  cv : w.cell? ⟨CB, o, none⟩ = some (.pointer (some ⟨vb, 0, none⟩))
  ci : w.cell? ⟨CB, o + 1, none⟩ = some (.int .i64 k)
  ca : w.cell? ⟨CB, o + 2, none⟩ = some (.int .i64 a)
  cf : w.frozen? ⟨CB, o + 1, none⟩ = false
  vp : w.cell? ⟨vb, 1, none⟩ = some (.int .i64 pos)
  ne : xb ≠ CB ∧ fb ≠ CB ∧ tb ≠ CB ∧ PB ≠ CB ∧ vb ≠ CB

theorem HE.grow {w : World} {xb fb tb PB pcap CB o vb : Nat} {pa : Option Addr} {E : Pd} {sg sz ah pos a : Int} {k : Nat} (h : HE w xb fb tb PB pcap CB o vb pa E sg sz ah pos a k) (n : Nat) (os : Array Obj) :
    HE (grow (w.drewN n) os) xb fb tb PB pcap CB o vb pa E sg sz ah pos a k :=
  ⟨cell_grown (block_lt_of_cell h.x) h.x n os, h.fx.grow n os, h.pl.grow n os, cell_grown (block_lt_of_cell h.cv) h.cv n os, cell_grown (block_lt_of_cell h.ci) h.ci n os, cell_grown (block_lt_of_cell h.ca) h.ca n os,
    by rw [frozen?_grow _ _ _ (by exact block_lt_of_cell h.ci)]; exact h.cf, cell_grown (block_lt_of_cell h.vp) h.vp n os, h.ne⟩

theorem cell_far {w : World} {b o b' o' : Nat} {v u : Value} (h : w.cell? ⟨b', o', none⟩ = some u) (hne : b' ≠ b) : (w.setCell ⟨b, o, none⟩ v).cell? ⟨b', o', none⟩ = some u := by
  rw [World.cell?_setCell_other _ _ _ _ (by intro e; injection e with e1; exact hne e1.symm)]; exact h
theorem cell_off {w : World} {b o o' : Nat} {v u : Value} (h : w.cell? ⟨b, o', none⟩ = some u) (hne : o' ≠ o) : (w.setCell ⟨b, o, none⟩ v).cell? ⟨b, o', none⟩ = some u := by
  rw [World.cell?_setCell_other _ _ _ _ (by intro e; injection e with e1 e2; exact hne e2.symm)]; exact h

theorem HE.set {w : World} {xb fb tb PB pcap CB o vb : Nat} {pa : Option Addr} {E : Pd} {sg sz ah pos a : Int} {k : Nat} (h : HE w xb fb tb PB pcap CB o vb pa E sg sz ah pos a k) (j : Nat) :
    HE (w.setCell ⟨CB, o + 1, none⟩ (.int .i64 j)) xb fb tb PB pcap CB o vb pa E sg sz ah pos a j := by
  obtain ⟨n1, n2, n3, n4, n5⟩ := h.ne
  exact ⟨cell_far h.x n1, ⟨cell_far h.fx.ft n2, cell_far h.fx.fa n2, cell_far h.fx.ts n3, cell_far h.fx.tg n3⟩, ⟨cell_far h.pl.fp n2, h.pl.pa, fun j hj => cell_far (h.pl.s j hj) n4, fun j hj => cell_far (h.pl.e j hj) n4⟩,
    cell_off h.cv (by omega), World.cell?_setCell_same _ _ _ h.ci, cell_off h.ca (by omega), by rw [World.frozen?_setCell]; exact h.cf, cell_far h.vp n5, h.ne⟩

/-- The cursor's number in a world. -/
def curAt (CB o : Nat) (w : World) : Nat := match w.cell? ⟨CB, o + 1, none⟩ with
  | some (.int _ n) => n.toNat
  | _ => 0
theorem HE.cur {w : World} {xb fb tb PB pcap CB o vb : Nat} {pa : Option Addr} {E : Pd} {sg sz ah pos a : Int} {k : Nat} (h : HE w xb fb tb PB pcap CB o vb pa E sg sz ah pos a k) : curAt CB o w = k := by
  unfold curAt; rw [h.ci]; simp

theorem setCell_twice (w : World) (b o : Nat) (u v : Value) : (w.setCell ⟨b, o, none⟩ u).setCell ⟨b, o, none⟩ v = w.setCell ⟨b, o, none⟩ v := by
  unfold World.setCell
  simp only
  congr 1
  apply Array.ext_getElem?
  intro i
  simp only [Array.getElem?_modify]
  split
  · cases w.heap[i]? with
    | none => rfl
    | some ob =>
      cases ob with
      | cells c t fr => simp
      | _ => rfl
  · rfl

theorem setCell_grow (w : World) (os : Array Obj) (b o : Nat) (v : Value) (h : b < w.heap.size) : (grow w os).setCell ⟨b, o, none⟩ v = grow (w.setCell ⟨b, o, none⟩ v) os := by
  unfold World.setCell grow
  simp only
  rw [modify_append_left _ _ _ _ h]
theorem setCell_grow_new (w : World) (os : Array Obj) (b o : Nat) (v : Value) (h : w.heap.size ≤ b) : ∃ os', (grow w os).setCell ⟨b, o, none⟩ v = grow w os' := by
  unfold World.setCell grow
  simp only
  rw [modify_append_right _ _ _ _ h]
  exact ⟨_, rfl⟩

/-- The world behind 'head': the cursor's number is k; draws and new blocks. -/
def Hw (w w' : World) (CB o k : Nat) : Prop := ∃ q os, w' = grow ((w.setCell ⟨CB, o + 1, none⟩ (.int .i64 k)).drewN q) os

theorem Fix.of_heap {w w' : World} {fb tb : Nat} {sg sz ah : Int} (h : Fix w fb tb sg sz ah) (hh : w'.heap = w.heap) : Fix w' fb tb sg sz ah := by
  have e : ∀ a, w'.cell? a = w.cell? a := fun a => by simp [World.cell?, hh]
  exact ⟨by rw [e]; exact h.ft, by rw [e]; exact h.fa, by rw [e]; exact h.ts, by rw [e]; exact h.tg⟩
theorem drewN_grow (w : World) (os : Array Obj) (n : Nat) : (Sort.grow w os).drewN n = Sort.grow (w.drewN n) os := rfl
theorem Hw.drewN {w w' : World} {CB o k : Nat} (h : Hw w w' CB o k) (n : Nat) : Hw w (w'.drewN n) CB o k := by
  obtain ⟨q, os, rfl⟩ := h
  exact ⟨q + n, os, by rw [drewN_grow, World.drewN_drewN]⟩
theorem Hw.drew {w w' : World} {CB o k : Nat} (h : Hw w w' CB o k) : Hw w w'.drew CB o k := h.drewN 1
theorem Hw.alloc {w w' : World} {CB o k : Nat} (h : Hw w w' CB o k) (ob : Obj) : Hw w (w'.alloc ob) CB o k := by
  obtain ⟨q, os, rfl⟩ := h
  exact ⟨q, os ++ #[ob], by rw [alloc_eq_grow, grow_grow]⟩
theorem Hw.grow {w w' : World} {CB o k : Nat} (h : Hw w w' CB o k) (n : Nat) (os' : Array Obj) : Hw w (Sort.grow (w'.drewN n) os') CB o k := by
  obtain ⟨q, os, rfl⟩ := h
  exact ⟨q + n, os ++ os', by rw [drewN_grow, grow_grow, World.drewN_drewN]⟩
theorem Hw.set {w w' : World} {CB o k : Nat} (h : Hw w w' CB o k) (hc : CB < w.heap.size) (j : Nat) : Hw w (w'.setCell ⟨CB, o + 1, none⟩ (.int .i64 j)) CB o j := by
  obtain ⟨q, os, rfl⟩ := h
  refine ⟨q, os, ?_⟩
  rw [setCell_grow _ _ _ _ _ (by simpa using hc)]
  show Sort.grow (World.drewN ((w.setCell _ _).setCell _ _) q) os = _
  rw [setCell_twice]
theorem Hw.new {w w' : World} {CB o k : Nat} (h : Hw w w' CB o k) (b i : Nat) (v : Value) (hb : w.heap.size ≤ b) : Hw w (w'.setCell ⟨b, i, none⟩ v) CB o k := by
  obtain ⟨q, os, rfl⟩ := h
  obtain ⟨os', h'⟩ := setCell_grow_new ((w.setCell ⟨CB, o + 1, none⟩ (.int .i64 k)).drewN q) os b i v (by simpa using hb)
  exact ⟨q, os', h'⟩
theorem Hw.env {w w' : World} {xb fb tb PB pcap CB o vb : Nat} {pa : Option Addr} {E : Pd} {sg sz ah pos a : Int} {i k : Nat} (h : HE w xb fb tb PB pcap CB o vb pa E sg sz ah pos a i) (hw : Hw w w' CB o k) :
    HE w' xb fb tb PB pcap CB o vb pa E sg sz ah pos a k := by
  obtain ⟨q, os, rfl⟩ := hw
  exact (h.set k).grow q os
theorem Hw.start {w : World} {CB o i : Nat} (h : w.cell? ⟨CB, o + 1, none⟩ = some (.int .i64 i)) : Hw w w CB o i := ⟨0, #[], by rw [setCell_same h, grow_empty]; rfl⟩

set_option maxRecDepth 100000 in
set_option maxHeartbeats 2000000 in
theorem head_any (xb fb tb PB pcap CB o vb : Nat) (pa : Option Addr) (E : Pd) (sg sz ah pos a : Int) (i : Nat) (hb : Bds sg sz) (hE : E.Ok sz) (ha0 : 0 ≤ ah) (ha1 : ah ≤ 255) (hp0 : 0 ≤ pos) (hp1 : pos ≤ 400) (hx0 : 0 ≤ a) (hx1 : a ≤ 300) (hi : i ≤ E.np)
    (w : World) (hw : HE w xb fb tb PB pcap CB o vb pa E sg sz ah pos a i) :
    Calls Yba.prog 22 #[.pointer (some ⟨CB, o, none⟩), .pointer (some ⟨xb, 0, none⟩)] w
      fun e w' => e = .returned (headV (headL E sg sz ah pos a i)) ∧ Hw w w' CB o (adv E a i) := by
  have hnp := hE.n
  generalize hnn : E.np = np at *
  have HNN := hideIt hnn
  have HE0 := hideIt hw
  have HEok := hideIt hE
  have HB := hideIt hb
  have H0 : Hid (∀ ob, Hw w (w.alloc ob) CB o i) := fun ob => (Hw.start hw.ci).alloc ob
  have hCB : CB < w.heap.size := block_lt_of_cell hw.ci
  have hlx : xb < w.heap.size := block_lt_of_cell hw.x
  have hlf : fb < w.heap.size := block_lt_of_cell hw.fx.ft
  have hlp : ∀ j, j < E.np → PB < w.heap.size := fun j hj => block_lt_of_cell (hw.pl.s j hj)
  have HLP := hideIt hlp
  clear hnn hw hE hb hlp
  go_enter Yba.func22, Yba.ntmps22
  go_wp2
  go_loopw [6] (fun _ wr => ∃ k : Nat, k ≤ np ∧ adv E a k = adv E a i ∧ Hw w wr CB o k ∧ wr.heap[w.heap.size]? = some (.cells #[.int .i64 0, .int .i64 0] 29 (0, 0))) (fun _ wr => np - curAt CB o wr)
  case atStart => exact ⟨i, hi, rfl, H0.out _, heap_alloc_new _ _⟩
  case round =>
    clear H0
    obtain ⟨k, hk, hadv, hwr, hbox⟩ := hrel
    have env := hwr.env HE0.out
    have hcur := env.cur
    have HENV := hideIt env
    obtain ⟨e1, e2, e3, e4, e5, e6, e7, e8, e9⟩ := env
    have HADV := hideIt hadv
    have HWR := hideIt hwr
    have HBX := hideIt hbox
    have c1 := e3.fp
    have x0 : wr.cell? ⟨w.heap.size, 0, none⟩ = some (.int .i64 0) := by rw [cell_of_row wr _ 0 _ _ _ hbox]; rfl
    have x1 : wr.cell? ⟨w.heap.size, 1, none⟩ = some (.int .i64 0) := by rw [cell_of_row wr _ 1 _ _ _ hbox]; rfl
    have y0 : wr.frozen? ⟨w.heap.size, 0, none⟩ = false := by simp [World.frozen?, hbox]
    have y1 : wr.frozen? ⟨w.heap.size, 1, none⟩ = false := by simp [World.frozen?, hbox]
    have HFX := hideIt e2
    clear hadv hwr hbox e9 e2
    by_cases hlt : k < np
    · have hltE : k < E.np := by rw [HNN.out]; exact hlt
      have hpa := e3.pa (by omega)
      subst hpa
      have c2 := e3.s k hltE
      have c3 := e3.e k hltE
      have hki : (k : Int) < (np : Int) := by omega
      have hki0 : (0 : Int) ≤ (k : Int) := by omega
      rw [HNN.out] at c1
      clear e3
      have b1 := HEok.out.se k hltE
      have b2 := HEok.out.e1 k hltE
      have b3 := HEok.out.s0 k hltE
      have bz := HB.out.z1
      generalize hpk : E.pe k = pk at *
      generalize hsk : E.ps k = sk at *
      have HPK := hideIt hpk
      have HSK := hideIt hsk
      clear hpk hsk
      by_cases hle : pk ≤ a
      · have hst : adv E a (k + 1) = adv E a i := by rw [← HADV.out]; exact (adv_step hltE (by rw [HPK.out]; exact hle)).symm
        have HST := hideIt hst
        clear hst
        go_wp2
        go_quiet (fail)
        go_wp2
        go_roundw
        case rel => exact ⟨k + 1, by omega, HST.out, by
          have := (HWR.out.drewN nq).set hCB (k + 1)
          simpa using this, (heap_setCell_other _ _ _ _ (by show w.heap.size ≠ CB; omega)).trans HBX.out⟩
        case measure =>
          have h1 := (Hw.env HE0.out ((HWR.out.drewN nq).set hCB (k + 1))).cur
          have h2 := HENV.out.cur
          rw [h2]
          have h3 : curAt CB o (((wr.drewN nq).setCell ⟨CB, o + 1, none⟩ (.int .i64 ((k : Int) + 1)))) = k + 1 := by simpa using h1
          exact Nat.lt_of_le_of_lt (Nat.le_of_eq (congrArg (fun z => np - z) h3)) (by omega)
      · have hst : adv E a i = k := by rw [← HADV.out]; exact adv_stop (by rw [HPK.out]; omega)
        have hhd : headL E sg sz ah pos a i = if holdsL sg sz ah pos (if a < sk then sk else a) then some (if a < sk then sk else a, if pk ≤ bndL sg sz (if a < sk then sk else a) then pk else bndL sg sz (if a < sk then sk else a)) else none := by
          unfold headL
          simp only [hst]
          rw [if_pos hltE, HPK.out, HSK.out]
        have HST := hideIt hst
        have HHD := hideIt hhd
        clear hst hhd
        have hdn : decide (pk ≤ a) = false := by simp; omega
        have hkk : ((k : Int) == (np : Int)) = false := by simp; omega
        by_cases hx : a < sk
        · have HIF : (if a < sk then sk else a) = sk := if_pos hx
          have hhX : headL E sg sz ah pos a i = if holdsL sg sz ah pos sk then some (sk, if pk ≤ bndL sg sz sk then pk else bndL sg sz sk) else none := by rw [HHD.out, HIF]
          have HHX := hideIt hhX
          clear hhX HIF
          go_wp2
          go_quiet (fail)
          go_wp2
          go_quiet (fail)
          go_wp2
          go_quiet (fail)
          go_wp2
          try simp only [World.drewN_drewN]
          generalize hwz : World.drewN wr _ = wz
          have HWZ : Hid (Hw w wz CB o k) := by rw [← hwz]; exact HWR.out.drewN _
          have z1 : wz.cell? ⟨xb, 0, none⟩ = some (.pointer (some ⟨fb, 0, none⟩)) := by rw [← hwz]; simpa using e1
          have z4 : wz.cell? ⟨CB, o, none⟩ = some (.pointer (some ⟨vb, 0, none⟩)) := by rw [← hwz]; simpa using e4
          have z5 : wz.cell? ⟨CB, o + 1, none⟩ = some (.int .i64 k) := by rw [← hwz]; simpa using e5
          have zc : wz.cell? ⟨fb, 24, none⟩ = some (.slice (some ⟨PB, 0, none⟩) np pcap) := by rw [← hwz]; simpa using c1
          have zp : wz.cell? ⟨PB, k * 2 + 1, none⟩ = some (.int .i64 pk) := by rw [← hwz]; simpa using c3
          have zx0 : wz.cell? ⟨w.heap.size, 0, none⟩ = some (.int .i64 0) := by rw [← hwz]; simpa using x0
          have zx1 : wz.cell? ⟨w.heap.size, 1, none⟩ = some (.int .i64 0) := by rw [← hwz]; simpa using x1
          have zy0 : wz.frozen? ⟨w.heap.size, 0, none⟩ = false := by rw [← hwz]; simpa using y0
          have zy1 : wz.frozen? ⟨w.heap.size, 1, none⟩ = false := by rw [← hwz]; simpa using y1
          have ze8 : wz.cell? ⟨vb, 1, none⟩ = some (.int .i64 pos) := by rw [← hwz]; simpa using e8
          have ZF : Fix wz fb tb sg sz ah := by rw [← hwz]; exact HFX.out.drewN _
          have CH := hideIt (fun n => holds_any fb tb vb pos sk sg sz ah HB.out hp0 (by omega) (by omega) (by omega) ha0 ha1 (wz.drewN n) (ZF.drewN n) (by simpa using ze8))
          have CB24 := hideIt (fun W hW => bnd_any fb tb sk sg sz ah HB.out (by omega) (by omega) W hW)
          have HZF := hideIt ZF
          clear hwz e1 e4 e5 e6 e7 e8 c1 c2 c3 x0 x1 y0 y1 HFX ZF ze8 hcur
          cases hh : holdsL sg sz ah pos sk with
          | false =>
            rw [hh] at CH HHX
            clear hh
            go_quiet (first | (go_at_call 23; refine Calls.quiet_of (CH.out _)))
            go_wp2
            refine bodyPost_ret (v := headV none) (by simp [results, Yba.results22, go_sem, headV, zx0, zx1]) rfl ?_
            refine ⟨by rw [HHX.out]; rfl, ?_⟩
            rw [HST.out]
            exact ((HWZ.out.drewN _).new _ _ _ (Nat.le_refl _)).new _ _ _ (Nat.le_refl _)
          | true =>
            rw [hh] at CH HHX
            clear hh
            go_quiet (first | (go_at_call 23; refine Calls.quiet_of (CH.out _)))
            go_wp2
            have hlp := HLP.out k hltE
            have q1 : ¬ xb = w.heap.size := by omega
            have q2 : ¬ fb = w.heap.size := by omega
            have q3 : ¬ CB = w.heap.size := by omega
            have q4 : ¬ PB = w.heap.size := by omega
            have r1 : ¬ w.heap.size = xb := by omega
            have r2 : ¬ w.heap.size = fb := by omega
            have r3 : ¬ w.heap.size = CB := by omega
            have r4 : ¬ w.heap.size = PB := by omega
            generalize bndL sg sz sk = bn at HHX CB24
            by_cases hmn : pk ≤ bn
            · rw [if_pos hmn] at HHX
              go_region_held3 (fun w' => w'.cell? ⟨xb, 0, none⟩ = some (.pointer (some ⟨fb, 0, none⟩)) ∧ w'.cell? ⟨fb, 24, none⟩ = some (.slice (some ⟨PB, 0, none⟩) np pcap) ∧ w'.cell? ⟨CB, o + 1, none⟩ = some (.int .i64 k) ∧ w'.cell? ⟨PB, k * 2 + 1, none⟩ = some (.int .i64 pk)) (go_keep)
                (first | (go_at_call 24; refine (CB24.out _ (HZF.out.drewN _)).mono ?_; rintro e w' ⟨rfl, nb, rfl⟩))
              go_wp2
              refine bodyPost_ret (v := headV (some (sk, pk))) (by simp [results, Yba.results22, go_sem, headV, zx0, zx1]) rfl ?_
              refine ⟨by rw [HHX.out]; rfl, ?_⟩
              rw [HST.out]
              repeat (first | exact HWZ.out | refine Hw.drewN ?_ _ | refine Hw.drew ?_ | refine Hw.new ?_ _ _ _ (Nat.le_refl _))
            · rw [if_neg hmn] at HHX
              go_region_held3 (fun w' => w'.cell? ⟨xb, 0, none⟩ = some (.pointer (some ⟨fb, 0, none⟩)) ∧ w'.cell? ⟨fb, 24, none⟩ = some (.slice (some ⟨PB, 0, none⟩) np pcap) ∧ w'.cell? ⟨CB, o + 1, none⟩ = some (.int .i64 k) ∧ w'.cell? ⟨PB, k * 2 + 1, none⟩ = some (.int .i64 pk)) (go_keep)
                (first | (go_at_call 24; refine (CB24.out _ (HZF.out.drewN _)).mono ?_; rintro e w' ⟨rfl, nb, rfl⟩))
              go_wp2
              refine bodyPost_ret (v := headV (some (sk, bn))) (by simp [results, Yba.results22, go_sem, headV, zx0, zx1]) rfl ?_
              refine ⟨by rw [HHX.out]; rfl, ?_⟩
              rw [HST.out]
              repeat (first | exact HWZ.out | refine Hw.drewN ?_ _ | refine Hw.drew ?_ | refine Hw.new ?_ _ _ _ (Nat.le_refl _))
        · have HIF : (if a < sk then sk else a) = a := if_neg hx
          have hhX : headL E sg sz ah pos a i = if holdsL sg sz ah pos a then some (a, if pk ≤ bndL sg sz a then pk else bndL sg sz a) else none := by rw [HHD.out, HIF]
          have HHX := hideIt hhX
          clear hhX HIF
          go_wp2
          go_quiet (fail)
          go_wp2
          go_quiet (fail)
          go_wp2
          go_quiet (fail)
          go_wp2
          try simp only [World.drewN_drewN]
          generalize hwz : World.drewN wr _ = wz
          have HWZ : Hid (Hw w wz CB o k) := by rw [← hwz]; exact HWR.out.drewN _
          have z1 : wz.cell? ⟨xb, 0, none⟩ = some (.pointer (some ⟨fb, 0, none⟩)) := by rw [← hwz]; simpa using e1
          have z4 : wz.cell? ⟨CB, o, none⟩ = some (.pointer (some ⟨vb, 0, none⟩)) := by rw [← hwz]; simpa using e4
          have z5 : wz.cell? ⟨CB, o + 1, none⟩ = some (.int .i64 k) := by rw [← hwz]; simpa using e5
          have zc : wz.cell? ⟨fb, 24, none⟩ = some (.slice (some ⟨PB, 0, none⟩) np pcap) := by rw [← hwz]; simpa using c1
          have zp : wz.cell? ⟨PB, k * 2 + 1, none⟩ = some (.int .i64 pk) := by rw [← hwz]; simpa using c3
          have zx0 : wz.cell? ⟨w.heap.size, 0, none⟩ = some (.int .i64 0) := by rw [← hwz]; simpa using x0
          have zx1 : wz.cell? ⟨w.heap.size, 1, none⟩ = some (.int .i64 0) := by rw [← hwz]; simpa using x1
          have zy0 : wz.frozen? ⟨w.heap.size, 0, none⟩ = false := by rw [← hwz]; simpa using y0
          have zy1 : wz.frozen? ⟨w.heap.size, 1, none⟩ = false := by rw [← hwz]; simpa using y1
          have ze8 : wz.cell? ⟨vb, 1, none⟩ = some (.int .i64 pos) := by rw [← hwz]; simpa using e8
          have ZF : Fix wz fb tb sg sz ah := by rw [← hwz]; exact HFX.out.drewN _
          have CH := hideIt (fun n => holds_any fb tb vb pos a sg sz ah HB.out hp0 (by omega) (by omega) (by omega) ha0 ha1 (wz.drewN n) (ZF.drewN n) (by simpa using ze8))
          have CB24 := hideIt (fun W hW => bnd_any fb tb a sg sz ah HB.out (by omega) (by omega) W hW)
          have HZF := hideIt ZF
          clear hwz e1 e4 e5 e6 e7 e8 c1 c2 c3 x0 x1 y0 y1 HFX ZF ze8 hcur
          cases hh : holdsL sg sz ah pos a with
          | false =>
            rw [hh] at CH HHX
            clear hh
            go_quiet (first | (go_at_call 23; refine Calls.quiet_of (CH.out _)))
            go_wp2
            refine bodyPost_ret (v := headV none) (by simp [results, Yba.results22, go_sem, headV, zx0, zx1]) rfl ?_
            refine ⟨by rw [HHX.out]; rfl, ?_⟩
            rw [HST.out]
            exact ((HWZ.out.drewN _).new _ _ _ (Nat.le_refl _)).new _ _ _ (Nat.le_refl _)
          | true =>
            rw [hh] at CH HHX
            clear hh
            go_quiet (first | (go_at_call 23; refine Calls.quiet_of (CH.out _)))
            go_wp2
            have hlp := HLP.out k hltE
            have q1 : ¬ xb = w.heap.size := by omega
            have q2 : ¬ fb = w.heap.size := by omega
            have q3 : ¬ CB = w.heap.size := by omega
            have q4 : ¬ PB = w.heap.size := by omega
            have r1 : ¬ w.heap.size = xb := by omega
            have r2 : ¬ w.heap.size = fb := by omega
            have r3 : ¬ w.heap.size = CB := by omega
            have r4 : ¬ w.heap.size = PB := by omega
            generalize bndL sg sz a = bn at HHX CB24
            by_cases hmn : pk ≤ bn
            · rw [if_pos hmn] at HHX
              go_region_held3 (fun w' => w'.cell? ⟨xb, 0, none⟩ = some (.pointer (some ⟨fb, 0, none⟩)) ∧ w'.cell? ⟨fb, 24, none⟩ = some (.slice (some ⟨PB, 0, none⟩) np pcap) ∧ w'.cell? ⟨CB, o + 1, none⟩ = some (.int .i64 k) ∧ w'.cell? ⟨PB, k * 2 + 1, none⟩ = some (.int .i64 pk)) (go_keep)
                (first | (go_at_call 24; refine (CB24.out _ (HZF.out.drewN _)).mono ?_; rintro e w' ⟨rfl, nb, rfl⟩))
              go_wp2
              refine bodyPost_ret (v := headV (some (a, pk))) (by simp [results, Yba.results22, go_sem, headV, zx0, zx1]) rfl ?_
              refine ⟨by rw [HHX.out]; rfl, ?_⟩
              rw [HST.out]
              repeat (first | exact HWZ.out | refine Hw.drewN ?_ _ | refine Hw.drew ?_ | refine Hw.new ?_ _ _ _ (Nat.le_refl _))
            · rw [if_neg hmn] at HHX
              go_region_held3 (fun w' => w'.cell? ⟨xb, 0, none⟩ = some (.pointer (some ⟨fb, 0, none⟩)) ∧ w'.cell? ⟨fb, 24, none⟩ = some (.slice (some ⟨PB, 0, none⟩) np pcap) ∧ w'.cell? ⟨CB, o + 1, none⟩ = some (.int .i64 k) ∧ w'.cell? ⟨PB, k * 2 + 1, none⟩ = some (.int .i64 pk)) (go_keep)
                (first | (go_at_call 24; refine (CB24.out _ (HZF.out.drewN _)).mono ?_; rintro e w' ⟨rfl, nb, rfl⟩))
              go_wp2
              refine bodyPost_ret (v := headV (some (a, bn))) (by simp [results, Yba.results22, go_sem, headV, zx0, zx1]) rfl ?_
              refine ⟨by rw [HHX.out]; rfl, ?_⟩
              rw [HST.out]
              repeat (first | exact HWZ.out | refine Hw.drewN ?_ _ | refine Hw.drew ?_ | refine Hw.new ?_ _ _ _ (Nat.le_refl _))
    · have hst : adv E a i = k := by rw [← HADV.out]; exact adv_stop (by rw [HNN.out]; omega)
      have hhd : headL E sg sz ah pos a i = none := by
        unfold headL
        simp only [hst]
        rw [if_neg (by rw [HNN.out]; exact hlt)]
      have hkn : k = np := by omega
      subst hkn
      rw [HNN.out] at c1
      have hdk : decide ((k : Int) < (k : Int)) = false := by simp
      have hee : ((k : Int) == (k : Int)) = true := by simp
      have HST := hideIt hst
      have HHD := hideIt hhd
      clear hst hhd e3
      go_wp2
      go_quiet (fail)
      go_wp2
      go_quiet (fail)
      go_wp2
      refine bodyPost_ret (v := headV none) (by simp [results, Yba.results22, go_sem, headV, x0, x1]) rfl ?_
      refine ⟨by rw [HHD.out], ?_⟩
      rw [HST.out]
      exact ((HWR.out.drewN _).new _ _ _ (Nat.le_refl _)).new _ _ _ (Nat.le_refl _)
end Go.Proofs.Ybulkdsao
