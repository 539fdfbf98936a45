import Derived.Test.YbulkdryyDoorQueue
import Derived.Laws.StructEq
import Derived.Deep.RegionHeld3
import Derived.OwnWalk
import Derived.WalkSmall
import Derived.Laws.CopyOwn
import Derived.Deep.QuietTactic
import Derived.BigQuiet
namespace Go.Proofs.YbulkdryyDoor
open Go.ChangeShapes Go.WideShapes Go.ChangeAt Go.RowKit
set_option linter.unusedVariables false

theorem Ybad.info59 : (Ybad.prog.info? 59).map (fun i => (i.zero, i.size, i.bytes)) = some (some (.agg #[.pointer none, .int .u8 0]), 2, 16) := by kernel_rfl

/-- The holders that the law makes. -/
def hl (n : Nat) (tx md : Nat → Int) : List (Nat × Nat) := (List.range n).map fun k => ((tx k % 5).toNat, (md k % 7).toNat)

/-- A block of cells behind a store into it. -/
theorem block_set {w : World} {g : Nat} {cs : Array Value} {t : TypeId} (h : w.heap[g]? = some (.cells cs t (0, 0))) (o : Nat) (v : Value) :
    (w.setCell ⟨g, o, none⟩ v).heap[g]? = some (.cells (cs.setIfInBounds o v) t (0, 0)) := by
  have hlt := lt_of_block h
  have h' : w.heap[g] = .cells cs t (0, 0) := by simpa [Array.getElem?_eq_getElem hlt] using h
  show (w.heap.modify g _)[g]? = _
  rw [Array.getElem?_eq_getElem (by simpa using hlt), Array.getElem_modify_self, h']
  rfl
theorem block_free {w : World} {g : Nat} {cs : Array Value} {t : TypeId} (h : w.heap[g]? = some (.cells cs t (0, 0))) (o : Nat) : w.frozen? ⟨g, o, none⟩ = false := by
  simp [World.frozen?, h]

/-- Block g: so many cells. -/
def Blk (w : World) (g : Nat) (t : TypeId) (m : Nat) : Prop := ∃ cs, w.heap[g]? = some (.cells cs t (0, 0)) ∧ cs.size = m

theorem Blk.cell {w : World} {g : Nat} {t : TypeId} {m : Nat} (h : Blk w g t m) (o : Nat) (ho : o < m) : ∃ v, w.cell? ⟨g, o, none⟩ = some v := by
  obtain ⟨cs, h1, h2⟩ := h
  exact ⟨cs[o], by rw [cell_of_row w g o cs t _ h1, Array.getElem?_eq_getElem (by omega)]⟩
theorem Blk.free {w : World} {g : Nat} {t : TypeId} {m : Nat} (h : Blk w g t m) (o : Nat) : w.frozen? ⟨g, o, none⟩ = false := by
  obtain ⟨cs, h1, h2⟩ := h
  exact block_free h1 o
theorem Blk.set {w : World} {g : Nat} {t : TypeId} {m : Nat} (h : Blk w g t m) (o : Nat) (v : Value) : Blk (w.setCell ⟨g, o, none⟩ v) g t m := by
  obtain ⟨cs, h1, h2⟩ := h
  exact ⟨_, block_set h1 o v, by simpa using h2⟩

/-- The row of holders, its first k laid. -/
def Filled (w : World) (T G n k : Nat) (tx md : Nat → Int) : Prop :=
  ∃ cs : Array Value, w.heap[G]? = some (.cells cs 59 (0, 0)) ∧ cs.size = n * 2 ∧ ∀ m, m < k → cs[m * 2]? = some (.pointer (pickP T (tx m % 5).toNat)) ∧ cs[m * 2 + 1]? = some (.int .u8 (md m % 7))

theorem Filled.step {w : World} {T G n k : Nat} {tx md : Nat → Int} (h : Filled w T G n k tx md) (hk : k < n) (p : Option Addr) (v : Int) (hp : p = pickP T (tx k % 5).toNat) (hv : v = md k % 7) :
    Filled (((w.setCell ⟨G, k * 2, none⟩ (.pointer p)).setCell ⟨G, k * 2 + 1, none⟩ (.int .u8 v)).drew) T G n (k + 1) tx md := by
  obtain ⟨cs, h1, h2, h3⟩ := h
  refine ⟨_, block_set (block_set h1 _ _) _ _, by simpa using h2, fun m hm => ?_⟩
  subst hp hv
  by_cases hmk : m = k
  · subst hmk
    constructor
    · rw [Array.getElem?_setIfInBounds_ne (by omega), Array.getElem?_setIfInBounds_self_of_lt (by omega)]
    · rw [Array.getElem?_setIfInBounds_self_of_lt (by simp; omega)]
  · obtain ⟨a1, a2⟩ := h3 m (by omega)
    constructor
    · rw [Array.getElem?_setIfInBounds_ne (by omega), Array.getElem?_setIfInBounds_ne (by omega)]; exact a1
    · rw [Array.getElem?_setIfInBounds_ne (by omega), Array.getElem?_setIfInBounds_ne (by omega)]; exact a2

theorem made_block {w w1 : World} {t : TypeId} {base size n : Nat} {xs : List Value} {g : Nat} (h : w1.ownsRow base t size (.slice (some ⟨g, 0, none⟩) n n) n xs) : Blk w1 g t (n * size) := by
  obtain ⟨h1, h2⟩ := h
  rcases h2 with ⟨h2, _⟩ | ⟨g', cap, cur, e1, e2, e3, e4, e5, e6, e7⟩
  · cases h2
  · simp at e1
    obtain ⟨rfl, rfl⟩ := e1
    exact ⟨cur, e3, e6⟩

/-- '==' between a picked transaction and itself, as a struct's comparison asks it. -/
theorem eq_pick (T i : Nat) (hi : i ≤ 4) (w : World) {ca : Array Value} {ta : TypeId} (hT : w.heap[T]? = some (.cells ca ta (0, 0))) :
    (Op.equalIn 9999 52 (.pointer (pickP T i)) (.pointer (pickP T i))).run Ybad.prog w = .ok true w := by
  have := run_equalIn_pick T i i hi hi w hT 9998
  simpa using this

/-- 'copy(dst, src)' of one whole row over another of the same length, whatever the elements' size. -/
theorem wpList_copy_full {P : Program} {w : World} {ops : Array Oper} {rest : List Oper} {o : Oper} {a : Act} {Q : Exit → Act → World → Prop} (hgd : o.guard = none) (d s : Operand) (dT sT : TypeId)
    (ho : o.op = .call { callee := .builtin .copy, args := #[d, s], argTypes := #[dT, sT] }) (elem : TypeId) (hu : P.underlying dT = some (.slice elem)) (sz : Nat) (hsz : (P.info? elem).map (·.size) = some sz)
    (g h n dCap sCap : Nat) (hd : a.eval d = .slice (some ⟨g, 0, none⟩) n dCap) (hs : a.eval s = .slice (some ⟨h, 0, none⟩) n sCap)
    (cur cs : Array Value) (t t' : TypeId) (fr : Nat × Nat) (hg : w.heap[g]? = some (.cells cur t (0, 0))) (hh : w.heap[h]? = some (.cells cs t' fr)) (e1 : cur.size = n * sz) (e2 : cs.size = n * sz)
    (h1 : ∀ v ∈ cs.toList, v.oneCell' = true)
    (hK : ∀ w', Hid (w'.heap[g]? = some (.cells cs t (0, 0))) → Below g w w' → wpList P ops Q rest (a.put o.dst (goInt n)) w') :
    wpList P ops Q (o :: rest) a w := by
  refine wpList_plain hgd fun K hK' => ?_
  have hl := run_loadCells_list (P := P) w ⟨h, 0, none⟩ cs.toList (fun j v hj => by
    rw [add_plain, cell_of_row w h (0 + j) cs t' fr hh]
    simpa using hj)
  have hst := run_storeCells_at P g 0 t cs.toList 0 cur w hg (by simp; omega) h1
  have hlen : cs.toList.length = n * sz := by simpa using e2
  have hdrop : cur.toList.drop (0 + 0 + cs.toList.length) = [] := List.drop_eq_nil_of_le (by simp; omega)
  rw [hdrop] at hst
  simp only [Nat.add_zero, List.take_zero, List.nil_append, List.append_nil, Array.toArray_toList] at hst
  rw [hlen] at hl
  have hrun : (Builtin.copy_ #[dT, sT] o.type #[.slice (some ⟨g, 0, none⟩) n dCap, .slice (some ⟨h, 0, none⟩) n sCap]).run P w = .ok (goInt n) (w.setRow g cs) := by
    cases hq : P.info? elem with
    | none => simp [hq] at hsz
    | some i =>
      have hi : i.size = sz := by simpa [hq] using hsz
      simp [Builtin.copy_, run_underlying hu, Builtin.lenOf, Builtin.firstCells, sizeOf, typeInfo, hq, hi, hl, hst]
  unfold Oper.wp
  simp [execOp, ho, resolve, invoke, builtin, hd, hs, hrun, Result.andThen]
  exact hK' _ _ (hK _ (setRow_heap w g cur cs t _ hg) (below_setRow (Below.refl _ _) (Nat.le_refl _) _))

theorem Filled.one {w : World} {T G n : Nat} {tx md : Nat → Int} (h : Filled w T G n n tx md) :
    ∃ cs : Array Value, w.heap[G]? = some (.cells cs 59 (0, 0)) ∧ cs.size = n * 2 ∧ (∀ m, m < n → cs[m * 2]? = some (.pointer (pickP T (tx m % 5).toNat)) ∧ cs[m * 2 + 1]? = some (.int .u8 (md m % 7))) ∧ ∀ v ∈ cs.toList, v.oneCell' = true := by
  obtain ⟨cs, h1, h2, h3⟩ := h
  refine ⟨cs, h1, h2, h3, fun v hv => ?_⟩
  obtain ⟨i, hi, rfl⟩ := List.getElem_of_mem hv
  have hi' : i < n * 2 := by simp at hi; omega
  obtain ⟨a1, a2⟩ := h3 (i / 2) (by omega)
  by_cases he : i % 2 = 0
  · have hh : i / 2 * 2 = i := by omega
    rw [hh, Array.getElem?_eq_getElem (by omega)] at a1
    have := Option.some.inj a1
    simp only [Array.getElem_toList]
    rw [this]; rfl
  · have hh : i / 2 * 2 + 1 = i := by omega
    rw [hh, Array.getElem?_eq_getElem (by omega)] at a2
    have := Option.some.inj a2
    simp only [Array.getElem_toList]
    rw [this]; rfl

theorem Ybad.size59 : (Ybad.prog.info? 59).map (·.size) = some 2 := by kernel_rfl

/-- What the law's own loop has found behind k holders. -/
def anyTo (tx md : Nat → Int) (j r k : Nat) : Bool := (List.range k).any fun m => confl (tx m % 5).toNat j (md m % 7).toNat r
theorem anyTo_succ (tx md : Nat → Int) (j r k : Nat) : anyTo tx md j r (k + 1) = (anyTo tx md j r k || confl (tx k % 5).toNat j (md k % 7).toNat r) := by
  unfold anyTo; rw [List.range_succ, List.any_append]; simp
theorem anyConf_hl (n : Nat) (tx md : Nat → Int) (j r : Nat) : anyConf (hl n tx md) j r = anyTo tx md j r n := by
  unfold anyConf hl anyTo; rw [List.any_map]; rfl
theorem hl_length (n : Nat) (tx md : Nat → Int) : (hl n tx md).length = n := by simp [hl]
theorem hl_get (n : Nat) (tx md : Nat → Int) (k : Nat) (hk : k < n) : (hl n tx md).getD k (0, 0) = ((tx k % 5).toNat, (md k % 7).toNat) := by
  simp [hl, List.getD_eq_getElem?_getD, hk]

/-- 'zzs5939bcompat' at numbers as the walk carries them. -/
theorem compat_int (r : Nat) (hr : r < 7) (v : Int) (h0 : 0 ≤ v) (h1 : v < 7) (w : World) :
    Calls Ybad.prog 10 #[.int .u8 r, .int .u8 v] w fun e w' => e = .returned (.bool (tabAt r v.toNat)) ∧ w' = w := by
  obtain ⟨g, rfl⟩ := Int.eq_ofNat_of_zero_le h0
  exact compat_any r g hr (by omega) w

theorem Filled.grant {w : World} {T G n : Nat} {tx md : Nat → Int} {cs : Array Value} (h1 : w.heap[G]? = some (.cells cs 59 (0, 0)))
    (h3 : ∀ m, m < n → cs[m * 2]? = some (.pointer (pickP T (tx m % 5).toNat)) ∧ cs[m * 2 + 1]? = some (.int .u8 (md m % 7))) : Grant w T G (hl n tx md) := fun k hk => by
  rw [hl_length] at hk
  rw [hl_get n tx md k hk, cell_of_row w G _ cs _ _ h1, cell_of_row w G _ cs _ _ h1, (h3 k hk).1, (h3 k hk).2]
  refine ⟨rfl, ?_⟩
  show some (Value.int IntKind.u8 (md k % 7)) = some (.int .u8 (((md k % 7).toNat : Nat) : Int))
  rw [Int.toNat_of_nonneg (by omega)]

set_option maxRecDepth 100000 in
set_option maxHeartbeats 1000000 in
theorem walk_row (a0 : Option Addr) (b off n c : Nat) (tx md : Nat → Int) (self mode : Int) (w : World) (hn : n ≤ 1048576) (ha0 : 0 < n → a0 = some ⟨b, off, none⟩)
    (hs0 : 0 ≤ self) (hs1 : self ≤ 255) (hm0 : 0 ≤ mode) (hm1 : mode ≤ 255)
    (hbd : ∀ k, k < n → 0 ≤ tx k ∧ tx k ≤ 255 ∧ 0 ≤ md k ∧ md k ≤ 255)
    (hcell : ∀ k, k < n → w.cell? ⟨b, off + k * 2, none⟩ = some (.int .u8 (tx k)) ∧ w.cell? ⟨b, off + k * 2 + 1, none⟩ = some (.int .u8 (md k)))
    (ht : HasTab w) :
    Calls Ybad.prog 4 #[.slice a0 n c, .int .u8 self, .int .u8 mode] w fun e w' => e = .returned (.bool true) ∧ Below w.heap.size w w' := by
  have HA0 := hideIt ha0
  have HBD := hideIt hbd
  have HC := hideIt hcell
  have HTab := hideIt ht
  clear hbd hcell ht ha0
  go_enter Ybad.func4, Ybad.ntmps4
  go_wp2
  have hB0 : ∀ o, Below w.heap.size w (w.alloc o) := fun o => (Below.refl _ w).alloc (Nat.le_refl _) o
  go_loopw [8] (fun i wr => ∃ k : Nat, k ≤ 4 ∧ i = .int .i64 k ∧ Blk wr w.heap.size 50 36 ∧ wr.heap.size = w.heap.size + 1 ∧ Below w.heap.size w wr) (fun i _ => 4 - (intOf i).toNat)
  case atStart => exact ⟨0, by omega, rfl, ⟨_, heap_alloc_new _ _, rfl⟩, by simp, hB0 _⟩
  case round =>
    obtain ⟨k, hk, rfl, hblk, hsz, hb⟩ := hrel
    have HBK := hideIt hblk
    have HSZ := hideIt hsz
    have HB := hideIt hb
    clear hblk hsz hb hB0
    by_cases hlt : k < 4
    · obtain ⟨v, hv⟩ := HBK.out.cell (k * 9 + 1) (by omega)
      have hf := HBK.out.free (k * 9 + 1)
      have hki : (k : Int) < 4 := by omega
      go_wp2
      go_roundw
      case rel => exact ⟨k + 1, by omega, by go_num, HBK.out.set _ _, by simpa using HSZ.out, HB.out.setCell (Nat.le_refl _) _⟩
      case measure => simp [intOf]; omega
    · obtain ⟨i0, hi, hz0, hz1, hz2⟩ := info_parts Ybad.info59
      have HI := hideIt hi
      have HZ0 := hideIt hz0
      have HZ1 := hideIt hz1
      have HZ2 := hideIt hz2
      clear hi hz0 hz1 hz2
      obtain ⟨T, hTT⟩ : ∃ T, T = w.heap.size := ⟨_, rfl⟩
      rw [← hTT] at HBK HSZ ⊢
      have HTT := hideIt hTT
      clear hTT
      have hszi : wr.heap.size = T + 1 := HSZ.out
      go_wp2_with (at_make; refine wpList_make_full _ rfl _ _ 51 rfl wr.heap.size 59 i0 (.agg #[.pointer none, .int .u8 0]) 2 Ybad.underlying51 HI.out HZ0.out HZ1.out _ _ _ _ n rfl rfl rfl rfl (by rw [HZ2.out]; omega) (by unfold maxLen; omega) (Nat.le_refl _) ?_)
      intro w1 hown hgrow
      have hmb := made_block (w := wr) hown
      have HG0 := hideIt hmb
      have HB1 := hideIt ((Below.refl (T + 1) wr).grown hgrow (by omega) (fun k hk => by cases hk))
      clear hown hgrow hmb
      go_wp2
      obtain ⟨wo, rfl⟩ : ∃ wo : World, wo = wr := ⟨_, rfl⟩
      go_loopw [10] (fun i wr2 => ∃ k : Nat, k ≤ n ∧ i = .int .i64 k ∧ Filled wr2 T (T + 1) n k tx md ∧ Below (T + 1) wo wr2) (fun i _ => n - (intOf i).toNat)
      case atStart =>
        obtain ⟨cs, c1, c2⟩ := HG0.out
        exact ⟨0, Nat.zero_le _, rfl, ⟨cs, c1, c2, fun m hm => by omega⟩, HB1.out⟩
      case round =>
        clear HG0 HB1 hk hlt
        obtain ⟨k2, hk2, rfl, hfil, hb2⟩ := hrel
        have HFIL := hideIt hfil
        have HB2 := hideIt hb2
        clear hfil hb2
        by_cases hlt2 : k2 < n
        · have hza := HA0.out (by omega)
          subst hza
          obtain ⟨y1, y2⟩ := HC.out k2 hlt2
          obtain ⟨t0, t1, m0, m1⟩ := HBD.out k2 hlt2
          have hbT : b < T := by have := block_lt_of_cell y1; rw [HTT.out]; exact this
          have x1 : wr.cell? ⟨b, off + k2 * 2, none⟩ = some (.int .u8 (tx k2)) := by
            rw [HB2.out.cell (p := ⟨b, off + k2 * 2, none⟩) (by show b < T + 1; omega), HB.out.cell (p := ⟨b, off + k2 * 2, none⟩) (by show b < w.heap.size; rw [← HTT.out]; exact hbT)]; exact y1
          have x2 : wr.cell? ⟨b, off + k2 * 2 + 1, none⟩ = some (.int .u8 (md k2)) := by
            rw [HB2.out.cell (p := ⟨b, off + k2 * 2 + 1, none⟩) (by show b < T + 1; omega), HB.out.cell (p := ⟨b, off + k2 * 2 + 1, none⟩) (by show b < w.heap.size; rw [← HTT.out]; exact hbT)]; exact y2
          clear y1 y2
          have hG : Blk wr (T + 1) 59 (n * 2) := by obtain ⟨cs, c1, c2, _⟩ := HFIL.out; exact ⟨cs, c1, c2⟩
          obtain ⟨v1, g1⟩ := hG.cell (k2 * 2) (by omega)
          obtain ⟨v2, g2⟩ := hG.cell (k2 * 2 + 1) (by omega)
          have f1 := hG.free (k2 * 2)
          have f2 := hG.free (k2 * 2 + 1)
          have hki : (k2 : Int) < (n : Int) := by omega
          have hki0 : (0 : Int) ≤ (k2 : Int) := by omega
          have hbne : ¬ b = T + 1 := by omega
          have hbne2 : ¬ T + 1 = b := by omega
          generalize htx : tx k2 = tk at *
          generalize hmd : md k2 = mk at *
          have HTX := hideIt htx
          have HMD := hideIt hmd
          clear htx hmd hG
          go_wp2_with fail
          go_region_held3 (fun w' => w'.cell? ⟨b, off + k2 * 2, none⟩ = some (.int .u8 tk) ∧ w'.cell? ⟨b, off + k2 * 2 + 1, none⟩ = some (.int .u8 mk)) (go_keep)
            (first | (go_at_call 9; refine (pick_any T tk t0 t1 _).mono ?_; rintro e w' ⟨rfl, rfl⟩))
          go_wp2
          go_roundw
          case rel =>
            refine ⟨k2 + 1, by omega, by go_num, ?_, ?_⟩
            · have e7 : mk.tmod 7 = mk % 7 := Int.tmod_eq_emod_of_nonneg m0
              have hfs := HFIL.out.step (by omega) (pickP T (tx k2 % 5).toNat) (md k2 % 7) rfl rfl
              rw [HTX.out, HMD.out] at hfs
              simpa [e7] using hfs
            · exact ((HB2.out.setCell (Nat.le_refl _) _).setCell (Nat.le_refl _) _).drew
          case measure => simp [intOf]; omega
        · obtain rfl : k2 = n := by omega
          obtain ⟨cs, hcs1, hcs2, hcs3, hcs4⟩ := HFIL.out.one
          have CS1 := hideIt hcs1
          have CS2 := hideIt hcs2
          have CS3 := hideIt hcs3
          have CS4 := hideIt hcs4
          have hH2 : T + 2 ≤ wr.heap.size := lt_of_block hcs1
          clear hcs1 hcs2 hcs3 hcs4 hlt2 hk2 hszi
          obtain ⟨H, hHz⟩ : ∃ H, wr.heap.size = H := ⟨_, rfl⟩
          rw [hHz] at hH2
          go_wp2_with (at_make; refine wpList_make_full _ rfl _ _ 51 rfl wr.heap.size 59 i0 (.agg #[.pointer none, .int .u8 0]) 2 Ybad.underlying51 HI.out HZ0.out HZ1.out _ _ _ _ k2 rfl rfl rfl rfl (by rw [HZ2.out]; omega) (by unfold maxLen; omega) (Nat.le_refl _) ?_)
          intro w1 hown hgrow
          have hmb := made_block (w := wr) hown
          have hbm : Below H wr w1 := (Below.refl H wr).grown hgrow (by omega) (fun k hk => by cases hk)
          obtain ⟨cur, hcur, hcursz⟩ := hmb
          have CUR := hideIt hcur
          have CURS := hideIt hcursz
          have HBM := hideIt hbm
          have CSW : Hid (w1.heap[T + 1]? = some (.cells cs 59 (0, 0))) := by
            show _ = _
            rw [hbm.block (T + 1) (by omega)]; exact CS1.out
          clear hown hgrow hcur hcursz hbm
          go_wp2_with (refine wpList_copy_full rfl _ _ 51 51 rfl 59 Ybad.underlying51 2 Ybad.size59 H (T + 1) k2 _ _ rfl rfl cur cs 59 59 (0, 0) CUR.out CSW.out CURS.out CS2.out CS4.out ?_)
          intro w2 HH2 hb2
          have HB22 := hideIt hb2
          clear hb2
          have hHQ := lt_of_block HH2.out
          obtain ⟨Q, hQz⟩ : ∃ Q, w2.heap.size = Q := ⟨_, rfl⟩
          rw [hQz] at hHQ
          obtain ⟨j, hj⟩ : ∃ j, j = (self % 5).toNat := ⟨_, rfl⟩
          obtain ⟨r, hr⟩ : ∃ r : Nat, mode % 7 = (r : Int) := ⟨(mode % 7).toNat, by omega⟩
          have hr2 : mode.tmod 7 = (r : Int) := by rw [Int.tmod_eq_emod_of_nonneg hm0]; exact hr
          have hr7 : r < 7 := by omega
          have hj4 : j ≤ 4 := by omega
          go_wp2_with fail
          refine (pick_any T self hs0 hs1 _).mono ?_
          rintro e w4 ⟨rfl, hw4⟩
          rw [← hj]
          have hq4 : w4.cell? ⟨Q, 3, none⟩ = some (.slice (some ⟨T + 1, 0, none⟩) k2 k2) := by rw [hw4, ← hQz]; simp
          have hlow : Below H wr w4 := by rw [hw4]; exact (HBM.out.trans HB22.out).alloc (by omega) _
          have hH4 : w4.heap[H]? = some (.cells cs 59 (0, 0)) := by rw [hw4, Below.heap_alloc _ _ _ (by omega)]; exact HH2.out
          have hG4 : w4.heap[T + 1]? = some (.cells cs 59 (0, 0)) := by rw [hlow.block (T + 1) (by omega)]; exact CS1.out
          have hbw : Below w.heap.size w w4 := HB.out.trans ((HB2.out.mono (by rw [← HTT.out]; omega)).trans (hlow.mono (by rw [← HTT.out]; omega)))
          obtain ⟨ca, hca, _⟩ := HBK.out
          have hT4 : w4.heap[T]? = some (.cells ca 50 (0, 0)) := by rw [hlow.block T (by omega), HB2.out.block T (by omega)]; exact hca
          have Q4 := hideIt hq4
          have H4 := hideIt hH4
          have G4 := hideIt hG4
          have BW := hideIt hbw
          have T4 := hideIt hT4
          have TAB4 := hideIt (HTab.out.below hbw)
          have HJ := hideIt hj
          have HR := hideIt hr
          clear hq4 hH4 hG4 hbw hT4 hca hlow hw4 HB22 HH2 HBM CUR CURS CSW CS1 HFIL HB2 HBK HSZ HB HTab hj HI HZ0 HZ1 HZ2
          go_wp2_with fail
          obtain ⟨pj, hpj⟩ : ∃ pj, pickP T j = pj := ⟨_, rfl⟩
          rw [hpj]
          have HPJ := hideIt hpj
          clear hpj
          go_loopw [15, 16] (fun v i wr => ∃ k : Nat, k ≤ k2 ∧ i = .int .i64 k ∧ v = .bool (anyTo tx md j r k) ∧ wr = w4) (fun _ i _ => k2 - (intOf i).toNat)
          case atStart => exact ⟨0, Nat.zero_le _, rfl, rfl, rfl⟩
          case round =>
            obtain ⟨k3, hk3, rfl, rfl, rfl⟩ := hrel
            by_cases hlt3 : k3 < k2
            · have hza := HA0.out (by omega)
              subst hza
              obtain ⟨y1, y2⟩ := HC.out k3 hlt3
              obtain ⟨t0, t1, m0, m1⟩ := HBD.out k3 hlt3
              have hbT : b < w.heap.size := block_lt_of_cell y1
              have x1 : wr.cell? ⟨b, off + k3 * 2, none⟩ = some (.int .u8 (tx k3)) := by rw [BW.out.cell (p := ⟨b, off + k3 * 2, none⟩) hbT]; exact y1
              have x2 : wr.cell? ⟨b, off + k3 * 2 + 1, none⟩ = some (.int .u8 (md k3)) := by rw [BW.out.cell (p := ⟨b, off + k3 * 2 + 1, none⟩) hbT]; exact y2
              have HS := hideIt (anyTo_succ tx md j r k3)
              clear y1 y2 hbT
              have hki : (k3 : Int) < (k2 : Int) := by omega
              have hki0 : (0 : Int) ≤ (k3 : Int) := by omega
              generalize tx k3 = tk at x1 t0 t1 HS
              generalize md k3 = mk at x2 m0 m1 HS
              generalize anyTo tx md j r k3 = cur at HS ⊢
              have hmk0 : 0 ≤ mk % 7 := by omega
              have hmk7 : mk % 7 < 7 := by omega
              have hij : ((tk % 5).toNat == j) = !(tk % 5 != self % 5) := by
                rw [HJ.out, Bool.eq_iff_iff]; simp; omega
              have HS2 : Hid (anyTo tx md j r (k3 + 1) = (cur || ((tk % 5 != self % 5) && !tabAt r (mk % 7).toNat))) := by
                show _ = _
                rw [HS.out]; unfold confl; rw [hij]; simp
              clear HS hij
              cases hne : (tk % 5 != self % 5) with
              | false =>
                rw [hne] at HS2
                go_wp2_with fail
                go_roundw
                case rel => exact ⟨k3 + 1, by omega, by go_num, by rw [HS2.out]; simp, trivial⟩
                case measure => simp [intOf]; omega
              | true =>
                rw [hne] at HS2
                have hcc := compat_int r hr7 (mk % 7) hmk0 hmk7 wr
                generalize tabAt r (mk % 7).toNat = tb at hcc HS2
                have HCC := hideIt hcc
                clear hcc
                go_wp2_with fail
                refine HCC.out.mono ?_
                rintro e w5 ⟨rfl, rfl⟩
                cases tb with
                | true =>
                  go_wp2_with fail
                  go_roundw
                  case rel => exact ⟨k3 + 1, by omega, by go_num, by rw [HS2.out]; simp, trivial⟩
                  case measure => simp [intOf]; omega
                | false =>
                  go_wp2_with fail
                  go_roundw
                  case rel => exact ⟨k3 + 1, by omega, by go_num, by rw [HS2.out]; simp, trivial⟩
                  case measure => simp [intOf]; omega
            · obtain rfl : k3 = k2 := by omega
              have hqc := qconf_any Q T (T + 1) j r k3 k3 (hl k3 tx md) (fun k hk => by
                rw [hl_length] at hk
                rw [hl_get k3 tx md k hk]
                obtain ⟨t0, t1, m0, m1⟩ := HBD.out k hk
                exact ⟨by show (tx k % 5).toNat ≤ 4; omega, by show (md k % 7).toNat < 7; omega⟩) (hl_length _ _ _) hn hj4 hr7 wr T4.out TAB4.out Q4.out (Filled.grant G4.out CS3.out)
              rw [anyConf_hl, HPJ.out] at hqc
              generalize anyTo tx md j r k3 = wn at hqc ⊢
              have HQC := hideIt hqc
              clear hqc hlt3 hk3
              have hww : (wn != wn) = false := by simp
              have hnn : ((k3 : Int) != (k3 : Int)) = false := by simp
              have hQlt : Q < wr.heap.size := block_lt_of_cell Q4.out
              go_wp2_with fail
              refine HQC.out.mono ?_
              rintro e w5 ⟨rfl, hb5⟩
              have q5 : w5.cell? ⟨Q, 3, none⟩ = some (.slice (some ⟨T + 1, 0, none⟩) k3 k3) := by rw [hb5.cell (p := ⟨Q, 3, none⟩) hQlt]; exact Q4.out
              have B5 := hideIt hb5
              clear hb5
              go_wp2_with fail
              go_loopw [18] (fun i w6 => ∃ k m : Nat, k ≤ k3 ∧ i = .int .i64 k ∧ w6 = w5.drewN m) (fun i _ => k3 - (intOf i).toNat)
              case atStart => exact ⟨0, 0, Nat.zero_le _, rfl, rfl⟩
              case round =>
                obtain ⟨k4, m4, hk4, rfl, rfl⟩ := hrel
                by_cases hlt4 : k4 < k3
                · obtain ⟨c1, c2⟩ := CS3.out k4 hlt4
                  have hHlt := lt_of_block H4.out
                  have hGlt := lt_of_block G4.out
                  have hTlt := lt_of_block T4.out
                  have hH5 : w5.heap[H]? = some (.cells cs 59 (0, 0)) := by rw [B5.out.block H hHlt]; exact H4.out
                  have hG5 : w5.heap[T + 1]? = some (.cells cs 59 (0, 0)) := by rw [B5.out.block (T + 1) hGlt]; exact G4.out
                  have hT5 : w5.heap[T]? = some (.cells ca 50 (0, 0)) := by rw [B5.out.block T hTlt]; exact T4.out
                  have a1 : w5.cell? ⟨T + 1, k4 * 2, none⟩ = some (.pointer (pickP T (tx k4 % 5).toNat)) := by rw [cell_of_row w5 _ _ cs _ _ hG5]; exact c1
                  have a2 : w5.cell? ⟨T + 1, k4 * 2 + 1, none⟩ = some (.int .u8 (md k4 % 7)) := by rw [cell_of_row w5 _ _ cs _ _ hG5]; exact c2
                  have a3 : w5.cell? ⟨H, k4 * 2, none⟩ = some (.pointer (pickP T (tx k4 % 5).toNat)) := by rw [cell_of_row w5 _ _ cs _ _ hH5]; exact c1
                  have a4 : w5.cell? ⟨H, k4 * 2 + 1, none⟩ = some (.int .u8 (md k4 % 7)) := by rw [cell_of_row w5 _ _ cs _ _ hH5]; exact c2
                  have hneq := fun m => eq_pick T (tx k4 % 5).toNat (by omega) (w5.drewN m) (ca := ca) (ta := 50) (by simpa using hT5)
                  have hgd : Ybad.prog.eqGuardType Ybad.prog.depth 59 = false := by kernel_rfl
                  generalize pickP T (tx k4 % 5).toNat = p4 at a1 a3 hneq
                  generalize md k4 % 7 = v4 at a2 a4
                  clear c1 c2 hHlt hGlt hTlt hH5 hG5 hT5
                  have hki : (k4 : Int) < (k3 : Int) := by omega
                  have hki0 : (0 : Int) ≤ (k4 : Int) := by omega
                  go_wp2
                  go_quiet (fail)
                  go_wp2
                  go_roundw
                  case rel => exact ⟨k4 + 1, _, by omega, by go_num, rfl⟩
                  case measure => simp [intOf]; omega
                · go_wp2
                  go_ret
                  exact ⟨rfl, below_drewN (BW.out.trans (B5.out.mono BW.out.size)) _⟩
end Go.Proofs.YbulkdryyDoor
