/-
  A region that draws its order, walked inside a fence, with a condition S on the world: what yields its value in every world that meets S may be taken first.
-/
import Derived.OrdersIn
import Derived.Deep.RegionHeld
namespace Go.Proofs.Ybulkdsao
section
variable {F : Fence} {n : Nat} {P : Program} {ops : Array Oper} {Q : Exit → Act → World → Prop} {md : Region.Mode} {S : World → Prop}

/-- In every world that meets S the operation yields v; it is about to make no call. -/
def YF (P : Program) (ops : Array Oper) (S : World → Prop) (o : Oper) (v : Value) (a : Act) : Prop := YieldsIf P ops S o v a ∧ ∀ w, o.about P w a.eval = none

theorem YF.wpOpIn {i : Nat} {o : Oper} {v : Value} {a : Act} (hro : F.round = none) (hi : ops[i]? = some o) (hy : YF P ops S o v a)
    {K : Act → World → Prop} {w : World} (hS : S w) (h : K (a.put o.dst v) w) : wpOpIn F n P ops Q i K a w := by
  have hab : ∀ f, o.about P w a.eval = some f → F.fn f := fun f hf => by rw [hy.2 w] at hf; cases hf
  unfold Go.wpOpIn
  simp only [hi]
  rcases hy.1 with ⟨hw, hv⟩ | ⟨hw, rfl⟩
  · rw [if_pos hw]
    refine ⟨hab, ?_⟩
    rw [hro, Oper.semAt_none, hv w hS]
    exact h
  · rw [if_neg (by rw [hw]; exact Bool.false_ne_true)]
    exact ⟨hab, h⟩

theorem YF.same {o : Oper} {v : Value} {a a' : Act} (hy : YF P ops S o v a) (he : execOp a'.eval o = execOp a.eval o)
    (hw : Region.wanted o (yielded ops a'.tmps) = Region.wanted o (yielded ops a.tmps)) (hb : ∀ w, o.about P w a'.eval = o.about P w a.eval) : YF P ops S o v a' :=
  ⟨hy.1.of_same he hw, fun w => (hb w).trans (hy.2 w)⟩

theorem wpOpIn_put' {j : Nat} {oi oj : Oper} {v : Value} (hro : F.round = none) (hj : ops[j]? = some oj) (hap : oi.apart ops oj = true)
    (hsi : ∀ cs b, oi.op ≠ .select cs b) (hsj : ∀ cs b, oj.op ≠ .select cs b)
    (hQ : ∀ c a w, Q (.panic c) (a.put oi.dst v) w → Q (.panic c) a w) {K : Act → World → Prop} {a : Act} {w : World}
    (hy : YF P ops S oi v a) (h : wpOpIn F n P ops Q j K (a.put oi.dst v) w) :
    wpOpIn F n P ops Q j (fun a' w' => YF P ops S oi v a' ∧ K (a'.put oi.dst v) w') a w := by
  obtain ⟨h1, h2, h3⟩ := Oper.apart_spec hap
  have keep : ∀ (a : Act), YF P ops S oi v a → ∀ u, YF P ops S oi v (a.put oj.dst u) := fun a hy u =>
    hy.same (execOp_put oi hsi a oj.dst u h3) (wanted_put oi a oj.dst u h3) (fun w => about_put oi w a oj.dst u h3)
  have keepD : ∀ d, YF P ops S oi v { a with defers := d :: a.defers } := fun d => hy.same rfl rfl (fun _ => rfl)
  unfold Go.wpOpIn at *
  simp only [hj] at *
  rw [wanted_put oj a oi.dst v h1, about_put oj w a oi.dst v h1] at h
  split
  · rename_i hw
    rw [if_pos hw] at h
    unfold Oper.wpIn at *
    rw [about_put oj w a oi.dst v h1] at h
    refine ⟨h.1, ?_⟩
    have h := h.2
    rw [hro, Oper.semAt_none, execOp_put oj hsj a oi.dst v h1] at h
    rw [hro, Oper.semAt_none]
    generalize (execOp a.eval oj).run P w = r at *
    cases r with
    | ok x w' =>
      cases x <;> simp only [Oper.uponIn] at h ⊢
      case value u => exact ⟨keep a hy u, by rw [← Act.put_comm a v u h2]; exact h⟩
      case skip => exact ⟨keep a hy _, by rw [← Act.put_comm a v undef h2]; exact h⟩
      case defer d => exact ⟨keep _ (keepD d) _, by rw [← Act.put_comm _ v undef h2, ← Act.put_defers]; exact h⟩
      case enter f args =>
        refine ⟨h.1, CallsIn.mono h.2 fun e w'' he => ?_⟩
        cases e with
        | returned u => exact ⟨keep a hy u, by rw [← Act.put_comm a v u h2]; exact he⟩
        | panicked c => exact hQ _ _ _ he
        | outgrown => exact he
      case row row args => exact ⟨h.1, RowsIn.mono h.2 fun u w'' he => ⟨keep a hy u, by rw [← Act.put_comm a v u h2]; exact he⟩⟩
      case round l f tmps assign body =>
        refine ⟨h.1, RoundIn.mono h.2 fun e w'' he => ?_⟩
        cases e with
        | returned u => exact ⟨keep a hy u, by rw [← Act.put_comm a v u h2]; exact he⟩
        | panicked c => exact hQ _ _ _ he
        | outgrown => exact he
    | halt x w' =>
      cases x <;> simp only [Oper.uponIn] at h ⊢
      case panic u => exact hQ _ _ _ h
  · rename_i hw
    rw [if_neg hw] at h
    exact ⟨h.1, keep a hy _, by rw [← Act.put_comm a v undef h2]; exact h.2⟩

/-- Whatever order is drawn from here on; S holds behind every operation. -/
def wpH (F : Fence) (n : Nat) (P : Program) (md : Region.Mode) (ops : Array Oper) (Q : Exit → Act → World → Prop) (S : World → Prop) : Nat → Array Bool → Act → World → Prop
  | 0, listed, a, w => Region.ready md ops listed = [] ∧ Q .normal a w
  | fuel + 1, listed, a, w =>
    (Region.ready md ops listed = [] → Q .normal a w) ∧
    ∀ i ∈ Region.ready md ops listed, wpOpIn F n P ops Q i (fun a' w' => S w' ∧ wpH F n P md ops Q S fuel (listed.setIfInBounds i true) a' w') a w

theorem wpAnyIn_of_wpH : ∀ (fuel : Nat) (listed : Array Bool) (a : Act) (w : World), wpH F n P md ops Q S fuel listed a w → wpAnyIn F n P md ops Q fuel listed a w
  | 0, _, _, _, h => h
  | fuel + 1, _, _, _, h => ⟨h.1, fun i hi => wpOpIn_mono (fun a' w' h' => wpAnyIn_of_wpH fuel _ a' w' h'.2) (h.2 i hi)⟩

theorem wpH_first {i : Nat} {oi : Oper} {v : Value} (hro : F.round = none) (hi : ops[i]? = some oi) (hsel : ∀ (j : Nat) (o : Oper) cs b, ops[j]? = some o → o.op ≠ .select cs b)
    (hQ : ∀ c a w, Q (.panic c) (a.put oi.dst v) w → Q (.panic c) a w) :
    ∀ (fuel : Nat) (listed : Array Bool) (a : Act) (w : World),
      (∀ j oj, ops[j]? = some oj → j ≠ i → listed.getD j true = false → (∀ e ∈ oj.after, Region.binds md e = true → e.on ≠ i) → oi.apart ops oj = true) →
      i ∈ Region.ready md ops listed → YF P ops S oi v a → S w →
      wpH F n P md ops Q S fuel (listed.setIfInBounds i true) (a.put oi.dst v) w → wpH F n P md ops Q S (fuel + 1) listed a w := by
  intro fuel
  induction fuel with
  | zero =>
    intro listed a w _ hr hy hS H
    refine ⟨fun h => (by rw [h] at hr; cases hr), fun j hj => ?_⟩
    by_cases hji : j = i
    · subst hji; exact hy.wpOpIn hro hi hS ⟨hS, H⟩
    · have := ready_mono hj hji
      rw [H.1] at this
      cases this
  | succ fuel ih =>
    intro listed a w hfree hr hy hS H
    refine ⟨fun h => (by rw [h] at hr; cases hr), fun j hj => ?_⟩
    by_cases hji : j = i
    · subst hji; exact hy.wpOpIn hro hi hS ⟨hS, H⟩
    · have h1 := H.2 j (ready_mono hj hji)
      obtain ⟨hjun, oj, hoj, hall⟩ := mem_ready.1 hj
      have hnot : ∀ e ∈ oj.after, Region.binds md e = true → e.on ≠ i := fun e he hb heq => by
        have h1 := hall e he hb
        have h0 := (mem_ready.1 hr).1
        rw [heq] at h1
        rcases Nat.lt_or_ge i listed.size with h' | h'
        · simp [h'] at h0 h1; rw [h0] at h1; cases h1
        · simp [Array.getElem?_eq_none h'] at h1
      have h2 := wpOpIn_put' hro hoj (hfree j oj hoj hji hjun hnot) (fun cs b => hsel i oi cs b hi) (fun cs b => hsel j oj cs b hoj) hQ hy h1
      refine wpOpIn_mono (fun a' w' h3 => ⟨h3.2.1, ih (listed.setIfInBounds j true) a' w' ?_ (ready_mono hr (Ne.symm hji)) h3.1 h3.2.1 ?_⟩) h2
      · intro k ok hk hki hun hno
        refine hfree k ok hk hki ?_ hno
        by_cases hjk : j = k
        · subst hjk; exact hjun
        · rw [getD_set_ne true hjk] at hun; exact hun
      · rw [Array.setIfInBounds_comm _ _ hji]
        exact h3.2.2

theorem wpH_take (i : Nat) {oi : Oper} {v : Value} {fuel : Nat} {listed : Array Bool} {a : Act} {w : World} (hro : F.round = none) (hi : ops[i]? = some oi)
    (hs : Region.noSelect ops = true) (hf : Region.free md ops listed i = true) (hr : (Region.ready md ops listed).contains i = true)
    (hQ : ∀ c a w, Q (.panic c) (a.put oi.dst v) w → Q (.panic c) a w) (hS : S w) (hb : ∀ w, oi.about P w a.eval = none) (hy : YieldsIf P ops S oi v a)
    (h : wpH F n P md ops Q S fuel (listed.setIfInBounds i true) (a.put oi.dst v) w) : wpH F n P md ops Q S (fuel + 1) listed a w :=
  wpH_first hro hi (Region.noSelect_spec hs) hQ fuel listed a w (Region.free_spec hi hf) (by simpa using hr) ⟨hy, hb⟩ hS h

theorem wpH_one (i : Nat) {o : Oper} {fuel : Nat} {listed : Array Bool} {a : Act} {w : World} (hr : Region.ready md ops listed = [i]) (hi : ops[i]? = some o) (hw : Region.wanted o (yielded ops a.tmps) = true)
    (h : o.wpIn F n P a w (fun a' w' => S w' ∧ wpH F n P md ops Q S fuel (listed.setIfInBounds i true) a' w') Q) : wpH F n P md ops Q S (fuel + 1) listed a w := by
  refine ⟨fun h0 => (by rw [hr] at h0; cases h0), fun j hj => ?_⟩
  rw [hr] at hj
  have : j = i := by simpa using hj
  subst this
  unfold wpOpIn
  simp only [hi]
  rw [if_pos hw]
  exact h

theorem wpH_done {listed : Array Bool} {a : Act} {w : World} (hr : Region.ready md ops listed = []) (h : Q .normal a w) :
    ∀ fuel, wpH F n P md ops Q S fuel listed a w
  | 0 => ⟨hr, h⟩
  | _ + 1 => ⟨fun _ => h, by rw [hr]; simp⟩

theorem wpIn_region_H {id : Nat} {a : Act} {w : World} (S : World → Prop) (hm : P.follows .mixedOrders = true)
    (h : wpH F n P .any ops Q S ops.size (Array.replicate ops.size false) a w.drew) : (Code.region id ops true).wpIn F n P Q a w :=
  wpIn_region_any hm (wpAnyIn_of_wpH _ _ _ _ h)
end
end Go.Proofs.Ybulkdsao
