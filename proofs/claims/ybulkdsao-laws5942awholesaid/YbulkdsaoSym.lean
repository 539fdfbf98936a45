/-
  Plain: what symMerge's steps do.
-/
import Derived.Test.YbulkdsaoIns
namespace Go.Proofs.Ybulkdsao
set_option linter.unusedVariables false

/-- Item a moved on to place t. -/
def movI (a t p : Nat) : Nat := if p < a then p else if p < t then p + 1 else if p = t then a else p
theorem mov_lo {a t p : Nat} (h : p < a) : movI a t p = p := by unfold movI; rw [if_pos h]
theorem mov_mid {a t p : Nat} (h1 : a ≤ p) (h2 : p < t) : movI a t p = p + 1 := by unfold movI; rw [if_neg (by omega), if_pos h2]
theorem mov_at {a t : Nat} (h : a ≤ t) : movI a t t = a := by unfold movI; rw [if_neg (by omega), if_neg (by omega), if_pos rfl]
theorem mov_hi {a t p : Nat} (h : a ≤ t) (h2 : t < p) : movI a t p = p := by unfold movI; rw [if_neg (by omega), if_neg (by omega), if_neg (by omega)]
theorem mov_start (a p : Nat) : movI a a p = p := by
  unfold movI
  repeat' split
  all_goals omega
theorem mov_step (d : Nat → It) (a k : Nat) (h : a ≤ k) : swp (fun p => d (movI a k p)) k (k + 1) = fun p => d (movI a (k + 1) p) := by
  funext p
  simp only [swp, upd]
  by_cases e1 : p = k + 1
  · rw [if_pos e1, e1, mov_at h, mov_at (by omega)]
  · rw [if_neg e1]
    by_cases e2 : p = k
    · rw [if_pos e2, e2, mov_hi h (by omega), mov_mid h (by omega)]
    · rw [if_neg e2]
      rcases (show p < a ∨ (a ≤ p ∧ p < k) ∨ k + 1 < p by omega) with c | c | c
      · rw [mov_lo c, mov_lo c]
      · rw [mov_mid c.1 c.2, mov_mid c.1 (by omega)]
      · rw [mov_hi h (by omega), mov_hi (by omega) c]
theorem mov_same {a t b : Nat} (d : Nat → It) (h1 : a ≤ t) (h2 : t < b) : Same a b d (fun p => d (movI a t p)) := by
  refine Same.of_map (movI a t) (fun p => if p = a then t else if p ≤ t then p - 1 else p) (fun p hp => ?_) (fun p h3 h4 => ?_) (fun p h3 h4 => ?_)
  · unfold movI
    repeat' split
    all_goals omega
  · unfold movI
    repeat' split
    all_goals omega
  · refine ⟨?_, ?_, ?_⟩
    · repeat' split
      all_goals omega
    · repeat' split
      all_goals omega
    · by_cases c1 : p = a
      · rw [if_pos c1, mov_at h1, c1]
      · rw [if_neg c1]
        by_cases c2 : p ≤ t
        · rw [if_pos c2, mov_mid (by omega) (by omega)]; omega
        · rw [if_neg c2, mov_hi h1 (by omega)]
theorem mov_srt {O : It → It → Prop} (hO : ∀ x y z, O x y → O y z → O x z) {d : Nat → It} {a t b : Nat} (h1 : a ≤ t) (h2 : t < b) (hs : Srt O d (a + 1) b) (hlo : ∀ p, a < p → p ≤ t → T O (d p) (d a)) (hhi : ∀ p, t < p → p < b → T O (d a) (d p)) :
    Srt O (fun p => d (movI a t p)) a b := by
  intro p q hp hpq hq
  show T O (d (movI a t p)) (d (movI a t q))
  rcases (show p < t ∨ p = t ∨ t < p by omega) with c | c | c
  · rw [mov_mid hp c]
    rcases (show q < t ∨ q = t ∨ t < q by omega) with e | e | e
    · rw [mov_mid (by omega) e]; exact hs _ _ (by omega) (by omega) (by omega)
    · rw [e, mov_at h1]; exact hlo _ (by omega) (by omega)
    · rw [mov_hi h1 e]; exact hs _ _ (by omega) (by omega) (by omega)
  · rw [c, mov_at h1, mov_hi h1 (by omega)]; exact hhi q (by omega) hq
  · rw [mov_hi h1 c, mov_hi h1 (by omega)]; exact hs _ _ (by omega) (by omega) (by omega)

/-- The order of the needs in a sorted row. -/
theorem Srt.need {O : It → It → Prop} {d : Nat → It} {a b : Nat} (h : Srt O d a b) {i j : Nat} (h1 : a ≤ i) (h2 : i ≤ j) (h3 : j < b) : (d j).need ≤ (d i).need := by
  by_cases e : i = j
  · rw [e]; exact Int.le_refl _
  · rcases h i j h1 (by omega) h3 with h | h
    · omega
    · omega

theorem roI_id1 {m e p : Nat} : roI m m e p = p := by
  simp only [roI]
  repeat' split
  all_goals omega
theorem roI_id2 {s m p : Nat} : roI s m m p = p := by
  simp only [roI]
  repeat' split
  all_goals omega
theorem roI_lo {s m e p : Nat} (h : p < s) : roI s m e p = p := by unfold roI; rw [if_neg (by omega), if_neg (by omega)]
theorem roI_hi {s m e p : Nat} (h0 : s ≤ m) (h1 : m ≤ e) (h : e ≤ p) : roI s m e p = p := by unfold roI; rw [if_neg (by omega), if_neg (by omega)]
theorem roI_l {s m e p : Nat} (h1 : s ≤ p) (h2 : p < s + (e - m)) : roI s m e p = p + (m - s) := by unfold roI; rw [if_pos ⟨h1, h2⟩]
theorem roI_r {s m e p : Nat} (h1 : s + (e - m) ≤ p) (h2 : p < e) : roI s m e p = p - (e - m) := by unfold roI; rw [if_neg (by omega), if_pos ⟨h1, h2⟩]

theorem ro_same {s m e a b : Nat} (d : Nat → It) (h0 : a ≤ s) (h1 : s ≤ m) (h2 : m ≤ e) (h3 : e ≤ b) : Same a b d (fun p => d (roI s m e p)) := by
  refine Same.of_map (roI s m e) (fun p => if p < s then p else if p < m then p + (e - m) else if p < e then p - (m - s) else p) (fun p hp => ?_) (fun p h3 h4 => ?_) (fun p h3 h4 => ?_)
  · by_cases c : p < s
    · exact roI_lo c
    · exact roI_hi h1 h2 (by omega)
  · unfold roI
    repeat' split
    all_goals omega
  · refine ⟨?_, ?_, ?_⟩
    · repeat' split
      all_goals omega
    · repeat' split
      all_goals omega
    · by_cases c1 : p < s
      · rw [if_pos c1, roI_lo c1]
      · rw [if_neg c1]
        by_cases c2 : p < m
        · rw [if_pos c2, roI_r (by omega) (by omega)]; omega
        · rw [if_neg c2]
          by_cases c3 : p < e
          · rw [if_pos c3, roI_l (by omega) (by omega)]; omega
          · rw [if_neg c3, roI_hi h1 h2 (by omega)]

/-- What the rotation leaves. -/
structure Split (O : It → It → Prop) (d : Nat → It) (a s mid e b : Nat) : Prop where
  s1 : Srt O d a s
  s2 : Srt O d s mid
  c1 : Crs O d a s mid
  s3 : Srt O d mid e
  s4 : Srt O d e b
  c2 : Crs O d mid e b
  x : ∀ p q, a ≤ p → p < mid → mid ≤ q → q < b → T O (d p) (d q)

theorem split_of {O : It → It → Prop} (hO : ∀ x y z, O x y → O y z → O x z) {d : Nat → It} {a s m e b mid : Nat} (h0 : a ≤ s) (h1 : s ≤ m) (h2 : m ≤ e) (h3 : e ≤ b) (hm : mid = s + (e - m)) (hx : Srt O d a m) (hy : Srt O d m b) (hc : Crs O d a m b)
    (hi : a < s → e < b → T O (d (s - 1)) (d e)) (hii : m < e → s < m → T O (d (e - 1)) (d s)) : Split O (fun p => d (roI s m e p)) a s mid e b := by
  subst hm
  have Hi : ∀ p q, a ≤ p → p < s → e ≤ q → q < b → T O (d p) (d q) := fun p q p1 p2 q1 q2 => by
    have t := hi (by omega) (by omega)
    have t1 : p = s - 1 ∨ T O (d p) (d (s - 1)) := by
      by_cases c : p = s - 1
      · exact .inl c
      · exact .inr (hx p (s - 1) p1 (by omega) (by omega))
    have t2 : q = e ∨ T O (d e) (d q) := by
      by_cases c : q = e
      · exact .inl c
      · exact .inr (hy e q (by omega) (by omega) q2)
    rcases t1 with rfl | t1 <;> rcases t2 with rfl | t2
    · exact t
    · exact t.trans hO t2
    · exact t1.trans hO t
    · exact (t1.trans hO t).trans hO t2
  have Hii : ∀ p q, m ≤ p → p < e → s ≤ q → q < m → T O (d p) (d q) := fun p q p1 p2 q1 q2 => by
    have t := hii (by omega) (by omega)
    have t1 : p = e - 1 ∨ T O (d p) (d (e - 1)) := by
      by_cases c : p = e - 1
      · exact .inl c
      · exact .inr (hy p (e - 1) p1 (by omega) (by omega))
    have t2 : q = s ∨ T O (d s) (d q) := by
      by_cases c : q = s
      · exact .inl c
      · exact .inr (hx s q h0 (by omega) q2)
    rcases t1 with rfl | t1 <;> rcases t2 with rfl | t2
    · exact t
    · exact t.trans hO t2
    · exact t1.trans hO t
    · exact (t1.trans hO t).trans hO t2
  refine ⟨fun p q p1 p2 p3 => ?_, fun p q p1 p2 p3 => ?_, fun p q p1 p2 p3 p4 => ?_, fun p q p1 p2 p3 => ?_, fun p q p1 p2 p3 => ?_, fun p q p1 p2 p3 p4 => ?_, fun p q p1 p2 p3 p4 => ?_⟩
  · show T O (d (roI s m e p)) (d (roI s m e q))
    rw [roI_lo (by omega), roI_lo p3]; exact hx p q p1 p2 (by omega)
  · show T O (d (roI s m e p)) (d (roI s m e q))
    rw [roI_l p1 (by omega), roI_l (by omega) p3]; exact hy _ _ (by omega) (by omega) (by omega)
  · show O (d (roI s m e p)) (d (roI s m e q))
    rw [roI_lo p2, roI_l p3 p4]; exact hc _ _ p1 (by omega) (by omega) (by omega)
  · show T O (d (roI s m e p)) (d (roI s m e q))
    rw [roI_r p1 (by omega), roI_r (by omega) p3]; exact hx _ _ (by omega) (by omega) (by omega)
  · show T O (d (roI s m e p)) (d (roI s m e q))
    rw [roI_hi h1 h2 p1, roI_hi h1 h2 (by omega)]; exact hy _ _ (by omega) (by omega) (by omega)
  · show O (d (roI s m e p)) (d (roI s m e q))
    rw [roI_r p1 p2, roI_hi h1 h2 p3]; exact hc _ _ (by omega) (by omega) (by omega) p4
  · show T O (d (roI s m e p)) (d (roI s m e q))
    by_cases c1 : p < s
    · rw [roI_lo c1]
      by_cases c2 : q < e
      · rw [roI_r p3 c2]; exact hx _ _ p1 (by omega) (by omega)
      · rw [roI_hi h1 h2 (by omega)]; exact Hi _ _ p1 c1 (by omega) p4
    · rw [roI_l (by omega) p2]
      by_cases c2 : q < e
      · rw [roI_r p3 c2]; exact Hii _ _ (by omega) (by omega) (by omega) (by omega)
      · rw [roI_hi h1 h2 (by omega)]; exact hy _ _ (by omega) (by omega) (by omega)

/-- Two sorted halves. -/
theorem srt_join {O : It → It → Prop} {d : Nat → It} {a m b : Nat} (h1 : Srt O d a m) (h2 : Srt O d m b) (hx : ∀ p q, a ≤ p → p < m → m ≤ q → q < b → T O (d p) (d q)) : Srt O d a b := fun i j i1 i2 i3 => by
  by_cases c : j < m
  · exact h1 i j i1 i2 c
  · by_cases c2 : i < m
    · exact hx i j i1 c2 (by omega) i3
    · exact h2 i j (by omega) i2 i3
theorem srt_same {O : It → It → Prop} {d d' : Nat → It} {a b a' b' : Nat} (h : Srt O d a b) (hs : Same a' b' d d') (hd : b ≤ a' ∨ b' ≤ a) : Srt O d' a b := fun i j i1 i2 i3 => by
  rw [hs.out i (by omega), hs.out j (by omega)]; exact h i j i1 i2 i3
theorem crs_same {O : It → It → Prop} {d d' : Nat → It} {a m b a' b' : Nat} (h : Crs O d a m b) (hs : Same a' b' d d') (hd : b ≤ a' ∨ b' ≤ a) : Crs O d' a m b := fun i j i1 i2 i3 i4 => by
  rw [hs.out i (by omega), hs.out j (by omega)]; exact h i j i1 i2 i3 i4
theorem x_same1 {O : It → It → Prop} {d d' : Nat → It} {a m b : Nat} (hx : ∀ p q, a ≤ p → p < m → m ≤ q → q < b → T O (d p) (d q)) (hs : Same a m d d') : ∀ p q, a ≤ p → p < m → m ≤ q → q < b → T O (d' p) (d' q) := fun p q p1 p2 p3 p4 => by
  obtain ⟨l, l1, l2, l3⟩ := hs.fwd p p1 p2
  rw [l3, hs.out q (by omega)]; exact hx l q l1 l2 p3 p4
theorem x_same2 {O : It → It → Prop} {d d' : Nat → It} {a m b : Nat} (hx : ∀ p q, a ≤ p → p < m → m ≤ q → q < b → T O (d p) (d q)) (hs : Same m b d d') : ∀ p q, a ≤ p → p < m → m ≤ q → q < b → T O (d' p) (d' q) := fun p q p1 p2 p3 p4 => by
  obtain ⟨l, l1, l2, l3⟩ := hs.fwd q p3 p4
  rw [l3, hs.out p (by omega)]; exact hx p l p1 p2 l1 l2
end Go.Proofs.Ybulkdsao
