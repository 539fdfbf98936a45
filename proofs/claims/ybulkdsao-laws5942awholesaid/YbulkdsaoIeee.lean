/-
  PLAIN: the double format at small whole numbers: '+', '-', '*' and '/' (by one, of a number by itself) are exact there, and the order is the numbers' own. No Go in sight.
-/
import Derived.Laws.FloatArith
namespace Go.Proofs.Ybulkdsao
open Ieee

/-- The word of the whole number n. -/
def fw (n : Int) : Nat := FloatKind.f64.nearest n

theorem fw_eq (n : Int) : fw n = double.nearest (decide (n < 0)) n.natAbs 0 := rfl

theorem two_pow_log (m : Nat) (h : m ≠ 0) : 2 ^ m.log2 ≤ m ∧ m < 2 ^ (m.log2 + 1) := ⟨Nat.log2_self_le h, Nat.lt_log2_self⟩

theorem log2_mul_pow (v q : Nat) (h : v ≠ 0) : (v * 2 ^ q).log2 = v.log2 + q := by
  obtain ⟨h1, h2⟩ := two_pow_log v h
  have hne : v * 2 ^ q ≠ 0 := Nat.mul_ne_zero h (by have := Nat.two_pow_pos q; omega)
  refine (Nat.log2_eq_iff hne).2 ⟨?_, ?_⟩
  · rw [Nat.pow_add]; exact Nat.mul_le_mul_right _ h1
  · rw [show v.log2 + q + 1 = v.log2 + 1 + q by omega, Nat.pow_add]; exact Nat.mul_lt_mul_of_pos_right h2 (Nat.two_pow_pos q)

theorem cut_exact (neg : Bool) (n drop : Nat) (h : n ≠ 0) : Toward.even.cut neg (n * 2 ^ drop) drop = n := by
  have hl : drop ≤ (n * 2 ^ drop).log2 + 2 := by rw [log2_mul_pow n drop h]; omega
  unfold Toward.cut
  simp only [Nat.min_eq_left hl, Nat.one_shiftLeft]
  rw [Nat.mul_div_cancel _ (Nat.two_pow_pos drop), Nat.mul_mod_left]
  have := Nat.two_pow_pos drop
  have e1 : decide (2 ^ drop < 2 * 0) = false := by simp
  have e2 : (2 ^ drop == 2 * 0) = false := by simp
  simp [e2]

/-- The rung of a small number. -/
def rungOf (v : Nat) : Nat := (v.log2 + 1022) * 2 ^ 52 + v * 2 ^ (52 - v.log2)

theorem leastPlace_double : double.leastPlace = -1074 := by decide
theorem binade_double : double.binade = 2 ^ 52 := rfl
theorem infRung_double : double.infRung = 2047 * 2 ^ 52 := by decide

theorem log2_lt_53 {v : Nat} (h0 : v ≠ 0) (h : v < 2 ^ 53) : v.log2 ≤ 52 := by
  have := (two_pow_log v h0).1
  rcases Nat.lt_or_ge 52 v.log2 with h' | h'
  · have := Nat.pow_le_pow_right (n := 2) (by omega) (show 53 ≤ v.log2 by omega)
    omega
  · exact h'

theorem kept_bd {v : Nat} (h0 : v ≠ 0) (h : v < 2 ^ 53) : 2 ^ 52 ≤ v * 2 ^ (52 - v.log2) ∧ v * 2 ^ (52 - v.log2) < 2 ^ 53 := by
  obtain ⟨h1, h2⟩ := two_pow_log v h0
  have hl := log2_lt_53 h0 h
  constructor
  · calc 2 ^ 52 = 2 ^ v.log2 * 2 ^ (52 - v.log2) := by rw [← Nat.pow_add]; congr 1; omega
      _ ≤ _ := Nat.mul_le_mul_right _ h1
  · calc v * 2 ^ (52 - v.log2) < 2 ^ (v.log2 + 1) * 2 ^ (52 - v.log2) := Nat.mul_lt_mul_of_pos_right h2 (Nat.two_pow_pos _)
      _ = 2 ^ 53 := by rw [← Nat.pow_add]; congr 1; omega

/-- NEAREST GOES BY THE VALUE: 'v * 2 ^ q' units at the place '-q'. -/
theorem nearest_val (neg : Bool) (v q : Nat) (h0 : v ≠ 0) (h : v < 2 ^ 53) : double.nearest neg (v * 2 ^ q) (-(q : Int)) = double.word neg (rungOf v) := by
  have hl := log2_lt_53 h0 h
  have hk := kept_bd h0 h
  have hne : v * 2 ^ q ≠ 0 := Nat.mul_ne_zero h0 (by have := Nat.two_pow_pos q; omega)
  unfold Format.nearest
  rw [if_neg hne]
  have hlast : max (-(q : Int) + ((v * 2 ^ q).log2 : Int) - (double.fractionBits : Int)) double.leastPlace = (v.log2 : Int) - 52 := by
    rw [log2_mul_pow v q h0, leastPlace_double, show double.fractionBits = 52 from rfl]
    omega
  simp only [hlast]
  have hkept : Toward.even.cut neg ((v * 2 ^ q) <<< (-(q : Int) - ((v.log2 : Int) - 52)).toNat) (((v.log2 : Int) - 52) - -(q : Int)).toNat = v * 2 ^ (52 - v.log2) := by
    rw [Nat.shiftLeft_eq]
    rcases Nat.lt_or_ge (52 - v.log2) q with hq | hq
    · have e1 : (-(q : Int) - ((v.log2 : Int) - 52)).toNat = 0 := by omega
      have e2 : (((v.log2 : Int) - 52) - -(q : Int)).toNat = q - (52 - v.log2) := by omega
      rw [e1, e2, Nat.pow_zero, Nat.mul_one]
      have e3 : v * 2 ^ q = (v * 2 ^ (52 - v.log2)) * 2 ^ (q - (52 - v.log2)) := by
        rw [Nat.mul_assoc, ← Nat.pow_add]; congr 2; omega
      rw [e3]
      exact cut_exact neg _ _ (by omega)
    · have e1 : (-(q : Int) - ((v.log2 : Int) - 52)).toNat = 52 - v.log2 - q := by omega
      have e2 : (((v.log2 : Int) - 52) - -(q : Int)).toNat = 0 := by omega
      rw [e1, e2]
      have e3 : v * 2 ^ q * 2 ^ (52 - v.log2 - q) = v * 2 ^ (52 - v.log2) * 2 ^ 0 := by
        rw [Nat.mul_assoc, ← Nat.pow_add, Nat.pow_zero, Nat.mul_one]; congr 2; omega
      rw [e3]
      exact cut_exact neg _ _ (by omega)
  rw [hkept, leastPlace_double, binade_double, infRung_double]
  have e4 : ((v.log2 : Int) - 52 - -1074).toNat = v.log2 + 1022 := by omega
  rw [e4]
  congr 1
  unfold rungOf
  omega

theorem signWeight_double : double.signWeight = 2 ^ 63 := rfl

theorem read_word (neg : Bool) (v : Nat) (h0 : v ≠ 0) (h : v < 2 ^ 53) : double.read (double.word neg (rungOf v)) = .number neg (v * 2 ^ (52 - v.log2)) ((v.log2 : Int) - 52) := by
  have hl := log2_lt_53 h0 h
  obtain ⟨k0, k1⟩ := kept_bd h0 h
  have hr : rungOf v = (v.log2 + 1022) * 2 ^ 52 + v * 2 ^ (52 - v.log2) := rfl
  generalize v * 2 ^ (52 - v.log2) = kp at *
  generalize v.log2 = l at *
  have hlt : rungOf v < 2 ^ 63 := by rw [hr]; omega
  unfold Format.read Format.word
  rw [signWeight_double, binade_double, infRung_double, leastPlace_double]
  have e1 : ((if neg = true then 2 ^ 63 + rungOf v else rungOf v) / 2 ^ 63 % 2 == 1) = neg := by
    cases neg
    · simp only [Bool.false_eq_true, if_false]; rw [Nat.div_eq_of_lt hlt]; rfl
    · simp only [if_true]
      have : (2 ^ 63 + rungOf v) / 2 ^ 63 = 1 := by omega
      rw [this]; rfl
  have e2 : (if neg = true then 2 ^ 63 + rungOf v else rungOf v) % 2 ^ 63 = rungOf v := by
    cases neg
    · simp only [Bool.false_eq_true, if_false]; exact Nat.mod_eq_of_lt hlt
    · simp only [if_true]; omega
  simp only [e1, e2]
  rw [if_neg (by rw [hr]; omega), if_pos (by rw [hr]; omega)]
  have e3 : 2 ^ 52 + rungOf v % 2 ^ 52 = kp := by rw [hr]; omega
  have e4 : (-1074 : Int) + ((rungOf v / 2 ^ 52 - 1 : Nat) : Int) = (l : Int) - 52 := by rw [hr]; omega
  rw [e3, e4]

/-- x stands for the whole number n (of a zero: the positive one). -/
def Stands (d : Datum) (n : Int) : Prop := ∃ (m q : Nat), d = .number (decide (n < 0)) m (-(q : Int)) ∧ m = n.natAbs * 2 ^ q

theorem stands_fw (n : Int) (h : n.natAbs < 2 ^ 53) : Stands (double.read (fw n)) n := by
  by_cases h0 : n.natAbs = 0
  · have hn : n = 0 := by omega
    subst hn
    have hz : ∀ q, 0 = (0 : Int).natAbs * 2 ^ q := fun q => by simp
    exact ⟨0, 1074, by decide, hz 1074⟩
  · rw [fw_eq]
    have := nearest_val (decide (n < 0)) n.natAbs 0 h0 h
    rw [Nat.pow_zero, Nat.mul_one] at this
    have e0 : (-((0 : Nat) : Int)) = 0 := by simp
    rw [e0] at this
    rw [this, read_word _ _ h0 h]
    have hl := log2_lt_53 h0 h
    exact ⟨_, 52 - n.natAbs.log2, by congr 1; omega, rfl⟩

theorem write_stands {d : Datum} {n : Int} (h : Stands d n) (hn : n.natAbs < 2 ^ 53) : double.write d = fw n := by
  obtain ⟨m, q, rfl, rfl⟩ := h
  show double.nearest _ _ _ = _
  rw [fw_eq]
  by_cases h0 : n.natAbs = 0
  · rw [h0, Nat.zero_mul]; unfold Format.nearest; rw [if_pos rfl, if_pos rfl]
  · rw [nearest_val _ _ _ h0 hn]
    have := nearest_val (decide (n < 0)) n.natAbs 0 h0 hn
    rw [Nat.pow_zero, Nat.mul_one] at this
    have e0 : (-((0 : Nat) : Int)) = 0 := by simp
    rw [e0] at this
    rw [this]

theorem signed_stands (n : Int) (m q up : Nat) (hm : m = n.natAbs * 2 ^ q) : signed (decide (n < 0)) m up = n * 2 ^ (q + up) := by
  unfold signed
  rw [Nat.shiftLeft_eq, hm]
  by_cases h : n < 0
  · have e : (n.natAbs : Int) = -n := by omega
    rw [if_pos (by simpa using h), Nat.mul_assoc, ← Nat.pow_add]
    push_cast
    rw [e, Int.neg_mul, Int.neg_neg]
  · have e : (n.natAbs : Int) = n := by omega
    rw [if_neg (by simpa using h), Nat.mul_assoc, ← Nat.pow_add]
    push_cast
    rw [e]

theorem pow_pos' (q : Nat) : (0 : Int) < 2 ^ q := Int.pow_pos (by omega)

theorem sum_stands {a b : Datum} {x y : Int} (ha : Stands a x) (hb : Stands b y) : ∃ c, a.sum b = some c ∧ Stands c (x + y) := by
  obtain ⟨m, q, rfl, hm⟩ := ha
  obtain ⟨n, r, rfl, hn⟩ := hb
  obtain ⟨t, ht⟩ : ∃ t, t = max q r := ⟨_, rfl⟩
  have hbase : min (-(q : Int)) (-(r : Int)) = -(t : Int) := by omega
  refine ⟨_, rfl, ?_⟩
  have e1 : (-(q : Int) - -(t : Int)).toNat = t - q := by omega
  have e2 : (-(r : Int) - -(t : Int)).toNat = t - r := by omega
  have s1 := signed_stands x m q (t - q) hm
  have s2 := signed_stands y n r (t - r) hn
  rw [show q + (t - q) = t by omega] at s1
  rw [show r + (t - r) = t by omega] at s2
  have htot : signed (decide (x < 0)) m (-(q : Int) - -(t : Int)).toNat + signed (decide (y < 0)) n (-(r : Int) - -(t : Int)).toNat = (x + y) * 2 ^ t := by
    rw [e1, e2, s1, s2, Int.add_mul]
  simp only [hbase, htot]
  refine ⟨((x + y) * 2 ^ t).natAbs, t, ?_, ?_⟩
  · congr 1
    have hp := pow_pos' t
    by_cases h0 : x + y = 0
    · rw [h0, Int.zero_mul, if_pos rfl]
      by_cases hx : x < 0
      · have : ¬ y < 0 := by omega
        simp [hx, this]
      · simp [hx]
    · have hne : (x + y) * 2 ^ t ≠ 0 := Int.mul_ne_zero h0 (by omega)
      rw [if_neg hne, decide_eq_decide]
      constructor
      · intro h
        rcases (show x + y < 0 ∨ 0 ≤ x + y by omega) with h' | h'
        · exact h'
        · have := Int.mul_nonneg h' (show (0 : Int) ≤ 2 ^ t by omega); omega
      · intro h; exact Int.mul_neg_of_neg_of_pos h hp
  · rw [Int.natAbs_mul, Int.natAbs_pow]; rfl

theorem opposite_stands {b : Datum} {y : Int} (hb : Stands b y) (hy : y ≠ 0) : Stands b.opposite (-y) := by
  obtain ⟨n, r, rfl, hn⟩ := hb
  refine ⟨n, r, ?_, by rw [Int.natAbs_neg]; exact hn⟩
  show Datum.number _ _ _ = _
  congr 1
  by_cases h : y < 0
  · rw [decide_eq_true h, decide_eq_false (show ¬ -y < 0 by omega)]; rfl
  · rw [decide_eq_false h, decide_eq_true (show -y < 0 by omega)]; rfl

theorem fw_add (x y : Int) (hx : x.natAbs < 2 ^ 53) (hy : y.natAbs < 2 ^ 53) (hs : (x + y).natAbs < 2 ^ 53) : floatBits .add .f64 (fw x) (fw y) = some (fw (x + y)) := by
  obtain ⟨c, h1, h2⟩ := sum_stands (stands_fw x hx) (stands_fw y hy)
  show ((double.read (fw x)).sum (double.read (fw y))).map double.write = _
  rw [h1, Option.map_some, write_stands h2 hs]

theorem fw_sub (x y : Int) (hx : x.natAbs < 2 ^ 53) (hy : y.natAbs < 2 ^ 53) (hs : (x - y).natAbs < 2 ^ 53) : floatBits .sub .f64 (fw x) (fw y) = some (fw (x - y)) := by
  show ((double.read (fw x)).sum (double.read (fw y)).opposite).map double.write = _
  by_cases h0 : y = 0
  · subst h0
    obtain ⟨m, q, h1, h2⟩ := stands_fw x hx
    have hr : double.read (fw 0) = .number false 0 (-1074) := by decide
    rw [hr, h1]
    show Option.map double.write (some _) = _
    simp only [Option.map_some, Option.some.injEq]
    rw [Int.sub_zero]
    refine write_stands ?_ hx
    obtain ⟨t, ht⟩ : ∃ t, t = max q 1074 := ⟨_, rfl⟩
    have hbase : min (-(q : Int)) (-1074) = -(t : Int) := by omega
    have e1 : (-(q : Int) - -(t : Int)).toNat = t - q := by omega
    have s1 := signed_stands x m q (t - q) h2
    rw [show q + (t - q) = t by omega] at s1
    have hz : ∀ up, signed true 0 up = 0 := by intro up; simp [signed]
    have htot : signed (decide (x < 0)) m (-(q : Int) - -(t : Int)).toNat + signed (!false) 0 (-1074 - -(t : Int)).toNat = x * 2 ^ t := by
      rw [e1, s1, show (!false) = true from rfl, hz, Int.add_zero]
    simp only [hbase, htot]
    refine ⟨(x * 2 ^ t).natAbs, t, ?_, by rw [Int.natAbs_mul, Int.natAbs_pow]; rfl⟩
    congr 1
    have hp := pow_pos' t
    by_cases h0 : x = 0
    · subst h0; simp
    · have hne : x * 2 ^ t ≠ 0 := Int.mul_ne_zero h0 (by omega)
      rw [if_neg hne, decide_eq_decide]
      constructor
      · intro h
        rcases (show x < 0 ∨ 0 ≤ x by omega) with h' | h'
        · exact h'
        · have := Int.mul_nonneg h' (show (0 : Int) ≤ 2 ^ t by omega); omega
      · intro h; exact Int.mul_neg_of_neg_of_pos h hp
  · obtain ⟨c, h1, h2⟩ := sum_stands (stands_fw x hx) (opposite_stands (stands_fw y hy) h0)
    rw [h1, Option.map_some, write_stands h2 (by rw [← Int.sub_eq_add_neg]; exact hs), ← Int.sub_eq_add_neg]

/-- '*' by a positive number. -/
theorem fw_mul (x y : Int) (hx : x.natAbs < 2 ^ 53) (hy : y.natAbs < 2 ^ 53) (hy0 : 0 < y) (hs : (x * y).natAbs < 2 ^ 53) : floatBits .mul .f64 (fw x) (fw y) = some (fw (x * y)) := by
  show ((double.read (fw x)).product (double.read (fw y))).map double.write = _
  obtain ⟨m, q, h1, h2⟩ := stands_fw x hx
  obtain ⟨n, r, h3, h4⟩ := stands_fw y hy
  rw [h1, h3]
  show Option.map double.write (some _) = _
  simp only [Option.map_some, Option.some.injEq]
  refine write_stands ⟨m * n, q + r, ?_, ?_⟩ hs
  · have e1 : (decide (x < 0) ^^ decide (y < 0)) = decide (x * y < 0) := by
      have : ¬ y < 0 := by omega
      rw [decide_eq_false this, Bool.xor_false, decide_eq_decide]
      constructor
      · intro h; exact Int.mul_neg_of_neg_of_pos h hy0
      · intro h
        rcases (show x < 0 ∨ 0 ≤ x by omega) with h' | h'
        · exact h'
        · have := Int.mul_nonneg h' (show (0 : Int) ≤ y by omega); omega
    rw [e1]
    congr 1
    omega
  · rw [h2, h4, Int.natAbs_mul, Nat.pow_add]
    simp only [Nat.mul_assoc, Nat.mul_left_comm]

theorem cmp_stands {a b : Datum} {x y : Int} (ha : Stands a x) (hb : Stands b y) : a.order b = some (compare x y) := by
  obtain ⟨m, q, rfl, hm⟩ := ha
  obtain ⟨n, r, rfl, hn⟩ := hb
  obtain ⟨t, ht⟩ : ∃ t, t = max q r := ⟨_, rfl⟩
  have hbase : min (-(q : Int)) (-(r : Int)) = -(t : Int) := by omega
  have e1 : (-(q : Int) - -(t : Int)).toNat = t - q := by omega
  have e2 : (-(r : Int) - -(t : Int)).toNat = t - r := by omega
  have s1 := signed_stands x m q (t - q) hm
  have s2 := signed_stands y n r (t - r) hn
  rw [show q + (t - q) = t by omega] at s1
  rw [show r + (t - r) = t by omega] at s2
  show some (compare (signed (decide (x < 0)) m (-(q : Int) - min (-(q : Int)) (-(r : Int))).toNat) (signed (decide (y < 0)) n (-(r : Int) - min (-(q : Int)) (-(r : Int))).toNat)) = _
  rw [hbase, e1, e2, s1, s2]
  congr 1
  have hp := pow_pos' t
  simp only [compare, compareOfLessAndEq]
  have c1 : x * 2 ^ t < y * 2 ^ t ↔ x < y := ⟨fun h => Int.lt_of_mul_lt_mul_right h (by omega), fun h => Int.mul_lt_mul_of_pos_right h hp⟩
  have c2 : x * 2 ^ t = y * 2 ^ t ↔ x = y := ⟨fun h => Int.eq_of_mul_eq_mul_right (by omega) h, fun h => by rw [h]⟩
  simp only [c1, c2]

theorem quot_eq (digits : Nat) (s t : Bool) (m n : Nat) (i j : Int) (hn : n ≠ 0) :
    (Datum.number s m i).quotient digits (.number t n j) = some (.number (s ^^ t) (2 * ((m <<< (digits + n.log2 - m.log2)) / n) + ((m <<< (digits + n.log2 - m.log2)) % n != 0).toNat) (i - j - (digits + n.log2 - m.log2 : Nat) - 1)) := by
  show (if n = 0 then _ else _) = _
  rw [if_neg hn]

theorem read_fw (x : Int) (h0 : x ≠ 0) (hx : x.natAbs < 2 ^ 53) : double.read (fw x) = .number (decide (x < 0)) (x.natAbs * 2 ^ (52 - x.natAbs.log2)) ((x.natAbs.log2 : Int) - 52) := by
  have h0' : x.natAbs ≠ 0 := by omega
  rw [fw_eq]
  have := nearest_val (decide (x < 0)) x.natAbs 0 h0' hx
  rw [Nat.pow_zero, Nat.mul_one] at this
  have e0 : (-((0 : Nat) : Int)) = 0 := by simp
  rw [e0] at this
  rw [this, read_word _ _ h0' hx]

theorem write_zero (p : Int) : double.write (.number false 0 p) = fw 0 := by
  show double.nearest _ _ _ = _
  rw [fw_eq]
  unfold Format.nearest
  rw [if_pos rfl]
  rfl

theorem log2_kept {v : Nat} (h0 : v ≠ 0) (h : v < 2 ^ 53) : (v * 2 ^ (52 - v.log2)).log2 = 52 := by
  have := log2_lt_53 h0 h
  rw [log2_mul_pow _ _ h0]; omega

/-- '/' of nothing. -/
theorem fw_div_zero (y : Int) (h0 : 0 < y) (hy : y.natAbs < 2 ^ 53) : floatBits .quo .f64 (fw 0) (fw y) = some (fw 0) := by
  show ((double.read (fw 0)).quotient (double.fractionBits + 2) (double.read (fw y))).map double.write = _
  have h1 : double.read (fw 0) = .number false 0 (-1074) := by decide
  have h0' : y.natAbs ≠ 0 := by omega
  obtain ⟨k0, k1⟩ := kept_bd h0' hy
  rw [h1, read_fw y (by omega) hy, quot_eq _ _ _ _ _ _ _ (by omega), Option.map_some, Nat.zero_shiftLeft, Nat.zero_div, Nat.zero_mod]
  have e : (false ^^ decide (y < 0)) = false := by rw [decide_eq_false (by omega)]; rfl
  rw [e]
  exact congrArg some (write_zero _)

/-- '/' by one. -/
theorem fw_div_one (x : Int) (hx : x.natAbs < 2 ^ 53) : floatBits .quo .f64 (fw x) (fw 1) = some (fw x) := by
  by_cases h0 : x = 0
  · subst h0; exact fw_div_zero 1 (by omega) (by decide)
  show ((double.read (fw x)).quotient (double.fractionBits + 2) (double.read (fw 1))).map double.write = _
  have h1 : double.read (fw 1) = .number false (2 ^ 52) (-52) := by decide
  have h0' : x.natAbs ≠ 0 := by omega
  rw [h1, read_fw x h0 hx, quot_eq _ _ _ _ _ _ _ (by omega), Option.map_some, log2_kept h0' hx]
  have hlog : Nat.log2 (2 ^ 52) = 52 := by decide
  have hfb : double.fractionBits = 52 := rfl
  rw [hlog, hfb]
  obtain ⟨k0, k1⟩ := kept_bd h0' hx
  have hl := log2_lt_53 h0' hx
  refine congrArg some (write_stands ?_ hx)
  have e8 : x.natAbs * 2 ^ (55 - x.natAbs.log2) = (x.natAbs * 2 ^ (52 - x.natAbs.log2)) * 8 := by
    rw [Nat.mul_assoc, show (8 : Nat) = 2 ^ 3 from rfl, ← Nat.pow_add]; congr 2; omega
  refine ⟨_, 55 - x.natAbs.log2, ?_, rfl⟩
  rw [e8, Nat.shiftLeft_eq]
  generalize x.natAbs * 2 ^ (52 - x.natAbs.log2) = m at *
  have d1 : m * 2 ^ (52 + 2 + 52 - 52) / 2 ^ 52 = m * 4 := by omega
  have d2 : m * 2 ^ (52 + 2 + 52 - 52) % 2 ^ 52 = 0 := by omega
  rw [d1, d2]
  have e1 : (decide (x < 0) ^^ false) = decide (x < 0) := by simp
  rw [e1]
  congr 1
  · simp; omega
  · omega

/-- '/' of a number by itself. -/
theorem fw_div_self (y : Int) (h0 : 0 < y) (hy : y.natAbs < 2 ^ 53) : floatBits .quo .f64 (fw y) (fw y) = some (fw 1) := by
  show ((double.read (fw y)).quotient (double.fractionBits + 2) (double.read (fw y))).map double.write = _
  have h0' : y.natAbs ≠ 0 := by omega
  obtain ⟨k0, k1⟩ := kept_bd h0' hy
  rw [read_fw y (by omega) hy, quot_eq _ _ _ _ _ _ _ (by omega), Option.map_some, log2_kept h0' hy]
  have hfb : double.fractionBits = 52 := rfl
  rw [hfb, Nat.shiftLeft_eq]
  refine congrArg some (write_stands (n := 1) ⟨2 ^ 55, 55, ?_, by decide⟩ (by decide))
  generalize y.natAbs * 2 ^ (52 - y.natAbs.log2) = m at *
  have d1 : m * 2 ^ (52 + 2 + 52 - 52) / m = 2 ^ 54 := by rw [Nat.mul_comm, Nat.mul_div_cancel _ (by omega)]
  have d2 : m * 2 ^ (52 + 2 + 52 - 52) % m = 0 := Nat.mul_mod_right _ _
  rw [d1, d2]
  have e1 : (decide (y < 0) ^^ decide (y < 0)) = decide ((1 : Int) < 0) := by simp
  rw [e1]
  congr 1
  omega

theorem fw_cmp (x y : Int) (hx : x.natAbs < 2 ^ 53) (hy : y.natAbs < 2 ^ 53) : double.order (fw x) (fw y) = some (compare x y) := cmp_stands (stands_fw x hx) (stands_fw y hy)

theorem fw_zero : fw 0 = 0 := by decide
theorem fw_billion : fw 1000000000 = 4741671816366391296 := by decide
end Go.Proofs.Ybulkdsao
