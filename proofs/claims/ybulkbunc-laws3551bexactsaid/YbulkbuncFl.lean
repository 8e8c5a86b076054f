/- Plain facts on float64 words: whole numbers below 2^53 add and compare exactly. No Go in sight. -/
import Derived.Laws.FloatArith
namespace Go.Proofs.Ybulkbunc.Fl
open Ieee

def kept (m : Nat) : Nat := m * 2 ^ (52 - m.log2)
def rungOf (m : Nat) : Nat := (m.log2 + 1022) * 4503599627370496 + kept m

theorem log2_le {m : Nat} (h0 : 0 < m) (h : m < 2 ^ 53) : m.log2 ≤ 52 := by
  have := (Nat.log2_lt (by omega)).2 h
  omega

theorem kept_bd {m : Nat} (h0 : 0 < m) (h : m < 2 ^ 53) : 4503599627370496 ≤ kept m ∧ kept m < 9007199254740992 := by
  have hl := log2_le h0 h
  have h1 := Nat.log2_self_le (n := m) (by omega)
  have h2 := Nat.lt_log2_self (n := m)
  have e1 : 2 ^ m.log2 * 2 ^ (52 - m.log2) = 4503599627370496 := by
    rw [← Nat.pow_add, show m.log2 + (52 - m.log2) = 52 from by omega]
  have e2 : 2 ^ (m.log2 + 1) * 2 ^ (52 - m.log2) = 9007199254740992 := by
    rw [← Nat.pow_add, show m.log2 + 1 + (52 - m.log2) = 53 from by omega]
  have hp : 0 < 2 ^ (52 - m.log2) := Nat.two_pow_pos _
  unfold kept
  constructor
  · rw [← e1]; exact Nat.mul_le_mul_right _ h1
  · rw [← e2]; exact Nat.mul_lt_mul_of_pos_right h2 hp

theorem log2_scaled {m : Nat} (h0 : 0 < m) (j : Nat) : (m * 2 ^ j).log2 = m.log2 + j := by
  have hp : 0 < 2 ^ j := Nat.two_pow_pos _
  have hne : m * 2 ^ j ≠ 0 := Nat.ne_of_gt (Nat.mul_pos h0 hp)
  have h1 := Nat.log2_self_le (n := m) (by omega)
  have h2 := Nat.lt_log2_self (n := m)
  have a : m.log2 + j ≤ (m * 2 ^ j).log2 := by
    rw [Nat.le_log2 hne, Nat.pow_add]; exact Nat.mul_le_mul_right _ h1
  have b : (m * 2 ^ j).log2 < m.log2 + j + 1 := by
    rw [Nat.log2_lt hne, show m.log2 + j + 1 = (m.log2 + 1) + j from by omega, Nat.pow_add]
    exact Nat.mul_lt_mul_of_pos_right h2 hp
  omega

theorem cut_exact (neg : Bool) (q d : Nat) (hq : 0 < q) : Toward.even.cut neg (q * 2 ^ d) d = q := by
  have hl : d ≤ (q * 2 ^ d).log2 := by rw [log2_scaled hq]; omega
  have hp : 0 < 2 ^ d := Nat.two_pow_pos _
  unfold Toward.cut
  simp only [show min d ((q * 2 ^ d).log2 + 2) = d from by omega, Nat.one_shiftLeft, Nat.mul_mod_left, Nat.mul_div_cancel _ hp, Nat.mul_zero]
  have h2 : ((2 ^ d : Nat) == 0) = false := by simp
  simp [h2]

theorem nearest_scaled (neg : Bool) (m j : Nat) (h0 : 0 < m) (h : m < 2 ^ 53) :
    double.nearest neg (m * 2 ^ j) (-(j : Int)) = double.word neg (rungOf m) := by
  have hl := log2_le h0 h
  have hp : 0 < 2 ^ j := Nat.two_pow_pos _
  have hne : m * 2 ^ j ≠ 0 := Nat.ne_of_gt (Nat.mul_pos h0 hp)
  have hk := kept_bd h0 h
  unfold Format.nearest
  rw [if_neg hne, log2_scaled h0]
  have hlp : double.leastPlace = -1074 := rfl
  have hfb : double.fractionBits = 52 := rfl
  have hbin : double.binade = 4503599627370496 := rfl
  have hinf : double.infRung = 2047 * 4503599627370496 := rfl
  simp only [hlp, hfb, hbin, hinf]
  have hlast : max (-(j : Int) + ((m.log2 + j : Nat) : Int) - (52 : Nat)) (-1074) = (m.log2 : Int) - 52 := by omega
  simp only [hlast]
  have hsh : (m * 2 ^ j) <<< (-(j : Int) - ((m.log2 : Int) - 52)).toNat = kept m * 2 ^ ((m.log2 : Int) - 52 - -(j : Int)).toNat := by
    rw [Nat.shiftLeft_eq]
    unfold kept
    rw [Nat.mul_assoc, Nat.mul_assoc, ← Nat.pow_add, ← Nat.pow_add]
    congr 2
    omega
  rw [hsh, cut_exact _ _ _ (by omega)]
  have : ((m.log2 : Int) - 52 - -1074).toNat = m.log2 + 1022 := by omega
  rw [this]
  have hr : (m.log2 + 1022) * 4503599627370496 + kept m = rungOf m := rfl
  rw [hr]
  have hlt : rungOf m ≤ 2047 * 4503599627370496 := by unfold rungOf; omega
  rw [Nat.min_eq_left hlt]

theorem read_int (neg : Bool) (m : Nat) (h0 : 0 < m) (h : m < 2 ^ 53) :
    double.read (double.word neg (rungOf m)) = .number neg (kept m) ((m.log2 : Int) - 52) := by
  have hl := log2_le h0 h
  have hk := kept_bd h0 h
  have hlp : double.leastPlace = -1074 := rfl
  have hbin : double.binade = 4503599627370496 := rfl
  have hinf : double.infRung = 2047 * 4503599627370496 := rfl
  have hsw : double.signWeight = 9223372036854775808 := rfl
  have hr : rungOf m = (m.log2 + 1022) * 4503599627370496 + kept m := rfl
  generalize m.log2 = l at *
  generalize kept m = k at *
  have hw : double.word neg (rungOf m) % 9223372036854775808 = rungOf m := by
    unfold Format.word; rw [hsw, hr]; cases neg <;> simp <;> omega
  have hn : (double.word neg (rungOf m) / 9223372036854775808 % 2 == 1) = neg := by
    unfold Format.word; rw [hsw, hr]; cases neg <;> simp <;> omega
  unfold Format.read
  simp only [hlp, hbin, hinf, hsw, hw, hn]
  rw [if_neg (by rw [hr]; omega), if_pos (by rw [hr]; omega)]
  have a : 4503599627370496 + rungOf m % 4503599627370496 = k := by rw [hr]; omega
  have b : rungOf m / 4503599627370496 - 1 = l + 1022 := by rw [hr]; omega
  have c : (-1074 : Int) + ((l + 1022 : Nat) : Int) = (l : Int) - 52 := by omega
  rw [a, b, c]

/-- The word of a whole number. -/
def fz (n : Int) : Nat := floatOfInt .f64 n

theorem fz_eq (n : Int) : fz n = double.nearest (decide (n < 0)) n.natAbs 0 := rfl

theorem nearest_zero (neg : Bool) (p : Int) : double.nearest neg 0 p = double.word neg 0 := by
  unfold Format.nearest; rw [if_pos rfl]

theorem fz_zero : fz 0 = 0 := by kernel_rfl

/-- A datum that stands for the whole number n. -/
def IntAt (n : Int) (d : Datum) : Prop :=
  ∃ (m : Nat) (p : Int), d = .number (decide (n < 0)) m p ∧ p ≤ 0 ∧ (n ≠ 0 → m ≠ 0) ∧ ∀ base : Int, base ≤ p → m <<< (p - base).toNat = n.natAbs * 2 ^ (-base).toNat

theorem intAt_fz (n : Int) (h : n.natAbs < 2 ^ 53) : IntAt n (double.read (fz n)) := by
  by_cases hz : n = 0
  · subst hz
    refine ⟨0, -1074, by rw [fz_zero]; kernel_rfl, by omega, fun h => absurd rfl h, fun base _ => by simp⟩
  · have h0 : 0 < n.natAbs := by omega
    have hl := log2_le h0 h
    have hk := kept_bd h0 h
    have e := nearest_scaled (decide (n < 0)) n.natAbs 0 h0 h
    simp only [Nat.pow_zero, Nat.mul_one] at e
    refine ⟨kept n.natAbs, (n.natAbs.log2 : Int) - 52, ?_, by omega, fun _ => by omega, ?_⟩
    · rw [fz_eq]
      show double.read (double.nearest _ _ (-((0 : Nat) : Int))) = _
      rw [e, read_int _ _ h0 h]
    · intro base hb
      rw [Nat.shiftLeft_eq]
      unfold kept
      rw [Nat.mul_assoc, ← Nat.pow_add]
      congr 2
      omega

theorem signed_int {n : Int} {m k : Nat} {u : Nat} (h : m <<< u = n.natAbs * 2 ^ k) : signed (decide (n < 0)) m u = n * (2 ^ k : Nat) := by
  unfold signed
  rw [h]
  by_cases hn : n < 0
  · simp only [hn, decide_true, if_true]
    have : ((n.natAbs : Nat) : Int) = -n := by omega
    rw [Int.natCast_mul, this]
    rw [Int.neg_mul, Int.neg_neg]
  · simp only [hn, decide_false]
    have : ((n.natAbs : Nat) : Int) = n := by omega
    simp only [Bool.false_eq_true, if_false]
    rw [Int.natCast_mul, this]

theorem fz_of_scaled (s : Int) (k : Nat) (hs : s.natAbs < 2 ^ 53) (b : Bool) (hb : b = decide (s < 0)) :
    double.nearest b (s * (2 ^ k : Nat)).natAbs (-(k : Int)) = fz s := by
  subst hb
  rw [Int.natAbs_mul, Int.natAbs_natCast, fz_eq]
  by_cases hz : s = 0
  · subst hz
    simp only [Int.natAbs_zero, Nat.zero_mul]
    rw [nearest_zero, nearest_zero]
  · have h0 : 0 < s.natAbs := by omega
    rw [nearest_scaled _ _ _ h0 hs]
    have e := nearest_scaled (decide (s < 0)) s.natAbs 0 h0 hs
    simp only [Nat.pow_zero, Nat.mul_one] at e
    exact e.symm

theorem add_int (a b : Int) (ha : a.natAbs < 2 ^ 53) (hb : b.natAbs < 2 ^ 53) (hs : (a + b).natAbs < 2 ^ 53) :
    double.add (fz a) (fz b) = some (fz (a + b)) := by
  obtain ⟨m, p, e1, hp, _, h1⟩ := intAt_fz a ha
  obtain ⟨n, q, e2, hq, _, h2⟩ := intAt_fz b hb
  unfold Format.add
  rw [e1, e2]
  have s1 := signed_int (h1 (min p q) (by omega))
  have s2 := signed_int (h2 (min p q) (by omega))
  simp only [Datum.sum, s1, s2, ← Int.add_mul, Option.map_some, Format.write]
  obtain ⟨k, hk⟩ : ∃ k : Nat, min p q = -(k : Int) := ⟨(-(min p q)).toNat, by omega⟩
  rw [hk]
  have hk2 : (- -(k : Int)).toNat = k := by omega
  rw [hk2]
  have hpos : 0 < 2 ^ k := Nat.two_pow_pos _
  rw [fz_of_scaled _ _ hs]
  have hc : (0 : Int) < ((2 ^ k : Nat) : Int) := by omega
  by_cases hz : a + b = 0
  · rw [hz]; simp; omega
  · have hne : (a + b) * ((2 ^ k : Nat) : Int) ≠ 0 := Int.mul_ne_zero hz (by omega)
    rw [if_neg hne]
    have : ((a + b) * ((2 ^ k : Nat) : Int) < 0) ↔ a + b < 0 := by
      constructor
      · intro h
        by_cases hx : a + b < 0
        · exact hx
        · have := Int.mul_nonneg (show 0 ≤ a + b by omega) (Int.le_of_lt hc); omega
      · intro h; exact Int.mul_neg_of_neg_of_pos h hc
    simp only [this]

theorem compare_scaled (a b : Int) (k : Nat) : compare (a * (2 ^ k : Nat)) (b * (2 ^ k : Nat)) = compare a b := by
  have hpos : 0 < 2 ^ k := Nat.two_pow_pos _
  have hc : (0 : Int) < ((2 ^ k : Nat) : Int) := by omega
  simp only [compare, compareOfLessAndEq]
  have i1 : (a * ((2 ^ k : Nat) : Int) < b * ((2 ^ k : Nat) : Int)) ↔ a < b := Int.mul_lt_mul_right hc
  have i2 : (a * ((2 ^ k : Nat) : Int) = b * ((2 ^ k : Nat) : Int)) ↔ a = b := Int.mul_eq_mul_right_iff (by omega)
  simp only [i1, i2]

theorem order_int (a b : Int) (ha : a.natAbs < 2 ^ 53) (hb : b.natAbs < 2 ^ 53) : double.order (fz a) (fz b) = some (compare a b) := by
  obtain ⟨m, p, e1, hp, _, h1⟩ := intAt_fz a ha
  obtain ⟨n, q, e2, hq, _, h2⟩ := intAt_fz b hb
  unfold Format.order
  rw [e1, e2]
  have s1 := signed_int (h1 (min p q) (by omega))
  have s2 := signed_int (h2 (min p q) (by omega))
  simp only [Datum.order, s1, s2, compare_scaled]

theorem order_self (x : Nat) (h : x % 9223372036854775808 ≤ 2047 * 4503599627370496) : double.order x x = some .eq := by
  have hbin : double.binade = 4503599627370496 := rfl
  have hinf : double.infRung = 2047 * 4503599627370496 := rfl
  have hsw : double.signWeight = 9223372036854775808 := rfl
  unfold Format.order Format.read
  simp only [hbin, hinf, hsw]
  generalize x % 9223372036854775808 = r at *
  generalize (x / 9223372036854775808 % 2 == 1) = s
  by_cases h1 : r < 4503599627370496
  · rw [if_pos h1]; simp [Datum.order]
  · rw [if_neg h1]
    by_cases h2 : r < 2047 * 4503599627370496
    · rw [if_pos h2]; simp [Datum.order]
    · rw [if_neg h2, if_pos (by omega)]; simp [Datum.order]

theorem word_rung (b : Bool) (r : Nat) (h : r ≤ 2047 * 4503599627370496) : double.word b r % 9223372036854775808 ≤ 2047 * 4503599627370496 := by
  have hsw : double.signWeight = 9223372036854775808 := rfl
  unfold Format.word; rw [hsw]; split <;> omega

theorem nearest_rung (b : Bool) (m : Nat) (p : Int) : double.nearest b m p % 9223372036854775808 ≤ 2047 * 4503599627370496 := by
  have hinf : double.infRung = 2047 * 4503599627370496 := rfl
  unfold Format.nearest
  split
  · exact word_rung _ _ (by omega)
  · exact word_rung _ _ (by rw [hinf]; omega)

theorem div_int (s n : Int) (hs : s.natAbs < 2 ^ 53) (hn : n.natAbs < 2 ^ 53) (h0 : n ≠ 0) : ∃ r, double.div (fz s) (fz n) = some r ∧ double.order r r = some .eq := by
  obtain ⟨m, p, e1, _, _, _⟩ := intAt_fz s hs
  obtain ⟨u, q, e2, _, hu, _⟩ := intAt_fz n hn
  unfold Format.div
  rw [e1, e2]
  simp only [Datum.quotient, if_neg (hu h0), Option.map_some, Format.write]
  exact ⟨_, rfl, order_self _ (nearest_rung _ _ _)⟩

/-- A word that is a NaN. -/
def NaN (x : Nat) : Prop := ∃ s f, double.read x = .nan s f

theorem NaN.order_left {x : Nat} (h : NaN x) (y : Nat) : double.order x y = none := by
  obtain ⟨s, f, e⟩ := h
  unfold Format.order; rw [e]; rfl

theorem NaN.order_right {x : Nat} (h : NaN x) (y : Nat) : double.order y x = none := by
  obtain ⟨s, f, e⟩ := h
  unfold Format.order; rw [e]
  cases double.read y <;> rfl

theorem NaN.add_left {x : Nat} (h : NaN x) (y : Nat) : double.add x y = none := by
  obtain ⟨s, f, e⟩ := h
  unfold Format.add; rw [e]; rfl

theorem NaN.div_left {x : Nat} (h : NaN x) (y : Nat) : double.div x y = none := by
  obtain ⟨s, f, e⟩ := h
  unfold Format.div; rw [e]; rfl

theorem nan_of (x : Nat) (h : 2047 * 4503599627370496 < x % 9223372036854775808) : NaN x := by
  have hbin : double.binade = 4503599627370496 := rfl
  have hinf : double.infRung = 2047 * 4503599627370496 := rfl
  have hsw : double.signWeight = 9223372036854775808 := rfl
  unfold NaN Format.read
  simp only [hbin, hinf, hsw]
  rw [if_neg (by omega), if_neg (by omega), if_neg (by omega)]
  exact ⟨_, _, rfl⟩

theorem nan_cut (q r : Nat) (t : Nat) : NaN (Question.cut (.nanBits .f64 q r) t) := by
  have h2 : t % 2 < 2 := Nat.mod_lt _ (by decide)
  have h3 : t / 2 % 4503599627370495 < 4503599627370495 := Nat.mod_lt _ (by decide)
  have e : Question.cut (.nanBits .f64 q r) t = (t % 2) * 9223372036854775808 + 9218868437227405312 + 1 + t / 2 % 4503599627370495 := rfl
  rw [e]
  refine nan_of _ ?_
  generalize t / 2 % 4503599627370495 = u at *
  omega

/-- What a float slot holds where the reckoning gave 'o': the very word, or some NaN where it gave none. -/
def Rep (o : Option Nat) (x : Nat) : Prop := o = some x ∨ (o = none ∧ NaN x)

end Go.Proofs.Ybulkbunc.Fl
