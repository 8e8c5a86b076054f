/- The plain arithmetic of Div64's two steps: no Go in this text. -/
import Derived.Lib.Mul64
namespace Go.Proofs.Ybulkbury.Tb

section
variable {n1 n0 U u q r V : Nat}
theorem q_le (hV : V = n1 * 4294967296 + n0) (hp : 0 < V) (hI : q * n1 + r = U) (h : q * n0 ≤ 4294967296 * r + u) : q ≤ (U * 4294967296 + u) / V := by
  rw [Nat.le_div_iff_mul_le hp, hV, Nat.mul_add, ← Nat.mul_assoc]
  generalize q * n1 = A at *
  generalize q * n0 = C at *
  omega
theorem lt_q (hV : V = n1 * 4294967296 + n0) (hp : 0 < V) (hI : q * n1 + r = U) (h : 4294967296 * r + u < q * n0) : (U * 4294967296 + u) / V < q := by
  rw [Nat.div_lt_iff_lt_mul hp, hV, Nat.mul_add, ← Nat.mul_assoc]
  generalize q * n1 = A at *
  generalize q * n0 = C at *
  omega
theorem q_first (hV : V = n1 * 4294967296 + n0) (hn : 0 < n1) (hu : u < 4294967296) : (U * 4294967296 + u) / V ≤ U / n1 := by
  rw [Nat.le_div_iff_mul_le hn]
  have h := Nat.div_mul_le_self (U * 4294967296 + u) V
  generalize (U * 4294967296 + u) / V = Q at *
  rw [hV, Nat.mul_add, ← Nat.mul_assoc] at h
  generalize Q * n1 = A at *
  generalize Q * n0 = C at *
  omega
theorem q_small (hp : 0 < V) (hU : U < V) (hu : u < 4294967296) : (U * 4294967296 + u) / V < 4294967296 := by
  rw [Nat.div_lt_iff_lt_mul hp]
  omega
theorem q_break (hV : V = n1 * 4294967296 + n0) (hn0 : n0 < 4294967296) (hU : U < V) (hI : q * n1 + r = U) (hr : 4294967296 ≤ r) : q < 4294967296 ∧ q * n0 ≤ 4294967296 * r + u := by
  have hq : q < 4294967296 := by
    rcases Nat.lt_or_ge q 4294967296 with h | h
    · exact h
    · have := Nat.mul_le_mul_right n1 h
      generalize q * n1 = A at *
      omega
  refine ⟨hq, ?_⟩
  have h1 := Nat.mul_le_mul_left q (Nat.le_of_lt hn0)
  generalize q * n0 = C at *
  omega
theorem q_step (hI : q * n1 + r = U) (hq : 0 < q) : (q - 1) * n1 + (r + n1) = U := by
  obtain ⟨p, rfl⟩ : ∃ p, q = p + 1 := ⟨q - 1, by omega⟩
  rw [Nat.add_mul, Nat.one_mul] at hI
  simp only [Nat.add_sub_cancel]
  generalize p * n1 = A at *
  omega
end

/-- The two digits together. -/
theorem two_digits' {U u1 u0 V Q R : Nat} (hV : 0 < V) (h : V * Q + R = U * 4294967296 + u1) :
    Q * 4294967296 + (R * 4294967296 + u0) / V = (U * 18446744073709551616 + u1 * 4294967296 + u0) / V := by
  have e : U * 18446744073709551616 + u1 * 4294967296 + u0 = (R * 4294967296 + u0) + V * (Q * 4294967296) := by
    rw [← Nat.mul_assoc]
    generalize V * Q = A at h ⊢
    omega
  have h1 : (U * 18446744073709551616 + u1 * 4294967296 + u0) / V = ((R * 4294967296 + u0) + V * (Q * 4294967296)) / V := congrArg (· / V) e
  have h2 := Nat.add_mul_div_left (R * 4294967296 + u0) (Q * 4294967296) hV
  exact ((h1.trans h2).trans (Nat.add_comm _ _)).symm

/-- Both numbers doubled s times: the same quotient. -/
theorem div_shift (a y s : Nat) : (a * 2 ^ s) / (y * 2 ^ s) = a / y := Nat.mul_div_mul_right a y (Nat.two_pow_pos s)

/-- The dividend, shifted: its upper word and its lower. -/
theorem shift_split (hi lo s : Nat) (hs : s ≤ 63) :
    (hi * 18446744073709551616 + lo) * 2 ^ s = (hi * 2 ^ s + lo / 2 ^ (64 - s)) * 18446744073709551616 + lo * 2 ^ s % 18446744073709551616 := by
  have e : 2 ^ (64 - s) * 2 ^ s = 18446744073709551616 := by
    rw [← Nat.pow_add, show 64 - s + s = 64 by omega]
  have h1 := Nat.div_add_mod lo (2 ^ (64 - s))
  have hp : 0 < 2 ^ s := Nat.two_pow_pos s
  have h2 : lo * 2 ^ s = lo / 2 ^ (64 - s) * 18446744073709551616 + lo % 2 ^ (64 - s) * 2 ^ s := by
    have h3 : lo * 2 ^ s = (2 ^ (64 - s) * (lo / 2 ^ (64 - s)) + lo % 2 ^ (64 - s)) * 2 ^ s := by rw [h1]
    rw [h3, Nat.add_mul, Nat.mul_comm (2 ^ (64 - s)), Nat.mul_assoc, e]
  have h4 : lo % 2 ^ (64 - s) * 2 ^ s < 18446744073709551616 := by
    rw [← e]
    exact Nat.mul_lt_mul_of_pos_right (Nat.mod_lt _ (Nat.two_pow_pos _)) hp
  rw [Nat.add_mul, Nat.mul_right_comm]
  generalize hi * 2 ^ s = A at *
  generalize lo * 2 ^ s = C at *
  generalize lo / 2 ^ (64 - s) = D at *
  generalize lo % 2 ^ (64 - s) * 2 ^ s = E at *
  omega
theorem top_lt (hi lo y s : Nat) (hs : s ≤ 63) (hlo : lo < 18446744073709551616) (h : hi < y) : hi * 2 ^ s + lo / 2 ^ (64 - s) < y * 2 ^ s := by
  have e : 2 ^ (64 - s) * 2 ^ s = 18446744073709551616 := by
    rw [← Nat.pow_add, show 64 - s + s = 64 by omega]
  have h1 : lo / 2 ^ (64 - s) < 2 ^ s := by
    rw [Nat.div_lt_iff_lt_mul (Nat.two_pow_pos _), Nat.mul_comm, e]
    exact hlo
  have h2 : (hi + 1) * 2 ^ s ≤ y * 2 ^ s := Nat.mul_le_mul_right _ h
  rw [Nat.add_mul, Nat.one_mul] at h2
  omega
end Go.Proofs.Ybulkbury.Tb
