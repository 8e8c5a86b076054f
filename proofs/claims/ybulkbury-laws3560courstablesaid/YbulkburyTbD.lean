import Derived.Test.YbulkburyTbC
namespace Go.Proofs.Ybulkbury.Tb
open Go.RowKit

def one : Nat := 9223372036854775808
def sumTo (f : Nat → Nat) : Nat → Nat
  | 0 => 0
  | n + 1 => sumTo f n + f n
theorem sumTo_le {f : Nat → Nat} : ∀ {n j : Nat}, j < n → f j ≤ sumTo f n
  | 0, _, h => by omega
  | n + 1, j, h => by
    simp only [sumTo]
    by_cases e : j = n
    · subst e; omega
    · have := sumTo_le (f := f) (n := n) (j := j) (by omega); omega
theorem sumTo_pair {f : Nat → Nat} : ∀ {n j : Nat}, j + 1 < n → f j + f (j + 1) ≤ sumTo f n
  | 0, _, h => by omega
  | n + 1, j, h => by
    simp only [sumTo]
    by_cases e : j + 1 = n
    · have := sumTo_le (f := f) (n := n) (j := j) (by omega)
      subst e; omega
    · have := sumTo_pair (f := f) (n := n) (j := j) (by omega); omega
theorem sumTo_congr {f g : Nat → Nat} : ∀ {n : Nat}, (∀ j, j < n → f j = g j) → sumTo f n = sumTo g n
  | 0, _ => rfl
  | n + 1, h => by simp only [sumTo]; rw [sumTo_congr (n := n) (fun j hj => h j (by omega)), h n (by omega)]
theorem sumTo_zero : ∀ n, sumTo (fun _ => 0) n = 0
  | 0 => rfl
  | n + 1 => by simp only [sumTo]; rw [sumTo_zero n]
theorem sum_last (v : Nat) : ∀ n, sumTo (fun j => if j + 1 = n + 1 then v else 0) (n + 1) = v := by
  intro n
  simp only [sumTo]
  rw [sumTo_congr (g := fun _ => 0) (fun j hj => by rw [if_neg (by omega)]), sumTo_zero]
  simp
/-- One row's mass goes down whole. -/
theorem sum_shift {p h : Nat → Nat} {W : Nat} (hle : ∀ j, h j ≤ p j) (h0 : h 0 = 0) : ∀ n, n < W → sumTo (fun j => (p j - h j) + (if j + 1 < W then h (j + 1) else 0)) n = sumTo p n + h n
  | 0, _ => by simp [sumTo, h0]
  | n + 1, hn => by
    have ih := sum_shift (W := W) hle h0 n (by omega)
    have := hle n
    simp only [sumTo]
    rw [ih, if_pos hn]
    omega
theorem sum_down {p h : Nat → Nat} {W : Nat} (hW : 0 < W) (hle : ∀ j, h j ≤ p j) (h0 : h 0 = 0) : sumTo (fun j => (p j - h j) + (if j + 1 < W then h (j + 1) else 0)) W = sumTo p W := by
  obtain ⟨n, rfl⟩ : ∃ n, W = n + 1 := ⟨W - 1, by omega⟩
  have := sum_shift (W := n + 1) hle h0 n (by omega)
  have := hle n
  simp only [sumTo]
  rw [if_neg (by omega)]
  omega

/-- The table's rows, from the last one down. -/
def Trow (C : Nat → Nat → Nat) (rows width : Nat) : Nat → Nat → Nat
  | 0, j => if j + 1 = width then one else 0
  | t + 1, j => (Trow C rows width t j - mulC (Trow C rows width t j) (C (rows - 1 - t) j)) + (if j + 1 < width then mulC (Trow C rows width t (j + 1)) (C (rows - 1 - t) (j + 1)) else 0)
/-- A chain: chances, none in column 0. -/
def Chain (C : Nat → Nat → Nat) (rows : Nat) : Prop := (∀ m, m < rows → ∀ j, C m j ≤ one) ∧ ∀ m, m < rows → C m 0 = 0
theorem Trow_sum {C : Nat → Nat → Nat} {rows width : Nat} (hc : Chain C rows) (hr : 0 < rows) (hW : 0 < width) : ∀ t, t < rows → sumTo (Trow C rows width t) width = one
  | 0, _ => by
    obtain ⟨n, rfl⟩ : ∃ n, width = n + 1 := ⟨width - 1, by omega⟩
    exact sum_last one n
  | t + 1, ht => by
    have ih := Trow_sum hc hr hW t (by omega)
    have e := sum_down (p := Trow C rows width t) (h := fun j => mulC (Trow C rows width t j) (C (rows - 1 - t) j)) hW (fun j => mulC_le _ _ (hc.1 _ (by omega) j)) (by show mulC _ (C (rows - 1 - t) 0) = 0; rw [hc.2 _ (by omega), mulC_zero])
    exact e.trans ih

/-- What the row below holds behind n steps. -/
def part (p h : Nat → Nat) (n j : Nat) : Nat := (if j < n then p j - h j else 0) + (if j + 1 < n then h (j + 1) else 0)
def Gm (C : Nat → Nat → Nat) (rows width m : Nat) : Nat → Nat → Nat := fun r j => if m ≤ r then Trow C rows width (rows - 1 - r) j else 0
def hOf (C : Nat → Nat → Nat) (rows width m : Nat) : Nat → Nat := fun j => mulC (Trow C rows width (rows - 1 - m) j) (C m j)
def Hm (C : Nat → Nat → Nat) (rows width m n : Nat) : Nat → Nat → Nat := fun r j => if r + 1 = m then part (Trow C rows width (rows - 1 - m)) (hOf C rows width m) n j else Gm C rows width m r j
theorem Hm_zero {C : Nat → Nat → Nat} {rows width m : Nat} : ∀ r j, Gm C rows width m r j = Hm C rows width m 0 r j := fun r j => by
  simp only [Hm]
  split
  · simp only [Gm, part]; rw [if_neg (by omega)]; simp
  · rfl
theorem Hm_last {C : Nat → Nat → Nat} {rows width m : Nat} (hm : 0 < m) (hm' : m < rows) : ∀ r j, j < width → Hm C rows width m width r j = Gm C rows width (m - 1) r j := fun r j hj => by
  simp only [Hm]
  split
  · rename_i e
    simp only [Gm, part, hOf]
    rw [if_pos (show m - 1 ≤ r by omega), show rows - 1 - r = (rows - 1 - m) + 1 by omega, if_pos hj]
    simp only [Trow]
    rw [show rows - 1 - (rows - 1 - m) = m by omega]
  · rename_i e
    simp only [Gm]
    by_cases h : m ≤ r
    · rw [if_pos h, if_pos (by omega)]
    · rw [if_neg h, if_neg (by omega)]

end Go.Proofs.Ybulkbury.Tb
