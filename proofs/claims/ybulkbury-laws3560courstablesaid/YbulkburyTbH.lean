import Derived.Test.YbulkburyTbG
namespace Go.Proofs.Ybulkbury.Tb
open Go.RowKit

def Ch (al : Option Nat) (T A : Nat → Nat) : Nat → Nat → Nat := fun m j => if j = 0 then 0 else chA al T A m j
def Cp (al : Option Nat) (T A : Nat → Nat) (m n : Nat) : Nat → Nat → Nat := fun r j => if r < m ∨ (r = m ∧ j < n) then Ch al T A r j else 0
theorem Ch_le {w : World} {y tb rows : Nat} {al : Option Nat} {T A : Nat → Nat} (h : Wt w y tb rows al T A) {m : Nat} (hm : m < rows) (j : Nat) : chA al T A m j ≤ one := by
  have := h.arr hm
  exact scC_le (Nat.min_le_right _ _) (by omega)
theorem Ch_chain {w : World} {y tb rows : Nat} {al : Option Nat} {T A : Nat → Nat} (h : Wt w y tb rows al T A) : Chain (Ch al T A) rows := by
  refine ⟨fun m hm j => ?_, fun m _ => by simp [Ch]⟩
  simp only [Ch]
  split
  · exact Nat.zero_le _
  · exact Ch_le h hm j
theorem Cp_step {al : Option Nat} {T A : Nat → Nat} {m n : Nat} (hn : 1 ≤ n) (r j : Nat) : (if r = m ∧ j = n then chA al T A m n else Cp al T A m n r j) = Cp al T A m (n + 1) r j := by
  simp only [Cp]
  by_cases e : r = m ∧ j = n
  · obtain ⟨rfl, rfl⟩ := e
    rw [if_pos ⟨rfl, rfl⟩, if_pos (by omega)]
    simp only [Ch]
    rw [if_neg (by omega)]
  · rw [if_neg e]
    by_cases e2 : r < m ∨ (r = m ∧ j < n)
    · rw [if_pos e2, if_pos (by omega)]
    · rw [if_neg e2, if_neg (by omega)]
theorem Cp_next {al : Option Nat} {T A : Nat → Nat} {m width : Nat} (r j : Nat) (hj : j < width) : Cp al T A m width r j = Cp al T A (m + 1) 1 r j := by
  simp only [Cp]
  by_cases e : r < m ∨ (r = m ∧ j < width)
  · rw [if_pos e, if_pos (by omega)]
  · rw [if_neg e]
    by_cases e2 : r < m + 1 ∨ (r = m + 1 ∧ j < 1)
    · rw [if_pos e2]
      have : j = 0 := by omega
      simp [Ch, this]
    · rw [if_neg e2]
theorem Cp_zero {al : Option Nat} {T A : Nat → Nat} (r j : Nat) : 0 = Cp al T A 0 1 r j := by
  simp only [Cp]
  by_cases e : r < 0 ∨ (r = 0 ∧ j < 1)
  · rw [if_pos e]
    simp only [Ch]
    rw [if_pos (by omega)]
  · rw [if_neg e]
theorem Cp_all {al : Option Nat} {T A : Nat → Nat} {rows : Nat} (r j : Nat) (hr : r < rows) : Cp al T A rows 1 r j = Ch al T A r j := by
  simp only [Cp]
  rw [if_pos (.inl hr)]

/-- Only block z, and new blocks, may have turned. -/
structure But (z : Nat) (w w' : World) : Prop where
  os : w'.os = w.os
  tape : w'.tape = w.tape
  output : w'.output = w.output
  size : w.heap.size ≤ w'.heap.size
  block : ∀ k, k < w.heap.size → k ≠ z → w'.heap[k]? = w.heap[k]?
theorem But.of_below {z : Nat} {w w' : World} (h : Below w.heap.size w w') : But z w w' := ⟨h.os, h.tape, h.output, h.size, fun k hk _ => h.block k hk⟩
theorem But.trans {z : Nat} {w w' w'' : World} (h : But z w w') (h' : But z w' w'') : But z w w'' :=
  ⟨h'.os.trans h.os, h'.tape.trans h.tape, h'.output.trans h.output, Nat.le_trans h.size h'.size, fun k hk hn => (h'.block k (Nat.lt_of_lt_of_le hk h.size) hn).trans (h.block k hk hn)⟩
theorem But.below {z : Nat} {w w' w'' : World} (h : But z w w') (h' : Below w'.heap.size w' w'') : But z w w'' := h.trans (But.of_below h')
theorem But.setZ {z : Nat} {w w' : World} (h : But z w w') {i : Nat} (v : Value) : But z w (w'.setCell ⟨z, i, none⟩ v) :=
  h.trans ⟨rfl, rfl, rfl, by simp [World.setCell], fun k _ hn => Go.Deep.blk_setCell_other _ _ _ _ hn⟩
theorem But.setNew {z : Nat} {w w' : World} (h : But z w w') {b i : Nat} (hb : w.heap.size ≤ b) (v : Value) : But z w (w'.setCell ⟨b, i, none⟩ v) :=
  ⟨h.os, h.tape, h.output, by simpa [World.setCell] using h.size, fun k hk hn => (Go.Deep.blk_setCell_other _ _ _ _ (by show k ≠ b; omega)).trans (h.block k hk hn)⟩
theorem But.m2 {z : Nat} {w w' : World} {b cap rows width : Nat} {V : Nat → Nat → Nat} (h : But z w w') (hm : M2 w b cap rows width V) (hb : b ≠ z) : M2 w' b cap rows width V := hm.of_block (h.block b hm.lt hb)
theorem But.r1 {z : Nat} {w w' : World} {b cap n : Nat} {f : Nat → Nat} (h : But z w w') (hm : R1 w b cap n f) (hb : b ≠ z) : R1 w' b cap n f := hm.of_block (h.block b hm.lt hb)

/-- The replay's block. -/
def crC (k F rows width : Nat) (v1 v2 v3 all ours pend : Value) : Array Value := #[.int .i64 k, v1, v2, v3, .int .i64 F, .int .i64 rows, .int .i64 width, all, ours, pend]
def Cr (w : World) (z k F rows width : Nat) (v1 v2 v3 all ours pend : Value) : Prop := w.heap[z]? = some (.cells (crC k F rows width v1 v2 v3 all ours pend) 61 (0, 0))
section
variable {w w' : World} {z k F rows width : Nat} {v1 v2 v3 all ours pend : Value}
theorem Cr.facts (h : Cr w z k F rows width v1 v2 v3 all ours pend) : w.cell? ⟨z, 0, none⟩ = some (.int .i64 k) ∧ w.cell? ⟨z, 4, none⟩ = some (.int .i64 F) ∧ w.cell? ⟨z, 5, none⟩ = some (.int .i64 rows) ∧ w.cell? ⟨z, 6, none⟩ = some (.int .i64 width) ∧
    w.cell? ⟨z, 7, none⟩ = some all ∧ w.cell? ⟨z, 8, none⟩ = some ours ∧ w.cell? ⟨z, 9, none⟩ = some pend ∧ w.frozen? ⟨z, 7, none⟩ = false ∧ w.frozen? ⟨z, 8, none⟩ = false := by
  unfold Cr at h
  refine ⟨?_, ?_, ?_, ?_, ?_, ?_, ?_, ?_, ?_⟩
  iterate 7 (first | (rw [cell_of_row w z _ _ _ _ h]; rfl))
  · simp [World.frozen?, h]
  · simp [World.frozen?, h]
theorem Cr.lt (h : Cr w z k F rows width v1 v2 v3 all ours pend) : z < w.heap.size := by
  rcases Nat.lt_or_ge z w.heap.size with hlt | hge
  · exact hlt
  · unfold Cr at h; rw [Array.getElem?_eq_none hge] at h; cases h
theorem Cr.below (h : Cr w z k F rows width v1 v2 v3 all ours pend) (hb : Below w.heap.size w w') : Cr w' z k F rows width v1 v2 v3 all ours pend := (hb.block z h.lt).trans h
theorem Cr.setAll (h : Cr w z k F rows width v1 v2 v3 all ours pend) (v : Value) : Cr (w.setCell ⟨z, 7, none⟩ v) z k F rows width v1 v2 v3 v ours pend := by
  unfold Cr at h ⊢
  simp [World.setCell, h, Array.getElem?_modify, crC]
theorem Cr.setOurs (h : Cr w z k F rows width v1 v2 v3 all ours pend) (v : Value) : Cr (w.setCell ⟨z, 8, none⟩ v) z k F rows width v1 v2 v3 all v pend := by
  unfold Cr at h ⊢
  simp [World.setCell, h, Array.getElem?_modify, crC]
theorem Cr.other (h : Cr w z k F rows width v1 v2 v3 all ours pend) {a : Addr} (ha : z ≠ a.block) (v : Value) : Cr (w.setCell a v) z k F rows width v1 v2 v3 all ours pend := (Go.Deep.blk_setCell_other _ _ _ _ ha).trans h
end
end Go.Proofs.Ybulkbury.Tb
