import Derived.Test.YbulkburyTbA
import Derived.Deep.QuietTactic
import Derived.BigQuiet
import Derived.Deep.RegionWith
import Derived.Deep.OwnRows
import Derived.Laws.Cover3
namespace Go.Proofs.Ybulkbury.Tb
open Go.RowKit

/-- A row of uint64s of the call's own: n of them, room for cap. -/
structure R1 (w : World) (b cap n : Nat) (f : Nat → Nat) : Prop where
  ex : ∃ cur : Array Value, w.heap[b]? = some (.cells cur 25 (0, 0)) ∧ n ≤ cap ∧ cap ≤ cur.size ∧ ∀ i, i < n → cur[i]? = some (.int .u64 (f i))

section
variable {w w' : World} {b cap n : Nat} {f f' : Nat → Nat}
theorem R1.of_block (h : R1 w b cap n f) (hb : w'.heap[b]? = w.heap[b]?) : R1 w' b cap n f := by
  obtain ⟨cur, h1, h2⟩ := h
  exact ⟨cur, hb.trans h1, h2⟩
theorem R1.lt (h : R1 w b cap n f) : b < w.heap.size := by
  obtain ⟨cur, h1, _⟩ := h
  rcases Nat.lt_or_ge b w.heap.size with hlt | hge
  · exact hlt
  · rw [Array.getElem?_eq_none hge] at h1; cases h1
theorem R1.cell (h : R1 w b cap n f) {i : Nat} (hi : i < n) : w.cell? ⟨b, i, none⟩ = some (.int .u64 (f i)) := by
  obtain ⟨cur, h1, _, _, h4⟩ := h
  rw [cell_of_row w b i cur 25 (0, 0) h1]
  exact h4 i hi
theorem R1.frozen (h : R1 w b cap n f) (i : Nat) : w.frozen? ⟨b, i, none⟩ = false := by
  obtain ⟨cur, h1, _⟩ := h
  simp [World.frozen?, h1]
theorem R1.below (h : R1 w b cap n f) (hb : Below w.heap.size w w') : R1 w' b cap n f := h.of_block (hb.block b h.lt)
theorem R1.congr (h : R1 w b cap n f) (hf : ∀ i, i < n → f i = f' i) : R1 w b cap n f' := by
  obtain ⟨cur, h1, h2, h3, h4⟩ := h
  exact ⟨cur, h1, h2, h3, fun i hi => by rw [h4 i hi, hf i hi]⟩
theorem R1.setOther (h : R1 w b cap n f) {a : Addr} (ha : b ≠ a.block) (v : Value) : R1 (w.setCell a v) b cap n f := h.of_block (Go.Deep.blk_setCell_other _ _ _ _ ha)
theorem R1.set (h : R1 w b cap n f) (i : Nat) (x : Nat) : R1 (w.setCell ⟨b, i, none⟩ (.int .u64 x)) b cap n (fun j => if j = i then x else f j) := by
  obtain ⟨cur, h1, h2, h3, h4⟩ := h
  refine ⟨cur.setIfInBounds i (.int .u64 x), ?_, h2, by simp; exact h3, ?_⟩
  · simp [World.setCell, h1, Array.getElem?_modify]
  · intro j hj
    rw [Array.getElem?_setIfInBounds]
    by_cases e : j = i
    · subst e; simp; omega
    · simp [e, show ¬ i = j by omega]
      exact h4 j hj
theorem R1.made (w : World) (n : Nat) : R1 (w.alloc (.cells (madeCells #[.int .u64 0] n) 25)) w.heap.size n n (fun _ => 0) := by
  obtain ⟨cur, h1, h2, h3⟩ := World.rowIs_made w (.int .u64 0) n 25
  exact ⟨cur, h1, Nat.le_refl _, by omega, h3⟩
end

/-- A table: rows of width cells. -/
structure M2 (w : World) (b cap rows width : Nat) (V : Nat → Nat → Nat) : Prop where
  ex : ∃ cur : Array Value, w.heap[b]? = some (.cells cur 25 (0, 0)) ∧ rows * width ≤ cap ∧ cap ≤ cur.size ∧ ∀ m, m < rows → ∀ j, j < width → cur[m * width + j]? = some (.int .u64 (V m j))

theorem at_inj {width m j m' j' : Nat} (hj : j < width) (hj' : j' < width) (h : m * width + j = m' * width + j') : m = m' ∧ j = j' := by
  have hw : 0 < width := by omega
  have e1 : (m * width + j) / width = m := by rw [Nat.add_comm, Nat.add_mul_div_right _ _ hw, Nat.div_eq_of_lt hj]; omega
  have e2 : (m' * width + j') / width = m' := by rw [Nat.add_comm, Nat.add_mul_div_right _ _ hw, Nat.div_eq_of_lt hj']; omega
  have e : m = m' := by rw [← e1, h, e2]
  subst e
  exact ⟨rfl, by omega⟩
theorem at_lt {rows width m j : Nat} (hm : m < rows) (hj : j < width) : m * width + j < rows * width := by
  have h := Nat.mul_le_mul_right width hm
  rw [Nat.succ_mul] at h
  omega

section
variable {w w' : World} {b cap rows width : Nat} {V V' : Nat → Nat → Nat}
theorem M2.of_block (h : M2 w b cap rows width V) (hb : w'.heap[b]? = w.heap[b]?) : M2 w' b cap rows width V := by
  obtain ⟨cur, h1, h2⟩ := h
  exact ⟨cur, hb.trans h1, h2⟩
theorem M2.lt (h : M2 w b cap rows width V) : b < w.heap.size := by
  obtain ⟨cur, h1, _⟩ := h
  rcases Nat.lt_or_ge b w.heap.size with hlt | hge
  · exact hlt
  · rw [Array.getElem?_eq_none hge] at h1; cases h1
theorem M2.cell (h : M2 w b cap rows width V) {m j : Nat} (hm : m < rows) (hj : j < width) : w.cell? ⟨b, m * width + j, none⟩ = some (.int .u64 (V m j)) := by
  obtain ⟨cur, h1, _, _, h4⟩ := h
  rw [cell_of_row w b _ cur 25 (0, 0) h1]
  exact h4 m hm j hj
theorem M2.frozen (h : M2 w b cap rows width V) (i : Nat) : w.frozen? ⟨b, i, none⟩ = false := by
  obtain ⟨cur, h1, _⟩ := h
  simp [World.frozen?, h1]
theorem M2.below (h : M2 w b cap rows width V) (hb : Below w.heap.size w w') : M2 w' b cap rows width V := h.of_block (hb.block b h.lt)
theorem M2.congr (h : M2 w b cap rows width V) (hf : ∀ m, m < rows → ∀ j, j < width → V m j = V' m j) : M2 w b cap rows width V' := by
  obtain ⟨cur, h1, h2, h3, h4⟩ := h
  exact ⟨cur, h1, h2, h3, fun m hm j hj => by rw [h4 m hm j hj, hf m hm j hj]⟩
theorem M2.setOther (h : M2 w b cap rows width V) {a : Addr} (ha : b ≠ a.block) (v : Value) : M2 (w.setCell a v) b cap rows width V := h.of_block (Go.Deep.blk_setCell_other _ _ _ _ ha)
theorem M2.set (h : M2 w b cap rows width V) {m0 j0 : Nat} (hm0 : m0 < rows) (hj0 : j0 < width) (x : Nat) : M2 (w.setCell ⟨b, m0 * width + j0, none⟩ (.int .u64 x)) b cap rows width (fun m j => if m = m0 ∧ j = j0 then x else V m j) := by
  obtain ⟨cur, h1, h2, h3, h4⟩ := h
  refine ⟨cur.setIfInBounds (m0 * width + j0) (.int .u64 x), ?_, h2, by simp; exact h3, ?_⟩
  · simp [World.setCell, h1, Array.getElem?_modify]
  · intro m hm j hj
    rw [Array.getElem?_setIfInBounds]
    by_cases e : m = m0 ∧ j = j0
    · obtain ⟨rfl, rfl⟩ := e
      have := at_lt hm hj
      simp
      omega
    · have hne : ¬ (m0 * width + j0 = m * width + j) := fun h => e (by have := at_inj hj0 hj h; omega)
      rw [if_neg hne, if_neg e]
      exact h4 m hm j hj
theorem M2.made (w : World) (rows width N : Nat) (hN : N = rows * width) : M2 (w.alloc (.cells (madeCells #[.int .u64 0] N) 25)) w.heap.size N rows width (fun _ _ => 0) := by
  obtain ⟨cur, h1, h2, h3⟩ := World.rowIs_made w (.int .u64 0) N 25
  exact ⟨cur, h1, by omega, by omega, fun m hm j hj => h3 _ (by have := at_lt hm hj; omega)⟩
end

theorem info25 : (Yba.prog.info? 25).map (fun i => (i.zero, i.size, i.bytes)) = some (some (.int .u64 0), 1, 8) := by kernel_rfl

/-- The weights. -/
def wt (T : Nat → Nat) (m : Nat) : Nat := if m = 0 then T 0 else T m - T (m - 1)
def avOf (rows : Nat) (al : Option Nat) : Value := match al with | none => .slice none 0 0 | some ab => .slice (some ⟨ab, 0, none⟩) rows rows
def arrOf (al : Option Nat) (T A : Nat → Nat) (m : Nat) : Nat := match al with | none => T m | some _ => A m
structure Wt (w : World) (y tb rows : Nat) (al : Option Nat) (T A : Nat → Nat) : Prop where
  c0 : w.cell? ⟨y, 0, none⟩ = some (.slice (some ⟨tb, 0, none⟩) rows rows)
  c1 : w.cell? ⟨y, 1, none⟩ = some (avOf rows al)
  yl : y < w.heap.size
  t : R1 w tb rows rows T
  a : ∀ ab, al = some ab → R1 w ab rows rows A
  up : ∀ m, 0 < m → m < rows → T (m - 1) < T m
  t0 : ∀ m, m < rows → 1 ≤ T m ∧ T m ≤ 100000000
  a0 : ∀ m, m < rows → 1 ≤ A m ∧ A m ≤ 4294967296
theorem Wt.below {w w' : World} {y tb rows : Nat} {al : Option Nat} {T A : Nat → Nat} (h : Wt w y tb rows al T A) (hb : Below w.heap.size w w') : Wt w' y tb rows al T A :=
  ⟨(hb.cell (p := ⟨y, 0, none⟩) h.yl).trans h.c0, (hb.cell (p := ⟨y, 1, none⟩) h.yl).trans h.c1, Nat.lt_of_lt_of_le h.yl hb.size, h.t.below hb, fun ab e => (h.a ab e).below hb, h.up, h.t0, h.a0⟩
theorem Wt.arr {w : World} {y tb rows : Nat} {al : Option Nat} {T A : Nat → Nat} (h : Wt w y tb rows al T A) {m : Nat} (hm : m < rows) : 1 ≤ arrOf al T A m ∧ arrOf al T A m ≤ 4294967296 := by
  have h1 := h.t0 m hm
  have h2 := h.a0 m hm
  cases al <;> simp only [arrOf] <;> omega
theorem Wt.wt {w : World} {y tb rows : Nat} {al : Option Nat} {T A : Nat → Nat} (h : Wt w y tb rows al T A) {m : Nat} (hm : m < rows) : wt T m ≤ 100000000 := by
  have h1 := h.t0 m hm
  simp only [Tb.wt]
  split
  · rename_i e; subst e; omega
  · omega

theorem eql_nil (a : Option Addr) (l c : Nat) (w : World) : (binOp .eql 26 (.slice a l c) (.slice none 0 0)).run Yba.prog w = .ok (.bool a.isNone) w := by
  simp only [binOp]
  simp [run_equal_slice_nil w 26 25 a l c Yba.underlying26]

theorem slotWeight_any {w : World} {tb rows : Nat} {T : Nat → Nat} (h : R1 w tb rows rows T) (m : Nat) (hm : m < rows) (hr : rows ≤ 1024) (up : 0 < m → T (m - 1) < T m) (hT : T m ≤ 100000000) :
    Calls Yba.prog 13 #[.slice (some ⟨tb, 0, none⟩) rows rows, .int .i64 m] w fun e w' => e = .returned (.int .u64 (wt T m)) ∧ Below w.heap.size w w' := by
  have c1 := h.cell hm
  rcases Nat.eq_zero_or_pos m with rfl | h0
  · go_enter Yba.func13, Yba.ntmps13
    go_wp2
    go_ret
    exact ⟨by simp [wt], Below.refl _ _⟩
  · obtain ⟨p, rfl⟩ : ∃ p, m = p + 1 := ⟨m - 1, by omega⟩
    have c2 := h.cell (i := p) (by omega)
    have hup := up h0
    simp only [Nat.add_sub_cancel] at hup
    clear up
    have hw : ((wt T (p + 1) : Nat) : Int) = (T (p + 1) : Int) - (T p : Int) := by simp [wt]; omega
    have HW := (show Hid _ from hw)
    clear hw
    go_enter Yba.func13, Yba.ntmps13
    go_wp2
    go_region
    go_wp2
    go_ret
    exact ⟨by rw [HW.out]; rfl, (Below.refl _ _).drew⟩

theorem arrival_any {w : World} {y tb rows : Nat} {al : Option Nat} {T A : Nat → Nat} (h : Wt w y tb rows al T A) (m : Nat) (hm : m < rows) :
    Calls Yba.prog 12 #[.pointer (some ⟨y, 0, none⟩), .int .i64 m] w fun e w' => e = .returned (.int .u64 (arrOf al T A m)) ∧ Below w.heap.size w w' := by
  have k0 := h.c0
  have k1 := h.c1
  have c1 := h.t.cell hm
  cases al with
  | none =>
    have hn := eql_nil none 0 0
    simp only [avOf] at k1
    clear h
    go_enter Yba.func12, Yba.ntmps12
    go_wp2
    go_ret
    exact ⟨rfl, Below.refl _ _⟩
  | some ab =>
    have c2 := (h.a ab rfl).cell hm
    simp only [avOf] at k1
    have hn := eql_nil (some ⟨ab, 0, none⟩) rows rows
    clear h
    go_enter Yba.func12, Yba.ntmps12
    go_wp2
    go_ret
    exact ⟨rfl, Below.refl _ _⟩
end Go.Proofs.Ybulkbury.Tb
