import Derived.Test.YbulkbuncRows
import Derived.WalkKit
import Derived.WalkSmall
import Derived.Deep.QuietTactic
import Derived.BigQuiet
import Derived.Deep.RegionWith
import Derived.Deep.OwnRows
import Derived.Deep.DeepCutAuto
import Derived.ArgAppend
import Derived.BigRegion
namespace Go.Proofs.Ybulkbunc.Pk
open Go.RowKit

/-- How many of P's first m values are v. -/
def cnt (P : Nat → Int) : Nat → Int → Int
  | 0, _ => 0
  | m + 1, v => cnt P m v + if P m = v then 1 else 0

theorem cnt_nonneg (P : Nat → Int) (v : Int) : ∀ m, 0 ≤ cnt P m v
  | 0 => by simp [cnt]
  | m + 1 => by have := cnt_nonneg P v m; simp only [cnt]; split <;> omega
theorem cnt_le (P : Nat → Int) (v : Int) : ∀ m, cnt P m v ≤ m
  | 0 => by simp [cnt]
  | m + 1 => by have := cnt_le P v m; simp only [cnt]; split <;> omega
theorem cnt_pos {P : Nat → Int} {v : Int} : ∀ {m : Nat} {i : Nat}, i < m → P i = v → 0 < cnt P m v
  | 0, _, h, _ => by omega
  | m + 1, i, h, e => by
    have hn := cnt_nonneg P v m
    simp only [cnt]
    by_cases hi : i = m
    · subst hi; simp [e]; omega
    · have := cnt_pos (m := m) (i := i) (by omega) e
      split <;> omega
theorem cnt_some {P : Nat → Int} {v : Int} : ∀ {m : Nat}, cnt P m v ≠ 0 → ∃ i, i < m ∧ P i = v
  | 0, h => by simp [cnt] at h
  | m + 1, h => by
    simp only [cnt] at h
    by_cases e : P m = v
    · exact ⟨m, by omega, e⟩
    · simp [e] at h
      obtain ⟨i, hi, hp⟩ := cnt_some h
      exact ⟨i, by omega, hp⟩
theorem cnt_congr {P Q : Nat → Int} {v : Int} : ∀ {m : Nat}, (∀ i, i < m → P i = Q i) → cnt P m v = cnt Q m v
  | 0, _ => rfl
  | m + 1, h => by
    simp only [cnt]
    rw [cnt_congr (m := m) (fun i hi => h i (by omega)), h m (by omega)]
theorem cnt_set {P : Nat → Int} {v x : Int} {i : Nat} : ∀ {m : Nat}, i < m → cnt (fun j => if j = i then x else P j) m v = cnt P m v + (if x = v then 1 else 0) - (if P i = v then 1 else 0)
  | 0, h => by omega
  | m + 1, h => by
    simp only [cnt]
    by_cases hi : i = m
    · subst hi
      rw [cnt_congr (P := fun j => if j = i then x else P j) (Q := P) (m := i) (fun j hj => by simp [show j ≠ i by omega])]
      simp
      omega
    · rw [cnt_set (m := m) (by omega)]
      simp only [show m ≠ i by omega, if_false]
      omega
theorem cnt_out {P : Nat → Int} {v : Int} {i m : Nat} (h : i < m + 1) : cnt (fun j => if j = i then P m else P j) m v = cnt P (m + 1) v - (if P i = v then 1 else 0) := by
  have e := cnt_set (P := P) (v := v) (x := P m) (i := i) (m := m + 1) h
  have e2 : cnt (fun j => if j = i then P m else P j) (m + 1) v = cnt (fun j => if j = i then P m else P j) m v + if P m = v then 1 else 0 := by
    show cnt _ m v + (if (if m = i then P m else P m) = v then 1 else 0) = _
    simp
  omega

/-- An append whose run is known, at a plain region's list. -/
theorem wpList_append_run {P : Program} {w w' : World} {ops : Array Oper} {rest : List Oper} {o : Oper} {a : Act} {Q : Exit → Act → World → Prop} (hgd : o.guard = none) (s x : Operand) (t : TypeId)
    (ho : o.op = .call { callee := .builtin .append, args := #[s, x], argTypes := #[t, t] }) {v vx r : Value} (hs : a.eval s = v) (hx : a.eval x = vx)
    (hr : (Builtin.append_ #[t, t] o.type #[v, vx]).run P w = .ok r w') (h : wpList P ops Q rest (a.put o.dst r) w') : wpList P ops Q (o :: rest) a w :=
  wpList_plain hgd fun _ hK => by
    unfold Oper.wp execOp
    simp only [ho, resolve, invoke, builtin, Sem.run_bind, Sem.run_pure, Result.andThen_ok, List.map_toArray, List.map_cons, List.map_nil, hs, hx, hr]
    exact hK _ _ h

/-- A slice's cells: n of them from off on, room for cap, in a block of the call's own. -/
structure Sl (w : World) (e g off cap n : Nat) (f : Nat → Int) : Prop where
  ex : ∃ cur : Array Value, w.heap[g]? = some (.cells cur e (0, 0)) ∧ n ≤ cap ∧ off + cap ≤ cur.size ∧ ∀ i, i < n → cur[off + i]? = some (.int .i64 (f i))

section
variable {w w' : World} {e g off cap n : Nat} {f f' : Nat → Int}
theorem Sl.of_block (h : Sl w e g off cap n f) (hb : w'.heap[g]? = w.heap[g]?) : Sl w' e g off cap n f := by
  obtain ⟨cur, h1, h2⟩ := h
  exact ⟨cur, hb.trans h1, h2⟩
theorem Sl.lt (h : Sl w e g off cap n f) : g < w.heap.size := by
  obtain ⟨cur, h1, _⟩ := h
  rcases Nat.lt_or_ge g w.heap.size with hlt | hge
  · exact hlt
  · rw [Array.getElem?_eq_none hge] at h1; cases h1
theorem Sl.le (h : Sl w e g off cap n f) : n ≤ cap := by
  obtain ⟨_, _, h2, _⟩ := h
  exact h2
theorem Sl.cell (h : Sl w e g off cap n f) {i : Nat} (hi : i < n) : w.cell? ⟨g, off + i, none⟩ = some (.int .i64 (f i)) := by
  obtain ⟨cur, h1, _, _, h4⟩ := h
  rw [cell_of_row w g (off + i) cur e (0, 0) h1]
  exact h4 i hi
theorem Sl.there (h : Sl w e g off cap n f) {i : Nat} (hi : i < cap) : (w.cell? ⟨g, off + i, none⟩).isSome = true := by
  obtain ⟨cur, h1, _, h3, _⟩ := h
  rw [cell_of_row w g (off + i) cur e (0, 0) h1]
  simp
  omega
theorem Sl.frozen (h : Sl w e g off cap n f) (i : Nat) : w.frozen? ⟨g, i, none⟩ = false := by
  obtain ⟨cur, h1, _⟩ := h
  simp [World.frozen?, h1]
theorem Sl.drew (h : Sl w e g off cap n f) : Sl w.drew e g off cap n f := ⟨h.ex⟩
theorem Sl.alloc (h : Sl w e g off cap n f) (o : Obj) : Sl (w.alloc o) e g off cap n f := h.of_block (Go.Deep.blk_alloc_lt _ _ _ h.lt)
theorem Sl.congr (h : Sl w e g off cap n f) (hf : ∀ i, i < n → f i = f' i) : Sl w e g off cap n f' := by
  obtain ⟨cur, h1, h2, h3, h4⟩ := h
  exact ⟨cur, h1, h2, h3, fun i hi => by rw [h4 i hi, hf i hi]⟩
theorem Sl.setOther (h : Sl w e g off cap n f) {a : Addr} (ha : g ≠ a.block) (v : Value) : Sl (w.setCell a v) e g off cap n f := h.of_block (Go.Deep.blk_setCell_other _ _ _ _ ha)
theorem Sl.set (h : Sl w e g off cap n f) (i : Nat) (x : Int) : Sl (w.setCell ⟨g, off + i, none⟩ (.int .i64 x)) e g off cap n (fun j => if j = i then x else f j) := by
  obtain ⟨cur, h1, h2, h3, h4⟩ := h
  refine ⟨cur.setIfInBounds (off + i) (.int .i64 x), ?_, h2, by simp; exact h3, ?_⟩
  · simp [World.setCell, h1, Array.getElem?_modify]
  · intro j hj
    rw [Array.getElem?_setIfInBounds]
    by_cases e : j = i
    · subst e; simp; omega
    · simp [e, show ¬ i = j by omega]
      exact h4 j hj
/-- The last element falls away. -/
theorem Sl.init (h : Sl w e g off cap n f) {m : Nat} (hm : m ≤ n) : Sl w e g off cap m f := by
  obtain ⟨cur, h1, h2, h3, h4⟩ := h
  exact ⟨cur, h1, by omega, h3, fun i hi => h4 i (by omega)⟩
/-- The first element falls away. -/
theorem Sl.tail (h : Sl w e g off cap (n + 1) f) : Sl w e g (off + 1) (cap - 1) n (fun i => f (i + 1)) := by
  obtain ⟨cur, h1, h2, h3, h4⟩ := h
  exact ⟨cur, h1, by omega, by omega, fun i hi => by rw [show off + 1 + i = off + (i + 1) by omega]; exact h4 (i + 1) (by omega)⟩
end

theorem info3 : (Yba.prog.info? 3).map (fun i => (i.zero, i.size, i.bytes)) = some (some (.int .i64 0), 1, 8) := by kernel_rfl
theorem info2 : (Yba.prog.info? 2).map (fun i => (i.zero, i.size, i.bytes)) = some (some (.int .i64 0), 1, 8) := by kernel_rfl

section
variable {w : World} {e g off cap n : Nat} {f : Nat → Int}
/-- What append has made is a slice of the call's own. -/
theorem Sl.of_owns {w' : World} {v : Value} {H m : Nat} {xs : List Value} {h : Nat → Int} (ho : w'.ownsRow H e 1 v m xs) (hm : 0 < m) (hx : ∀ i, i < m → xs[i]? = some (.int .i64 (h i))) :
    ∃ g' cap', v = .slice (some ⟨g', 0, none⟩) m cap' ∧ H ≤ g' ∧ Sl w' e g' 0 cap' m h := by
  rcases ho.2 with ⟨_, h0⟩ | ⟨g', cap', cur, hv, hb, hg, hc, _, hz, ht⟩
  · omega
  · refine ⟨g', cap', hv, hb, cur, hg, hc, by omega, ?_⟩
    intro i hi
    have e1 := hx i hi
    rw [← ht, List.getElem?_take] at e1
    simp only [Nat.mul_one, hi, if_true] at e1
    simpa using e1

theorem run_append1 {t ty : TypeId} (hu : Yba.prog.underlying t = some (.slice e)) (hinfo : (Yba.prog.info? e).map (fun i => (i.zero, i.size, i.bytes)) = some (some (.int .i64 0), 1, 8))
    (hs : Sl w e g off cap n f) {b : Nat} {x : Int} (hx : w.cell? ⟨b, 0, none⟩ = some (.int .i64 x)) (hn : n < 1099511627776) :
    ∃ g' off' cap' w', (Builtin.append_ #[t, t] ty #[.slice (some ⟨g, off, none⟩) n cap, .slice (some ⟨b, 0, none⟩) 1 1]).run Yba.prog w = .ok (.slice (some ⟨g', off', none⟩) (n + 1) cap') w' ∧
      Sl w' e g' off' cap' (n + 1) (fun i => if i = n then x else f i) ∧ (g' = g ∨ w.heap.size ≤ g') ∧ w.grownBy w' (some g) := by
  obtain ⟨i0, hi, hz0, hz1, hz2⟩ := info_parts hinfo
  have hnews : ∀ j u, [Value.int .i64 x][j]? = some u → w.cell? ((⟨b, 0, none⟩ : Addr).add j) = some u := by
    intro j u hj
    match j, hj with
    | 0, hj => simp at hj; subst hj; simpa [Addr.add] using hx
  by_cases hr : n + 1 ≤ cap
  · have hrun := run_append_room_cells (P := Yba.prog) w t ty e i0 hu hi g off n cap ⟨b, 0, none⟩ 1 1 [.int .i64 x] (by simp [hz1]) hnews (by intro u hu; simp at hu; subst hu; rfl) hr
      (by intro j hj; simp at hj; subst hj; rw [hz1]; simpa using hs.there (i := n) (by omega)) (by intro j _; exact hs.frozen _)
    rw [hz1] at hrun
    refine ⟨g, off, cap, _, hrun, ?_, .inl rfl, ?_⟩
    · obtain ⟨cur, h1, h2, h3, h4⟩ := hs
      simp only [World.setCells, Nat.mul_one]
      refine ⟨cur.setIfInBounds (off + n) (.int .i64 x), ?_, hr, by simp; exact h3, ?_⟩
      · simp [World.setCell, h1, Array.getElem?_modify]
      · intro j hj
        rw [Array.getElem?_setIfInBounds]
        by_cases ej : j = n
        · subst ej; simp; omega
        · simp [ej, show ¬ n = j by omega]
          exact h4 j (by omega)
    · simp only [World.setCells]
      exact ⟨rfl, rfl, rfl, by simp [World.setCell], fun k _ hk => Go.Deep.blk_setCell_other _ _ _ _ (by intro h; exact hk (by rw [h]))⟩
  · obtain ⟨v', w', hrun, hown, hgr⟩ := run_append_arg_grows (P := Yba.prog) w t ty e i0 (.int .i64 0) 1 8 hu hi hz0 hz1 hz2 rfl (by decide) ⟨g, off, none⟩ n cap ((List.range n).map fun i => .int .i64 (f i)) (by simp)
      (by
        intro j u hj
        have hjn : j < n := by
          rcases Nat.lt_or_ge j n with h | h
          · exact h
          · rw [List.getElem?_eq_none (by simpa using h)] at hj; cases hj
        simp [hjn] at hj
        subst hj
        rw [Addr.add_lit]
        exact hs.cell hjn)
      ⟨b, 0, none⟩ 1 1 [.int .i64 x] (by simp) hnews (by omega) (by simp only [maxLen]; omega) (by omega)
    obtain ⟨g', cap', rfl, hg', hsl⟩ := Sl.of_owns (h := fun i => if i = n then x else f i) hown (by omega) (by
      intro i hi'
      by_cases ei : i = n
      · subst ei; rw [List.getElem?_append_right (by simp)]; simp
      · rw [List.getElem?_append_left (by simp; omega)]
        simp [ei, show i < n by omega])
    exact ⟨g', 0, cap', w', hrun, hsl, .inr hg', hgr.os, hgr.tape, hgr.output, hgr.size, fun k hk _ => hgr.block k hk (by simp)⟩
end

end Go.Proofs.Ybulkbunc.Pk
