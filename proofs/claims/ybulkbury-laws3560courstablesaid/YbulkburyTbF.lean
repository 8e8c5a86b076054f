import Derived.Test.YbulkburyTbE
import Derived.ArgAppend
namespace Go.Proofs.Ybulkbury.Tb
open Go.RowKit

/-- An append whose run is known, at a plain region's list. -/
theorem wpList_append_run {P : Program} {w w' : World} {ops : Array Oper} {rest : List Oper} {o : Oper} {a : Act} {Q : Exit → Act → World → Prop} (hgd : o.guard = none) (s x : Operand) (t : TypeId)
    (ho : o.op = .call { callee := .builtin .append, args := #[s, x], argTypes := #[t, t] }) {v vx r : Value} (hs : a.eval s = v) (hx : a.eval x = vx)
    (hr : (Builtin.append_ #[t, t] o.type #[v, vx]).run P w = .ok r w') (h : wpList P ops Q rest (a.put o.dst r) w') : wpList P ops Q (o :: rest) a w :=
  wpList_plain hgd fun _ hK => by
    unfold Oper.wp execOp
    simp only [ho, resolve, invoke, builtin, Sem.run_bind, Sem.run_pure, Result.andThen_ok, List.map_toArray, List.map_cons, List.map_nil, hs, hx, hr]
    exact hK _ _ h

theorem R1.of_owns {w' : World} {v : Value} {H m : Nat} {xs : List Value} {h : Nat → Nat} (ho : w'.ownsRow H 25 1 v m xs) (hm : 0 < m) (hx : ∀ i, i < m → xs[i]? = some (.int .u64 (h i))) :
    ∃ g' cap', v = .slice (some ⟨g', 0, none⟩) m cap' ∧ H ≤ g' ∧ R1 w' g' cap' m h := by
  rcases ho.2 with ⟨_, h0⟩ | ⟨g', cap', cur, hv, hb, hg, hc, _, hz, ht⟩
  · omega
  · refine ⟨g', cap', hv, hb, cur, hg, hc, by omega, ?_⟩
    intro i hi
    have e1 := hx i hi
    rw [← ht, List.getElem?_take] at e1
    simp only [Nat.mul_one, hi, if_true] at e1
    simpa using e1

/-- An append onto an empty slice: a copy. -/
theorem run_copy {w : World} {b off n cap : Nat} {f : Nat → Nat} (a0 : Addr) (hc : ∀ i, i < n → w.cell? ⟨b, off + i, none⟩ = some (.int .u64 (f i))) (hn : 0 < n) (hN : n ≤ 33792) :
    ∃ g cap' w', (∀ ty, (Builtin.append_ #[26, 26] ty #[.slice (some a0) 0 0, .slice (some ⟨b, off, none⟩) n cap]).run Yba.prog w = .ok (.slice (some ⟨g, 0, none⟩) n cap') w') ∧ R1 w' g cap' n f ∧ w.heap.size ≤ g ∧ Below w.heap.size w w' := by
  obtain ⟨i0, hi, hz0, hz1, hz2⟩ := info_parts info25
  obtain ⟨v', w', hrun, hown, hgr⟩ := run_append_arg_grows (P := Yba.prog) w 26 0 25 i0 (.int .u64 0) 1 8 Yba.underlying26 hi hz0 hz1 hz2 rfl (by decide) a0 0 0 [] (by simp) (by intro j u hj; simp at hj)
    ⟨b, off, none⟩ n cap ((List.range n).map fun (i : Nat) => .int .u64 (f i)) (by simp)
    (by
      intro j u hj
      have hjn : j < n := by
        rcases Nat.lt_or_ge j n with h | h
        · exact h
        · rw [List.getElem?_eq_none (by simpa using h)] at hj; cases hj
      simp [hjn] at hj
      subst hj
      rw [Addr.add_lit]
      exact hc j hjn) (by omega) (by simp only [maxLen]; omega) (by omega)
  rw [Nat.zero_add, List.nil_append] at hown
  obtain ⟨g', cap', rfl, hg', hsl⟩ := R1.of_owns (h := f) hown hn (by intro i hi'; simp [hi'])
  exact ⟨g', cap', w', fun ty => hrun, hsl, hg', hgr.os, hgr.tape, hgr.output, hgr.size, fun k hk => hgr.block k hk (by simp)⟩

set_option maxHeartbeats 1000000 in
theorem clone_any {w : World} {b off n cap : Nat} {f : Nat → Nat} (hc : ∀ i, i < n → w.cell? ⟨b, off + i, none⟩ = some (.int .u64 (f i))) (hb : b < w.heap.size) (hn : 0 < n) (hN : n ≤ 33792) :
    Calls Yba.prog 25 #[.slice (some ⟨b, off, none⟩) n cap] w fun e w' => ∃ g cap', e = .returned (.slice (some ⟨g, 0, none⟩) n cap') ∧ R1 w' g cap' n f ∧ w.heap.size ≤ g ∧ Below w.heap.size w w' := by
  have hnil := eql_nil (some ⟨b, off, none⟩) n cap
  have hbel : Below w.heap.size w (w.alloc (.cells #[] 25)) := (Below.refl _ _).alloc (Nat.le_refl _) _
  obtain ⟨g, cap', w2, hrun, hR, hg, hb2⟩ := run_copy (w := w.alloc (.cells #[] 25)) (cap := cap) ⟨w.heap.size, 0, none⟩ (fun i hi => (hbel.cell (p := ⟨b, off + i, none⟩) hb).trans (hc i hi)) hn hN
  have HR := (show Hid (_ ∧ _ ∧ _) from ⟨hR, hg, hb2⟩)
  clear hc hR hg hb2 hbel
  go_enter Yba.func25, Yba.ntmps25
  go_wp2_with (at_builtin; refine wpList_append_run rfl (.tmp 5) (.tmp 6) 26 rfl rfl rfl (hrun _) ?_)
  go_ret
  obtain ⟨hR, hg, hb2⟩ := HR.out
  have hbel : Below w.heap.size w (w.alloc (.cells #[] 25)) := (Below.refl _ _).alloc (Nat.le_refl _) _
  exact ⟨_, _, rfl, hR, by simp at hg; omega, hbel.trans (hb2.mono hbel.size)⟩

/-- A row read as a table. -/
theorem M2.of_row {w : World} {b cap rows width N : Nat} {f : Nat → Nat} {V : Nat → Nat → Nat} (h : R1 w b cap N f) (hN : N = rows * width) (hf : ∀ m, m < rows → ∀ j, j < width → f (m * width + j) = V m j) : M2 w b cap rows width V := by
  obtain ⟨cur, h1, h2, h3, h4⟩ := h
  exact ⟨cur, h1, by omega, h3, fun m hm j hj => by rw [h4 _ (by have := at_lt hm hj; omega), hf m hm j hj]⟩
theorem flat {width m j : Nat} (hj : j < width) : (m * width + j) / width = m ∧ (m * width + j) % width = j := by
  have hw : 0 < width := by omega
  constructor
  · rw [Nat.add_comm, Nat.add_mul_div_right _ _ hw, Nat.div_eq_of_lt hj]; omega
  · rw [Nat.add_comm, Nat.add_mul_mod_self_right, Nat.mod_eq_of_lt hj]
end Go.Proofs.Ybulkbury.Tb
