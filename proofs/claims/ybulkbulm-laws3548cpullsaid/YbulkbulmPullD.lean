import Derived.Test.YbulkbulmPullC
import Derived.ChangeKeysEq
namespace Go.Proofs.Ybulkbulm.Pu
open Go.RowKit
attribute [local go_sem ↓] Go.wp_at_zero Go.wp_at_succ

theorem guard32 : Yba.prog.eqGuardType Yba.prog.depth 32 = false := by kernel_rfl
theorem info2 : (Yba.prog.info? 2).isSome = true := by kernel_rfl
theorem cells2 : Yba.prog.cellsOf 2 = 1 := by kernel_rfl

/-- Two arrays of the same three numbers are equal. -/
theorem eql32 (a b c : Int) (w : World) :
    (binOp .eql 32 (.agg #[.int .i64 a, .int .i64 b, .int .i64 c]) (.agg #[.int .i64 a, .int .i64 b, .int .i64 c])).run Yba.prog w = .ok (.bool true) w := by
  obtain ⟨i, hi⟩ := Option.isSome_iff_exists.1 info2
  rw [run_eql_struct, run_equalIn_array w 9999 _ _ Yba.underlying32 hi, cells2]
  simp [List.range, List.range.loop, Op.eqItems, go_sem, Yba.underlying2]

theorem csame_no (f l g s0 s1 s2 l0 l1 l2 h0 h1 h2 : Int) (w : World) :
    Calls Yba.prog 13 #[.pointer none, .agg #[.bool false, .int .i64 f, .int .i64 l, .int .i64 g, .int .i64 s0, .int .i64 s1, .int .i64 s2, .int .i64 l0, .int .i64 l1, .int .i64 l2, .int .i64 h0, .int .i64 h1, .int .i64 h2]] w fun e w' => e = .returned (.bool true) ∧ Below w.heap.size w w' := by
  have hneq := fun w => run_eql_pointer_nil (P := Yba.prog) w 35 none Yba.underlying35
  go_enter Yba.func13, Yba.ntmps13
  go_wp2
  go_ret
  exact ⟨rfl, (Below.refl _ _).alloc (Nat.le_refl _) _⟩

theorem keepD {w W w1 : World} {x : Nat} {C D : List Value} (h : (∀ o, W.cell? ⟨w.heap.size, o, none⟩ = C[o]?) ∧ (∀ o, W.cell? ⟨x, o, none⟩ = D[o]?) ∧ Below w.heap.size w W ∧ w.heap.size < W.heap.size ∧ x < w.heap.size) (hb : Below W.heap.size W w1) :
    (∀ o, w1.cell? ⟨w.heap.size, o, none⟩ = C[o]?) ∧ (∀ o, w1.cell? ⟨x, o, none⟩ = D[o]?) ∧ Below w.heap.size w w1 ∧ w.heap.size < w1.heap.size ∧ x < w.heap.size :=
  ⟨fun o => (hb.cell (p := ⟨w.heap.size, o, none⟩) h.2.2.2.1).trans (h.1 o), fun o => (hb.cell (p := ⟨x, o, none⟩) (Nat.lt_trans h.2.2.2.2 h.2.2.2.1)).trans (h.2.1 o), h.2.2.1.trans (hb.mono (Nat.le_of_lt h.2.2.2.1)), Nat.lt_of_lt_of_le h.2.2.2.1 hb.size, h.2.2.2.2⟩
theorem keepD_new {w : World} {x : Nat} (C : List Value) {D : List Value} (t : TypeId) (hx : Blk w x 44 D) :
    (∀ o, (w.alloc (.cells C.toArray t)).drew.cell? ⟨w.heap.size, o, none⟩ = C[o]?) ∧ (∀ o, (w.alloc (.cells C.toArray t)).drew.cell? ⟨x, o, none⟩ = D[o]?) ∧ Below w.heap.size w (w.alloc (.cells C.toArray t)).drew ∧ w.heap.size < (w.alloc (.cells C.toArray t)).drew.heap.size ∧ x < w.heap.size :=
  ⟨fun o => (Blk.new w t C).drew.cell o, fun o => (hx.alloc _).drew.cell o, ((Below.refl _ _).alloc (Nat.le_refl _) _).drew, by show w.heap.size < (w.heap.push _).size; simp, hx.lt⟩
theorem finD {w W : World} {x : Nat} {C D : List Value} (h : (∀ o, W.cell? ⟨w.heap.size, o, none⟩ = C[o]?) ∧ (∀ o, W.cell? ⟨x, o, none⟩ = D[o]?) ∧ Below w.heap.size w W ∧ w.heap.size < W.heap.size ∧ x < w.heap.size) : Below w.heap.size w W := h.2.2.1

set_option maxHeartbeats 8000000 in
set_option maxRecDepth 100000 in
theorem csame_yes (x : Nat) (f l g s0 s1 s2 l0 l1 l2 h0 h1 h2 : Int) (w : World) (hx : Blk w x 44 (halfMom f l g s0 s1 s2 l0 l1 l2 h0 h1 h2)) :
    Calls Yba.prog 13 #[.pointer (some ⟨x, 0, none⟩), .agg #[.bool true, .int .i64 f, .int .i64 l, .int .i64 g, .int .i64 s0, .int .i64 s1, .int .i64 s2, .int .i64 l0, .int .i64 l1, .int .i64 l2, .int .i64 h0, .int .i64 h1, .int .i64 h2]] w fun e w' => e = .returned (.bool true) ∧ Below w.heap.size w w' := by
  have HX := (show Hid _ from hx)
  have hneq := fun w => run_neq_pointer_nil (P := Yba.prog) w 35 (some ⟨x, 0, none⟩) Yba.underlying35
  have hnil := fun w => run_eql_pointer_nil (P := Yba.prog) w 35 none Yba.underlying35
  have h32 := eql32
  have hg := guard32
  clear hx
  go_enter Yba.func13, Yba.ntmps13
  go_wp2_with fail
  dsimp only [List.append]
  go_region_held3 (fun w' => (∀ o, w'.cell? ⟨w.heap.size, o, none⟩ = [.bool true, .int .i64 f, .int .i64 l, .int .i64 g, .int .i64 s0, .int .i64 s1, .int .i64 s2, .int .i64 l0, .int .i64 l1, .int .i64 l2, .int .i64 h0, .int .i64 h1, .int .i64 h2][o]?) ∧ (∀ o, w'.cell? ⟨x, o, none⟩ = [.int .i64 f, .pointer none, .pointer none, .int .i64 0, .int .i64 0, .int .i64 0, .int .i64 s0, .int .i64 s1, .int .i64 s2, .int .i64 l0, .int .i64 l1, .int .i64 l2, .int .i64 h0, .int .i64 h1, .int .i64 h2, .int .i64 f, .int .i64 l, .int .i64 0, .int .i64 0, .int .i64 0, .int .u64 0, .int .i64 0, .int .i64 0, .int .i64 0, .int .i64 0, .int .i64 0, .int .i64 0, .int .i64 0, .int .i64 0, .int .i64 0, .int .i64 0, .int .i64 0, .int .i64 0, .int .i64 0, .int .i64 0, .int .i64 0, .int .i64 0, .bool true, .bool true, .int .i64 0, .int .i64 g, .slice none 0 0, .slice none 0 0][o]?) ∧ Below w.heap.size w w' ∧ w.heap.size < w'.heap.size ∧ x < w.heap.size) (first | exact keepD_new [.bool true, .int .i64 f, .int .i64 l, .int .i64 g, .int .i64 s0, .int .i64 s1, .int .i64 s2, .int .i64 l0, .int .i64 l1, .int .i64 l2, .int .i64 h0, .int .i64 h1, .int .i64 h2] _ HX.out | exact keepD (by assumption) (by assumption)) (first | (go_at_call 12; refine (carr_any _ _ _ _).mono ?_; rintro e w1 ⟨rfl, hb⟩))
  all_goals go_wp2
  all_goals go_ret
  all_goals exact ⟨rfl, finD (by assumption)⟩

end Go.Proofs.Ybulkbulm.Pu
