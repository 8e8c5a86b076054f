import Derived.Test.YbulkbuncVote
namespace Go.Proofs.Ybulkbunc.Fl
open Go.RowKit

theorem step_int (v m : Int) (hv : v.natAbs ≤ 2147483648) (hm : m.natAbs ≤ 2147483648) (k : Nat) (hk : k ≤ 7) : stepO (fz v) (fz m) k = some (fz (v + k * m)) := by
  induction k with
  | zero => simp [stepO]
  | succ k ih =>
    rw [stepO, ih (by omega), Option.bind_some]
    have hb : ((k : Int) * m).natAbs ≤ 7 * 2147483648 := by
      rw [Int.natAbs_mul]
      exact Nat.mul_le_mul (by omega) hm
    rw [add_int _ _ (by omega) (by omega) (by omega)]
    have : v + ((k + 1 : Nat) : Int) * m = v + (k : Int) * m + m := by
      rw [Int.natCast_add, Int.add_mul]; simp; omega
    rw [this]

theorem reach_int (v m h : Int) (hv : v.natAbs ≤ 2147483648) (hm : m.natAbs ≤ 2147483648) (hh : h.natAbs ≤ 2147483648) : reachO (fz v) (fz m) (fz h) = some (fz (v + 7 * m + h)) := by
  unfold reachO
  rw [step_int v m hv hm 7 (by omega), Option.bind_some]
  exact add_int _ _ (by omega) (by omega) (by omega)

theorem gt_int (t q : Int) (ht : t.natAbs < 2 ^ 53) (hq : q.natAbs < 2 ^ 53) : (Ieee.double.order (fz t) (fz q) == some .gt) = decide (q < t) := by
  rw [order_int t q ht hq]
  by_cases h : q < t
  · have : compare t q = .gt := by rw [Int.compare_eq_gt]; exact h
    rw [this]; simp [h]
  · have : compare t q ≠ .gt := by rw [ne_eq, Int.compare_eq_gt]; exact h
    simp [h, this]

theorem eq_int (t : Int) (ht : t.natAbs < 2 ^ 53) : FloatKind.f64.format.order (floatOfInt .f64 t) (floatOfInt .f64 t) = some .eq := by
  have := order_int t t ht ht
  rw [show compare t t = .eq from by simp] at this
  exact this

set_option maxRecDepth 1000000 in
set_option maxHeartbeats 1000000 in
theorem bexact_walk (v m h q : Int) (a : Nat) (c : Int) (w : World) (hv : -2147483648 ≤ v ∧ v ≤ 2147483647) (hm : -2147483648 ≤ m ∧ m ≤ 2147483647) (hh : -2147483648 ≤ h ∧ h ≤ 2147483647) (hq : -2147483648 ≤ q ∧ q ≤ 2147483647) :
    Calls Yba.prog 4 #[.int .i32 v, .int .i32 m, .int .i32 h, .int .i32 q, .float .f64 a, .int .i64 c] w fun e w' => e = .returned (.bool true) ∧ Below w.heap.size w w' := by
  have hz := z63_run
  have hzs := z63_size
  obtain ⟨c1, c2, c3, c4, c5, c6⟩ := vote_cells a (fz q) c (fz v) (fz m) (fz h) w
  have C := (show Hid _ from (⟨c1, c2, c3, c4, c5, c6⟩ : _ ∧ _ ∧ _ ∧ _ ∧ _ ∧ _))
  clear c1 c2 c3 c4 c5 c6
  go_enter Yba.func4, Yba.ntmps4
  go_wp2_with fail
  refine (reaches_any w.heap.size (fz v) (fz m) (fz h) a (fz q) c _ C.out.1 C.out.2.1 C.out.2.2.1 C.out.2.2.2.1 C.out.2.2.2.2.1 C.out.2.2.2.2.2).mono ?_
  rintro e w1 ⟨s1, rfl, hs1, hb1⟩
  have hs2 : s1 = fz (v + 7 * m + h) := by
    rw [reach_int v m h (by omega) (by omega) (by omega)] at hs1
    rcases hs1 with e | ⟨e, _⟩
    · cases e; rfl
    · cases e
  subst hs2
  have hgt := gt_int (v + 7 * m + h) q (by omega) (by omega)
  rw [hgt]
  have HB : Hid (Below w.heap.size w w1) := ((Below.refl _ _).alloc (Nat.le_refl _) _).trans (hb1.mono (by simp))
  have old : ∀ o, w1.cell? ⟨w.heap.size, o, none⟩ = _ := fun o => hb1.cell (p := ⟨w.heap.size, o, none⟩) (by simp)
  have d1 : w1.cell? ⟨w.heap.size, 25, none⟩ = some (.float .f64 (floatOfInt .f64 v)) := (old 25).trans C.out.1
  have d2 : w1.cell? ⟨w.heap.size, 29, none⟩ = some (.float .f64 (floatOfInt .f64 m)) := (old 29).trans C.out.2.1
  have d3 : w1.cell? ⟨w.heap.size, 27, none⟩ = some (.float .f64 (floatOfInt .f64 h)) := (old 27).trans C.out.2.2.1
  have d4 : w1.cell? ⟨w.heap.size, 2, none⟩ = some (.float .f64 (floatOfInt .f64 q)) := (old 2).trans C.out.2.2.2.2.1
  have ov := eq_int v (by omega)
  have om := eq_int m (by omega)
  have oh := eq_int h (by omega)
  have oq := eq_int q (by omega)
  clear C hz hzs hs1 hb1 old hgt
  go_wp2
  go_ret
  exact ⟨rfl, HB.out⟩
end Go.Proofs.Ybulkbunc.Fl
