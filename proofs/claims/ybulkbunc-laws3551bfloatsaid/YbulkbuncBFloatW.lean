import Derived.Test.YbulkbuncVote
namespace Go.Proofs.Ybulkbunc.Fl
open Go.RowKit

set_option maxRecDepth 1000000 in
set_option maxHeartbeats 1000000 in
theorem bfloat_walk (v m h q : Nat) (w : World) :
    Calls Yba.prog 5 #[.float .f64 v, .float .f64 m, .float .f64 h, .float .f64 q] w fun e w' => e = .returned (.bool true) ∧ Below w.heap.size w w' := by
  have hz := z63_run
  have hzs := z63_size
  obtain ⟨c1, c2, c3, c4, c5, c6⟩ := vote_cells 0 q 1 v m h w
  have C := (show Hid _ from (⟨c1, c2, c3, c4, c5, c6⟩ : _ ∧ _ ∧ _ ∧ _ ∧ _ ∧ _))
  clear c1 c2 c3 c4 c5 c6
  go_enter Yba.func5, Yba.ntmps5
  go_wp2_with fail
  refine (reaches_any w.heap.size v m h 0 q 1 _ C.out.1 C.out.2.1 C.out.2.2.1 C.out.2.2.2.1 C.out.2.2.2.2.1 C.out.2.2.2.2.2).mono ?_
  rintro e w1 ⟨s1, rfl, hs1, hb1⟩
  have HS1 := (show Hid _ from hs1)
  have HB : Hid (Below w.heap.size w w1) := ((Below.refl _ _).alloc (Nat.le_refl _) _).trans (hb1.mono (by simp))
  clear C hz hzs hs1 hb1
  go_wp2_with fail
  go_loopw [11, 12] (fun s i wr => ∃ k t n : Nat, k ≤ 7 ∧ i = .int .i64 k ∧ s = .float .f64 t ∧ Rep (stepO v m k) t ∧ wr = w1.drewN n) (fun _ i _ => 7 - (intOf i).toNat)
  case atStart => exact ⟨0, v, 0, by omega, rfl, rfl, .inl rfl, rfl⟩
  case round =>
    obtain ⟨k, t, n, hk, rfl, rfl, hrep, rfl⟩ := hrel
    by_cases hlt : k < 7
    · obtain ⟨r, d, hrun, hr⟩ := add_step (P := Yba.prog) _ t m (w1.drewN n) hrep
      have HR := (show Hid _ from hr)
      clear hrep hr
      go_wp2
      go_roundw
      case rel => exact ⟨k + 1, r, _, by omega, by go_num, rfl, HR.out, rfl⟩
      case measure => simp [intOf]; omega
    · have hk7 : k = 7 := by omega
      subst hk7
      obtain ⟨r, d, hrun, hr⟩ := add_step (P := Yba.prog) _ t h (w1.drewN n) hrep
      have e : (FloatKind.f64.format.order r q == some .gt) = (FloatKind.f64.format.order s1 q == some .gt) := rep_gt hr HS1.out q
      have e2 : (Ieee.double.order s1 q == some .gt) = (FloatKind.f64.format.order s1 q == some .gt) := rfl
      generalize (FloatKind.f64.format.order s1 q == some .gt) = g at *
      have HBE : Hid (Below w.heap.size w (w1.drewN (n + d))) := below_drewN HB.out _
      clear hrep hr HS1
      go_wp2
      go_ret
      exact ⟨by simp, HBE.out⟩
end Go.Proofs.Ybulkbunc.Fl
