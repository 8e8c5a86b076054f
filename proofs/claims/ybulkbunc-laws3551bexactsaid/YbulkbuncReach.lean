import Derived.Test.YbulkbuncFl
import Derived.Test.YbulkbuncRows
import Derived.WalkKit
import Derived.WalkSmall
import Derived.Deep.QuietTactic
import Derived.BigQuiet
import Derived.Deep.RegionWith
namespace Go.Proofs.Ybulkbunc.Fl
open Go.RowKit

/-- The NaN that the tape gives. -/
def nb (w : World) (x y : Nat) : Nat := Question.cut (.nanBits .f64 x y) (w.tape w.drawn (.nanBits .f64 x y))
theorem nb_nan (w : World) (x y : Nat) : NaN (nb w x y) := nan_cut _ _ _

theorem run_add_some {P : Program} {x y r : Nat} (h : Ieee.double.add x y = some r) (t : TypeId) (w : World) :
    (binOp .add t (.float .f64 x) (.float .f64 y)).run P w = .ok (.float .f64 r) w := run_float_arith w .add t .f64 x y r h
theorem run_add_none {P : Program} {x y : Nat} (h : Ieee.double.add x y = none) (t : TypeId) (w : World) :
    (binOp .add t (.float .f64 x) (.float .f64 y)).run P w = .ok (.float .f64 (nb w x y)) w.drew := by
  have h' : FloatKind.f64.format.add x y = none := h
  simp [binOp, Op.floatArith, h', Question.forced, nb]

theorem rep_some {o : Option Nat} {s x r : Nat} (h : Rep o s) (e : Ieee.double.add s x = some r) : Rep (o.bind fun s => Ieee.double.add s x) r := by
  rcases h with rfl | ⟨rfl, hn⟩
  · exact .inl e
  · rw [hn.add_left] at e; cases e
theorem rep_none {o : Option Nat} {s x r : Nat} (h : Rep o s) (e : Ieee.double.add s x = none) (hr : NaN r) : Rep (o.bind fun s => Ieee.double.add s x) r := by
  rcases h with rfl | ⟨rfl, hn⟩
  · exact .inr ⟨e, hr⟩
  · exact .inr ⟨rfl, hr⟩
theorem add_step {P : Program} (o : Option Nat) (t x : Nat) (w : World) (h : Rep o t) : ∃ r q, (∀ ty, (binOp .add ty (.float .f64 t) (.float .f64 x)).run P w = .ok (.float .f64 r) (w.drewN q)) ∧ Rep (o.bind fun s => Ieee.double.add s x) r := by
  cases ha : Ieee.double.add t x with
  | some r => exact ⟨r, 0, fun ty => run_add_some ha ty w, rep_some h ha⟩
  | none => exact ⟨_, 1, fun ty => run_add_none ha ty w, rep_none h ha (nb_nan _ _ _)⟩
theorem rep_gt {o : Option Nat} {a b : Nat} (ha : Rep o a) (hb : Rep o b) (q : Nat) : (Ieee.double.order a q == some .gt) = (Ieee.double.order b q == some .gt) := by
  rcases ha with rfl | ⟨rfl, ha⟩
  · rcases hb with h | ⟨h, _⟩
    · cases h; rfl
    · cases h
  · rcases hb with h | ⟨_, hb⟩
    · cases h
    · rw [ha.order_left, hb.order_left]

/-- v, and m added k times from the right; none: a NaN. -/
def stepO (v m : Nat) : Nat → Option Nat
  | 0 => some v
  | k + 1 => (stepO v m k).bind fun s => Ieee.double.add s m
def reachO (v m h : Nat) : Option Nat := (stepO v m 7).bind fun s => Ieee.double.add s h

theorem passes_any (a q s : Nat) (c : Int) (w : World) :
    Calls Yba.prog 12 #[.agg #[.float .f64 a, .float .f64 q, .int .i64 c], .float .f64 s] w fun e w' => e = .returned (.bool (Ieee.double.order s q == some .gt)) ∧ Below w.heap.size w w' := by
  go_enter Yba.func12, Yba.ntmps12
  go_wp2
  go_ret
  exact ⟨rfl, (Below.refl _ _).alloc (Nat.le_refl _) _⟩

set_option maxHeartbeats 1000000 in
theorem reaches_any (b : Nat) (v m h a q : Nat) (c : Int) (w : World) (cv : w.cell? ⟨b, 25, none⟩ = some (.float .f64 v)) (cm : w.cell? ⟨b, 29, none⟩ = some (.float .f64 m)) (ch : w.cell? ⟨b, 27, none⟩ = some (.float .f64 h))
    (ca : w.cell? ⟨b, 1, none⟩ = some (.float .f64 a)) (cq : w.cell? ⟨b, 2, none⟩ = some (.float .f64 q)) (cc : w.cell? ⟨b, 3, none⟩ = some (.int .i64 c)) :
    Calls Yba.prog 10 #[.pointer (some ⟨b, 0, none⟩)] w fun e w' => ∃ s, e = .returned (.bool (Ieee.double.order s q == some .gt)) ∧ Rep (reachO v m h) s ∧ Below w.heap.size w w' := by
  go_enter Yba.func10, Yba.ntmps10
  go_wp2
  go_loopw [3, 8] (fun s i wr => ∃ k t n : Nat, k ≤ 7 ∧ i = .int .i64 k ∧ s = .float .f64 t ∧ Rep (stepO v m k) t ∧ wr = w.drewN n) (fun _ i _ => 7 - (intOf i).toNat)
  case atStart => exact ⟨0, v, 0, by omega, rfl, rfl, .inl rfl, rfl⟩
  case round =>
    obtain ⟨k, t, n, hk, rfl, rfl, hrep, rfl⟩ := hrel
    by_cases hlt : k < 7
    · obtain ⟨r, d, hrun, hr⟩ := add_step (P := Yba.prog) _ t m (w.drewN n) hrep
      have HR := (show Hid _ from hr)
      clear hrep hr
      go_wp2
      go_roundw
      case rel => exact ⟨k + 1, r, _, by omega, by go_num, rfl, HR.out, rfl⟩
      case measure => simp [intOf]; omega
    · have hk7 : k = 7 := by omega
      subst hk7
      have HREP := (show Hid _ from hrep)
      clear hrep
      cases ha : Ieee.double.add t h with
      | some r =>
        have hrun := fun ty w => run_add_some (P := Yba.prog) ha ty w
        have HA : Hid (Ieee.double.add t h = some r) := ha
        clear ha
        go_wp2_with fail
        go_region_with (go_at_call 12; refine (passes_any _ _ _ _ _).mono ?_; rintro e w1 ⟨rfl, hb⟩)
        all_goals go_wp2
        all_goals go_ret
        all_goals exact ⟨_, rfl, rep_some HREP.out HA.out, (below_drewN (Below.refl _ _) _).trans hb⟩
      | none =>
        have hrun := fun ty w => run_add_none (P := Yba.prog) ha ty w
        have HA : Hid (Ieee.double.add t h = none) := ha
        clear ha
        go_wp2_with fail
        go_region_with (go_at_call 12; refine (passes_any _ _ _ _ _).mono ?_; rintro e w1 ⟨rfl, hb⟩)
        all_goals go_wp2
        all_goals go_ret
        all_goals exact ⟨_, rfl, rep_none HREP.out HA.out (nb_nan _ _ _), (below_drewN (Below.refl _ _) _).trans hb⟩
end Go.Proofs.Ybulkbunc.Fl
