import Derived.Test.YbulkbulmFl
import Derived.Test.YbulkbulmRows
import Derived.WalkKit
import Derived.WalkSmall
namespace Go.Proofs.Ybulkbulm.Fl
open Go.RowKit

/-- The NaN that the tape gives. -/
def nb (w : World) (x y : Nat) : Nat := Question.cut (.nanBits .f64 x y) (w.tape w.drawn (.nanBits .f64 x y))
theorem nb_nan (w : World) (x y : Nat) : NaN (nb w x y) := nan_cut _ _ _

theorem run_add_some {P : Program} {x y r : Nat} (h : Ieee.double.add x y = some r) (t : TypeId) (w : World) :
    (binOp .add t (.float .f64 x) (.float .f64 y)).run P w = .ok (.float .f64 r) w := run_float_arith w .add t .f64 x y r h
theorem run_add_none {P : Program} {x y : Nat} (h : Ieee.double.add x y = none) (t : TypeId) (w : World) :
    (binOp .add t (.float .f64 x) (.float .f64 y)).run P w = .ok (.float .f64 (nb w x y)) w.drew := by
  have h' : FloatKind.f64.format.add x y = none := h
  simp [binOp, Op.floatArith, h', Question.forced, nb]
theorem run_div_some {P : Program} {x y r : Nat} (h : Ieee.double.div x y = some r) (t : TypeId) (w : World) :
    (binOp .quo t (.float .f64 x) (.float .f64 y)).run P w = .ok (.float .f64 r) w := run_float_arith w .quo t .f64 x y r h
theorem run_div_none {P : Program} {x y : Nat} (h : Ieee.double.div x y = none) (t : TypeId) (w : World) :
    (binOp .quo t (.float .f64 x) (.float .f64 y)).run P w = .ok (.float .f64 (nb w x y)) w.drew := by
  have h' : FloatKind.f64.format.div x y = none := h
  simp [binOp, Op.floatArith, h', Question.forced, nb]

/-- The sum from the left, from +0; none: a NaN. -/
def sumO : List Nat → Option Nat
  | l => l.foldl (fun a x => a.bind fun s => Ieee.double.add s x) (some 0)
def meanO (l : List Nat) : Option Nat := (sumO l).bind fun s => Ieee.double.div s (fz l.length)

theorem sumO_snoc (l : List Nat) (x : Nat) : sumO (l ++ [x]) = (sumO l).bind fun s => Ieee.double.add s x := by
  simp [sumO]

theorem rep_some {o : Option Nat} {s x r : Nat} (h : Rep o s) (e : Ieee.double.add s x = some r) : Rep (o.bind fun s => Ieee.double.add s x) r := by
  rcases h with rfl | ⟨rfl, hn⟩
  · exact .inl e
  · rw [hn.add_left] at e; cases e
theorem rep_none {o : Option Nat} {s x r : Nat} (h : Rep o s) (e : Ieee.double.add s x = none) (hr : NaN r) : Rep (o.bind fun s => Ieee.double.add s x) r := by
  rcases h with rfl | ⟨rfl, hn⟩
  · exact .inr ⟨e, hr⟩
  · exact .inr ⟨rfl, hr⟩
theorem rep_div_some {o : Option Nat} {s x r : Nat} (h : Rep o s) (e : Ieee.double.div s x = some r) : Rep (o.bind fun s => Ieee.double.div s x) r := by
  rcases h with rfl | ⟨rfl, hn⟩
  · exact .inl e
  · rw [hn.div_left] at e; cases e
theorem rep_div_none {o : Option Nat} {s x r : Nat} (h : Rep o s) (e : Ieee.double.div s x = none) (hr : NaN r) : Rep (o.bind fun s => Ieee.double.div s x) r := by
  rcases h with rfl | ⟨rfl, hn⟩
  · exact .inr ⟨e, hr⟩
  · exact .inr ⟨rfl, hr⟩

theorem take_snoc' (l : List Nat) (k : Nat) (h : k < l.length) : l.take (k + 1) = l.take k ++ [l[k]?.getD 0] := by
  rw [List.take_succ_eq_append_getElem h]; simp [h]

theorem mean_none (a : Option Addr) (c : Nat) (w : World) :
    Calls Yba.prog 6 #[.slice a 0 c] w fun e w' => e = .returned (.float .f64 0) ∧ w' = w := by
  go_enter Yba.func6, Yba.ntmps6
  go_wp2
  go_ret
  exact ⟨rfl, rfl⟩

theorem drewN_succ' (w : World) (n : Nat) : (w.drewN n).drew = w.drewN (n + 1) := rfl

set_option maxHeartbeats 400000 in
theorem mean_any (b off n c : Nat) (xs : List Nat) (w : World) (hn : 0 < n) (hn2 : n ≤ 4096) (hl : xs.length = n)
    (hc : ∀ i, i < n → w.cell? ⟨b, off + i, none⟩ = some (.float .f64 (xs[i]?.getD 0))) :
    Calls Yba.prog 6 #[.slice (some ⟨b, off, none⟩) n c] w fun e w' => ∃ r k, e = .returned (.float .f64 r) ∧ Rep (meanO xs) r ∧ w' = w.drewN k := by
  have h0 : ((n : Int) == 0) = false := by simp; omega
  have HL : Hid (xs.length = n) := hl
  clear hl
  go_enter Yba.func6, Yba.ntmps6
  go_wp2
  go_loopw [3, 11] (fun s i wr => ∃ k t m : Nat, k ≤ n ∧ i = .int .i64 k ∧ s = .float .f64 t ∧ Rep (sumO (xs.take k)) t ∧ wr = w.drewN m) (fun _ i _ => n - (intOf i).toNat)
  case atStart => exact ⟨0, 0, 0, Nat.zero_le _, rfl, rfl, .inl rfl, rfl⟩
  case round =>
    obtain ⟨k, t, m, hk, rfl, rfl, hrep, rfl⟩ := hrel
    by_cases hlt : k < n
    · have hck : w.cell? ⟨b, off + k, none⟩ = some (.float .f64 (xs[k]?.getD 0)) := hc k hlt
      have HS : Hid (sumO (xs.take (k + 1)) = (sumO (xs.take k)).bind fun s => Ieee.double.add s (xs[k]?.getD 0)) := by
        rw [take_snoc' xs k (by rw [HL.out]; exact hlt)]; exact sumO_snoc _ _
      generalize xs[k]?.getD 0 = x at *
      have HR : Hid (Rep (sumO (xs.take k)) t) := hrep
      clear hrep hc
      cases ha : Ieee.double.add t x with
      | some r =>
        have hrun := fun ty w => run_add_some (P := Yba.prog) ha ty w
        have HA : Hid (Ieee.double.add t x = some r) := ha
        clear ha
        go_wp2
        go_roundw
        case rel => exact ⟨k + 1, r, m, by omega, by go_num, rfl, by rw [HS.out]; exact rep_some HR.out HA.out, rfl⟩
        case measure => simp [intOf]; omega
      | none =>
        have hrun := fun ty w => run_add_none (P := Yba.prog) ha ty w
        have HA : Hid (Ieee.double.add t x = none) := ha
        clear ha
        go_wp2
        go_roundw
        case rel => exact ⟨k + 1, _, m + 1, by omega, by go_num, rfl, by rw [HS.out]; exact rep_none HR.out HA.out (nb_nan _ _ _), rfl⟩
        case measure => simp [intOf]; omega
    · have hkn : k = n := by omega
      subst hkn
      have HR : Hid (Rep (sumO xs) t) := by have := hrep; rwa [List.take_of_length_le (by rw [HL.out]; exact Nat.le_refl _)] at this
      have hm : meanO xs = (sumO xs).bind fun s => Ieee.double.div s (fz k) := by unfold meanO; rw [HL.out]
      have HM : Hid (meanO xs = (sumO xs).bind fun s => Ieee.double.div s (fz k)) := hm
      clear hrep hc hm
      cases ha : Ieee.double.div t (fz k) with
      | some r =>
        have hrun : ∀ ty w, (binOp .quo ty (.float .f64 t) (.float .f64 (floatOfInt .f64 k))).run Yba.prog w = .ok (.float .f64 r) w := fun ty w => run_div_some (P := Yba.prog) ha ty w
        have HA : Hid (Ieee.double.div t (fz k) = some r) := ha
        clear ha
        go_wp2
        go_ret
        exact ⟨r, m, rfl, by rw [HM.out]; exact rep_div_some HR.out HA.out, rfl⟩
      | none =>
        have hrun : ∀ ty w, (binOp .quo ty (.float .f64 t) (.float .f64 (floatOfInt .f64 k))).run Yba.prog w = .ok (.float .f64 (nb w t (fz k))) w.drew := fun ty w => run_div_none (P := Yba.prog) ha ty w
        have HA : Hid (Ieee.double.div t (fz k) = none) := ha
        clear ha
        go_wp2
        go_ret
        exact ⟨_, m + 1, rfl, by rw [HM.out]; exact rep_div_none HR.out HA.out (nb_nan _ _ _), rfl⟩
end Go.Proofs.Ybulkbulm.Fl
