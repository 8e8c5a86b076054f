import Derived.Test.YbulkburyTbB
import Derived.Lib.MinMax
import Derived.Deep.DeepCutAuto
namespace Go.Proofs.Ybulkbury.Tb
open Go.RowKit

/-- The chance that slot m holds one of n replicas. -/
def chA (al : Option Nat) (T A : Nat → Nat) (m n : Nat) : Nat := scC (min (n * wt T m) (arrOf al T A m)) (arrOf al T A m)

theorem neq_nil (a : Option Addr) (l c : Nat) (w : World) : (binOp .neq 26 (.slice a l c) (.slice none 0 0)).run Yba.prog w = .ok (.bool (!a.isNone)) w := run_neq_slice_nil w 26 25 a l c Yba.underlying26

set_option maxHeartbeats 2000000 in
set_option maxRecDepth 100000 in
theorem clast_any {w : World} {y tb rows : Nat} {al : Option Nat} {T A : Nat → Nat} (h : Wt w y tb rows al T A) (k : Nat) (hr0 : 0 < rows) (hr : rows ≤ 1024) (hk : k ≤ 32) :
    Calls Yba.prog 11 #[.pointer (some ⟨y, 0, none⟩), .int .i64 rows, .int .i64 k] w fun e w' => e = .returned (.int .u64 (chA al T A (rows - 1) k)) ∧ Below w.heap.size w w' := by
  have k0 := h.c0
  have k1 := h.c1
  have hb := h.arr (m := rows - 1) (by omega)
  have hwt := h.wt (m := rows - 1) (by omega)
  have c1 := h.t.cell (i := rows - 1) (by omega)
  have hT1 := h.t0 (rows - 1) (by omega)
  have HH := (show Hid _ from h)
  obtain ⟨p, hp⟩ : ∃ p, p = rows - 1 := ⟨_, rfl⟩
  rw [← hp] at hb hwt c1 hT1 ⊢
  have hp1 : (rows : Int) - 1 = (p : Int) := by omega
  have hpr : p < rows := by omega
  have HPP := (show Hid _ from hp)
  have hn := neq_nil
  obtain ⟨W, hW⟩ : ∃ W, W = wt T p := ⟨_, rfl⟩
  obtain ⟨X, hX⟩ : ∃ X, X = k * W := ⟨_, rfl⟩
  have rX : (k : Int) * (W : Int) = (X : Int) := by rw [hX]; exact (Int.natCast_mul k W).symm
  have bW : W ≤ 100000000 := by rw [hW]; exact hwt
  have bX : X ≤ 3200000000 := by
    rw [hX]
    have := Nat.mul_le_mul hk bW
    omega
  obtain ⟨R, hR⟩ : ∃ R, R = arrOf al T A p := ⟨_, rfl⟩
  rw [← hR] at hb
  obtain ⟨N, hN⟩ : ∃ N, N = min X R := ⟨_, rfl⟩
  have rN : min (X : Int) (R : Int) = (N : Int) := by omega
  have hres : chA al T A p k = scC N R := by unfold chA; rw [← hW, ← hX, ← hR, ← hN]
  have HRES := (show Hid _ from hres)
  have HWW := (show Hid _ from hW)
  have HRR := (show Hid _ from hR)
  have hNR : N ≤ R := by omega
  clear h hres hX hN hW hR hwt hp
  go_enter Yba.func11, Yba.ntmps11
  go_upto_if 18 with fail
  go_cut [7, 18] (fun s7 _ wx => s7 = .int .u64 W ∧ Below w.heap.size w wx)
  case first =>
    by_cases h1 : 1 < rows
    · have c2 := HH.out.t.cell (i := p - 1) (by omega)
      have hup := HH.out.up p (by omega) hpr
      obtain ⟨q, hq⟩ : ∃ q, q = p - 1 := ⟨_, rfl⟩
      rw [← hq] at c2 hup
      have hq1 : (rows : Int) - 2 = (q : Int) := by omega
      have hWv : (T p : Int) - (T q : Int) = (W : Int) := by rw [HWW.out]; simp only [wt]; rw [if_neg (by omega), ← hq]; omega
      have hqr : q < rows := by omega
      have h1' : (1 : Int) < (rows : Int) := by omega
      have HQ := (show Hid _ from hq)
      clear hq h1
      go_wp2_with fail
      go_region
      all_goals (go_wp2_with fail; go_meet)
      all_goals exact ⟨rfl, (Below.refl _ _).drew⟩
    · have hp0 : p = 0 := by omega
      have hWv : T p = W := by rw [HWW.out]; simp only [wt]; rw [if_pos hp0, hp0]
      have h1' : ¬ ((1 : Int) < (rows : Int)) := by omega
      clear h1 hp0
      go_wp2_with fail
      go_meet
      exact ⟨rfl, Below.refl _ _⟩
  case rest =>
  obtain ⟨rfl, hbel⟩ := hcut
  have hh := HH.out.below hbel
  have m0 := hh.c0
  have m1 := hh.c1
  have d1 := hh.t.cell (i := p) hpr
  have HB := (show Hid _ from hbel)
  clear k0 k1 c1 hbel
  cases al with
  | none =>
    simp only [avOf] at m1
    have hv : T p = R := by rw [HRR.out]; rfl
    clear hh
    go_wp2_with (go_at_call 19; refine (chance_any N R hNR (by omega) (by omega) _).mono ?_; rintro e w2 ⟨rfl, hb2⟩)
    go_ret
    rw [HRES.out]
    exact ⟨rfl, HB.out.trans (hb2.mono HB.out.size)⟩
  | some ab =>
    have d2 := (hh.a ab rfl).cell hpr
    simp only [avOf] at m1
    have hv : A p = R := by rw [HRR.out]; rfl
    clear hh
    go_wp2_with (go_at_call 19; refine (chance_any N R hNR (by omega) (by omega) _).mono ?_; rintro e w2 ⟨rfl, hb2⟩)
    go_ret
    rw [HRES.out]
    exact ⟨rfl, HB.out.trans (hb2.mono HB.out.size)⟩
end Go.Proofs.Ybulkbury.Tb
