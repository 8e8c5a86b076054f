import Derived.Test.YbulkbulmMean
import Derived.Deep.OwnRows
import Derived.Laws.CopyOwn
import Derived.Deep.QuietTactic
import Derived.BigQuiet
import Derived.Laws.Cover3
import Derived.Laws.Externs
namespace Go.Proofs.Ybulkbulm.Fl
open Go.RowKit Go.WideShapes

theorem info24 : (Yba.prog.info? 24).map (fun i => (i.zero, i.size, i.bytes)) = some (some (.float .f64 0), 1, 8) := by kernel_rfl

theorem copied {w2 : World} {g n : Nat} {xs : List Nat} {Z : List Value} (hl : xs.length = n) (hZ : Z.length = n)
    (h : w2.heap[g]? = some (.cells (splice Z 0 (xs.map (Value.float .f64))).toArray 24 (0, 0))) :
    w2.rowIs g 24 n (fun i => .float .f64 (xs[i]?.getD 0)) := by
  refine ⟨_, h, ?_, ?_⟩
  · simp [splice]; omega
  · intro i hi
    have e : Z.drop xs.length = [] := List.drop_eq_nil_of_le (by omega)
    have hi' : i < xs.length := by omega
    simp [splice, e, hi']

theorem bits_run (x : Nat) (w : World) : (callFunc 7 #[.float .f64 x]).run Yba.prog w = .ok (.value (.int .u64 x)) w :=
  (@run_callFunc_extern Yba.prog 7 _ Extern.MathFloatBits.float64bits Yba.func7 (by kernel_rfl) (by kernel_rfl) (by kernel_rfl) (by kernel_rfl) _ w).trans rfl

theorem add_step {P : Program} (o : Option Nat) (t x : Nat) (w : World) (h : Rep o t) : ∃ r q, (∀ ty, (binOp .add ty (.float .f64 t) (.float .f64 x)).run P w = .ok (.float .f64 r) (w.drewN q)) ∧ Rep (o.bind fun s => Ieee.double.add s x) r := by
  cases ha : Ieee.double.add t x with
  | some r => exact ⟨r, 0, fun ty => run_add_some ha ty w, rep_some h ha⟩
  | none => exact ⟨_, 1, fun ty => run_add_none ha ty w, rep_none h ha (nb_nan _ _ _)⟩
theorem div_step {P : Program} (o : Option Nat) (t x : Nat) (w : World) (h : Rep o t) : ∃ r q, (∀ ty, (binOp .quo ty (.float .f64 t) (.float .f64 x)).run P w = .ok (.float .f64 r) (w.drewN q)) ∧ Rep (o.bind fun s => Ieee.double.div s x) r := by
  cases ha : Ieee.double.div t x with
  | some r => exact ⟨r, 0, fun ty => run_div_some ha ty w, rep_div_some h ha⟩
  | none => exact ⟨_, 1, fun ty => run_div_none ha ty w, rep_div_none h ha (nb_nan _ _ _)⟩

theorem same_end {o : Option Nat} {x y : Nat} (hx : Rep o x) (hy : Rep o y) :
    ((Ieee.double.order x x != some .eq) = false ∧ (Ieee.double.order y x == some .eq) = true) ∨ ((Ieee.double.order x x != some .eq) = true ∧ (Ieee.double.order y y != some .eq) = true) := by
  rcases hx with rfl | ⟨rfl, hx⟩
  · rcases hy with h | ⟨h, _⟩
    · cases h
      by_cases e : Ieee.double.order x x = some .eq
      · left; rw [e]; exact ⟨rfl, rfl⟩
      · right; simp [e]
    · cases h
  · rcases hy with h | ⟨_, hy⟩
    · cases h
    · right; rw [hx.order_left, hy.order_left]; exact ⟨rfl, rfl⟩

theorem heap_made (w : World) (n : Nat) : (w.alloc (.cells (madeCells #[.float .f64 0] n) 24)).heap[w.heap.size]? = some (.cells (madeCells #[.float .f64 0] n).toList.toArray 24 (0, 0)) := by
  rw [Array.toArray_toList]; exact heap_alloc_new w _
theorem len_made (n : Nat) : (madeCells #[.float .f64 0] n).toList.length = n := by simp [size_madeCells]

set_option maxHeartbeats 1000000 in
theorem floats_walk (b off n c : Nat) (xs : List Nat) (w : World) (hn : 0 < n) (hn2 : n ≤ 4096) (hl : xs.length = n) (hb : b < w.heap.size)
    (hc : ∀ i, i < n → w.cell? ⟨b, off + i, none⟩ = some (.float .f64 (xs[i]?.getD 0))) :
    Calls Yba.prog 4 #[.slice (some ⟨b, off, none⟩) n c] w fun e w' => e = .returned (.bool true) ∧ Below w.heap.size w w' := by
  have hmk := run_make_row' (P := Yba.prog) 23 24 (.float .f64 0) 8 Yba.underlying23 info24 rfl .i64 .i64 n (by omega) (by omega)
  have hbits := bits_run
  have h0 : ((n : Int) == 0) = false := by simp; omega
  have HL : Hid (xs.length = n) := hl
  clear hl
  have HC : Hid (∀ i, i < n → w.cell? ⟨b, off + i, none⟩ = some (.float .f64 (xs[i]?.getD 0))) := hc
  clear hc
  have hne := fun w => run_neq_slice_nil (P := Yba.prog) w 23 24 (some ⟨b, off, none⟩) n c Yba.underlying23
  have hsrc : ∀ j v, (xs.map (Value.float .f64))[j]? = some v → (w.alloc (.cells (madeCells #[.float .f64 0] n) 24)).cell? ((⟨b, off, none⟩ : Addr).add j) = some v := by
    intro j v hj
    simp only [List.getElem?_map, Option.map_eq_some_iff] at hj
    obtain ⟨x, hx, rfl⟩ := hj
    have hjl : j < xs.length := (List.getElem?_eq_some_iff.1 hx).1
    have := HC.out j (by rw [← HL.out]; exact hjl)
    rw [add_plain, World.cell?_alloc_past _ _ _ hb, this, hx]; rfl
  have HSRC := (show Hid _ from hsrc)
  clear hsrc
  have hone : ∀ v ∈ xs.map (Value.float .f64), v.oneCell' = true := by intro v hv; simp at hv; obtain ⟨x, _, rfl⟩ := hv; rfl
  have HONE := (show Hid _ from hone)
  clear hone
  go_enter Yba.func4, Yba.ntmps4
  go_wp2_with (first
    | (refine wpList_copy_splice rfl (.tmp 17) (.tmp 18) 23 23 rfl 24 Yba.underlying23 (by kernel_rfl) _ _ n n n c rfl rfl w.heap.size 0 (madeCells #[.float .f64 0] n).toList 24 (heap_made _ _) (xs.map (Value.float .f64)) (by simp [HL.out]) (fun _ => ⟨rfl, _, rfl, HSRC.out⟩) (by rw [len_made]; simp [HL.out]) HONE.out w.heap.size w ((Below.refl _ _).alloc (Nat.le_refl _) _) (Nat.le_refl _) ?_; intro w2 HG hB)
    )
  have HROW := (show Hid _ from copied HL.out (len_made n) HG.out)
  have HB := (show Hid _ from hB)
  clear HG hB HSRC HONE hmk hne
  refine (mean_any w.heap.size 0 n n xs w2 hn hn2 HL.out (fun i hi => by simpa using (World.rowIs.cell HROW.out hi))).mono ?_
  rintro e w3 ⟨got, kd, rfl, hrep, rfl⟩
  have HR := (show Hid _ from hrep)
  clear hrep
  go_wp2_with fail
  go_loopw [5] (fun i wr => ∃ k m : Nat, k ≤ n ∧ i = .int .i64 k ∧ wr = w2.drewN m) (fun i _ => n - (intOf i).toNat)
  case atStart => exact ⟨0, _, Nat.zero_le _, rfl, rfl⟩
  case round =>
    obtain ⟨k, m, hk, rfl, rfl⟩ := hrel
    by_cases hlt : k < n
    · have hcx : w2.cell? ⟨w.heap.size, k, none⟩ = some (.float .f64 (xs[k]?.getD 0)) := World.rowIs.cell HROW.out hlt
      have hci : w2.cell? ⟨b, off + k, none⟩ = some (.float .f64 (xs[k]?.getD 0)) := (HB.out.cell hb).trans (HC.out k hlt)
      generalize xs[k]?.getD 0 = x at *
      go_wp2_with fail
      go_quiet (fail)
      go_wp2
      go_roundw
      case rel => exact ⟨k + 1, _, by omega, by go_num, rfl⟩
      case measure => simp [intOf]; omega
    · go_wp2_with fail
      go_loopw [6, 7] (fun s i wr => ∃ k t m : Nat, k ≤ n ∧ i = .int .i64 k ∧ s = .float .f64 t ∧ Rep (sumO (xs.take k)) t ∧ wr = w2.drewN m) (fun _ i _ => n - (intOf i).toNat)
      case atStart => exact ⟨0, 0, _, Nat.zero_le _, rfl, rfl, .inl rfl, rfl⟩
      case round =>
        obtain ⟨k2, t, m2, hk2, rfl, rfl, hrep, rfl⟩ := hrel
        by_cases hlt2 : k2 < n
        · have hci : w2.cell? ⟨b, off + k2, none⟩ = some (.float .f64 (xs[k2]?.getD 0)) := (HB.out.cell hb).trans (HC.out k2 hlt2)
          have HS : Hid (sumO (xs.take (k2 + 1)) = (sumO (xs.take k2)).bind fun s => Ieee.double.add s (xs[k2]?.getD 0)) := by
            rw [take_snoc' xs k2 (by rw [HL.out]; exact hlt2)]; exact sumO_snoc _ _
          generalize xs[k2]?.getD 0 = x at *
          obtain ⟨r, q, hrun, hr⟩ := add_step (P := Yba.prog) _ t x (w2.drewN m2) hrep
          have HR2 := (show Hid _ from hr)
          clear hrep hr
          go_wp2
          go_roundw
          case rel => exact ⟨k2 + 1, r, _, by omega, by go_num, rfl, by rw [HS.out]; exact HR2.out, rfl⟩
          case measure => simp [intOf]; omega
        · have hkn : k2 = n := by omega
          subst hkn
          rw [List.take_of_length_le (by rw [HL.out]; exact Nat.le_refl _)] at hrep
          obtain ⟨want, q, hrun0, hr⟩ := div_step (P := Yba.prog) _ t (fz k2) (w2.drewN m2) hrep
          have hrun : ∀ ty, (binOp .quo ty (.float .f64 t) (.float .f64 (floatOfInt .f64 k2))).run Yba.prog (w2.drewN m2) = .ok (.float .f64 want) ((w2.drewN m2).drewN q) := hrun0
          have hg : Rep ((sumO xs).bind fun s => Ieee.double.div s (fz k2)) got := by have := HR.out; unfold meanO at this; rwa [HL.out] at this
          have HBE : Hid (Below w.heap.size w (w2.drewN (m2 + q))) := below_drewN HB.out _
          rcases same_end hr hg with ⟨e1, e2⟩ | ⟨e1, e2⟩
          · have e1' : (FloatKind.f64.format.order want want != some .eq) = false := e1
            have e2' : (FloatKind.f64.format.order got want == some .eq) = true := e2
            clear hrep hr hg e1 e2 hrun0
            go_wp2
            go_ret
            exact ⟨rfl, by simpa using HBE.out⟩
          · have e1' : (FloatKind.f64.format.order want want != some .eq) = true := e1
            have e2' : (FloatKind.f64.format.order got got != some .eq) = true := e2
            clear hrep hr hg e1 e2 hrun0
            go_wp2
            go_ret
            exact ⟨rfl, by simpa using HBE.out⟩
end Go.Proofs.Ybulkbulm.Fl
