import Derived.Test.YbulkbuncPkE
namespace Go.Proofs.Ybulkbunc.Pk
open Go.RowKit

theorem rng_eq {B : Nat} {w : World} {x : Nat} {fw : Int} {n : Nat} {ao : Option Addr} {cap m : Nat} {P : Nat → Int} {lo hi : Int} (h : Pk B w x fw n (cnt P m) ao cap) (he : Ends fw n (cnt P m)) (hr : Rng P m lo hi) : fw = lo ∧ fw + n - 1 = hi ∧ 0 < n := by
  obtain ⟨h1, ⟨i, hi1, hi2⟩, ⟨k, hk1, hk2⟩⟩ := hr
  have p1 := h.out lo (by have := cnt_pos hi1 hi2; omega)
  have p2 := h.out hi (by have := cnt_pos hk1 hk2; omega)
  have hn : 0 < n := by omega
  obtain ⟨e1, e2⟩ := he hn
  obtain ⟨a, ha, ha'⟩ := cnt_some e1
  obtain ⟨b, hb, hb'⟩ := cnt_some e2
  have := h1 a ha
  have := h1 b hb
  refine ⟨by omega, by omega, hn⟩

theorem hist_step {wr : World} {b n k : Nat} {P : Nat → Int} {fw : Int} {j : Nat} (h : wr.rowIs b 3 n (fun j => .int .i64 (cnt P k (fw + j)))) (hj : P k = fw + j) :
    (wr.setCell ⟨b, j, none⟩ (.int .i64 (cnt P k (fw + j) + 1))).rowIs b 3 n (fun j => .int .i64 (cnt P (k + 1) (fw + j))) := by
  refine (h.set j _).congr ?_
  intro i _
  by_cases e : i = j
  · subst e; simp [cnt, hj]
  · have : ¬ (P k = fw + (i : Int)) := by omega
    simp [cnt, e, this]

set_option maxHeartbeats 4000000 in
set_option maxRecDepth 100000 in
theorem check_any {B : Nat} {w : World} {x : Nat} {fw : Int} {n : Nat} {ao : Option Addr} {cap m p off capp : Nat} {P : Nat → Int} (h : Pk B w x fw n (cnt P m) ao cap) (he : Ends fw n (cnt P m)) (hs : Sl w 2 p off capp m P) (hm : m < 1000000) :
    Calls Yba.prog 7 #[.pointer (some ⟨x, 0, none⟩), .slice (some ⟨p, off, none⟩) m capp] w fun e w' => e = .returned (.bool true) ∧ Below w.heap.size w w' := by
  obtain ⟨c0, c1, _, _⟩ := h.facts
  have HP := (show Hid _ from h)
  have HE := (show Hid _ from he)
  have HS := (show Hid _ from hs)
  rcases Nat.eq_zero_or_pos m with rfl | hm0
  · have hn : n = 0 := by
      rcases Nat.eq_zero_or_pos n with h0 | h0
      · exact h0
      · exact absurd (by simp [cnt]) (he h0).1
    subst hn
    clear h he hs
    go_enter Yba.func7, Yba.ntmps7
    go_wp2_with fail
    go_ret
    exact ⟨rfl, Below.refl _ _⟩
  · have hf0 := h.f0
    have hfb := h.fb
    clear h he hs
    have hmk := run_make_row' (P := Yba.prog) 24 3 (.int .i64 0) 8 Yba.underlying24 info3 rfl .i64 .i64 n (by omega) (by omega)
    have hn1 : fw + (n : Int) - 1 - fw = n - 1 := by omega
    go_enter Yba.func7, Yba.ntmps7
    go_wp2_with ((go_at_call 9; refine (range_any p off capp m P _ HS.out hm0 (by omega)).mono ?_; rintro e w1 ⟨lo, hi, rfl, hr, hb1⟩; obtain ⟨rfl, rfl, hn0⟩ := rng_eq HP.out HE.out hr; obtain ⟨d0, d1, _, _⟩ := (HP.out.below hb1).facts))
    have HB1 := (show Hid _ from hb1)
    have hlt1 : p < w1.heap.size := Nat.lt_of_lt_of_le HS.out.lt hb1.size
    clear hb1 hr c0 c1 d0 d1 hn1 hmk
    go_loopw [50] (fun i wr => ∃ k : Nat, k ≤ m ∧ i = .int .i64 k ∧ wr.rowIs w1.heap.size 3 n (fun j => .int .i64 (cnt P k (fw + j))) ∧ Below w1.heap.size w1 wr) (fun i _ => m - (intOf i).toNat)
    case atStart => exact ⟨0, by omega, rfl, World.rowIs_made w1 (.int .i64 0) n 3, (Below.refl _ _).alloc (Nat.le_refl _) _⟩
    case round =>
      obtain ⟨k, hk, rfl, hrow, hbel⟩ := hrel
      by_cases hlt : k < m
      · obtain ⟨j, hj⟩ : ∃ j : Nat, P k = fw + j := ⟨(P k - fw).toNat, by have := HP.out.out (P k) (by have := cnt_pos hlt (rfl : P k = P k); omega); omega⟩
        have hjn : j < n := by have := HP.out.out (P k) (by have := cnt_pos hlt (rfl : P k = P k); omega); omega
        have ck : wr.cell? ⟨p, off + k, none⟩ = some (.int .i64 (fw + j)) := by
          rw [← hj]
          exact (hbel.cell (p := ⟨p, off + k, none⟩) hlt1).trans ((HB1.out.cell (p := ⟨p, off + k, none⟩) HS.out.lt).trans (HS.out.cell hlt))
        have hsub : fw + (j : Int) - fw = j := by omega
        have cj := hrow.cell hjn
        have fj := hrow.frozen j
        have hc0 := cnt_nonneg P (fw + j) k
        have hc1 := cnt_le P (fw + j) k
        have HROW := (show Hid _ from hrow)
        have HBEL := (show Hid _ from hbel)
        have HJ := (show Hid _ from hj)
        clear hrow hbel hj
        go_wp2_with fail
        go_roundw
        case rel => exact ⟨k + 1, by omega, by go_num, hist_step HROW.out HJ.out, HBEL.out.setCell (Nat.le_refl _) _⟩
        case measure => simp [intOf]; omega
      · have hkm : k = m := by omega
        subst hkm
        have HROW := (show Hid _ from hrow)
        have HBEL := (show Hid _ from hbel)
        clear hrow hbel
        go_wp2_with fail
        go_loopw [65] (fun i wx => ∃ j : Nat, j ≤ n ∧ i = .int .i64 j ∧ wx.rowIs w1.heap.size 3 n (fun j => .int .i64 (cnt P k (fw + j))) ∧ Below w1.heap.size w1 wx) (fun i _ => n - (intOf i).toNat)
        case atStart => exact ⟨0, by omega, rfl, HROW.out, HBEL.out⟩
        case round =>
          obtain ⟨j, hj, rfl, hrow, hbel⟩ := hrel
          by_cases hlt2 : j < n
          · have hp2 := (HP.out.below HB1.out).below hbel
            obtain ⟨c0, c1, _, _⟩ := hp2.facts
            obtain ⟨g, goff, rfl, hg, hsg⟩ := hp2.sl hn0
            have cg := hsg.cell hlt2
            have cj := hrow.cell hlt2
            have HR2 := (show Hid _ from hrow)
            have HB2 := (show Hid _ from hbel)
            clear hp2 hsg hrow hbel
            go_wp2_with fail
            go_region
            all_goals go_wp2_with fail
            all_goals go_roundw
            all_goals first
              | exact ⟨j + 1, by omega, by go_num, HR2.out, HB2.out.drew⟩
              | (simp [intOf]; omega)
          · go_wp2_with fail
            go_ret
            exact ⟨rfl, HB1.out.trans (hbel.mono HB1.out.size)⟩
end Go.Proofs.Ybulkbunc.Pk
