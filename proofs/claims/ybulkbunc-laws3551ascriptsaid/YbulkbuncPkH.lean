import Derived.Test.YbulkbuncPkG
namespace Go.Proofs.Ybulkbunc.Pk
open Go.RowKit

/-- The script's cells: len pairs from o on. -/
structure Ops (w : World) (ao : Option Addr) (len : Nat) (O A : Nat → Nat) : Prop where
  ex : 0 < len → ∃ b o, ao = some ⟨b, o, none⟩ ∧ b < w.heap.size ∧ ∀ k, k < len → w.cell? ⟨b, o + 2 * k, none⟩ = some (.int .u8 (O k)) ∧ w.cell? ⟨b, o + 2 * k + 1, none⟩ = some (.int .u16 (A k)) ∧ O k < 256 ∧ A k < 65536

def selOf (m a : Nat) : Int := if m = 0 then 3 else ((a % 4 : Nat) : Int)

set_option maxHeartbeats 8000000 in
set_option maxRecDepth 100000 in
theorem law_walk (c : Nat) (hc1 : 1 ≤ c) (hc2 : c ≤ 256) (ao : Option Addr) (len cap : Nat) (O A : Nat → Nat) (w : World) (hops : Ops w ao len O A) :
    Calls Yba.prog 3 #[.int .u8 ((c : Int) - 1), .slice ao len cap] w fun e w' => e = .returned (.bool true) ∧ Below w.heap.size w w' := by
  by_cases hbig : 1024 < len
  · go_enter Yba.func3, Yba.ntmps3
    go_wp2_with fail
    go_ret
    exact ⟨rfl, Below.refl _ _⟩
  · have hmk := run_make_row' (P := Yba.prog) 28 2 (.int .i64 0) 8 Yba.underlying28 info2 rfl .i64 .i64 c (by omega) (by omega)
    have HO := (show Hid _ from hops)
    clear hops
    go_enter Yba.func3, Yba.ntmps3
    go_upto_region 9 with (first
      | (go_at_call 6; refine (enter_any (pk_new w) (fun h => absurd h (by omega)) c (by omega) (by show (0 : Int) + c ≤ 1000000; omega) (by simp)).mono ?_; rintro e w1 ⟨rfl, n', ao', cap', hp1, he1, ht1⟩; have HR1 := (show Hid _ from run_start hc2 hp1 he1 (((Below.refl w.heap.size w).alloc (Nat.le_refl _) _).trans (ht1.below (by simp)))); clear hp1 he1 ht1)
      | (go_at_call 7; refine (check_any HR1.out.pk HR1.out.en HR1.out.pr (by omega)).mono ?_; rintro e w2 ⟨rfl, hb2⟩; have HR2 := (show Hid _ from HR1.out.below hb2); clear HR1 hb2))
    go_wp2_with fail
    go_loopg [7, 38] len (fun gk s7 i wr => ∃ (k pb po cp m : Nat) (P : Nat → Int) (f n : Nat) (ao' : Option Addr) (cap' : Nat), gk = len - k ∧ k ≤ len ∧ i = .int .i64 k ∧ s7 = .slice (some ⟨pb, po, none⟩) m cp ∧ Run w wr w.heap.size k pb po cp m P f n ao' cap')
    case atStart => exact ⟨0, _, _, _, _, _, _, _, _, _, rfl, by omega, rfl, rfl, HR2.out⟩
    case round =>
      obtain ⟨k, pb, po, cp, m, P, f, n, ao1, cap1, rfl, hk, rfl, rfl, hrun⟩ := hrel
      clear HR2
      by_cases hlt : k < len
      · obtain ⟨b, o, rfl, hb, hcells⟩ := HO.out.ex (by omega)
        obtain ⟨q1, q2, ha, hd⟩ := hcells k hlt
        have k1 : wr.cell? ⟨b, o + k * 2, none⟩ = some (.int .u8 (O k)) := (hrun.bel.cell (p := ⟨b, o + k * 2, none⟩) hb).trans (by rw [Nat.mul_comm k 2]; exact q1)
        have k2 : wr.cell? ⟨b, o + k * 2 + 1, none⟩ = some (.int .u16 (A k)) := (hrun.bel.cell (p := ⟨b, o + k * 2 + 1, none⟩) hb).trans (by rw [Nat.mul_comm k 2]; exact q2)
        generalize O k = a at k1 ha
        generalize A k = d at k2 hd
        clear q1 q2 hcells
        have HR := (show Hid _ from hrun)
        clear hrun
        go_upto_region 11 with fail
        go_cut [9] (fun s9 wx => ∃ y, s9 = .pointer (some ⟨y, 0, none⟩) ∧ wx.heap[y]? = some (.cells #[.int .u8 a, .int .u16 d] 32 (0, 0)) ∧ Run w wx w.heap.size k pb po cp m P f n ao1 cap1)
        case first =>
          go_wp2_with fail
          go_meet
          exact ⟨_, rfl, Go.Deep.blk_alloc_new _ _, HR.out.below ((Below.refl _ _).alloc (Nat.le_refl _) _)⟩
        case rest =>
        obtain ⟨y, rfl, hy, hrun⟩ := hcut
        have y0 : wc.cell? ⟨y, 0, none⟩ = some (.int .u8 a) := by rw [cell_of_row _ _ 0 _ _ _ hy]; rfl
        have y1 : wc.cell? ⟨y, 1, none⟩ = some (.int .u16 d) := by rw [cell_of_row _ _ 1 _ _ _ hy]; rfl
        have hylt : y < wc.heap.size := by
          rcases Nat.lt_or_ge y wc.heap.size with h | h
          · exact h
          · rw [Array.getElem?_eq_none h] at hy; cases hy
        clear hy k1 k2 HR hmk
        have hmb := hrun.mb
        have HR := (show Hid _ from hrun)
        clear hrun
        go_upto_if 48 with fail
        go_cut [10] (fun s10 wx => s10 = .int .i64 (selOf m a) ∧ wx = wc)
        case first =>
          by_cases hm0 : m = 0
          · go_wp2_with fail
            go_meet
            exact ⟨by simp [selOf, hm0], rfl⟩
          · go_wp2_with fail
            go_meet
            exact ⟨by simp [selOf, hm0], rfl⟩
        case rest =>
        obtain ⟨rfl, hw⟩ := hcut
        subst hw
        have hsel : selOf m a = 3 ∨ (0 < m ∧ (selOf m a = 0 ∨ selOf m a = 1 ∨ selOf m a = 2)) := by
          simp only [selOf]
          split
          · exact .inl rfl
          · omega
        have HSEL := (show Hid _ from hsel)
        clear hsel
        go_upto_if 50 with fail
        go_cut [7, 10, 49, 50] (fun s7 _ _ _ wx => ∃ (pb po cp m : Nat) (P : Nat → Int) (f n : Nat) (ao' : Option Addr) (cap' : Nat), s7 = .slice (some ⟨pb, po, none⟩) m cp ∧ Run w wx w.heap.size (k + 1) pb po cp m P f n ao' cap')
        case first =>
          rcases HSEL.out with h3 | ⟨hm, h0 | h1 | h2⟩
          · obtain ⟨e, he⟩ : ∃ e : Nat, (d : Int) % 8 + 1 = (e : Int) := ⟨d % 8 + 1, by omega⟩
            have he1 : 1 ≤ e := by omega
            have he8 : e ≤ 8 := by omega
            have hcb := cnt_le P 0 m
            have hHs := HR.out.bel.size
            go_wp2_with (go_at_call 6; refine (enter_any HR.out.pk HR.out.en (e : Int) (by omega) (by omega) hHs).mono ?_; rintro e' w3 ⟨rfl, n3, ao3, cap3, hp3, he3, ht3⟩)
            have HP3 := (show Hid _ from hp3)
            have HE3 := (show Hid _ from he3)
            have HT3 := (show Hid _ from ht3)
            clear hp3 he3 ht3
            go_loopg [7, 12] e (fun gk s7 s12 wr => ∃ (j pb' po' cp' : Nat), gk = e - j ∧ j ≤ e ∧ s12 = .int .i64 j ∧ s7 = .slice (some ⟨pb', po', none⟩) (m + j) cp' ∧ Sl wr 2 pb' po' cp' (m + j) (padP P m) ∧ w.heap.size ≤ pb' ∧ Pk w.heap.size wr w.heap.size 0 n3 (addc (e : Int) (cnt P m)) ao3 cap3 ∧ Below w.heap.size w wr)
            case atStart => exact ⟨0, _, _, _, rfl, by omega, rfl, rfl, (HT3.out.row rfl HR.out.pr).congr (fun i hi => by simp [padP, hi]), HR.out.pB, HP3.out, HR.out.bel.trans (HT3.out.below hHs)⟩
            case round =>
              obtain ⟨j, pb', po', cp', rfl, hj, rfl, rfl, hsl, hpB, hpk, hbel⟩ := hrel
              by_cases hje : j < e
              · obtain ⟨pb3, po3, cp3, w4, hrun, hs4, hp4, hB4, hb4⟩ := hsl.push hpk hpB (by omega)
                have HS4 := (show Hid _ from hs4)
                have HP4 := (show Hid _ from hp4)
                have HB4 := (show Hid _ from hb4)
                have HBE := (show Hid _ from hbel)
                clear hs4 hp4 hb4 hbel hsl hpk
                go_wp2_with (at_builtin; refine wpList_append_run rfl (.tmp 64) (.tmp 65) 28 rfl rfl rfl (hrun _) ?_)
                go_roundg (e - (j + 1))
                case rel => exact ⟨j + 1, pb3, po3, cp3, rfl, by omega, by go_num, rfl, HS4.out.congr (fun i hi => by simp only [padP]; split <;> split <;> first | rfl | omega), hB4, HP4.out, HBE.out.trans HB4.out⟩
                case measure => omega
              · have hjj : j = e := by omega
                subst hjj
                have HSL := (show Hid _ from hsl)
                have HPK := (show Hid _ from hpk)
                have HBE := (show Hid _ from hbel)
                clear hsl hpk hbel
                go_wp2_with fail
                go_meet
                exact ⟨_, _, _, _, _, _, _, _, _, rfl, run_enter HR.out he8 HPK.out HE3.out HSL.out hpB HBE.out⟩
          · obtain ⟨i, hi⟩ : ∃ i : Nat, (d : Int) % (m : Int) = (i : Int) := ⟨d % m, by omega⟩
            have him : i < m := by have := Int.emod_lt_of_pos (d : Int) (show (0 : Int) < m by omega); omega
            have hp0 := HR.out.P0 i him
            have hpo := HR.out.pk.out (P i) (by have := cnt_pos him (rfl : P i = P i); omega)
            obtain ⟨j, hj⟩ : ∃ j : Nat, P i = (f : Int) + j := ⟨(P i - f).toNat, by omega⟩
            have hjn : j < n := by omega
            have hcnt1 := cnt_pos him hj
            have hcnt2 := cnt_le P ((f : Int) + j + 1) m
            have cpi := HR.out.pr.cell him
            have hm0 : ¬ ((m : Int) = 0) := by omega
            have hHs := HR.out.bel.size
            rw [hj] at cpi hp0 hpo
            have HJ := (show Hid _ from hj)
            clear hj
            go_upto_region 26 with (go_at_call 8; refine (move_any HR.out.pk j hjn (by omega) hHs ((f : Int) + j + 1) _ (.inr ⟨j + 1, by omega, by omega, by omega, rfl⟩)).mono ?_; rintro e' w3 ⟨rfl, fw3, n3, ao3, cap3, hp3, he3, ht3⟩)
            have hs3 := ht3.row rfl HR.out.pr
            have cp3 := hs3.cell him
            have fp3 := hs3.frozen (po + i)
            obtain ⟨f3, hf3⟩ : ∃ f3 : Nat, fw3 = (f3 : Int) := ⟨fw3.toNat, by have := hp3.f0; omega⟩
            subst hf3
            have HP3 := (show Hid _ from hp3)
            have HE3 := (show Hid _ from he3)
            have HT3 := (show Hid _ from ht3)
            clear hp3 he3 ht3 hs3
            go_wp2_with fail
            go_meet
            have r := run_move (f' := f3) (n' := n3) (ao' := ao3) (cap' := cap3) (u := (f : Int) + j + 1) HR.out him (by rw [HJ.out]; exact HP3.out) (by rw [HJ.out]; exact HE3.out) HT3.out (by omega) (by omega)
            exact ⟨_, _, _, _, _, _, _, _, _, rfl, r⟩
          · obtain ⟨i, hi⟩ : ∃ i : Nat, (d : Int) % (m : Int) = (i : Int) := ⟨d % m, by omega⟩
            have him : i < m := by have := Int.emod_lt_of_pos (d : Int) (show (0 : Int) < m by omega); omega
            have hp0 := HR.out.P0 i him
            have hpo := HR.out.pk.out (P i) (by have := cnt_pos him (rfl : P i = P i); omega)
            obtain ⟨j, hj⟩ : ∃ j : Nat, P i = (f : Int) + j := ⟨(P i - f).toNat, by omega⟩
            have hjn : j < n := by omega
            have hcnt1 := cnt_pos him hj
            have cpi := HR.out.pr.cell him
            have hm0 : ¬ ((m : Int) = 0) := by omega
            have hHs := HR.out.bel.size
            have hnb := HR.out.pk.fb
            rw [hj] at cpi hp0 hpo
            have HJ := (show Hid _ from hj)
            clear hj
            have hsub : (f : Int) + n - 1 - f = n - 1 := by omega
            obtain ⟨t, ht⟩ : ∃ t : Nat, (a : Int) / 4 % ((n : Int) - 1 + 4) = (t : Int) := ⟨((a : Int) / 4 % ((n : Int) - 1 + 4)).toNat, by have := Int.emod_nonneg ((a : Int) / 4) (show (n : Int) - 1 + 4 ≠ 0 by omega); omega⟩
            have htn : t < n + 3 := by have := Int.emod_lt_of_pos ((a : Int) / 4) (show (0 : Int) < (n : Int) - 1 + 4 by omega); omega
            have hcnt2 := cnt_le P ((f : Int) + t) m
            have hmax : (f : Int) + n - 1 ≤ 4 * k := by
              obtain ⟨q, hq, hq'⟩ := cnt_some (HR.out.en (by omega)).2
              have := HR.out.P0 q hq
              omega
            go_upto_region 31 with (first
              | (go_at_call 9; refine (range_any pb po cp m P _ HR.out.pr hm (by omega)).mono ?_; rintro e' w3 ⟨lo, hi', rfl, hr, hb3⟩; obtain ⟨rfl, rfl, hn0⟩ := rng_eq HR.out.pk HR.out.en hr; have y3 : w3.cell? ⟨y, 0, none⟩ = some (.int .u8 a) := (hb3.cell (p := ⟨y, 0, none⟩) hylt).trans y0; have HRa := (show Hid _ from HR.out.below hb3); clear y0 y1)
              | (go_at_call 8; refine (move_any HRa.out.pk j hjn (by omega) HRa.out.bel.size ((f : Int) + t) _ (.inr ⟨t, rfl, by omega, by omega, rfl⟩)).mono ?_; rintro e' w4 ⟨rfl, fw3, n3, ao3, cap3, hp3, he3, ht3⟩))
            have hs3 := ht3.row rfl HRa.out.pr
            have cp3 := hs3.cell him
            have fp3 := hs3.frozen (po + i)
            obtain ⟨f3, hf3⟩ : ∃ f3 : Nat, fw3 = (f3 : Int) := ⟨fw3.toNat, by have := hp3.f0; omega⟩
            subst hf3
            have HP3 := (show Hid _ from hp3)
            have HE3 := (show Hid _ from he3)
            have HT3 := (show Hid _ from ht3)
            clear hp3 he3 ht3 hs3
            go_wp2_with fail
            go_meet
            have r := run_move (f' := f3) (n' := n3) (ao' := ao3) (cap' := cap3) (u := (f : Int) + t) HRa.out him (by rw [HJ.out]; exact HP3.out) (by rw [HJ.out]; exact HE3.out) HT3.out (by omega) (by omega)
            exact ⟨_, _, _, _, _, _, _, _, _, rfl, r⟩
          · obtain ⟨i, hi⟩ : ∃ i : Nat, (d : Int) % (m : Int) = (i : Int) := ⟨d % m, by omega⟩
            have him : i < m := by have := Int.emod_lt_of_pos (d : Int) (show (0 : Int) < m by omega); omega
            obtain ⟨m1, rfl⟩ : ∃ m1, m = m1 + 1 := ⟨m - 1, by omega⟩
            simp only [Int.natCast_add, Int.natCast_one] at hi
            have hp0 := HR.out.P0 i him
            have hpo := HR.out.pk.out (P i) (by have := cnt_pos him (rfl : P i = P i); omega)
            obtain ⟨j, hj⟩ : ∃ j : Nat, P i = (f : Int) + j := ⟨(P i - f).toNat, by omega⟩
            have hjn : j < n := by omega
            have hcnt1 := cnt_pos him hj
            have cpi := HR.out.pr.cell him
            have hm0 : ¬ ((m1 : Int) + 1 = 0) := by omega
            have hHs := HR.out.bel.size
            have hle := HR.out.pr.le
            rw [hj] at cpi hp0 hpo
            have HJ := (show Hid _ from hj)
            clear hj
            go_upto_region 33 with (go_at_call 8; refine (move_any HR.out.pk j hjn (by omega) hHs (-1) _ (.inl ⟨rfl, rfl⟩)).mono ?_; rintro e' w3 ⟨rfl, fw3, n3, ao3, cap3, hp3, he3, ht3⟩)
            have hs3 := ht3.row rfl HR.out.pr
            have cp3 := hs3.cell him
            have cpm := hs3.cell (show m1 < m1 + 1 by omega)
            have fp3 := hs3.frozen (po + i)
            obtain ⟨f3, hf3⟩ : ∃ f3 : Nat, fw3 = (f3 : Int) := ⟨fw3.toNat, by have := hp3.f0; omega⟩
            subst hf3
            have HP3 := (show Hid _ from hp3)
            have HE3 := (show Hid _ from he3)
            have HT3 := (show Hid _ from ht3)
            clear hp3 he3 ht3 hs3
            go_wp2_with fail
            go_meet
            have r := run_out (f' := f3) (n' := n3) (ao' := ao3) (cap' := cap3) HR.out him (by rw [HJ.out]; exact HP3.out) (by rw [HJ.out]; exact HE3.out) HT3.out
            exact ⟨_, _, _, _, _, _, _, _, _, rfl, r⟩
        case rest =>
        obtain ⟨pb2, po2, cp2, m2, P2, f2, n2, ao2, cap2, rfl, hrun⟩ := hcut
        have hmb2 := hrun.mb
        have HR := (show Hid _ from hrun)
        clear hrun
        go_wp2_with (go_at_call 7; refine (check_any HR.out.pk HR.out.en HR.out.pr (by omega)).mono ?_; rintro e' w3 ⟨rfl, hb3⟩)
        go_roundg (len - (k + 1))
        case rel => exact ⟨k + 1, _, _, _, _, _, _, _, _, _, rfl, by omega, by go_num, rfl, HR.out.below hb3⟩
        case measure => omega
      · go_wp2_with fail
        go_ret
        exact ⟨rfl, hrun.bel⟩
end Go.Proofs.Ybulkbunc.Pk
