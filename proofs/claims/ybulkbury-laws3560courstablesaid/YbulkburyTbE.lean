import Derived.Test.YbulkburyTbD
namespace Go.Proofs.Ybulkbury.Tb
open Go.RowKit

theorem Trow_le {C : Nat → Nat → Nat} {rows width : Nat} (hc : Chain C rows) (hr : 0 < rows) {t j : Nat} (ht : t < rows) (hj : j < width) : Trow C rows width t j ≤ one := by
  have h := sumTo_le (f := Trow C rows width t) hj
  rw [Trow_sum hc hr (by omega) t ht] at h
  exact h
theorem Trow_pair {C : Nat → Nat → Nat} {rows width : Nat} (hc : Chain C rows) (hr : 0 < rows) {t j : Nat} (ht : t < rows) (hj : j + 1 < width) : Trow C rows width t j + Trow C rows width t (j + 1) ≤ one := by
  have h := sumTo_pair (f := Trow C rows width t) hj
  rw [Trow_sum hc hr (by omega) t ht] at h
  exact h

theorem Hm_at {C : Nat → Nat → Nat} {rows width m n : Nat} (j : Nat) : Hm C rows width m n m j = Trow C rows width (rows - 1 - m) j := by
  simp only [Hm, Gm]
  rw [if_neg (by omega), if_pos (Nat.le_refl _)]
theorem Hm_below {C : Nat → Nat → Nat} {rows width q n : Nat} (j : Nat) : Hm C rows width (q + 1) n q j = part (Trow C rows width (rows - 1 - (q + 1))) (hOf C rows width (q + 1)) n j := by
  simp [Hm]
theorem Hm_below' {C : Nat → Nat → Nat} {rows width m q n : Nat} (h : q + 1 = m) (j : Nat) : Hm C rows width m n q j = part (Trow C rows width (rows - 1 - m)) (hOf C rows width m) n j := by
  subst h
  exact Hm_below j
theorem inner0 {wx : World} {b N rows width m q M0 P H : Nat} {C : Nat → Nat → Nat} (h : M2 wx b N rows width (Hm C rows width m 0)) (hqm : q + 1 = m) (hq : m < rows) (hW : 0 < width) (hM : M0 = q * width) (hP : P = Trow C rows width (rows - 1 - m) 0) (hH : H = hOf C rows width m 0) (hle : H ≤ P) :
    M2 (wx.setCell ⟨b, M0, none⟩ (.int .u64 ((P : Int) - (H : Int)))) b N rows width (Hm C rows width m 1) := by
  subst hqm
  have e := h.set (m0 := q) (j0 := 0) (by omega) hW (P - H)
  rw [Nat.add_zero, ← hM, Int.ofNat_sub hle] at e
  refine e.congr ?_
  intro m hm j hj
  by_cases e1 : m = q
  · subst e1
    rw [Hm_below (n := 1)]
    by_cases e2 : j = 0
    · subst e2
      rw [if_pos ⟨rfl, rfl⟩]
      simp [part, hP, hH]
    · rw [if_neg (by omega), Hm_below (n := 0)]
      simp only [part]
      rw [if_neg (by omega), if_neg (by omega), if_neg (by omega), if_neg (by omega)]
  · rw [if_neg (by omega)]
    simp only [Hm]
    rw [if_neg (by omega), if_neg (by omega)]
theorem innerS {wx : World} {b N rows width m q M0 n P H D : Nat} {C : Nat → Nat → Nat} (h : M2 wx b N rows width (Hm C rows width m (n + 1))) (hqm : q + 1 = m) (hq : m < rows) (hn : n + 1 < width) (hM : M0 = q * width) (hP : P = Trow C rows width (rows - 1 - m) (n + 1)) (hH : H = hOf C rows width m (n + 1)) (hle : H ≤ P)
    (hD : D = part (Trow C rows width (rows - 1 - m)) (hOf C rows width m) (n + 1) n) :
    M2 ((wx.setCell ⟨b, M0 + (n + 1), none⟩ (.int .u64 ((P : Int) - (H : Int)))).setCell ⟨b, M0 + n, none⟩ (.int .u64 ((D : Int) + (H : Int)))) b N rows width (Hm C rows width m (n + 1 + 1)) := by
  subst hqm
  have e0 := h.set (m0 := q) (j0 := n + 1) (by omega) hn (P - H)
  rw [← hM, Int.ofNat_sub hle] at e0
  have e := e0.set (m0 := q) (j0 := n) (by omega) (by omega) (D + H)
  rw [← hM, Int.natCast_add] at e
  refine e.congr ?_
  intro m hm j hj
  by_cases e1 : m = q
  · subst e1
    rw [Hm_below (n := n + 1 + 1)]
    by_cases e2 : j = n
    · subst e2
      rw [if_pos ⟨rfl, rfl⟩, hD, hH]
      simp only [part]
      rw [if_pos (by omega), if_neg (by omega), if_pos (by omega), if_pos (by omega)]
      omega
    · rw [if_neg (by omega)]
      by_cases e3 : j = n + 1
      · subst e3
        rw [if_pos ⟨rfl, rfl⟩, hP, hH]
        simp only [part]
        rw [if_pos (by omega), if_neg (by omega)]
        omega
      · rw [if_neg (by omega), Hm_below (n := n + 1)]
        simp only [part]
        by_cases e4 : j < n
        · rw [if_pos (by omega), if_pos (by omega), if_pos (by omega), if_pos (by omega)]
        · rw [if_neg (by omega), if_neg (by omega), if_neg (by omega), if_neg (by omega)]
  · rw [if_neg (by omega), if_neg (by omega)]
    simp only [Hm]
    rw [if_neg (by omega), if_neg (by omega)]

set_option maxHeartbeats 8000000 in
set_option maxRecDepth 100000 in
theorem tableOf_any {w : World} {cb capc rows width N : Nat} {C : Nat → Nat → Nat} (h : M2 w cb capc rows width C) (hc : Chain C rows) (hr0 : 0 < rows) (hr : rows ≤ 1024) (hW0 : 0 < width) (hW : width ≤ 33) (hN : N = rows * width) :
    Calls Yba.prog 16 #[.slice (some ⟨cb, 0, none⟩) N capc, .int .i64 rows, .int .i64 width] w fun e w' => ∃ b, e = .returned (.slice (some ⟨b, 0, none⟩) N N) ∧ M2 w' b N rows width (Gm C rows width 0) ∧ w.heap.size ≤ b ∧ Below w.heap.size w w' := by
  have bN : N ≤ 33792 := by rw [hN]; exact Nat.mul_le_mul hr hW
  have rN : (rows : Int) * (width : Int) = (N : Int) := by rw [hN]; exact (Int.natCast_mul rows width).symm
  have hmk := run_make_row' (P := Yba.prog) 26 25 (.int .u64 0) 8 Yba.underlying26 info25 rfl .i64 .i64 N (by omega) (by omega)
  obtain ⟨p, hp⟩ : ∃ p, p = rows - 1 := ⟨_, rfl⟩
  have rp : (rows : Int) - 1 = (p : Int) := by omega
  obtain ⟨L, hL⟩ : ∃ L, L = p * width := ⟨_, rfl⟩
  have rL : (p : Int) * (width : Int) = (L : Int) := by rw [hL]; exact (Int.natCast_mul p width).symm
  obtain ⟨I, hI⟩ : ∃ I, I = L + (width - 1) := ⟨_, rfl⟩
  have rI : (L : Int) + (width : Int) - 1 = (I : Int) := by omega
  have hIN : I < N := by rw [hI, hL, hN]; exact at_lt (by omega) (by omega)
  have hm0 := M2.made w rows width N hN
  have cI := hm0.cell (m := p) (j := width - 1) (by omega) (by omega)
  rw [← hL, ← hI] at cI
  have fI := hm0.frozen I
  have HM0 := (show Hid _ from hm0)
  have HH := (show Hid _ from h)
  have HC := (show Hid _ from hc)
  have HN := (show Hid _ from hN)
  have HP := (show Hid (_ ∧ _ ∧ _) from ⟨hp, hL, hI⟩)
  have hp' : p < rows := by omega
  clear hm0 h hc hN hp hL hI
  go_enter Yba.func16, Yba.ntmps16
  go_wp2_with fail
  go_loopg [8] p (fun g s8 wr => ∃ m : Nat, g = m ∧ m < rows ∧ s8 = .int .i64 m ∧ M2 wr w.heap.size N rows width (Gm C rows width m) ∧ Below w.heap.size w wr)
  case atStart =>
    refine ⟨p, rfl, hp', rfl, ?_, (Below.refl _ _).alloc (Nat.le_refl _) _⟩
    have e := HM0.out.set (m0 := p) (j0 := width - 1) hp' (by omega) one
    rw [← HP.out.2.1, ← HP.out.2.2, World.setCell_alloc_new] at e
    refine M2.congr (V := _) e ?_
    intro m hm j hj
    have hpp := HP.out.1
    simp only [Gm]
    by_cases e1 : p ≤ m
    · rw [if_pos e1, show rows - 1 - m = 0 by omega]
      simp only [Trow]
      by_cases e2 : j + 1 = width
      · rw [if_pos ⟨by omega, by omega⟩, if_pos e2]
      · rw [if_neg (by omega), if_neg e2]
    · rw [if_neg e1, if_neg (by omega)]
  case round =>
    obtain ⟨m, hgm, hm, rfl, hM, hbel⟩ := hrel
    have HG := (show Hid _ from hgm)
    clear hgm hmk cI fI rI rL rp hIN
    by_cases h0 : 0 < m
    · obtain ⟨M1, hM1⟩ : ∃ M1, M1 = m * width := ⟨_, rfl⟩
      have r1 : (m : Int) * (width : Int) = (M1 : Int) := by rw [hM1]; exact (Int.natCast_mul m width).symm
      obtain ⟨q, hq⟩ : ∃ q, q = m - 1 := ⟨_, rfl⟩
      have rq : (m : Int) - 1 = (q : Int) := by omega
      obtain ⟨M0, hM0⟩ : ∃ M0, M0 = q * width := ⟨_, rfl⟩
      have r0 : (q : Int) * (width : Int) = (M0 : Int) := by rw [hM0]; exact (Int.natCast_mul q width).symm
      have b1 : M1 + width ≤ N := by
        have := Nat.mul_le_mul_right width (show m + 1 ≤ rows by omega)
        rw [Nat.succ_mul] at this
        rw [hM1, HN.out]
        exact this
      have b0 : M0 + width = M1 := by
        rw [hM0, hM1, ← Nat.succ_mul, hq]
        congr 1
        omega
      have HQ := (show Hid (_ ∧ _ ∧ _) from ⟨hM1, hM0, hq⟩)
      have hqm : q < m := by omega
      have HM := (show Hid _ from hM)
      have HB := (show Hid _ from hbel)
      clear hM1 hM0 hq hM hbel
      go_upto_region 6 with fail
      go_region
      go_wp2_with fail
      go_loopg [50] width (fun g s50 wx => ∃ n : Nat, g = width - n ∧ n ≤ width ∧ s50 = .int .i64 n ∧ M2 wx w.heap.size N rows width (Hm C rows width m n) ∧ Below w.heap.size w wx)
      case atStart => exact ⟨0, by omega, by omega, rfl, (M2.of_block (w' := wr.drew) HM.out rfl).congr (fun r _ j _ => Hm_zero r j), HB.out.drew⟩
      case round =>
        obtain ⟨n, hgn, hn, rfl, hMx, hbx⟩ := hrel
        have HGN := (show Hid _ from hgn)
        clear hgn
        by_cases hlt : n < width
        · have hqm1 : q + 1 = m := by omega
          have cP := hMx.cell (m := m) (j := n) hm hlt
          rw [← HQ.out.1, Hm_at] at cP
          have c0 := hMx.cell (m := q) (j := n) (by omega) hlt
          rw [← HQ.out.2.1, Hm_below' hqm1] at c0
          have cC : wr.cell? ⟨cb, M1 + n, none⟩ = some (.int .u64 (C m n)) := by
            have e2 := HH.out.cell (m := m) (j := n) hm hlt
            rw [← HQ.out.1] at e2
            exact (hbx.cell (p := ⟨cb, M1 + n, none⟩) HH.out.lt).trans e2
          have fz := fun i => hMx.frozen i
          have bP : Trow C rows width (rows - 1 - m) n ≤ one := Trow_le HC.out hr0 (by omega) hlt
          have bC : C m n ≤ one := HC.out.1 _ hm n
          have bH : hOf C rows width m n ≤ Trow C rows width (rows - 1 - m) n := mulC_le _ _ (HC.out.1 _ hm n)
          obtain ⟨Pv, hPv⟩ : ∃ Pv, Pv = Trow C rows width (rows - 1 - m) n := ⟨_, rfl⟩
          obtain ⟨Cv, hCv⟩ : ∃ Cv, Cv = C m n := ⟨_, rfl⟩
          obtain ⟨Hv, hHv⟩ : ∃ Hv, Hv = hOf C rows width m n := ⟨_, rfl⟩
          have hmul : mulC Pv Cv = Hv := by rw [hPv, hCv, hHv]; rfl
          rw [← hPv] at cP bP bH
          rw [← hCv] at cC bC
          rw [← hHv] at bH
          simp only [one] at bP bC
          have HQM := (show Hid _ from hqm1)
          have HV := (show Hid (_ ∧ _) from ⟨hPv, hHv⟩)
          have HMX := (show Hid _ from hMx)
          have HBX := (show Hid _ from hbx)
          cases n with
          | zero =>
            have e00 : part (Trow C rows width (rows - 1 - m)) (hOf C rows width m) 0 0 = 0 := rfl
            rw [e00] at c0
            clear hMx hbx hPv hCv hHv hqm1 e00
            simp only [Nat.add_zero] at cP c0 cC
            have f0 := fz M0
            clear fz
            go_wp2_with (go_at_call 18; refine (mul_any Pv Cv bP bC _).mono ?_; rintro e w1 ⟨rfl, rfl⟩)
            go_roundg (width - 1)
            case rel => exact ⟨1, by omega, by omega, by go_num, inner0 HMX.out HQM.out hm hW0 HQ.out.2.1 HV.out.1 HV.out.2 bH, HBX.out.setCell (Nat.le_refl _) _⟩
            case measure => have := HGN.out; omega
          | succ n =>
            have e00 : part (Trow C rows width (rows - 1 - m)) (hOf C rows width m) (n + 1) (n + 1) = 0 := by simp only [part]; rw [if_neg (by omega), if_neg (by omega)]
            rw [e00] at c0
            have c1 := hMx.cell (m := q) (j := n) (by omega) (by omega)
            rw [← HQ.out.2.1, Hm_below' hqm1] at c1
            obtain ⟨Dv, hDv⟩ : ∃ Dv, Dv = part (Trow C rows width (rows - 1 - m)) (hOf C rows width m) (n + 1) n := ⟨_, rfl⟩
            rw [← hDv] at c1
            have bD : Dv + Hv ≤ 9223372036854775808 := by
              have h1 := Trow_pair HC.out hr0 (t := rows - 1 - m) (j := n) (width := width) (by omega) hlt
              have h2 : Dv ≤ Trow C rows width (rows - 1 - m) n := by rw [hDv]; simp only [part]; rw [if_pos (by omega), if_neg (by omega)]; omega
              have h3 := HV.out.1
              simp only [one] at h1
              omega
            have HD := (show Hid _ from hDv)
            have f0 := fz (M0 + (n + 1))
            have f1 := fz (M0 + n)
            clear hMx hbx hPv hCv hHv hqm1 e00 hDv fz
            go_wp2_with (go_at_call 18; refine (mul_any Pv Cv bP bC _).mono ?_; rintro e w1 ⟨rfl, rfl⟩)
            go_roundg (width - (n + 1 + 1))
            case rel => exact ⟨n + 1 + 1, by omega, by omega, by go_num, innerS HMX.out HQM.out hm hlt HQ.out.2.1 HV.out.1 HV.out.2 bH HD.out, (HBX.out.setCell (Nat.le_refl _) _).setCell (Nat.le_refl _) _⟩
            case measure => have := HGN.out; omega
        · have hnw : n = width := by omega
          subst hnw
          have HMX := (show Hid _ from hMx)
          have HBX := (show Hid _ from hbx)
          clear hMx hbx
          go_wp2_with fail
          go_roundg q
          case rel => exact ⟨q, rfl, by omega, rfl, HMX.out.congr (fun r _ j hj => by rw [Hm_last h0 hm r j hj, HQ.out.2.2]), HBX.out⟩
          case measure => have := HG.out; omega
    · have hm0 : m = 0 := by omega
      subst hm0
      have HM := (show Hid _ from hM)
      have HB := (show Hid _ from hbel)
      clear hM hbel
      go_wp2_with fail
      go_ret
      exact ⟨_, rfl, HM.out, Nat.le_refl _, HB.out⟩
end Go.Proofs.Ybulkbury.Tb
