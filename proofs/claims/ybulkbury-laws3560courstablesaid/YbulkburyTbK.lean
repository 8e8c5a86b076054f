import Derived.Test.YbulkburyTbI
import Derived.Test.YbulkburyTbJ
namespace Go.Proofs.Ybulkbury.Tb
open Go.RowKit

theorem Wt.but {z : Nat} {w w' : World} {y tb rows : Nat} {al : Option Nat} {T A : Nat → Nat} (h : Wt w y tb rows al T A) (hb : But z w w') (h1 : y ≠ z) (h2 : tb ≠ z) (h3 : ∀ ab, al = some ab → ab ≠ z) : Wt w' y tb rows al T A :=
  ⟨(World.cell?_of_block (a := ⟨y, 0, none⟩) (hb.block y h.yl h1)).trans h.c0, (World.cell?_of_block (a := ⟨y, 1, none⟩) (hb.block y h.yl h1)).trans h.c1, Nat.lt_of_lt_of_le h.yl hb.size, hb.r1 h.t h2, fun ab e => hb.r1 (h.a ab e) (h3 ab e), h.up, h.t0, h.a0⟩

theorem row1 {C : Nat → Nat → Nat} {rows width k : Nat} (hk : 1 ≤ k) (hW : width = k + 1) (hc : C (rows - 1) k ≤ one) (n : Nat) (hn : n < width) : Trow C rows width 1 n = if n = k then one - C (rows - 1) k else if n + 1 = k then C (rows - 1) k else 0 := by
  subst hW
  have m0 : ∀ c, mulC 0 c = 0 := fun c => by rw [mulC_comm]; exact mulC_zero c
  have m1 : ∀ c, mulC one c = c := fun c => mulC_one c
  show (Trow C rows (k + 1) 0 n - mulC (Trow C rows (k + 1) 0 n) (C (rows - 1 - 0) n)) + (if n + 1 < k + 1 then mulC (Trow C rows (k + 1) 0 (n + 1)) (C (rows - 1 - 0) (n + 1)) else 0) = _
  simp only [Trow, Nat.sub_zero]
  by_cases e : n = k
  · subst e
    rw [if_pos rfl, if_pos rfl, if_neg (by omega), m1]
    omega
  · rw [if_neg e, if_neg (by omega), if_pos (by omega), m0]
    by_cases e2 : n + 1 = k
    · subst e2
      rw [if_pos rfl, if_pos rfl, m1]
      omega
    · rw [if_neg e2, if_neg (by omega), m0]

set_option maxHeartbeats 8000000 in
set_option maxRecDepth 100000 in
theorem all_walk {w : World} (kk f rows cap1 len2 cap2 : Nat) (ao1 ao2 : Option Addr) (useArr last : Bool) (ws ar : Nat → Nat) (h1 : In w ao1 rows .u16 ws 65536) (h2 : In w ao2 len2 .u32 ar 4294967296) (hkk : kk < 256) (hf : f < 65536) :
    Calls Yba.prog 5 #[.int .u8 kk, .slice ao1 rows cap1, .slice ao2 len2 cap2, .bool useArr, .int .u16 f, .bool last] w fun e w' => e = .returned (.bool true) ∧ Below w.heap.size w w' := by
  rcases Nat.eq_zero_or_pos rows with rfl | hr0
  · go_enter Yba.func5, Yba.ntmps5
    go_wp2_with fail
    go_ret
    exact ⟨rfl, Below.refl _ _⟩
  by_cases hbig : 1024 < rows
  · have hb' : (1024 : Int) < (rows : Int) := by omega
    have hnz : ¬ ((rows : Int) = 0) := by omega
    go_enter Yba.func5, Yba.ntmps5
    go_wp2_with fail
    go_ret
    exact ⟨rfl, Below.refl _ _⟩
  have hr : rows ≤ 1024 := by omega
  have mk9 := make_any kk f rows cap1 len2 cap2 ao1 ao2 useArr last ws ar h1 h2 hkk hf hr0 hr
  have hb' : ¬ ((1024 : Int) < (rows : Int)) := by omega
  have hnz : ¬ ((rows : Int) = 0) := by omega
  obtain ⟨kv, hkv⟩ : ∃ kv, kv = kk % 32 + 1 := ⟨_, rfl⟩
  obtain ⟨wd, hwd⟩ : ∃ wd, wd = kv + 1 := ⟨_, rfl⟩
  obtain ⟨Fv, hFv⟩ : ∃ Fv, Fv = fOf last f rows := ⟨_, rfl⟩
  rw [← hkv, ← hwd, ← hFv] at mk9
  have bk : kv ≤ 32 := by omega
  have bk1 : 1 ≤ kv := by omega
  have bw : wd ≤ 33 := by omega
  have bw0 : 1 < wd := by omega
  have HK := (show Hid (_ ∧ _) from ⟨hwd, hFv⟩)
  clear h1 h2 hbig hkv hwd hFv
  go_enter Yba.func5, Yba.ntmps5
  go_upto_region 4 with (go_at_call 9; refine mk9.mono ?_; rintro e w1 ⟨z, y, tb, al, v1, v2, v3, rfl, hz, hW, hzB, hyB, hyz, htB, htz, haz, hb1⟩)
  obtain ⟨x0, x4, x5, x6, x7, x8, x9, g7, g8⟩ := hz.facts
  obtain ⟨N, hN⟩ : ∃ N, N = rows * wd := ⟨_, rfl⟩
  have HN := (show Hid _ from hN)
  have rN : (rows : Int) * (wd : Int) = (N : Int) := by rw [hN]; exact (Int.natCast_mul rows wd).symm
  have bN : N ≤ 33792 := by rw [hN]; exact Nat.mul_le_mul hr bw
  have hd : Below w1.heap.size w1 w1.drew := (Below.refl _ _).drew
  have st := start_any (N := N) (hz.below hd) (hW.below hd) hr0 hr bk1 bk HK.out.1 hN
  have HZ := (show Hid (_ ∧ _ ∧ _) from ⟨hz, hW, hb1⟩)
  have HNE := (show Hid (_ ∧ _ ∧ _ ∧ _ ∧ _ ∧ _) from ⟨hzB, hyB, hyz, htB, htz, haz⟩)
  clear hz hW hb1 hN mk9 hzB hyB hyz htB htz haz
  go_region
  go_upto_region 6 with (go_at_call 10; refine st.mono ?_; rintro e w2 ⟨rfl, Ab, Ob, hD, hz2, hbut⟩)
  clear x0 x4 x5 x6 x7 x8 x9 g7 g8 st hd
  obtain ⟨x0, x4, x5, x6, x7, x8, x9, g7, g8⟩ := hz2.facts
  have hn := neq_nil
  have hch : Chain (Ch al (fun m => Sm ws (m + 1)) (fun m => ar m % 4294967296 + 1)) rows := Ch_chain HZ.out.2.1
  obtain ⟨C, hC⟩ : ∃ C, C = Ch al (fun m => Sm ws (m + 1)) (fun m => ar m % 4294967296 + 1) := ⟨_, rfl⟩
  rw [← hC] at hch hD
  have HCH : Hid (Chain C rows) := hch
  have hA : ∀ m n, m < rows → n < wd → w2.cell? ⟨Ab, m * wd + n, none⟩ = some (.int .u64 (Trow C rows wd (rows - 1 - m) n)) := fun m n hm hn' => by
    have e := hD.all.cell hm hn'
    simp only [Gm, Nat.zero_le, if_true] at e
    exact e
  have HA := (show Hid _ from hA)
  have HEND := (show Hid (_ ∧ _ ∧ _) from ⟨hbut, hz2.lt, hC⟩)
  clear hch hD hA hz2 hbut hC g7 g8
  go_wp2_with fail
  go_loopg [19] rows (fun g s19 wr => ∃ m : Nat, g = rows - m ∧ m ≤ rows ∧ s19 = .int .i64 m ∧ wr = w2)
  case atStart => exact ⟨0, by omega, by omega, rfl, rfl⟩
  case round =>
    obtain ⟨m, hg, hm, rfl, hwr⟩ := hrel
    subst hwr
    have HG := (show Hid _ from hg)
    clear hg
    by_cases hlt : m < rows
    · obtain ⟨M, hM⟩ : ∃ M, M = m * wd := ⟨_, rfl⟩
      have rM : (m : Int) * (wd : Int) = (M : Int) := by rw [hM]; exact (Int.natCast_mul m wd).symm
      have bM : M + wd ≤ N := by
        have := Nat.mul_le_mul_right wd (show m + 1 ≤ rows by omega)
        rw [Nat.succ_mul] at this
        rw [hM, HN.out]
        exact this
      obtain ⟨p, hp⟩ : ∃ p : Nat → Nat, p = Trow C rows wd (rows - 1 - m) := ⟨_, rfl⟩
      have cp : ∀ n, n < wd → wr.cell? ⟨Ab, M + n, none⟩ = some (.int .u64 (p n)) := fun n hn' => by rw [hM, hp]; exact HA.out m n hlt hn'
      have hsum : sumTo p wd = 9223372036854775808 := by rw [hp]; exact Trow_sum HCH.out hr0 (by omega) _ (Nat.lt_of_le_of_lt (Nat.sub_le (rows - 1) _) (by omega))
      have HCP := (show Hid (_ ∧ _) from ⟨cp, hsum⟩)
      clear hM hp cp hsum
      go_wp2_with fail
      go_loopg [20, 21] wd (fun g s20 s21 wx => ∃ n : Nat, g = wd - n ∧ n ≤ wd ∧ s21 = .int .i64 n ∧ s20 = .int .u64 (sumTo p n) ∧ wx = wr)
      case atStart => exact ⟨0, by omega, by omega, rfl, rfl, rfl⟩
      case round =>
        obtain ⟨n, hg2, hn2, rfl, rfl, hwx⟩ := hrel
        subst hwx
        have HG2 := (show Hid _ from hg2)
        clear hg2
        by_cases hlt2 : n < wd
        · have c := HCP.out.1 n hlt2
          have hmono : sumTo p n + p n ≤ 9223372036854775808 := by
            have h1 : ∀ j, n + 1 ≤ j → sumTo p (n + 1) ≤ sumTo p j := by
              intro j hj
              induction j with
              | zero => omega
              | succ j ih =>
                by_cases e : n + 1 = j + 1
                · rw [e]; exact Nat.le_refl _
                · have := ih (by omega)
                  show sumTo p (n + 1) ≤ sumTo p j + p j
                  omega
            have h2 := h1 wd (by omega)
            rw [HCP.out.2] at h2
            exact h2
          obtain ⟨S, hS⟩ : ∃ S, S = sumTo p n := ⟨_, rfl⟩
          obtain ⟨S2, hS2⟩ : ∃ S2, S2 = sumTo p (n + 1) := ⟨_, rfl⟩
          have rS : (S : Int) + (p n : Int) = (S2 : Int) := by rw [hS2, hS, ← Int.natCast_add]; rfl
          have bS : S2 ≤ 9223372036854775808 := by rw [hS2]; exact hmono
          rw [← hS]
          have HS := (show Hid _ from hS2)
          clear hmono hS hS2
          go_wp2_with fail
          go_roundg (wd - (n + 1))
          case rel => exact ⟨n + 1, rfl, by omega, by go_num, by rw [HS.out], rfl⟩
          case measure => have := HG2.out; omega
        · have hnw : n = wd := by omega
          have hs : ((sumTo p n : Nat) : Int) = 9223372036854775808 := by rw [hnw, HCP.out.2]; rfl
          generalize sumTo p n = S at hs
          have HNW := (show Hid _ from hnw)
          clear hnw
          go_wp2_with fail
          go_roundg (rows - (m + 1))
          case rel => exact ⟨m + 1, rfl, by omega, by go_num, rfl⟩
          case measure => have := HG.out; omega
    · have hfin : ∀ {W : World}, W = wr → Below w.heap.size w W := fun e => by
        subst e
        obtain ⟨hbut, hzl, _⟩ := HEND.out
        obtain ⟨_, _, hb1⟩ := HZ.out
        exact ⟨hbut.os.trans hb1.os, hbut.tape.trans hb1.tape, hbut.output.trans hb1.output, Nat.le_trans hb1.size hbut.size, fun k hk => (hbut.block k (Nat.lt_of_lt_of_le hk hb1.size) (by have := HNE.out.1; omega)).trans (hb1.block k hk)⟩
      have HFIN := (show Hid _ from @hfin)
      clear hfin HG
      obtain ⟨p, hp⟩ : ∃ p, p = rows - 1 := ⟨_, rfl⟩
      have rp : (rows : Int) - 1 = (p : Int) := by omega
      obtain ⟨L, hL⟩ : ∃ L, L = p * wd := ⟨_, rfl⟩
      have rL : (p : Int) * (wd : Int) = (L : Int) := by rw [hL]; exact (Int.natCast_mul p wd).symm
      have bL : L + wd = N := by rw [hL, HN.out, ← Nat.succ_mul, hp]; congr 1; omega
      have cL : ∀ n, n < wd → wr.cell? ⟨Ab, L + n, none⟩ = some (.int .u64 (if n = kv then 9223372036854775808 else 0 : Nat)) := fun n hn' => by
        have e := HA.out p n (by omega) hn'
        rw [← hL, show rows - 1 - p = 0 by omega] at e
        rw [e]
        simp only [Trow, one]
        have hwd := HK.out.1
        by_cases e1 : n = kv
        · rw [if_pos (by omega), if_pos e1]
        · rw [if_neg (by omega), if_neg e1]
      have HCL := (show Hid _ from cL)
      have HP := (show Hid _ from hp)
      clear hp hL cL
      go_wp2_with fail
      go_loopg [22] wd (fun g s22 wx => ∃ n : Nat, g = wd - n ∧ n ≤ wd ∧ s22 = .int .i64 n ∧ wx = wr)
      case atStart => exact ⟨0, by omega, by omega, rfl, rfl⟩
      case round =>
        obtain ⟨n, hg2, hn2, rfl, hwx⟩ := hrel
        subst hwx
        have HG2 := (show Hid _ from hg2)
        clear hg2
        by_cases hlt2 : n < wd
        · have c := HCL.out n hlt2
          by_cases hnk : n = kv
          · rw [if_pos hnk] at c
            subst hnk
            have c' : wr.cell? ⟨Ab, L + n, none⟩ = some (.int .u64 9223372036854775808) := c
            clear c
            go_wp2_with fail
            go_roundg (wd - (n + 1))
            case rel => exact ⟨n + 1, rfl, by omega, by go_num, rfl⟩
            case measure => have := HG2.out; omega
          · have hnk' : ¬ ((n : Int) = (kv : Int)) := by omega
            rw [if_neg hnk] at c
            have c' : wr.cell? ⟨Ab, L + n, none⟩ = some (.int .u64 0) := c
            clear c hnk
            go_wp2_with fail
            go_roundg (wd - (n + 1))
            case rel => exact ⟨n + 1, rfl, by omega, by go_num, rfl⟩
            case measure => have := HG2.out; omega
        · by_cases h2 : 2 ≤ rows
          · have h2' : (2 : Int) ≤ (rows : Int) := by omega
            obtain ⟨p2, hp2⟩ : ∃ p2, p2 = rows - 2 := ⟨_, rfl⟩
            have rp2 : (rows : Int) - 2 = (p2 : Int) := by omega
            obtain ⟨L2, hL2⟩ : ∃ L2, L2 = p2 * wd := ⟨_, rfl⟩
            have rL2 : (p2 : Int) * (wd : Int) = (L2 : Int) := by rw [hL2]; exact (Int.natCast_mul p2 wd).symm
            have bL2 : L2 + wd ≤ N := by
              have := Nat.mul_le_mul_right wd (show p2 + 1 ≤ rows by omega)
              rw [Nat.succ_mul] at this
              rw [hL2, HN.out]
              exact this
            obtain ⟨cv, hcv⟩ : ∃ cv, cv = C (rows - 1) kv := ⟨_, rfl⟩
            have bcv : cv ≤ 9223372036854775808 := by rw [hcv]; exact HCH.out.1 _ (by omega) kv
            have cL2 : ∀ n, n < wd → wr.cell? ⟨Ab, L2 + n, none⟩ = some (.int .u64 (if n = kv then 9223372036854775808 - cv else if n + 1 = kv then cv else 0 : Nat)) := fun n hn' => by
              have e := HA.out p2 n (by omega) hn'
              rw [← hL2, show rows - 1 - p2 = 1 by omega, row1 bk1 HK.out.1 (HCH.out.1 _ (by omega) kv) n hn', ← hcv] at e
              exact e
            have hW2 := (HZ.out.2.1.below (Below.refl _ _).drew).but HEND.out.1 HNE.out.2.2.1 HNE.out.2.2.2.2.1 HNE.out.2.2.2.2.2
            have cla := clast_any hW2 kv hr0 hr bk
            have hceq : chA al (fun m => Sm ws (m + 1)) (fun m => ar m % 4294967296 + 1) (rows - 1) kv = cv := by rw [hcv, HEND.out.2.2]; simp only [Ch]; rw [if_neg (by omega)]
            rw [hceq] at cla
            have HCL2 := (show Hid _ from cL2)
            clear cL2 hcv hp2 hL2 hW2 hceq
            have hAl : Ab < wr.heap.size := by
              rcases Nat.lt_or_ge Ab wr.heap.size with h | h
              · exact h
              · have e := HA.out 0 0 (by omega) (by omega)
                rw [World.cell?, Array.getElem?_eq_none h] at e
                cases e
            go_wp2_with (go_at_call 11; refine cla.mono ?_; rintro e w7 ⟨rfl, hb7⟩)
            go_loopg [25] wd (fun g s25 wx => ∃ n : Nat, g = wd - n ∧ n ≤ wd ∧ s25 = .int .i64 n ∧ wx = w7)
            case atStart => exact ⟨0, by omega, by omega, rfl, rfl⟩
            case round =>
              obtain ⟨n3, hg3, hn3, rfl, hwx⟩ := hrel
              subst hwx
              have HG3 := (show Hid _ from hg3)
              have hzl := HEND.out.2.1
              have y7 := (hb7.cell (p := ⟨z, 7, none⟩) hzl).trans x7
              clear hg3 x0 x4 x5 x6 x7 x8 x9 cla
              obtain ⟨k1, hk1⟩ : ∃ k1, k1 = kv - 1 := ⟨_, rfl⟩
              have rk1 : (kv : Int) - 1 = (k1 : Int) := by omega
              obtain ⟨E, hE⟩ : ∃ E, E = 9223372036854775808 - cv := ⟨_, rfl⟩
              have rE : (9223372036854775808 : Int) - (cv : Int) = (E : Int) := by omega
              by_cases hlt3 : n3 < wd
              · have c := (hb7.cell (p := ⟨Ab, L2 + n3, none⟩) hAl).trans (HCL2.out n3 hlt3)
                rw [← hE] at c
                by_cases e1 : n3 = kv
                · rw [if_pos e1] at c
                  subst e1
                  clear hk1 hE
                  go_wp2_with fail
                  go_roundg (wd - (n3 + 1))
                  case rel => exact ⟨n3 + 1, rfl, by omega, by go_num, rfl⟩
                  case measure => have := HG3.out; omega
                · have e1' : ¬ ((n3 : Int) = (kv : Int)) := by omega
                  rw [if_neg e1] at c
                  by_cases e2 : n3 + 1 = kv
                  · rw [if_pos e2] at c
                    have e3 : n3 = k1 := by omega
                    subst e3
                    clear hk1 hE e2 e1
                    go_wp2_with fail
                    go_roundg (wd - (n3 + 1))
                    case rel => exact ⟨n3 + 1, rfl, by omega, by go_num, rfl⟩
                    case measure => have := HG3.out; omega
                  · rw [if_neg e2] at c
                    have e3 : ¬ ((n3 : Int) = (k1 : Int)) := by omega
                    have c' : wr.cell? ⟨Ab, L2 + n3, none⟩ = some (.int .u64 0) := c
                    clear hk1 hE e2 e1 c
                    go_wp2_with fail
                    go_roundg (wd - (n3 + 1))
                    case rel => exact ⟨n3 + 1, rfl, by omega, by go_num, rfl⟩
                    case measure => have := HG3.out; omega
              · go_wp2_with fail
                go_ret
                exact ⟨rfl, (HFIN.out rfl).trans (hb7.mono (HFIN.out rfl).size)⟩
          · have h2' : ¬ ((2 : Int) ≤ (rows : Int)) := by omega
            go_wp2_with fail
            go_ret
            exact ⟨rfl, HFIN.out rfl⟩
end Go.Proofs.Ybulkbury.Tb
