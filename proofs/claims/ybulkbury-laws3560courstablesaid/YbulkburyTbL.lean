import Derived.Test.YbulkburyTbK
namespace Go.Proofs.Ybulkbury.Tb
open Go.RowKit

theorem sum_scale (p : Nat → Nat) (c : Nat) : ∀ n, sumTo (fun j => mulC (p j) c) n * one ≤ sumTo p n * c ∧ sumTo p n * c + n ≤ sumTo (fun j => mulC (p j) c) n * one + n * one
  | 0 => by simp [sumTo]
  | n + 1 => by
    obtain ⟨h1, h2⟩ := sum_scale p c n
    have h3 := Nat.div_add_mod' (p n * c) 9223372036854775808
    have h4 := Nat.mod_lt (p n * c) (show 0 < 9223372036854775808 by omega)
    simp only [sumTo, Nat.add_mul, Nat.one_mul]
    have e : mulC (p n) c * one = p n * c / 9223372036854775808 * 9223372036854775808 := rfl
    rw [e]
    generalize sumTo (fun j => mulC (p j) c) n * one = A at *
    generalize sumTo p n * c = B at *
    generalize p n * c / 9223372036854775808 * 9223372036854775808 = D at *
    generalize p n * c % 9223372036854775808 = R at *
    generalize p n * c = E at *
    generalize n * one = Nn at *
    have ho : one = 9223372036854775808 := rfl
    omega
theorem sum_near {p : Nat → Nat} {c width : Nat} (hs : sumTo p width = one) (hw : 0 < width) : sumTo (fun j => mulC (p j) c) width ≤ c ∧ c < sumTo (fun j => mulC (p j) c) width + width := by
  obtain ⟨h1, h2⟩ := sum_scale p c width
  rw [hs] at h1 h2
  generalize sumTo (fun j => mulC (p j) c) width = S at *
  have e1 : one * c = c * one := Nat.mul_comm _ _
  rw [e1] at h1 h2
  have ho : 0 < one := by decide
  refine ⟨Nat.le_of_mul_le_mul_right h1 ho, ?_⟩
  have h3 : c * one < (S + width) * one := by rw [Nat.add_mul]; omega
  exact Nat.lt_of_mul_lt_mul_right h3
theorem sumTo_mono {p : Nat → Nat} {n : Nat} : ∀ j, n ≤ j → sumTo p n ≤ sumTo p j
  | 0, h => by have : n = 0 := by omega
               subst this; exact Nat.le_refl _
  | j + 1, h => by
    by_cases e : n = j + 1
    · subst e; exact Nat.le_refl _
    · have := sumTo_mono (p := p) (n := n) j (by omega)
      simp only [sumTo]
      omega

set_option maxHeartbeats 8000000 in
set_option maxRecDepth 100000 in
theorem ours_walk {w : World} (kk f rows cap1 len2 cap2 : Nat) (ao1 ao2 : Option Addr) (useArr last : Bool) (ws ar : Nat → Nat) (h1 : In w ao1 rows .u16 ws 65536) (h2 : In w ao2 len2 .u32 ar 4294967296) (hkk : kk < 256) (hf : f < 65536) :
    Calls Yba.prog 6 #[.int .u8 kk, .slice ao1 rows cap1, .slice ao2 len2 cap2, .bool useArr, .int .u16 f, .bool last] w fun e w' => e = .returned (.bool true) ∧ Below w.heap.size w w' := by
  rcases Nat.eq_zero_or_pos rows with rfl | hr0
  · go_enter Yba.func6, Yba.ntmps6
    go_wp2_with fail
    go_ret
    exact ⟨rfl, Below.refl _ _⟩
  by_cases hbig : 1024 < rows
  · have hb' : (1024 : Int) < (rows : Int) := by omega
    have hnz : ¬ ((rows : Int) = 0) := by omega
    go_enter Yba.func6, Yba.ntmps6
    go_wp2_with fail
    go_ret
    exact ⟨rfl, Below.refl _ _⟩
  have hr : rows ≤ 1024 := by omega
  have mk9 := make_any kk f rows cap1 len2 cap2 ao1 ao2 useArr last ws ar h1 h2 hkk hf hr0 hr
  have hb' : ¬ ((1024 : Int) < (rows : Int)) := by omega
  have hnz : ¬ ((rows : Int) = 0) := by omega
  obtain ⟨kv, hkv⟩ : ∃ kv, kv = kk % 32 + 1 := ⟨_, rfl⟩
  obtain ⟨wd, hwd⟩ : ∃ wd, wd = kv + 1 := ⟨_, rfl⟩
  obtain ⟨Fv, hFv⟩ : ∃ Fv, Fv = fOf last f rows := ⟨_, rfl⟩
  rw [← hkv, ← hwd, ← hFv] at mk9
  have bk : kv ≤ 32 := by omega
  have bk1 : 1 ≤ kv := by omega
  have bw : wd ≤ 33 := by omega
  have bw0 : 1 < wd := by omega
  have HK := (show Hid (_ ∧ _) from ⟨hwd, hFv⟩)
  clear h1 h2 hbig hkv hwd hFv
  go_enter Yba.func6, Yba.ntmps6
  go_upto_region 4 with (go_at_call 9; refine mk9.mono ?_; rintro e w1 ⟨z, y, tb, al, v1, v2, v3, rfl, hz, hW, hzB, hyB, hyz, htB, htz, haz, hb1⟩)
  obtain ⟨x0, x4, x5, x6, x7, x8, x9, g7, g8⟩ := hz.facts
  obtain ⟨N, hN⟩ : ∃ N, N = rows * wd := ⟨_, rfl⟩
  have HN := (show Hid _ from hN)
  have rN : (rows : Int) * (wd : Int) = (N : Int) := by rw [hN]; exact (Int.natCast_mul rows wd).symm
  have bN : N ≤ 33792 := by rw [hN]; exact Nat.mul_le_mul hr bw
  have hd : Below w1.heap.size w1 w1.drew := (Below.refl _ _).drew
  have st := start_any (N := N) (hz.below hd) (hW.below hd) hr0 hr bk1 bk HK.out.1 hN
  have HZ := (show Hid (_ ∧ _ ∧ _) from ⟨hz, hW, hb1⟩)
  have HNE := (show Hid (_ ∧ _ ∧ _ ∧ _ ∧ _ ∧ _) from ⟨hzB, hyB, hyz, htB, htz, haz⟩)
  clear hz hW hb1 hN mk9 hzB hyB hyz htB htz haz
  go_region
  go_upto_region 6 with (go_at_call 10; refine st.mono ?_; rintro e w2 ⟨rfl, Ab, Ob, hD, hz2, hbut⟩)
  clear x0 x4 x5 x6 x7 x8 x9 g7 g8 st hd
  obtain ⟨x0, x4, x5, x6, x7, x8, x9, g7, g8⟩ := hz2.facts
  obtain ⟨C, hC⟩ : ∃ C, C = Ch al (fun m => Sm ws (m + 1)) (fun m => ar m % 4294967296 + 1) := ⟨_, rfl⟩
  rw [← hC] at hD
  obtain ⟨G, ch, hG, hO⟩ := hD.ours
  have HO := (show Hid _ from hO)
  have HG := (show Hid _ from hG)
  have HEND := (show Hid (_ ∧ _ ∧ _) from ⟨hbut, hz2.lt, hC⟩)
  have hfin : ∀ {W : World}, W = w2 → Below w.heap.size w W := fun e => by
    subst e
    obtain ⟨_, _, hb1⟩ := HZ.out
    exact ⟨hbut.os.trans hb1.os, hbut.tape.trans hb1.tape, hbut.output.trans hb1.output, Nat.le_trans hb1.size hbut.size, fun k hk => (hbut.block k (Nat.lt_of_lt_of_le hk hb1.size) (by have := HNE.out.1; omega)).trans (hb1.block k hk)⟩
  have HFIN := (show Hid _ from @hfin)
  clear hfin hD hz2 hbut hC g7 g8 hO hG
  by_cases hF : Fv < rows
  · have hF' : ¬ ((rows : Int) ≤ (Fv : Int)) := by omega
    obtain ⟨hGc, hch, hchF⟩ := HG.out hF
    have cO : ∀ m n, m < rows → n < wd → w2.cell? ⟨Ob, m * wd + n, none⟩ = some (.int .u64 (mulC (Trow G rows wd (rows - 1 - m) n) ch)) := fun m n hm hn => by
      have e := HO.out.cell hm hn
      rw [if_pos hF] at e
      simp only [Gm, Nat.zero_le, if_true] at e
      exact e
    have HCO := (show Hid _ from cO)
    have HGC : Hid (Chain G rows) := hGc
    obtain ⟨p, hp⟩ : ∃ p, p = rows - 1 := ⟨_, rfl⟩
    have rp : (rows : Int) - 1 = (p : Int) := by omega
    obtain ⟨L, hL⟩ : ∃ L, L = p * wd := ⟨_, rfl⟩
    have rL : (p : Int) * (wd : Int) = (L : Int) := by rw [hL]; exact (Int.natCast_mul p wd).symm
    have bL : L + wd = N := by rw [hL, HN.out, ← Nat.succ_mul, hp]; congr 1; omega
    have hwd := HK.out.1
    have cK : w2.cell? ⟨Ob, L + kv, none⟩ = some (.int .u64 ch) := by
      have e := cO p kv (by omega) (by omega)
      rw [← hL, show rows - 1 - p = 0 by omega] at e
      rw [e]
      simp only [Trow]
      rw [if_pos (by omega)]
      rw [show mulC one ch = ch from mulC_one ch]
    have cL : ∀ n, n < kv → w2.cell? ⟨Ob, L + n, none⟩ = some (.int .u64 0) := fun n hn => by
      have e := cO p n (by omega) (by omega)
      rw [← hL, show rows - 1 - p = 0 by omega] at e
      rw [e]
      simp only [Trow]
      rw [if_neg (by omega), mulC_comm, mulC_zero]
      rfl
    have hch' : ch ≤ 9223372036854775808 := hch
    have hgt : ¬ ((9223372036854775808 : Int) < (ch : Int)) := by omega
    have hkw : kv < wd := by omega
    have HCL := (show Hid _ from cL)
    have HPP := (show Hid _ from hp)
    have HCF := (show Hid _ from hchF)
    clear cO cL hp hL hwd hch hchF hGc
    go_wp2_with fail
    go_loopg [21] kv (fun g s21 wr => ∃ n : Nat, g = kv - n ∧ n ≤ kv ∧ s21 = .int .i64 n ∧ wr = w2)
    case atStart => exact ⟨0, by omega, by omega, rfl, rfl⟩
    case round =>
      obtain ⟨n, hg, hn, rfl, hwr⟩ := hrel
      subst hwr
      have HGG := (show Hid _ from hg)
      clear hg
      by_cases hlt : n < kv
      · have c := HCL.out n hlt
        go_wp2_with fail
        go_roundg (kv - (n + 1))
        case rel => exact ⟨n + 1, rfl, by omega, by go_num, rfl⟩
        case measure => have := HGG.out; omega
      · clear HGG
        go_wp2_with fail
        go_loopg [22] rows (fun g s22 wx => ∃ m : Nat, g = rows - m ∧ m ≤ rows ∧ s22 = .int .i64 m ∧ wx = wr)
        case atStart => exact ⟨0, by omega, by omega, rfl, rfl⟩
        case round =>
          obtain ⟨m, hg, hm, rfl, hwr⟩ := hrel
          subst hwr
          have HGG := (show Hid _ from hg)
          clear hg
          by_cases hmr : m < rows
          · obtain ⟨M, hM⟩ : ∃ M, M = m * wd := ⟨_, rfl⟩
            have rM : (m : Int) * (wd : Int) = (M : Int) := by rw [hM]; exact (Int.natCast_mul m wd).symm
            have bM : M + wd ≤ N := by
              have := Nat.mul_le_mul_right wd (show m + 1 ≤ rows by omega)
              rw [Nat.succ_mul] at this
              rw [hM, HN.out]
              exact this
            obtain ⟨q, hq⟩ : ∃ q : Nat → Nat, q = fun j => mulC (Trow G rows wd (rows - 1 - m) j) ch := ⟨_, rfl⟩
            have cq : ∀ n, n < wd → wr.cell? ⟨Ob, M + n, none⟩ = some (.int .u64 (q n)) := fun n hn' => by rw [hM, hq]; exact HCO.out m n hmr hn'
            have hnear : sumTo q wd ≤ ch ∧ ch < sumTo q wd + wd := by
              rw [hq]
              exact sum_near (Trow_sum HGC.out hr0 (by omega) _ (Nat.lt_of_le_of_lt (Nat.sub_le (rows - 1) _) (by omega))) (by omega)
            have HCQ := (show Hid (_ ∧ _) from ⟨cq, hnear⟩)
            clear hM hq cq hnear
            go_wp2_with fail
            go_loopg [23, 24] wd (fun g s23 s24 wx => ∃ n : Nat, g = wd - n ∧ n ≤ wd ∧ s24 = .int .i64 n ∧ s23 = .int .u64 (sumTo q n) ∧ wx = wr)
            case atStart => exact ⟨0, by omega, by omega, rfl, rfl, rfl⟩
            case round =>
              obtain ⟨n4, hg4, hn4, rfl, rfl, hwx⟩ := hrel
              subst hwx
              have HG4 := (show Hid _ from hg4)
              clear hg4
              by_cases hlt4 : n4 < wd
              · have c := HCQ.out.1 n4 hlt4
                have hmono : sumTo q n4 + q n4 ≤ ch := Nat.le_trans (sumTo_mono (p := q) (n := n4 + 1) wd (by omega)) HCQ.out.2.1
                obtain ⟨S, hS⟩ : ∃ S, S = sumTo q n4 := ⟨_, rfl⟩
                obtain ⟨S2, hS2⟩ : ∃ S2, S2 = sumTo q (n4 + 1) := ⟨_, rfl⟩
                have rS : (S : Int) + (q n4 : Int) = (S2 : Int) := by rw [hS2, hS, ← Int.natCast_add]; rfl
                have bS : S2 ≤ 9223372036854775808 := by rw [hS2]; exact Nat.le_trans hmono hch'
                rw [← hS]
                have HS := (show Hid _ from hS2)
                clear hmono hS hS2
                go_wp2_with fail
                go_roundg (wd - (n4 + 1))
                case rel => exact ⟨n4 + 1, rfl, by omega, by go_num, by rw [HS.out], rfl⟩
                case measure => have := HG4.out; omega
              · have hnw : n4 = wd := by omega
                have hnear := HCQ.out.2
                rw [← hnw] at hnear
                generalize sumTo q n4 = S at hnear
                have t1 : decide ((ch : Int) < (S : Int)) = false := decide_eq_false (by omega)
                obtain ⟨Qv, hQv⟩ : ∃ Qv, Qv = S + wd := ⟨_, rfl⟩
                have rQ : (S : Int) + (wd : Int) = (Qv : Int) := by omega
                have t2 : decide ((Qv : Int) ≤ (ch : Int)) = false := decide_eq_false (by omega)
                have u1 : decide (ch < S) = false := decide_eq_false (by omega)
                have u2 : decide (Qv ≤ ch) = false := decide_eq_false (by omega)
                have t3 : IntKind.u64.wrap (Qv : Int) = (Qv : Int) := by rw [IntKind.wrap_u64]; omega
                have t4 : IntKind.u64.wrap (wd : Int) = (wd : Int) := by rw [IntKind.wrap_u64]; omega
                have HNW := (show Hid (_ ∧ _) from ⟨hnw, hnear⟩)
                clear hnw hnear hch' hgt bN rN rL rp bL cK bM rM hkw hQv
                go_wp2_with fail
                go_roundg (rows - (m + 1))
                case rel => exact ⟨m + 1, rfl, by omega, by go_num, rfl⟩
                case measure => have := HGG.out; omega
          · by_cases hFp : Fv = p
            · subst hFp
              have hW2 := (HZ.out.2.1.below (Below.refl _ _).drew).but HEND.out.1 HNE.out.2.2.1 HNE.out.2.2.2.2.1 HNE.out.2.2.2.2.2
              have cla := clast_any hW2 kv hr0 hr bk
              have hceq : chA al (fun m => Sm ws (m + 1)) (fun m => ar m % 4294967296 + 1) (rows - 1) kv = ch := by
                have hwd := HK.out.1
                rw [HCF.out (by have := HPP.out; omega), HEND.out.2.2, HPP.out, show wd - 1 = kv by omega]
                simp only [Ch]
                rw [if_neg (by omega)]
              rw [hceq] at cla
              clear hW2 hceq
              go_wp2_with (go_at_call 11; refine cla.mono ?_; rintro e w7 ⟨rfl, hb7⟩)
              go_ret
              exact ⟨rfl, (HFIN.out rfl).trans (hb7.mono (HFIN.out rfl).size)⟩
            · have hFp' : ¬ ((Fv : Int) = (p : Int)) := by omega
              go_wp2_with fail
              go_ret
              exact ⟨rfl, HFIN.out rfl⟩
  · have hF' : (rows : Int) ≤ (Fv : Int) := by omega
    have cO : ∀ i, i < N → w2.cell? ⟨Ob, i, none⟩ = some (.int .u64 0) := fun i hi => by
      have hw0 : 0 < wd := by omega
      have e1 : i / wd < rows := by rw [Nat.div_lt_iff_lt_mul hw0, ← HN.out]; exact hi
      have e := HO.out.cell e1 (Nat.mod_lt i hw0)
      rw [Nat.div_add_mod', if_neg hF] at e
      exact e
    have HCO := (show Hid _ from cO)
    clear cO
    go_wp2_with fail
    go_loopg [19] N (fun g s19 wr => ∃ i : Nat, g = N - i ∧ i ≤ N ∧ s19 = .int .i64 i ∧ wr = w2)
    case atStart => exact ⟨0, by omega, by omega, rfl, rfl⟩
    case round =>
      obtain ⟨i, hg, hi, rfl, hwr⟩ := hrel
      subst hwr
      have HGG := (show Hid _ from hg)
      clear hg
      by_cases hlt : i < N
      · have c := HCO.out i hlt
        go_wp2_with fail
        go_roundg (N - (i + 1))
        case rel => exact ⟨i + 1, rfl, by omega, by go_num, rfl⟩
        case measure => have := HGG.out; omega
      · go_wp2_with fail
        go_ret
        exact ⟨rfl, HFIN.out rfl⟩
end Go.Proofs.Ybulkbury.Tb
