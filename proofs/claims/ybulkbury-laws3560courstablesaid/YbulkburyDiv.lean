import Derived.Test.YbulkburyRows
import Derived.Test.YbulkburyDivN
import Derived.Test.YbulkburyLz64
import Derived.WalkKit
import Derived.WalkSmall
import Derived.Laws.Bits64b
import Derived.Deep.DeepCutAuto
import Derived.Deep.LoopGhost
import Derived.BigRegion
namespace Go.Proofs.Ybulkbury.Tb
open Go.RowKit
theorem bitLen_bounds : ∀ (f x : Nat), x < 2 ^ f → x ≠ 0 → x < 18446744073709551616 → 2 ^ Lib.bitLen x ≤ 2 * x ∧ x < 2 ^ Lib.bitLen x
  | 0, x, h, h0, _ => by simp at h; omega
  | f + 1, x, h, h0, hx => by
    rw [Lib.bitLen_half x h0 hx]
    by_cases h1 : x / 2 = 0
    · have : x = 1 := by omega
      subst this
      decide
    · have ih := bitLen_bounds f (x / 2) (by rw [Nat.pow_succ] at h; omega) h1 (by omega)
      rw [Nat.pow_add]
      generalize 2 ^ Lib.bitLen (x / 2) = T at ih ⊢
      omega
theorem shift_of (y : Nat) (h0 : y ≠ 0) (h : y < 18446744073709551616) : ∃ s : Nat, (64 : Int) - (Lib.bitLen y : Int) = (s : Int) ∧ s ≤ 63 ∧ 9223372036854775808 ≤ y * 2 ^ s ∧ y * 2 ^ s < 18446744073709551616 := by
  have hb := bitLen_bounds 64 y h h0 h
  have h1 := Lib.bitLen_le y 64 (by omega) (by omega)
  have h2 : 1 ≤ Lib.bitLen y := by rw [Lib.bitLen_half y h0 h]; omega
  refine ⟨64 - Lib.bitLen y, by omega, by omega, ?_, ?_⟩
  · have e : 2 ^ Lib.bitLen y * 2 ^ (64 - Lib.bitLen y) = 18446744073709551616 := by rw [← Nat.pow_add, show Lib.bitLen y + (64 - Lib.bitLen y) = 64 by omega]
    have := Nat.mul_le_mul_right (2 ^ (64 - Lib.bitLen y)) hb.1
    rw [e, Nat.mul_assoc] at this
    omega
  · have e : 2 ^ Lib.bitLen y * 2 ^ (64 - Lib.bitLen y) = 18446744073709551616 := by rw [← Nat.pow_add, show Lib.bitLen y + (64 - Lib.bitLen y) = 64 by omega]
    rw [← e]
    exact Nat.mul_lt_mul_of_pos_right hb.2 (Nat.two_pow_pos _)

theorem maskN (a : Nat) (ha : a < 18446744073709551616) : bits .and .u64 (a : Int) 4294967295 = ((a % 4294967296 : Nat) : Int) := by
  have h := bits_and_u64_nat a 4294967295 ha (by omega)
  have e : a &&& 4294967295 = a % 4294967296 := Nat.and_two_pow_sub_one_eq_mod a 32
  rw [e] at h
  exact h

theorem orN (hi s D : Nat) (hD : D < 2 ^ s) (hA : hi * 2 ^ s < 18446744073709551616) (hs : 2 ^ s ≤ 18446744073709551616) : bits .or .u64 ((hi * 2 ^ s : Nat) : Int) (D : Int) = ((hi * 2 ^ s + D : Nat) : Int) := by
  rw [bits_or_u64_nat _ _ hA (by omega)]
  rw [Nat.mul_comm hi, Nat.two_pow_add_eq_or_of_lt hD]

/-- What Div64 has before its first digit. -/
structure Pre (hi lo y V n1 n0 U u1 u0 : Nat) : Prop where
  hV : V = n1 * 4294967296 + n0
  h0 : n0 < 4294967296
  h1 : 2147483648 ≤ n1
  h1' : n1 < 4294967296
  hU : U < V
  hu1 : u1 < 4294967296
  hu0 : u0 < 4294967296
  hq : (U * 18446744073709551616 + u1 * 4294967296 + u0) / V = (hi * 18446744073709551616 + lo) / y

theorem pre_of {hi lo y s : Nat} (hs : s ≤ 63) (hlo : lo < 18446744073709551616) (hhi : hi < y) (h1 : 9223372036854775808 ≤ y * 2 ^ s) (h2 : y * 2 ^ s < 18446744073709551616) :
    Pre hi lo y (y * 2 ^ s) (y * 2 ^ s / 4294967296) (y * 2 ^ s % 4294967296) (hi * 2 ^ s + lo / 2 ^ (64 - s)) (lo * 2 ^ s % 18446744073709551616 / 4294967296) (lo * 2 ^ s % 18446744073709551616 % 4294967296) := by
  have ht := top_lt hi lo y s hs hlo hhi
  have hsp := shift_split hi lo s hs
  have hd := div_shift (hi * 18446744073709551616 + lo) y s
  refine ⟨by omega, by omega, by omega, by omega, ht, by omega, by omega, ?_⟩
  have key : ∀ T l : Nat, T + l / 4294967296 * 4294967296 + l % 4294967296 = T + l := fun T l => by omega
  exact (congrArg (· / (y * 2 ^ s)) ((key _ _).trans hsp.symm)).trans hd

set_option maxHeartbeats 4000000 in
set_option maxRecDepth 100000 in
theorem div64_any (hi lo y : Nat) (hlo : lo < 18446744073709551616) (hy : y < 18446744073709551616) (hhi : hi < y) (w : World) :
    Calls Yba.prog 24 #[.int .u64 hi, .int .u64 lo, .int .u64 y] w fun e w' => ∃ r : Int, e = .returned (.tuple #[.int .u64 (((hi * 18446744073709551616 + lo) / y : Nat) : Int), .int .u64 r]) ∧ Below w.heap.size w w' := by
  have hy0 : ¬ ((y : Int) = 0) := by omega
  have hle : ¬ ((y : Int) ≤ (hi : Int)) := by omega
  by_cases h0 : hi = 0
  · subst h0
    obtain ⟨q, hq⟩ : ∃ q : Nat, q = lo / y := ⟨_, rfl⟩
    have hq1 : ((lo : Int) / (y : Int)) = (q : Int) := by rw [hq]; exact (Int.natCast_ediv lo y).symm
    have hq2 : q ≤ lo := by rw [hq]; exact Nat.div_le_self _ _
    have HQ := (show Hid _ from hq)
    clear hq
    go_enter Yba.func24, Yba.ntmps24
    go_wp2_with fail
    go_region
    all_goals go_wp2_with fail
    all_goals go_ret2
    all_goals refine ⟨(lo : Int) % (y : Int), ?_, (Below.refl _ _).drew⟩
    all_goals (rw [HQ.out, Nat.zero_mul, Nat.zero_add]; rfl)
  · have h0' : ¬ ((hi : Int) = 0) := by omega
    obtain ⟨s, hs, hs63, hV1, hV2⟩ := shift_of y (by omega) hy
    have hpre := pre_of hs63 hlo hhi hV1 hV2
    have hmin : min s 64 = s := by omega
    have hsub : ((64 : Int) - (s : Int)).toNat = 64 - s := by omega
    have hmin2 : min (64 - s) 64 = 64 - s := by omega
    have hA : hi * 2 ^ s < 18446744073709551616 := Nat.lt_of_le_of_lt (Nat.le_add_right _ _) (Nat.lt_trans hpre.hU hV2)
    have hps : 2 ^ s ≤ 18446744073709551616 := by
      have := Nat.pow_le_pow_right (show 0 < 2 by omega) (show s ≤ 64 by omega)
      omega
    have hD : lo / 2 ^ (64 - s) < 2 ^ s := by
      rw [Nat.div_lt_iff_lt_mul (Nat.two_pow_pos _), ← Nat.pow_add, show s + (64 - s) = 64 by omega]
      exact hlo
    have r1 : (y : Int) * 2 ^ s = ((y * 2 ^ s : Nat) : Int) := by simp
    have r2 : (hi : Int) * 2 ^ s = ((hi * 2 ^ s : Nat) : Int) := by simp
    have r3 : (lo : Int) * 2 ^ s = ((lo * 2 ^ s : Nat) : Int) := by simp
    have r4 : (lo : Int) / 2 ^ (64 - s) = ((lo / 2 ^ (64 - s) : Nat) : Int) := by simp
    have hor := orN hi s (lo / 2 ^ (64 - s)) hD hA hps
    have hm1 := maskN (y * 2 ^ s) hV2
    have hm2 := maskN (lo * 2 ^ s % 18446744073709551616) (by omega)
    have hw : IntKind.u64.wrap ((lo * 2 ^ s : Nat) : Int) = ((lo * 2 ^ s % 18446744073709551616 : Nat) : Int) := by rw [IntKind.wrap_u64]; omega
    generalize y * 2 ^ s = V at *
    generalize hi * 2 ^ s = A at *
    generalize lo * 2 ^ s = L at *
    generalize lo / 2 ^ (64 - s) = D at *
    generalize L % 18446744073709551616 = l at *
    have e1 : (V : Int) / 4294967296 = ((V / 4294967296 : Nat) : Int) := by omega
    have e0 : (V : Int) % 4294967296 = ((V % 4294967296 : Nat) : Int) := by omega
    have eU : (A : Int) + (D : Int) = ((A + D : Nat) : Int) := by omega
    have eu1 : (l : Int) / 4294967296 = ((l / 4294967296 : Nat) : Int) := by omega
    have eu0 : (l : Int) % 4294967296 = ((l % 4294967296 : Nat) : Int) := by omega
    generalize V / 4294967296 = n1 at *
    generalize V % 4294967296 = n0 at *
    generalize A + D = U at *
    generalize l / 4294967296 = u1 at *
    generalize l % 4294967296 = u0 at *
    have HPRE := (show Hid _ from hpre)
    have b1 := hpre.h1
    have b2 := hpre.h1'
    have b3 := hpre.h0
    have b4 := hpre.hU
    have b5 := hpre.hu1
    have b6 := hpre.hu0
    clear hpre
    obtain ⟨Q1, hQ1⟩ : ∃ Q1, Q1 = (U * 4294967296 + u1) / V := ⟨_, rfl⟩
    have HQ1 := (show Hid _ from hQ1)
    clear hQ1
    obtain ⟨q0, hq0⟩ : ∃ q0, q0 = U / n1 := ⟨_, rfl⟩
    have rq0 : (U : Int) / (n1 : Int) = (q0 : Int) := by rw [hq0]; exact (Int.natCast_ediv U n1).symm
    obtain ⟨P0, hP0⟩ : ∃ P0, P0 = q0 * n1 := ⟨_, rfl⟩
    have rP0 : (q0 : Int) * (n1 : Int) = (P0 : Int) := by rw [hP0]; exact (Int.natCast_mul q0 n1).symm
    have bP0 : P0 ≤ U := by rw [hP0, hq0]; exact Nat.div_mul_le_self U n1
    have bP1 : U < P0 + n1 := by
      have := Nat.div_add_mod' U n1
      have := Nat.mod_lt U (show 0 < n1 by omega)
      rw [hP0, hq0]; omega
    have bq0 : q0 ≤ U := by rw [hq0]; exact Nat.div_le_self _ _
    have hn0 : ¬ ((n1 : Int) = 0) := by omega
    have HP0 := (show Hid (_ ∧ _) from ⟨hP0, hq0⟩)
    clear hP0 hq0
    go_enter Yba.func24, Yba.ntmps24
    go_upto_region 16 with (go_at_call 31; refine (Yba.bits_LeadingZeros64 (y : Int) _ (by omega) (by omega)).mono ?_; rintro e w1 ⟨rfl, rfl⟩)
    go_cut [16] (fun s16 wx => ∃ r : Nat, s16 = .int .u64 r ∧ q0 * n1 + r = U ∧ r < n1 ∧ wx = w1)
    case first =>
      go_wp2_with fail
      go_meet
      exact ⟨U - P0, by rw [Int.ofNat_sub bP0], by rw [← HP0.out.1]; omega, by omega, rfl⟩
    case rest =>
    obtain ⟨r0, rfl, hr0, hr1, hw1⟩ := hcut
    subst hw1
    clear rP0 rq0 hD hps r1 r2 r3 r4 hor hm1 hm2 hw e1 e0 eU eu1 eu0 hs hmin hsub hmin2
    go_step
    go_step
    go_cut [15, 16] (fun s15 _ wx => s15 = .int .u64 Q1 ∧ wx = wc)
    case first =>
      go_wp2_with fail
      go_loopg [15, 16] q0 (fun g s15 s16 wr => ∃ q r : Nat, g = q ∧ s15 = .int .u64 q ∧ s16 = .int .u64 r ∧ q * n1 + r = U ∧ Q1 ≤ q ∧ r < 4294967296 ∧ wr = wc)
      case atStart => exact ⟨q0, r0, rfl, rfl, rfl, hr0, Nat.le_trans (Nat.le_of_eq HQ1.out) (Nat.le_trans (q_first HPRE.out.hV (by omega) b5) (Nat.le_of_eq HP0.out.2.symm)), by omega, rfl⟩
      case round =>
        obtain ⟨q, r, hgq, rfl, rfl, hI, hQ, hr, hwr⟩ := hrel
        subst hwr
        have hqU : q ≤ U := by
          have := Nat.le_mul_of_pos_right q (show 0 < n1 by omega)
          omega
        have hri : (r : Int) < 4294967296 := by omega
        have HG := (show Hid _ from hgq)
        clear hr hgq hr0 hr1
        obtain ⟨C, hC⟩ : ∃ C, C = q * n0 := ⟨_, rfl⟩
        have rC : (q : Int) * (n0 : Int) = (C : Int) := by rw [hC]; exact (Int.natCast_mul q n0).symm
        have HC := (show Hid _ from hC)
        by_cases hqb : 4294967296 ≤ q
        · clear hC
          have hlt : Q1 < q := by have h1 := q_small (u := u1) (show 0 < V by omega) b4 (by omega); exact Nat.lt_of_le_of_lt (Nat.le_of_eq HQ1.out) (Nat.lt_of_lt_of_le h1 hqb)
          have hqi : (4294967296 : Int) ≤ (q : Int) := by omega
          clear hqb
          have hst := q_step hI (by omega)
          have HST := (show Hid _ from hst)
          clear hI
          by_cases hbr : 4294967296 ≤ r + n1
          · obtain ⟨k1, k2⟩ := q_break (u := u1) HPRE.out.hV b3 b4 hst hbr
            have hle := q_le HPRE.out.hV (by omega) hst k2
            have hqq : q - 1 = Q1 := Nat.le_antisymm (Nat.le_trans hle (Nat.le_of_eq HQ1.out.symm)) (by omega)
            have hbi : (4294967296 : Int) ≤ (r : Int) + (n1 : Int) := by omega
            clear hle k1 k2 hst hbr
            go_wp2_with fail
            go_meet
            exact ⟨by rw [← hqq, Int.ofNat_sub (show 1 ≤ q by omega)]; rfl, rfl⟩
          · have hbi : decide ((4294967296 : Int) ≤ (r : Int) + (n1 : Int)) = false := decide_eq_false (by omega)
            have hbs : r + n1 < 4294967296 := by omega
            have HBS := (show Hid _ from hbs)
            clear hbs
            clear hst hbr
            go_wp2_with fail
            go_roundg (q - 1)
            case rel => exact ⟨q - 1, r + n1, rfl, by rw [Int.ofNat_sub (show 1 ≤ q by omega)]; rfl, by rw [Int.natCast_add], HST.out, by omega, HBS.out, rfl⟩
            case measure => have := HG.out; omega
        · have hC64 := Lib.half_mul_le (a := q) (b := n0) (by omega) (by omega)
          rw [← hC] at hC64
          by_cases hc : 4294967296 * r + u1 < C
          · have hc' : 4294967296 * (r : Int) + (u1 : Int) < (C : Int) := by omega
            have hlq : ((U) * 4294967296 + u1) / V < q := lt_q HPRE.out.hV (by omega) hI (by rw [← hC]; exact hc)
            have HLQ := (show Hid _ from hlq)
            have hCi : (C : Int) ≤ 18446744065119617025 := by omega
            clear hC hlq hC64 hc
            have hlt : Q1 < q := by exact Nat.lt_of_le_of_lt (Nat.le_of_eq HQ1.out) HLQ.out
            have hqi : (q : Int) < 4294967296 := by omega
            clear hqb
            have hst := q_step hI (by omega)
            have HST := (show Hid _ from hst)
            clear hI
            by_cases hbr : 4294967296 ≤ r + n1
            · obtain ⟨k1, k2⟩ := q_break (u := u1) HPRE.out.hV b3 b4 hst hbr
              have hle := q_le HPRE.out.hV (by omega) hst k2
              have hqq : q - 1 = Q1 := Nat.le_antisymm (Nat.le_trans hle (Nat.le_of_eq HQ1.out.symm)) (by omega)
              have hbi : (4294967296 : Int) ≤ (r : Int) + (n1 : Int) := by omega
              clear hle k1 k2 hst hbr
              go_wp2_with fail
              go_meet
              exact ⟨by rw [← hqq, Int.ofNat_sub (show 1 ≤ q by omega)]; rfl, rfl⟩
            · have hbi : decide ((4294967296 : Int) ≤ (r : Int) + (n1 : Int)) = false := decide_eq_false (by omega)
              have hbs : r + n1 < 4294967296 := by omega
              have HBS := (show Hid _ from hbs)
              clear hbs
              clear hst hbr
              go_wp2_with fail
              go_roundg (q - 1)
              case rel => exact ⟨q - 1, r + n1, rfl, by rw [Int.ofNat_sub (show 1 ≤ q by omega)]; rfl, by rw [Int.natCast_add], HST.out, by omega, HBS.out, rfl⟩
              case measure => have := HG.out; omega
          · have hc' : decide (4294967296 * (r : Int) + (u1 : Int) < (C : Int)) = false := decide_eq_false (by omega)
            have hle := q_le HPRE.out.hV (by omega) hI (show q * n0 ≤ 4294967296 * r + u1 by rw [← hC]; omega)
            have hqq : q = Q1 := Nat.le_antisymm (Nat.le_trans hle (Nat.le_of_eq HQ1.out.symm)) (by omega)
            have hCi : (C : Int) ≤ 18446744065119617025 := by omega
            have hqi : (q : Int) < 4294967296 := by omega
            have HQQ := (show Hid _ from hqq)
            have hqd : decide ((4294967296 : Int) ≤ (q : Int)) = false := decide_eq_false (by omega)
            have hbb : 4294967296 * (r : Int) + (u1 : Int) < 18446744073709551616 := by omega
            clear hC hle hI hC64 hqb hc hqq hqi
            go_wp2_with fail
            go_meet
            exact ⟨by rw [HQQ.out], rfl⟩
    case rest =>
    obtain ⟨rfl, hw⟩ := hcut
    subst hw
    have hQs : Q1 < 4294967296 := Nat.lt_of_le_of_lt (Nat.le_of_eq HQ1.out) (q_small (by omega) b4 b5)
    obtain ⟨R1, hR1⟩ : ∃ R1, R1 = (U * 4294967296 + u1) % V := ⟨_, rfl⟩
    obtain ⟨E1, hE1⟩ : ∃ E1, E1 = V * Q1 := ⟨_, rfl⟩
    have hER : E1 + R1 = U * 4294967296 + u1 := by
      have h := Nat.div_add_mod (U * 4294967296 + u1) V
      rw [hE1, hR1, HQ1.out]
      exact h
    have bR : R1 < V := by rw [hR1]; exact Nat.mod_lt _ (by omega)
    have rE : (Q1 : Int) * (V : Int) = (E1 : Int) := by rw [hE1, Nat.mul_comm]; exact (Int.natCast_mul Q1 V).symm
    have HER := (show Hid (_ ∧ _) from ⟨hE1, hER⟩)
    have rR : IntKind.u64.wrap (IntKind.u64.wrap (IntKind.u64.wrap ((U : Int) * 4294967296) + (u1 : Int)) - IntKind.u64.wrap (E1 : Int)) = (R1 : Int) := by
      simp only [IntKind.wrap_u64]
      omega
    clear hR1 hE1 hER
    obtain ⟨Q0, hQ0⟩ : ∃ Q0, Q0 = (R1 * 4294967296 + u0) / V := ⟨_, rfl⟩
    have HQ0 := (show Hid _ from hQ0)
    clear hQ0
    obtain ⟨q2, hq2⟩ : ∃ q2, q2 = R1 / n1 := ⟨_, rfl⟩
    have rq2 : (R1 : Int) / (n1 : Int) = (q2 : Int) := by rw [hq2]; exact (Int.natCast_ediv R1 n1).symm
    obtain ⟨P2, hP2⟩ : ∃ P2, P2 = q2 * n1 := ⟨_, rfl⟩
    have rP2 : (q2 : Int) * (n1 : Int) = (P2 : Int) := by rw [hP2]; exact (Int.natCast_mul q2 n1).symm
    have bP2 : P2 ≤ R1 := by rw [hP2, hq2]; exact Nat.div_mul_le_self R1 n1
    have bP3 : R1 < P2 + n1 := by
      have := Nat.div_add_mod' R1 n1
      have := Nat.mod_lt R1 (show 0 < n1 by omega)
      rw [hP2, hq2]; omega
    have bq2 : q2 ≤ R1 := by rw [hq2]; exact Nat.div_le_self _ _
    have HP2 := (show Hid (_ ∧ _) from ⟨hP2, hq2⟩)
    clear hP2 hq2
    go_upto_region 23 with fail
    go_cut [16] (fun s16 wx => ∃ r : Nat, s16 = .int .u64 r ∧ q2 * n1 + r = R1 ∧ r < n1 ∧ wx = wc)
    case first =>
      go_wp2_with fail
      go_meet
      exact ⟨R1 - P2, by rw [Int.ofNat_sub bP2], by rw [← HP2.out.1]; omega, by omega, rfl⟩
    case rest =>
    obtain ⟨r2, rfl, hr2, hr3, hw2⟩ := hcut
    subst hw2
    go_step
    go_step
    go_cut [18, 16] (fun s18 _ wx => s18 = .int .u64 Q0 ∧ wx = wc)
    case first =>
      go_wp2_with fail
      go_loopg [18, 16] q2 (fun g s15 s16 wr => ∃ q r : Nat, g = q ∧ s15 = .int .u64 q ∧ s16 = .int .u64 r ∧ q * n1 + r = R1 ∧ Q0 ≤ q ∧ r < 4294967296 ∧ wr = wc)
      case atStart => exact ⟨q2, r2, rfl, rfl, rfl, hr2, Nat.le_trans (Nat.le_of_eq HQ0.out) (Nat.le_trans (q_first HPRE.out.hV (by omega) b6) (Nat.le_of_eq HP2.out.2.symm)), by omega, rfl⟩
      case round =>
        obtain ⟨q, r, hgq, rfl, rfl, hI, hQ, hr, hwr⟩ := hrel
        subst hwr
        have hqU : q ≤ R1 := by
          have := Nat.le_mul_of_pos_right q (show 0 < n1 by omega)
          omega
        have hri : (r : Int) < 4294967296 := by omega
        have HG := (show Hid _ from hgq)
        clear hr hgq hr2 hr3
        obtain ⟨C, hC⟩ : ∃ C, C = q * n0 := ⟨_, rfl⟩
        have rC : (q : Int) * (n0 : Int) = (C : Int) := by rw [hC]; exact (Int.natCast_mul q n0).symm
        have HC := (show Hid _ from hC)
        by_cases hqb : 4294967296 ≤ q
        · clear hC
          have hlt : Q0 < q := by have h1 := q_small (u := u0) (show 0 < V by omega) bR (by omega); exact Nat.lt_of_le_of_lt (Nat.le_of_eq HQ0.out) (Nat.lt_of_lt_of_le h1 hqb)
          have hqi : (4294967296 : Int) ≤ (q : Int) := by omega
          clear hqb
          have hst := q_step hI (by omega)
          have HST := (show Hid _ from hst)
          clear hI
          by_cases hbr : 4294967296 ≤ r + n1
          · obtain ⟨k1, k2⟩ := q_break (u := u0) HPRE.out.hV b3 bR hst hbr
            have hle := q_le HPRE.out.hV (by omega) hst k2
            have hqq : q - 1 = Q0 := Nat.le_antisymm (Nat.le_trans hle (Nat.le_of_eq HQ0.out.symm)) (by omega)
            have hbi : (4294967296 : Int) ≤ (r : Int) + (n1 : Int) := by omega
            clear hle k1 k2 hst hbr
            go_wp2_with fail
            go_meet
            exact ⟨by rw [← hqq, Int.ofNat_sub (show 1 ≤ q by omega)]; rfl, rfl⟩
          · have hbi : decide ((4294967296 : Int) ≤ (r : Int) + (n1 : Int)) = false := decide_eq_false (by omega)
            have hbs : r + n1 < 4294967296 := by omega
            have HBS := (show Hid _ from hbs)
            clear hbs
            clear hst hbr
            go_wp2_with fail
            go_roundg (q - 1)
            case rel => exact ⟨q - 1, r + n1, rfl, by rw [Int.ofNat_sub (show 1 ≤ q by omega)]; rfl, by rw [Int.natCast_add], HST.out, by omega, HBS.out, rfl⟩
            case measure => have := HG.out; omega
        · have hC64 := Lib.half_mul_le (a := q) (b := n0) (by omega) (by omega)
          rw [← hC] at hC64
          by_cases hc : 4294967296 * r + u0 < C
          · have hc' : 4294967296 * (r : Int) + (u0 : Int) < (C : Int) := by omega
            have hlq : ((R1) * 4294967296 + u0) / V < q := lt_q HPRE.out.hV (by omega) hI (by rw [← hC]; exact hc)
            have HLQ := (show Hid _ from hlq)
            have hCi : (C : Int) ≤ 18446744065119617025 := by omega
            clear hC hlq hC64 hc
            have hlt : Q0 < q := by exact Nat.lt_of_le_of_lt (Nat.le_of_eq HQ0.out) HLQ.out
            have hqi : (q : Int) < 4294967296 := by omega
            clear hqb
            have hst := q_step hI (by omega)
            have HST := (show Hid _ from hst)
            clear hI
            by_cases hbr : 4294967296 ≤ r + n1
            · obtain ⟨k1, k2⟩ := q_break (u := u0) HPRE.out.hV b3 bR hst hbr
              have hle := q_le HPRE.out.hV (by omega) hst k2
              have hqq : q - 1 = Q0 := Nat.le_antisymm (Nat.le_trans hle (Nat.le_of_eq HQ0.out.symm)) (by omega)
              have hbi : (4294967296 : Int) ≤ (r : Int) + (n1 : Int) := by omega
              clear hle k1 k2 hst hbr
              go_wp2_with fail
              go_meet
              exact ⟨by rw [← hqq, Int.ofNat_sub (show 1 ≤ q by omega)]; rfl, rfl⟩
            · have hbi : decide ((4294967296 : Int) ≤ (r : Int) + (n1 : Int)) = false := decide_eq_false (by omega)
              have hbs : r + n1 < 4294967296 := by omega
              have HBS := (show Hid _ from hbs)
              clear hbs
              clear hst hbr
              go_wp2_with fail
              go_roundg (q - 1)
              case rel => exact ⟨q - 1, r + n1, rfl, by rw [Int.ofNat_sub (show 1 ≤ q by omega)]; rfl, by rw [Int.natCast_add], HST.out, by omega, HBS.out, rfl⟩
              case measure => have := HG.out; omega
          · have hc' : decide (4294967296 * (r : Int) + (u0 : Int) < (C : Int)) = false := decide_eq_false (by omega)
            have hle := q_le HPRE.out.hV (by omega) hI (show q * n0 ≤ 4294967296 * r + u0 by rw [← hC]; omega)
            have hqq : q = Q0 := Nat.le_antisymm (Nat.le_trans hle (Nat.le_of_eq HQ0.out.symm)) (by omega)
            have hCi : (C : Int) ≤ 18446744065119617025 := by omega
            have hqi : (q : Int) < 4294967296 := by omega
            have HQQ := (show Hid _ from hqq)
            have hqd : decide ((4294967296 : Int) ≤ (q : Int)) = false := decide_eq_false (by omega)
            have hbb : 4294967296 * (r : Int) + (u0 : Int) < 18446744073709551616 := by omega
            clear hC hle hI hC64 hqb hc hqq hqi
            go_wp2_with fail
            go_meet
            exact ⟨by rw [HQQ.out], rfl⟩
    case rest =>
    obtain ⟨rfl, hw⟩ := hcut
    subst hw
    have hQ0s : Q0 < 4294967296 := Nat.lt_of_le_of_lt (Nat.le_of_eq HQ0.out) (q_small (by omega) bR b6)
    clear rR rE
    go_wp2_with fail
    go_ret2
    have htd := two_digits' (u0 := u0) (show 0 < V by omega) (show V * Q1 + R1 = U * 4294967296 + u1 by rw [← HER.out.1]; exact HER.out.2)
    have hfin : Q1 * 4294967296 + Q0 = (hi * 18446744073709551616 + lo) / y := by
      rw [HQ0.out]
      exact htd.trans HPRE.out.hq
    have e2 : (((hi * 18446744073709551616 + lo) / y : Nat) : Int) = (Q1 : Int) * 4294967296 + (Q0 : Int) := by
      rw [← hfin]
      omega
    refine ⟨?r, ?e, Below.refl _ _⟩
    case e =>
      rw [e2]
      rfl
end Go.Proofs.Ybulkbury.Tb
