import Derived.Test.YbulkburyTbH
namespace Go.Proofs.Ybulkbury.Tb
open Go.RowKit

/-- What start leaves: the table of all, and ours, a part of a table. -/
structure Done (w : World) (Ab Ob N rows width F : Nat) (C : Nat → Nat → Nat) (wr : World) : Prop where
  all : M2 wr Ab N rows width (Gm C rows width 0)
  aB : w.heap.size ≤ Ab
  oB : w.heap.size ≤ Ob
  ours : ∃ (G : Nat → Nat → Nat) (ch : Nat), (F < rows → Chain G rows ∧ ch ≤ one ∧ (F + 1 = rows → ch = C F (width - 1))) ∧ M2 wr Ob N rows width (fun m j => if F < rows then mulC (Gm G rows width 0 m j) ch else 0)

def Op (G : Nat → Nat → Nat) (rows width ch i : Nat) : Nat → Nat → Nat := fun m j => if m * width + j < i then mulC (Gm G rows width 0 m j) ch else 0
theorem Op_step {G : Nat → Nat → Nat} {rows width ch i m0 j0 : Nat} (hj0 : j0 < width) (hi : m0 * width + j0 = i) (m j : Nat) (hj : j < width) : (if m = m0 ∧ j = j0 then mulC (Gm G rows width 0 m0 j0) ch else Op G rows width ch i m j) = Op G rows width ch (i + 1) m j := by
  simp only [Op]
  by_cases e : m = m0 ∧ j = j0
  · obtain ⟨rfl, rfl⟩ := e
    rw [if_pos ⟨rfl, rfl⟩, if_pos (by omega)]
  · have hne : m * width + j ≠ i := fun h => e (at_inj hj hj0 (by omega))
    rw [if_neg e]
    by_cases e2 : m * width + j < i
    · rw [if_pos e2, if_pos (by omega)]
    · rw [if_neg e2, if_neg (by omega)]
/-- What lies there in start's second half. -/
structure Mid (w : World) (z k F rows width N Ab Ob : Nat) (v1 v2 v3 pend : Value) (C O : Nat → Nat → Nat) (wx : World) : Prop where
  o : M2 wx Ob N rows width O
  a : M2 wx Ab N rows width (Gm C rows width 0)
  zc : Cr wx z k F rows width v1 v2 v3 (.slice (some ⟨Ab, 0, none⟩) N N) (.slice (some ⟨Ob, 0, none⟩) N N) pend
  b : But z w wx
theorem Mid.below {w : World} {z k F rows width N Ab Ob : Nat} {v1 v2 v3 pend : Value} {C O : Nat → Nat → Nat} {wx w1 : World} (h : Mid w z k F rows width N Ab Ob v1 v2 v3 pend C O wx) (hb : Below wx.heap.size wx w1) : Mid w z k F rows width N Ab Ob v1 v2 v3 pend C O w1 :=
  ⟨h.o.below hb, h.a.below hb, h.zc.below hb, h.b.below hb⟩

set_option maxHeartbeats 8000000 in
set_option maxRecDepth 100000 in
theorem start_any {w : World} {z y tb k F rows width N : Nat} {al : Option Nat} {T A : Nat → Nat} {v1 v2 v3 all ours pend : Value} (hz : Cr w z k F rows width v1 v2 v3 all ours pend) (hw : Wt w y tb rows al T A)
    (hr0 : 0 < rows) (hr : rows ≤ 1024) (hk0 : 1 ≤ k) (hk : k ≤ 32) (hW : width = k + 1) (hN : N = rows * width) :
    Calls Yba.prog 10 #[.pointer (some ⟨z, 0, none⟩), .pointer (some ⟨y, 0, none⟩)] w fun e w' => e = .returned (.tuple #[]) ∧ ∃ Ab Ob, Done w Ab Ob N rows width F (Ch al T A) w' ∧
      Cr w' z k F rows width v1 v2 v3 (.slice (some ⟨Ab, 0, none⟩) N N) (.slice (some ⟨Ob, 0, none⟩) N N) pend ∧ But z w w' := by
  have bN : N ≤ 33792 := by rw [hN, hW]; exact Nat.mul_le_mul hr (show k + 1 ≤ 33 by omega)
  have b0N : 0 < N := by rw [hN]; exact Nat.mul_pos (by omega) (by omega)
  have rN : (rows : Int) * (width : Int) = (N : Int) := by rw [hN]; exact (Int.natCast_mul rows width).symm
  have hmk := run_make_row' (P := Yba.prog) 26 25 (.int .u64 0) 8 Yba.underlying26 info25 rfl .i64 .i64 N (by omega) (by omega)
  obtain ⟨z0, z4, z5, z6, z7, z8, z9, f7, f8⟩ := hz.facts
  have hWk : width ≤ 33 := by omega
  have HZ : Hid (Cr w z k F rows width v1 v2 v3 all ours pend) := hz
  have HW := (show Hid _ from hw)
  have HN := (show Hid (_ ∧ _) from ⟨hN, hW⟩)
  have hzl := hz.lt
  clear hz hw hN hW
  go_enter Yba.func10, Yba.ntmps10
  go_wp2_with fail
  go_region
  go_wp2_with fail
  go_loopg [27] rows (fun g s27 wr => ∃ m : Nat, g = rows - m ∧ m ≤ rows ∧ s27 = .int .i64 m ∧ M2 wr w.heap.size N rows width (Cp al T A m 1) ∧ Below w.heap.size w wr)
  case atStart => exact ⟨0, by omega, by omega, rfl, (M2.of_block (w' := (w.alloc (.cells (madeCells #[.int .u64 0] N) 25)).drew) (M2.made w rows width N HN.out.1) rfl).congr (fun r _ j _ => Cp_zero r j), ((Below.refl _ _).alloc (Nat.le_refl _) _).drew⟩
  case round =>
    obtain ⟨m, hg, hm, rfl, hM, hbel⟩ := hrel
    have HG := (show Hid _ from hg)
    have HM := (show Hid _ from hM)
    have HB := (show Hid _ from hbel)
    clear hg hM hbel z0 z4 z5 z6 z7 z8 z9 f7 f8 hmk
    by_cases hlt : m < rows
    · have y0 := (HW.out.below HB.out).c0
      have hup : 0 < m → T (m - 1) < T m := fun h => HW.out.up m h hlt
      have hT := (HW.out.t0 m hlt).2
      have sw := fun (W : World) (hb : Below w.heap.size w W) => slotWeight_any ((HW.out.below hb).t) m hlt hr hup hT
      have av := fun (W : World) (hb : Below w.heap.size w W) => arrival_any (HW.out.below hb) m hlt
      have bW := HW.out.wt hlt
      have bR := HW.out.arr hlt
      clear hup hT
      obtain ⟨W, hWd⟩ : ∃ W, W = wt T m := ⟨_, rfl⟩
      obtain ⟨R, hRd⟩ : ∃ R, R = arrOf al T A m := ⟨_, rfl⟩
      rw [← hWd] at sw bW
      rw [← hRd] at av bR
      have HWR := (show Hid (_ ∧ _) from ⟨hWd, hRd⟩)
      clear hWd hRd
      go_upto_region 5 with (first | (go_at_call 13; refine (sw _ HB.out).mono ?_; rintro e w1 ⟨rfl, hb1⟩) | (go_at_call 12; refine (av _ (HB.out.trans (hb1.mono HB.out.size))).mono ?_; rintro e w2 ⟨rfl, hb2⟩))
      have hbel2 : Below w.heap.size w w2 := (HB.out.trans (hb1.mono HB.out.size)).trans (hb2.mono (Nat.le_trans HB.out.size hb1.size))
      have hM2 := (HM.out.below hb1).below hb2
      have HB2 := (show Hid (_ ∧ _) from ⟨hM2, hbel2⟩)
      clear hbel2 hM2 hb1 hb2 sw av y0 HM HB
      obtain ⟨M, hMd⟩ : ∃ M, M = m * width := ⟨_, rfl⟩
      have rM : (m : Int) * (width : Int) = (M : Int) := by rw [hMd]; exact (Int.natCast_mul m width).symm
      have bM : M + width ≤ N := by
        have := Nat.mul_le_mul_right width (show m + 1 ≤ rows by omega)
        rw [Nat.succ_mul] at this
        rw [hMd, HN.out.1]
        exact this
      have HMd := (show Hid _ from hMd)
      clear hMd
      go_wp2_with fail
      go_loopg [8] (width - 1) (fun g s8 wr => ∃ n : Nat, g = width - n ∧ 1 ≤ n ∧ n ≤ width ∧ s8 = .int .i64 n ∧ M2 wr w.heap.size N rows width (Cp al T A m n) ∧ Below w.heap.size w wr)
      case atStart => exact ⟨1, by omega, by omega, by have := HN.out.2; omega, rfl, HB2.out.1, HB2.out.2⟩
      case round =>
        obtain ⟨n, hg3, hn1, hn, rfl, hMx, hbx⟩ := hrel
        have HG3 := (show Hid _ from hg3)
        clear hg3 HB2
        have hzx := HZ.out.below hbx
        obtain ⟨x0, x4, x5, x6, x7, x8, x9, g7, g8⟩ := hzx.facts
        have HMX := (show Hid _ from hMx)
        have HBX := (show Hid _ from hbx)
        have hcl := hMx.lt
        have hzl2 := hzx.lt
        clear hMx hbx hzx x4 x5 x7 x8 x9 g7 g8
        by_cases hlt3 : n < width
        · have htest : (n : Int) ≤ (k : Int) := by have := HN.out.2; omega
          obtain ⟨Xv, hXv⟩ : ∃ Xv, Xv = n * W := ⟨_, rfl⟩
          have rXv : (n : Int) * (W : Int) = (Xv : Int) := by rw [hXv]; exact (Int.natCast_mul n W).symm
          have bXv : Xv ≤ 3300000000 := by
            rw [hXv]
            have := Nat.mul_le_mul (show n ≤ 33 by omega) bW
            omega
          obtain ⟨Nn, hNn⟩ : ∃ Nn, Nn = min Xv R := ⟨_, rfl⟩
          have rNn : min (Xv : Int) (R : Int) = (Nn : Int) := by omega
          have sc := scale_any Nn R (by omega) (by omega) (by omega)
          have hval : scC Nn R = chA al T A m n := by rw [hNn, hXv, HWR.out.1, HWR.out.2]; rfl
          have bval := Ch_le HW.out hlt n
          rw [hval] at sc
          generalize hcv : chA al T A m n = Cv at sc bval
          have HV := (show Hid _ from hcv)
          have hidx : (M : Int) + (n : Int) < (N : Int) := by omega
          have hidx0 : (0 : Int) ≤ (M : Int) + (n : Int) := by omega
          have hwr : IntKind.i64.wrap ((M : Int) + (n : Int)) = (M : Int) + (n : Int) := by rw [IntKind.wrap_i64]; omega
          have hwM : IntKind.i64.wrap (M : Int) = (M : Int) := by rw [IntKind.wrap_i64]; omega
          have htn : ((M : Int) + (n : Int)).toNat = M + n := by omega
          have hwn : IntKind.u64.wrap (n : Int) = (n : Int) := by rw [IntKind.wrap_u64]; omega
          have hwX : IntKind.u64.wrap (Xv : Int) = (Xv : Int) := by rw [IntKind.wrap_u64]; omega
          have xd : wr.drew.cell? ⟨z, 6, none⟩ = some (.int .i64 width) := x6
          have hzd : Cr wr.drew z k F rows width v1 v2 v3 all ours pend := HZ.out.below HBX.out.drew
          have HZD : Hid (Cr wr.drew z k F rows width v1 v2 v3 all ours pend) := hzd
          have hMd2 : M2 wr.drew w.heap.size N rows width (Cp al T A m n) := M2.of_block HMX.out rfl
          have HMD2 := (show Hid _ from hMd2)
          have hzd2 : z < wr.drew.heap.size := hzl2
          clear hXv hNn hval hcv hzd hMd2
          go_upto_region 8 with fail
          go_region_held3 (fun w' => w'.cell? ⟨z, 6, none⟩ = some (.int .i64 width))
            (first | with_reducible exact xd | with_reducible exact x66 | with_reducible exact hS6 _)
            ((go_at_call 15; refine (sc _).mono ?_; rintro e w6 ⟨rfl, hb6⟩; have hM6 := HMD2.out.below hb6; have cg6 := hM6.cell hlt hlt3; rw [← HMd.out] at cg6; have fg6 := hM6.frozen (M + n); have x66 : w6.cell? ⟨z, 6, none⟩ = some (.int .i64 width) := ((hb6.cell (p := ⟨z, 6, none⟩) hzd2).trans xd); have hS6 : ∀ v, (w6.setCell ⟨w.heap.size, M + n, none⟩ v).cell? ⟨z, 6, none⟩ = some (.int .i64 width) := (fun v => ((HZD.out.below hb6).other (a := ⟨w.heap.size, M + n, none⟩) (by show z ≠ w.heap.size; omega) v).facts.2.2.2.1); have HG6 := (show Hid (_ ∧ _) from ⟨hM6, hb6⟩); clear hM6; dsimp only))
          go_wp2_with fail
          go_roundg (width - (n + 1))
          case rel =>
            obtain ⟨hM6, hb6⟩ := HG6.out
            have e := hM6.set hlt hlt3 Cv
            rw [← HMd.out] at e
            exact ⟨n + 1, rfl, by omega, by omega, by go_num, e.congr (fun r _ j _ => by rw [← HV.out]; exact Cp_step hn1 r j), ((HBX.out.drew).trans (hb6.mono HBX.out.drew.size)).setCell (Nat.le_refl _) _⟩
          case measure => have := HG3.out; omega
        · have htest : ¬ ((n : Int) ≤ (k : Int)) := by have := HN.out.2; omega
          have hnw : n = width := by omega
          have HNW := (show Hid _ from hnw)
          clear hnw
          go_wp2_with fail
          go_roundg (rows - (m + 1))
          case rel => exact ⟨m + 1, rfl, by omega, by go_num, HMX.out.congr (fun r _ j hj => by rw [HNW.out]; exact Cp_next r j hj), HBX.out⟩
          case measure => have := HG.out; omega
    · have hmr : m = rows := by omega
      have hMc : M2 wr.drew w.heap.size N rows width (Ch al T A) := (M2.of_block (w' := wr.drew) HM.out rfl).congr (fun r hr' j _ => by rw [hmr]; exact Cp_all r j hr')
      have hzd : Cr wr.drew z k F rows width v1 v2 v3 all ours pend := HZ.out.below HB.out.drew
      have hzx : Cr wr z k F rows width v1 v2 v3 all ours pend := HZ.out.below HB.out
      obtain ⟨x0, x4, x5, x6, x7, x8, x9, g7, g8⟩ := hzx.facts
      have xd : wr.drew.cell? ⟨z, 5, none⟩ = some (.int .i64 rows) ∧ wr.drew.cell? ⟨z, 6, none⟩ = some (.int .i64 width) := ⟨x5, x6⟩
      have tb16 := tableOf_any (N := N) hMc (Ch_chain HW.out) hr0 hr (by have := HN.out.2; omega) hWk HN.out.1
      have HZD : Hid (Cr wr.drew z k F rows width v1 v2 v3 all ours pend) := hzd
      have HMC := (show Hid _ from hMc)
      have HBD : Hid (Below w.heap.size w wr.drew) := HB.out.drew
      clear hMc hzd hzx hmr HM HG
      go_upto_region 10 with fail
      go_cut [] (fun wx => ∃ Ab, M2 wx Ab N rows width (Gm (Ch al T A) rows width 0) ∧ w.heap.size ≤ Ab ∧ M2 wx w.heap.size N rows width (Ch al T A) ∧ Cr wx z k F rows width v1 v2 v3 (.slice (some ⟨Ab, 0, none⟩) N N) ours pend ∧ But z w wx)
      case first =>
        go_region_held3 (fun w' => w'.cell? ⟨z, 5, none⟩ = some (.int .i64 rows) ∧ w'.cell? ⟨z, 6, none⟩ = some (.int .i64 width))
          (first | with_reducible exact xd | with_reducible exact x66 | with_reducible exact hS6 _)
          ((go_at_call 16; refine tb16.mono ?_; rintro e w6 ⟨b, rfl, hT6, hbB, hb6⟩; have hz6 := HZD.out.below hb6; obtain ⟨_, _, q5, q6, q7, _, _, r7, _⟩ := hz6.facts; have x66 : w6.cell? ⟨z, 5, none⟩ = some (.int .i64 rows) ∧ w6.cell? ⟨z, 6, none⟩ = some (.int .i64 width) := ⟨q5, q6⟩; have hS6 : ∀ v, (w6.setCell ⟨z, 7, none⟩ v).cell? ⟨z, 5, none⟩ = some (.int .i64 rows) ∧ (w6.setCell ⟨z, 7, none⟩ v).cell? ⟨z, 6, none⟩ = some (.int .i64 width) := (fun v => ⟨(hz6.setAll v).facts.2.2.1, (hz6.setAll v).facts.2.2.2.1⟩); have HG6 : Hid (Cr w6 z k F rows width v1 v2 v3 all ours pend ∧ M2 w6 b N rows width (Gm (Ch al T A) rows width 0) ∧ wr.drew.heap.size ≤ b ∧ Below wr.drew.heap.size wr.drew w6) := ⟨hz6, hT6, hbB, hb6⟩; clear hz6 hT6 hbB hb6; dsimp only))
        go_wp2_with fail
        go_meet
        obtain ⟨hz6, hT6, hbB, hb6⟩ := HG6.out
        have hbB' : w.heap.size ≤ b := Nat.le_trans HBD.out.size hbB
        exact ⟨b, hT6.setOther (by show b ≠ z; omega) _, hbB', (HMC.out.below hb6).setOther (by show w.heap.size ≠ z; omega) _, hz6.setAll _, (But.of_below (HBD.out.trans (hb6.mono HBD.out.size))).setZ _⟩
      case rest =>
      clear x0 x4 x5 x6 x7 x8 x9 g7 g8 xd tb16 HZD HMC HBD HB
      obtain ⟨Ab, hA, hAB, hMc, hz2, hbut⟩ := hcut
      obtain ⟨x0, x4, x5, x6, x7, x8, x9, g7, g8⟩ := hz2.facts
      have hmk := run_make_row' (P := Yba.prog) 26 25 (.int .u64 0) 8 Yba.underlying26 info25 rfl .i64 .i64 N (by omega) (by omega)
      have hzlt := hz2.lt
      have HA := (show Hid (_ ∧ _ ∧ _) from ⟨hA, hMc, hbut⟩)
      have HZ2 : Hid (Cr wc z k F rows width v1 v2 v3 (.slice (some ⟨Ab, 0, none⟩) N N) ours pend) := hz2
      clear hA hMc hbut hz2
      go_upto_region 11 with fail
      go_cut [] (fun wx => ∃ Ob, M2 wx Ob N rows width (fun _ _ => 0) ∧ w.heap.size ≤ Ob ∧ Ob ≠ Ab ∧ M2 wx Ab N rows width (Gm (Ch al T A) rows width 0) ∧ M2 wx w.heap.size N rows width (Ch al T A) ∧ Cr wx z k F rows width v1 v2 v3 (.slice (some ⟨Ab, 0, none⟩) N N) (.slice (some ⟨Ob, 0, none⟩) N N) pend ∧ But z w wx)
      case first =>
        go_wp2_with fail
        go_meet
        obtain ⟨hA, hMc, hbut⟩ := HA.out
        have hs : ∀ v, (wc.setCell ⟨z, 8, none⟩ v).heap.size = wc.heap.size := fun v => by simp [World.setCell]
        have hal := fun v => (Below.refl (wc.setCell ⟨z, 8, none⟩ v).heap.size (wc.setCell ⟨z, 8, none⟩ v)).alloc (Nat.le_refl _) (.cells (madeCells #[.int .u64 0] N) 25)
        have e := fun v => M2.made (wc.setCell ⟨z, 8, none⟩ v) rows width N HN.out.1
        have hAl := hA.lt
        have hbs := hbut.size
        refine ⟨wc.heap.size, ?_, by omega, by omega, (hA.setOther (by show Ab ≠ z; omega) _).below (hal _), (hMc.setOther (by show w.heap.size ≠ z; omega) _).below (hal _), (HZ2.out.setOurs _).below (hal _), (hbut.setZ _).below (hal _)⟩
        have e1 := e (.slice (some ⟨wc.heap.size, 0, none⟩) N N)
        rw [hs] at e1
        exact e1
      case rest =>
      clear x0 x4 x5 x6 x7 x8 x9 g7 g8 HZ2 HA hmk hzlt
      obtain ⟨Ob, hO, hOB, hOA, hA, hMc, hz2, hbut⟩ := hcut
      obtain ⟨x0, x4, x5, x6, x7, x8, x9, g7, g8⟩ := hz2.facts
      have HA := (show Hid (_ ∧ _ ∧ _ ∧ _) from ⟨hO, hA, hMc, hbut⟩)
      have HZ2 : Hid (Cr wc z k F rows width v1 v2 v3 (.slice (some ⟨Ab, 0, none⟩) N N) (.slice (some ⟨Ob, 0, none⟩) N N) pend) := hz2
      have hzlt := hz2.lt
      clear hO hA hMc hbut hz2
      go_upto_region 12 with fail
      go_region
      by_cases hFr : F < rows
      · have hFi : (F : Int) < (rows : Int) := by omega
        have hmid : Mid w z k F rows width N Ab Ob v1 v2 v3 pend (Ch al T A) (fun _ _ => 0) wc.drew.drew := by
          obtain ⟨hO, hA, hMc, hbut⟩ := HA.out
          have hb0 : Below wc.heap.size wc wc.drew.drew := (Below.refl _ _).drew.drew
          exact ⟨hO.below hb0, hA.below hb0, HZ2.out.below hb0, hbut.below hb0⟩
        have hMd : M2 wc.drew.drew w.heap.size N rows width (Ch al T A) := M2.of_block HA.out.2.2.1 rfl
        have gi := givenIn_any (N := N) hMd (Ch_chain HW.out) hFr hr (by have := HN.out.2; omega) hWk HN.out.1 (Nat.le_refl _)
        have xd : wc.drew.drew.cell? ⟨z, 4, none⟩ = some (.int .i64 F) ∧ wc.drew.drew.cell? ⟨z, 5, none⟩ = some (.int .i64 rows) ∧ wc.drew.drew.cell? ⟨z, 6, none⟩ = some (.int .i64 width) := ⟨x4, x5, x6⟩
        have HMID := (show Hid _ from hmid)
        clear hmid hMd
        go_upto_region 13 with fail
        go_cut [9, 10] (fun s9 s10 wx => ∃ (ch gb gcap : Nat) (G : Nat → Nat → Nat), s9 = .int .u64 ch ∧ s10 = .slice (some ⟨gb, 0, none⟩) N gcap ∧ M2 wx gb gcap rows width G ∧ Chain G rows ∧ ch ≤ one ∧ (F + 1 = rows → ch = Ch al T A F (width - 1)) ∧ Mid w z k F rows width N Ab Ob v1 v2 v3 pend (Ch al T A) (fun _ _ => 0) wx)
        case first =>
          go_region_held3 (fun w' => w'.cell? ⟨z, 4, none⟩ = some (.int .i64 F) ∧ w'.cell? ⟨z, 5, none⟩ = some (.int .i64 rows) ∧ w'.cell? ⟨z, 6, none⟩ = some (.int .i64 width))
            (first | with_reducible exact xd | with_reducible exact x66)
            ((go_at_call 17; refine gi.mono ?_; rintro e w6 ⟨ch, gb, gcap, G, rfl, hG, hgB, g1, g0, hch, hfin, hb6⟩; have hm6 := HMID.out.below hb6; obtain ⟨_, q4, q5, q6, _, _, _, _, _⟩ := hm6.zc.facts; have x66 : w6.cell? ⟨z, 4, none⟩ = some (.int .i64 F) ∧ w6.cell? ⟨z, 5, none⟩ = some (.int .i64 rows) ∧ w6.cell? ⟨z, 6, none⟩ = some (.int .i64 width) := ⟨q4, q5, q6⟩; have HG6 := (show Hid (_ ∧ _ ∧ _ ∧ _ ∧ _ ∧ _) from ⟨hG, g1, g0, hch, hfin, hm6⟩); clear hG hgB g1 g0 hch hfin hb6 hm6; dsimp only))
          go_wp2_with fail
          go_meet
          obtain ⟨hG, g1, g0, hch, hfin, hm6⟩ := HG6.out
          refine ⟨ch, gb, gcap, fun m j => if j < width then G m j else 0, rfl, rfl, hG.congr (fun m _ j hj => by rw [if_pos hj]), ⟨fun m hm j => ?_, fun m hm => ?_⟩, hch, hfin, hm6⟩
          · show (if j < width then G m j else 0) ≤ one
            split
            · rename_i hj
              exact g1 m hm j hj
            · exact Nat.zero_le _
          · show (if 0 < width then G m 0 else 0) = 0
            rw [g0 m hm]
            simp
        case rest =>
        clear x0 x4 x5 x6 x7 x8 x9 g7 g8 xd gi HMID HZ2 HA hzlt
        obtain ⟨ch, gb, gcap, G, rfl, rfl, hG, hGc, hch, hchF, hmid⟩ := hcut
        obtain ⟨x0, x4, x5, x6, x7, x8, x9, g7, g8⟩ := hmid.zc.facts
        have hb0 : Below wc.heap.size wc wc.drew := (Below.refl _ _).drew
        have hGd := hG.below hb0
        have tb16 := tableOf_any (N := N) hGd hGc hr0 hr (by have := HN.out.2; omega) hWk HN.out.1
        have xd : wc.drew.cell? ⟨z, 5, none⟩ = some (.int .i64 rows) ∧ wc.drew.cell? ⟨z, 6, none⟩ = some (.int .i64 width) := ⟨x5, x6⟩
        have HMID := (show Hid _ from hmid.below hb0)
        have HCH := (show Hid (_ ∧ _ ∧ _) from ⟨hGc, hch, hchF⟩)
        have hobs := hmid.o.lt
        clear hmid hGd hG hb0 hGc hch hchF
        go_upto_region 14 with fail
        go_cut [124, 125, 126] (fun s124 s125 s126 wx => ∃ tb2, s124 = .slice (some ⟨tb2, 0, none⟩) N N ∧ s125 = .int .i64 N ∧ s126 = .int .i64 0 ∧ M2 wx tb2 N rows width (Gm G rows width 0) ∧ tb2 ≠ Ob ∧ Mid w z k F rows width N Ab Ob v1 v2 v3 pend (Ch al T A) (fun _ _ => 0) wx)
        case first =>
          go_region_held3 (fun w' => w'.cell? ⟨z, 5, none⟩ = some (.int .i64 rows) ∧ w'.cell? ⟨z, 6, none⟩ = some (.int .i64 width))
            (first | with_reducible exact xd | with_reducible exact x66)
            ((go_at_call 16; refine tb16.mono ?_; rintro e w6 ⟨b, rfl, hT6, hbB, hb6⟩; have hm6 := HMID.out.below hb6; obtain ⟨_, _, q5, q6, _, _, _, _, _⟩ := hm6.zc.facts; have x66 : w6.cell? ⟨z, 5, none⟩ = some (.int .i64 rows) ∧ w6.cell? ⟨z, 6, none⟩ = some (.int .i64 width) := ⟨q5, q6⟩; have HG6 := (show Hid (_ ∧ _ ∧ _) from ⟨hT6, hbB, hm6⟩); clear hT6 hbB hb6 hm6; dsimp only))
          go_wp2_with fail
          go_meet
          obtain ⟨hT6, hbB, hm6⟩ := HG6.out
          have hbB' : wc.heap.size ≤ b := hbB
          exact ⟨b, rfl, rfl, rfl, hT6, by omega, hm6⟩
        case rest =>
        clear x0 x4 x5 x6 x7 x8 x9 g7 g8 xd tb16 HMID hobs
        obtain ⟨tb2, rfl, rfl, rfl, hT, hne, hmid⟩ := hcut
        have hopt : Mid w z k F rows width N Ab Ob v1 v2 v3 pend (Ch al T A) (Op G rows width ch 0) wc := ⟨hmid.o.congr (fun m _ j _ => by simp [Op]), hmid.a, hmid.zc, hmid.b⟩
        have HS := (show Hid (_ ∧ _) from ⟨hT, hopt⟩)
        clear hT hmid hopt
        go_wp2_with fail
        go_loopg [126] N (fun g s126 wr => ∃ i : Nat, g = N - i ∧ i ≤ N ∧ s126 = .int .i64 i ∧ M2 wr tb2 N rows width (Gm G rows width 0) ∧ Mid w z k F rows width N Ab Ob v1 v2 v3 pend (Ch al T A) (Op G rows width ch i) wr)
        case atStart => exact ⟨0, by omega, by omega, rfl, HS.out.1, HS.out.2⟩
        case round =>
          obtain ⟨i, hg, hi, rfl, hT, hmid⟩ := hrel
          have HG := (show Hid _ from hg)
          clear hg HS
          by_cases hlt : i < N
          · have hw0 : 0 < width := by have := HN.out.2; omega
            have e1 : i / width < rows := by rw [Nat.div_lt_iff_lt_mul hw0, ← HN.out.1]; exact hlt
            have e2 := Nat.mod_lt i hw0
            have cT := hT.cell e1 e2
            have cO := hmid.o.cell e1 e2
            rw [Nat.div_add_mod'] at cT cO
            have bP : Gm G rows width 0 (i / width) (i % width) ≤ one := by
              simp only [Gm]
              rw [if_pos (Nat.zero_le _)]
              exact Trow_le HCH.out.1 hr0 (Nat.lt_of_le_of_lt (Nat.sub_le (rows - 1) _) (by omega)) e2
            have mu := mul_any (Gm G rows width 0 (i / width) (i % width)) ch bP HCH.out.2.1
            obtain ⟨Pv, hPv⟩ : ∃ Pv, Pv = Gm G rows width 0 (i / width) (i % width) := ⟨_, rfl⟩
            rw [← hPv] at cT mu
            obtain ⟨Mv, hMv⟩ : ∃ Mv, Mv = mulC Pv ch := ⟨_, rfl⟩
            rw [← hMv] at mu
            obtain ⟨x0, x4, x5, x6, x7, x8, x9, g7, g8⟩ := hmid.zc.facts
            have fO := hmid.o.frozen i
            have hzz := hmid.zc.lt
            have HMID := (show Hid (_ ∧ _ ∧ _ ∧ _) from ⟨hT, hmid, e1, e2⟩)
            have HPV := (show Hid (_ ∧ _) from ⟨hPv, hMv⟩)
            have hS6 : ∀ v, (wr.drew.setCell ⟨Ob, i, none⟩ v).cell? ⟨z, 8, none⟩ = some (.slice (some ⟨Ob, 0, none⟩) N N) := fun v => ((hmid.zc.below (Below.refl _ _).drew).other (a := ⟨Ob, i, none⟩) (by show z ≠ Ob; omega) v).facts.2.2.2.2.2.1
            have hS7 : ∀ v, ((wr.setCell ⟨Ob, i, none⟩ v).drew).cell? ⟨z, 8, none⟩ = some (.slice (some ⟨Ob, 0, none⟩) N N) := hS6
            have xd : wr.drew.cell? ⟨z, 8, none⟩ = some (.slice (some ⟨Ob, 0, none⟩) N N) := x8
            clear hT hmid e1 e2 bP hPv hMv
            go_upto_region 17 with fail
            go_region_held3 (fun w' => w'.cell? ⟨z, 8, none⟩ = some (.slice (some ⟨Ob, 0, none⟩) N N))
              (first | with_reducible exact xd | with_reducible exact hS6 _ | with_reducible exact hS7 _)
              ((go_at_call 18; refine (mu _).mono ?_; rintro e w6 ⟨rfl, rfl⟩; dsimp only))
            go_wp2_with fail
            go_roundg (N - (i + 1))
            case rel =>
              obtain ⟨hT, hmid, e1, e2⟩ := HMID.out
              obtain ⟨hPv, hMv⟩ := HPV.out
              have e := hmid.o.set e1 e2 Mv
              rw [Nat.div_add_mod'] at e
              have hdr := fun (W : World) => (Below.refl W.heap.size W).drew
              refine ⟨i + 1, rfl, by omega, by go_num, (hT.setOther (by show tb2 ≠ Ob; exact hne) _).below (hdr _), ⟨(e.congr (fun m _ j hj => ?_)).below (hdr _), (hmid.a.setOther (by show Ab ≠ Ob; omega) _).below (hdr _), (hmid.zc.other (by show z ≠ Ob; omega) _).below (hdr _), (hmid.b.setNew hOB _).below (hdr _)⟩⟩
              rw [hMv, hPv]
              exact Op_step e2 (Nat.div_add_mod' i width) m j hj
            case measure => have := HG.out; omega
          · have hiN : i = N := by omega
            have HF := (show Hid (_ ∧ _) from ⟨hiN, hmid⟩)
            clear hiN hT hmid
            go_wp2_with fail
            go_end0
            obtain ⟨hiN, hmid⟩ := HF.out
            refine ⟨rfl, Ab, Ob, ⟨hmid.a, hAB, hOB, G, ch, fun _ => ⟨HCH.out.1, HCH.out.2.1, HCH.out.2.2⟩, hmid.o.congr (fun m hm j hj => ?_)⟩, hmid.zc, hmid.b⟩
            rw [if_pos hFr, hiN]
            simp only [Op]
            rw [if_pos (by rw [HN.out.1]; exact at_lt hm hj)]
      · have hFi : ¬ ((F : Int) < (rows : Int)) := by omega
        go_wp2_with fail
        go_end0
        obtain ⟨hO, hA, hMc, hbut⟩ := HA.out
        have hb0 : Below wc.heap.size wc wc.drew := (Below.refl _ _).drew
        refine ⟨rfl, Ab, Ob, ⟨hA.below hb0, hAB, hOB, fun _ _ => 0, 0, fun h => absurd h hFr, (hO.below hb0).congr (fun m _ j _ => by rw [if_neg hFr])⟩, HZ2.out.below hb0, hbut.below hb0⟩
end Go.Proofs.Ybulkbury.Tb
