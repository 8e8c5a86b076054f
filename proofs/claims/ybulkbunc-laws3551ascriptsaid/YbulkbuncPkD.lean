import Derived.Test.YbulkbuncPkC
import Derived.Deep.LoopGhost
namespace Go.Proofs.Ybulkbunc.Pk
open Go.RowKit

theorem Pk.append {B : Nat} {w : World} {x : Nat} {fw : Int} {n : Nat} {H : Int → Int} {g off cap : Nat} (h : Pk B w x fw n H (some ⟨g, off, none⟩) cap) (hn : 0 < n) (hB : B ≤ w.heap.size) (hb : fw + (n + 1 : Nat) ≤ 1000000) :
    ∃ g' off' cap' w2, (∀ ty, (Builtin.append_ #[24, 24] ty #[.slice (some ⟨g, off, none⟩) n cap, .slice (some ⟨w.heap.size, 0, none⟩) 1 1]).run Yba.prog (w.alloc (.cells #[.int .i64 0] 3)) = .ok (.slice (some ⟨g', off', none⟩) (n + 1) cap') w2) ∧
      w2.cell? ⟨x, 1, none⟩ = some (.slice (some ⟨g, off, none⟩) n cap) ∧ w2.frozen? ⟨x, 1, none⟩ = false ∧
      Pk B (w2.setCell ⟨x, 1, none⟩ (.slice (some ⟨g', off', none⟩) (n + 1) cap')) x fw (n + 1) H (some ⟨g', off', none⟩) cap' ∧ Tch B w (w2.setCell ⟨x, 1, none⟩ (.slice (some ⟨g', off', none⟩) (n + 1) cap')) := by
  obtain ⟨g1, off1, ha, hg, hs⟩ := h.sl hn
  cases ha
  have hp := h.alloc (.cells #[.int .i64 0] 3)
  have hs' := hs.alloc (.cells #[.int .i64 0] 3)
  have hf := h.f0
  have hc : (w.alloc (.cells #[.int .i64 0] 3)).cell? ⟨w.heap.size, 0, none⟩ = some (.int .i64 0) := by
    rw [cell_of_row _ _ 0 _ 3 (0, 0) (Go.Deep.blk_alloc_new w _)]; rfl
  obtain ⟨g', off', cap', w2, hrun, hs2, hg2, hgr⟩ := run_append1 (ty := 0) Yba.underlying24 info3 hs' hc (by omega)
  have hrun' : ∀ ty, (Builtin.append_ #[24, 24] ty #[.slice (some ⟨g, off, none⟩) n cap, .slice (some ⟨w.heap.size, 0, none⟩) 1 1]).run Yba.prog (w.alloc (.cells #[.int .i64 0] 3)) = .ok (.slice (some ⟨g', off', none⟩) (n + 1) cap') w2 := fun ty => hrun
  have hg3 : ∃ c, (w.alloc (.cells #[.int .i64 0] 3)).heap[g]? = some (.cells c 3 (0, 0)) := by
    obtain ⟨c, hc, _⟩ := hs'
    exact ⟨c, hc⟩
  obtain ⟨c, hg3⟩ := hg3
  have hBg' : B ≤ g' := by
    rcases hg2 with rfl | h2
    · exact hg
    · simp at h2; omega
  have hx := (hgr.block x hp.lt (by intro e; cases e; rw [hp.blk] at hg3; cases hg3)).trans hp.blk
  refine ⟨g', off', cap', w2, hrun', ?_, ?_, hp.push hgr hg3 hBg' hs2 hb, ?_⟩
  · rw [cell_of_row _ _ 1 _ _ _ hx]; rfl
  · simp [World.frozen?, hx]
  · exact ((((Tch.refl B w).alloc _).grown hg hg3 (by decide) hgr).setCell h.bx hx (by decide) _)

theorem Pk.inc {B : Nat} {w : World} {x : Nat} {fw : Int} {n : Nat} {H : Int → Int} {ao : Option Addr} {cap : Nat} (h : Pk B w x fw n H ao cap) {g off j : Nat} (hs : Sl w 3 g off cap n (fun i => H (fw + i))) (ha : ao = some ⟨g, off, none⟩) (hg : B ≤ g) (hj : j < n) (hb : H (fw + j) < 1000000) :
    Pk B (w.setCell ⟨g, off + j, none⟩ (.int .i64 (H (fw + j) + 1))) x fw n (incr (fw + j) H) ao cap ∧ Tch B w (w.setCell ⟨g, off + j, none⟩ (.int .i64 (H (fw + j) + 1))) := by
  have h0 := h.hb (fw + j)
  refine ⟨(h.set hs ha hg hj (by omega) (by omega)).congr fun v => ?_, ?_⟩
  · by_cases e : v = fw + j
    · subst e; simp [incr]
    · simp [incr, e]
  · obtain ⟨cur, h1, _⟩ := hs
    exact (Tch.refl B w).setCell hg h1 (by decide) _
theorem Pk.dec {B : Nat} {w : World} {x : Nat} {fw : Int} {n : Nat} {H : Int → Int} {ao : Option Addr} {cap : Nat} (h : Pk B w x fw n H ao cap) {g off j : Nat} (hs : Sl w 3 g off cap n (fun i => H (fw + i))) (ha : ao = some ⟨g, off, none⟩) (hg : B ≤ g) (hj : j < n) (hb : 1 ≤ H (fw + j)) :
    Pk B (w.setCell ⟨g, off + j, none⟩ (.int .i64 (H (fw + j) - 1))) x fw n (decr (fw + j) H) ao cap ∧ Tch B w (w.setCell ⟨g, off + j, none⟩ (.int .i64 (H (fw + j) - 1))) := by
  have h0 := h.hb (fw + j)
  refine ⟨(h.set hs ha hg hj (by omega) (by omega)).congr fun v => ?_, ?_⟩
  · by_cases e : v = fw + j
    · subst e; simp [decr]
    · simp [decr, e]
  · obtain ⟨cur, h1, _⟩ := hs
    exact (Tch.refl B w).setCell hg h1 (by decide) _

set_option maxHeartbeats 4000000 in
set_option maxRecDepth 100000 in
theorem move_any {B : Nat} {w : World} {x : Nat} {fw : Int} {n : Nat} {H : Int → Int} {ao : Option Addr} {cap : Nat} (h : Pk B w x fw n H ao cap) (j : Nat) (hj : j < n) (hH : 1 ≤ H (fw + j)) (hB : B ≤ w.heap.size)
    (tt : Int) (H1 : Int → Int) (htt : (tt = -1 ∧ H1 = H) ∨ ∃ t : Nat, tt = fw + t ∧ tt < 900000 ∧ H tt < 1000000 ∧ H1 = incr tt H) :
    Calls Yba.prog 8 #[.pointer (some ⟨x, 0, none⟩), .int .i64 (fw + j), .int .i64 tt] w fun e w' => e = .returned (.tuple #[]) ∧
      ∃ fw' n' ao' cap', Pk B w' x fw' n' (decr (fw + j) H1) ao' cap' ∧ Ends fw' n' (decr (fw + j) H1) ∧ Tch B w w' := by
  have hf0 := h.f0
  have hfb := h.fb
  have HT := (show Hid _ from htt)
  clear htt
  go_enter Yba.func8, Yba.ntmps8
  go_upto_if 7 with fail
  go_cut [7] (fun _ wx => ∃ n1 ao1 cap1, Pk B wx x fw n1 H1 ao1 cap1 ∧ n ≤ n1 ∧ Tch B w wx)
  case first =>
    rcases HT.out with ⟨rfl, rfl⟩ | ⟨t, rfl, htb, hHt, rfl⟩
    · go_wp2_with fail
      go_meet
      exact ⟨n, ao, cap, h, Nat.le_refl _, Tch.refl _ _⟩
    · have h0t : 0 ≤ fw + (t : Int) := by omega
      go_wp2_with fail
      go_loopg [] (t + 1 - n) (fun k wr => ∃ n1 ao1 cap1, k = t + 1 - n1 ∧ Pk B wr x fw n1 H ao1 cap1 ∧ n ≤ n1 ∧ n1 ≤ max n (t + 1) ∧ Tch B w wr)
      case atStart => exact ⟨n, ao, cap, rfl, h, Nat.le_refl _, Nat.le_max_left _ _, Tch.refl _ _⟩
      case round =>
        obtain ⟨n1, ao1, cap1, rfl, hp, hn1, hm1, ht⟩ := hrel
        obtain ⟨g, off, rfl, hg, hs⟩ := hp.sl (by omega)
        by_cases hlt : n1 < t + 1
        · have HP := (show Hid _ from hp)
          have HTC := (show Hid _ from ht)
          clear hp hs ht
          have hlt' : ¬ (fw + (t : Int) ≤ fw + (n1 : Int) - 1) := by omega
          have hlt2 : (fw + (n1 : Int) - 1 < fw + (t : Int)) := by omega
          go_wp2_with (first | (at_builtin; refine wpList_append_run rfl (.tmp 16) (.tmp 17) 24 rfl rfl rfl (hrun _) ?_) | (go_at_call 11; refine (most_any HP.out).mono ?_; rintro e w1 ⟨rfl, hb1⟩; have hp1 := HP.out.below hb1; obtain ⟨c0, c1, f0, f1⟩ := hp1.facts; obtain ⟨g', off', cap', w2, hrun, c2, f2, hp2, ht2⟩ := hp1.append (by omega) (by have := hb1.size; have := HTC.out.size; omega) (by omega); have HP2 := (show Hid _ from hp2); have HT2 := (show Hid _ from ht2); clear hp1 hp2 ht2))
          go_roundg (t + 1 - (n1 + 1))
          case rel => exact ⟨n1 + 1, _, _, rfl, HP2.out, by omega, by omega, (HTC.out.trans (Tch.of_below hb1)).trans HT2.out⟩
          case measure => omega
        · have HP := (show Hid _ from hp)
          have HTC := (show Hid _ from ht)
          have hge : fw + (t : Int) ≤ fw + (n1 : Int) - 1 := by omega
          have hge2 : ¬ (fw + (n1 : Int) - 1 < fw + (t : Int)) := by omega
          have hsub : fw + (t : Int) - fw = t := by omega
          have hcg := hs.cell (i := t) (by omega)
          have hfg := hs.frozen (off + t)
          have hH0 := hp.hb (fw + t)
          have hgl := hs.lt
          have HS := (show Hid _ from hs)
          clear hp hs ht
          go_wp2_with ((go_at_call 11; (refine (most_any HP.out).mono ?_; rintro e w1 ⟨rfl, hb1⟩; have hp1 := HP.out.below hb1; obtain ⟨c0, c1, f0, f1⟩ := hp1.facts; have cg : w1.cell? ⟨g, off + t, none⟩ = some (.int .i64 (H (fw + t))) := (hb1.cell (p := ⟨g, off + t, none⟩) hgl).trans hcg; have fg : w1.frozen? ⟨g, off + t, none⟩ = false := ((HS.out.of_block (hb1.block g hgl)).frozen _); clear hcg hfg hp1)))
          go_region
          all_goals (go_wp2_with fail; go_meet)
          all_goals (obtain ⟨r1, r2⟩ := (HP.out.below hb1).drew.inc (HS.out.of_block (hb1.block g hgl)).drew rfl hg (show t < n1 by omega) hHt; exact ⟨n1, _, _, r1, hn1, ((HTC.out.trans (Tch.of_below hb1)).drew).trans r2⟩)
  case rest =>
  obtain ⟨n1, ao1, cap1, hp, hn1, htc⟩ := hcut
  have hH1 : 1 ≤ H1 (fw + j) := by
    rcases HT.out with ⟨_, rfl⟩ | ⟨t, _, _, _, rfl⟩
    · exact hH
    · simp only [incr]; split <;> omega
  clear HT hH h
  obtain ⟨g, off, rfl, hg, hs⟩ := hp.sl (by omega)
  obtain ⟨c0, c1, f0, f1⟩ := hp.facts
  have hcg := hs.cell (i := j) (by omega)
  have hfg := hs.frozen (off + j)
  have hsub : fw + (j : Int) - fw = j := by omega
  have hH0 := hp.hb (fw + j)
  have HP := (show Hid _ from hp)
  have HTC := (show Hid _ from htc)
  have HS := (show Hid _ from hs)
  clear hp htc hs
  go_upto_region 4 with fail
  go_cut [] (fun wx => ∃ ao1 cap1, Pk B wx x fw n1 (decr (fw + j) H1) ao1 cap1 ∧ Tch B w wx)
  case first =>
    go_region
    all_goals (go_wp2_with fail; go_meet)
    all_goals (obtain ⟨r1, r2⟩ := HP.out.drew.dec HS.out.drew rfl hg (show j < n1 by omega) hH1; exact ⟨_, _, r1, HTC.out.drew.trans r2⟩)
  case rest =>
  clear c0 c1 f0 f1 hcg hfg HP HTC HS hH0
  obtain ⟨H2, hH2⟩ : ∃ H2, H2 = decr (fw + (j : Int)) H1 := ⟨_, rfl⟩
  have HH2 := (show Hid _ from hH2)
  rw [← hH2] at hcut
  clear hH2
  go_step
  go_step
  go_cut [] (fun wx => ∃ k ao1 cap1, Pk B wx x fw k H2 ao1 cap1 ∧ (0 < k → H2 (fw + (k : Int) - 1) ≠ 0) ∧ Tch B w wx)
  case first =>
    go_wp2_with fail
    go_loopg [] n1 (fun k wr => ∃ ao1 cap1, Pk B wr x fw k H2 ao1 cap1 ∧ Tch B w wr)
    case atStart => exact hcut
    case round =>
      obtain ⟨ao1, cap1, hp, htc⟩ := hrel
      obtain ⟨c0, c1, f0, f1⟩ := hp.facts
      have hk0 := hp.fb
      have HP := (show Hid _ from hp)
      have HTC := (show Hid _ from htc)
      cases gk with
      | zero =>
        clear hp htc
        go_upto_region 5 with fail
        go_region
        go_wp2_with fail
        go_meet
        exact ⟨0, _, _, HP.out.drew, fun h => absurd h (by omega), HTC.out.drew⟩
      | succ k =>
        obtain ⟨g, off, rfl, hg, hs⟩ := hp.sl (by omega)
        have hcg := hs.cell (i := k) (by omega)
        have hle := hs.le
        clear hp htc hs
        by_cases hz : H2 (fw + (k : Int)) = 0
        · go_upto_region 5 with fail
          go_region
          go_wp2_with fail
          go_region
          all_goals go_wp2_with fail
          go_roundg k
          case rel => exact ⟨_, _, (HP.out.init hz).drew.drew, ((HTC.out.setCell HP.out.bx HP.out.blk (by decide) _).drew.drew)⟩
          case measure => omega
        · go_upto_region 5 with fail
          go_region
          go_wp2_with fail
          go_meet
          exact ⟨k + 1, _, _, HP.out.drew, fun _ => by rw [show fw + ((k + 1 : Nat) : Int) - 1 = fw + (k : Int) by omega]; exact hz, HTC.out.drew⟩
  case rest =>
  obtain ⟨k1, ao1, cap1, hp, hend, htc⟩ := hcut
  have h3 : ∃ ao1 cap1 fw', Pk B wc x fw' k1 H2 ao1 cap1 ∧ (0 < k1 → H2 (fw' + (k1 : Int) - 1) ≠ 0) ∧ Tch B w wc := ⟨_, _, _, hp, hend, htc⟩
  clear hp hend htc
  have H3 := (show Hid _ from h3)
  clear h3
  go_wp2_with fail
  go_loopg [] k1 (fun k wr => ∃ ao1 cap1 fw', Pk B wr x fw' k H2 ao1 cap1 ∧ (0 < k → H2 (fw' + (k : Int) - 1) ≠ 0) ∧ Tch B w wr)
  case atStart => exact H3.out
  case round =>
    obtain ⟨ao1, cap1, fw1, hp, hend, htc⟩ := hrel
    obtain ⟨c0, c1, f0, f1⟩ := hp.facts
    have hk0 := hp.fb
    have hk1 := hp.f0
    have HP := (show Hid _ from hp)
    have HTC := (show Hid _ from htc)
    have HE := (show Hid _ from hend)
    clear H3
    cases gk with
    | zero =>
      clear hp htc hend
      go_wp2_with fail
      go_end0
      rw [← HH2.out]
      exact ⟨rfl, fw1, 0, _, _, HP.out, fun h => absurd h (by omega), HTC.out⟩
    | succ k =>
      obtain ⟨g, off, rfl, hg, hs⟩ := hp.sl (by omega)
      have hcg := hs.cell (i := 0) (by omega)
      simp only [Nat.add_zero, Int.natCast_zero, Int.add_zero] at hcg
      have hle := hs.le
      clear hp htc hs hend
      by_cases hz : H2 fw1 = 0
      · have hkp : 0 < k := by
          rcases Nat.eq_zero_or_pos k with rfl | h
          · exact absurd (by rw [show fw1 + ((0 + 1 : Nat) : Int) - 1 = fw1 by omega]; exact hz) (HE.out (by omega))
          · exact h
        have hcap : ¬ cap1 = 1 := by omega
        go_wp2_with fail
        go_roundg k
        case rel =>
          refine ⟨_, _, fw1 + 1, HP.out.tail hz rfl (fun _ => rfl), fun _ => ?_, (HTC.out.setCell HP.out.bx HP.out.blk (by decide) _).setCell HP.out.bx (blk_set HP.out.blk 1 _) (by decide) _⟩
          have := HE.out (by omega)
          rw [show fw1 + 1 + (k : Int) - 1 = fw1 + ((k + 1 : Nat) : Int) - 1 by omega]
          exact this
        case measure => omega
      · go_wp2_with fail
        go_end0
        rw [← HH2.out]
        exact ⟨rfl, fw1, k + 1, _, _, HP.out, fun h => ⟨hz, HE.out h⟩, HTC.out⟩
end Go.Proofs.Ybulkbunc.Pk
