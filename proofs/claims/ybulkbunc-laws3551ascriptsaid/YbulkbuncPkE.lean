import Derived.Test.YbulkbuncPkD
import Derived.Deep.RegionLaw
namespace Go.Proofs.Ybulkbunc.Pk
open Go.RowKit

/-- An append whose run is known, at a step of a region that draws. -/
theorem step_append_run {P : Program} {w w' : World} {ops : Array Oper} {o : Oper} {a : Act} {K : Act → World → Prop} {Q : Exit → Act → World → Prop} {E : Prop} (hgd : o.guard = none) (s x : Operand) (t : TypeId)
    (ho : o.op = .call { callee := .builtin .append, args := #[s, x], argTypes := #[t, t] }) {v vx r : Value} (hs : a.eval s = v) (hx : a.eval x = vx)
    (hr : (Builtin.append_ #[t, t] o.type #[v, vx]).run P w = .ok r w') (h : K (a.put o.dst r) w') : if Region.wanted o (yielded ops a.tmps) = true then Oper.wp P o a w K Q else E := by
  have hw : Region.wanted o (yielded ops a.tmps) = true := by simp [Region.wanted, hgd]
  rw [if_pos hw]
  unfold Oper.wp execOp
  simp only [ho, resolve, invoke, builtin, Sem.run_bind, Sem.run_pure, Result.andThen_ok, List.map_toArray, List.map_cons, List.map_nil, hs, hx, hr]
  exact h

def addc (c : Int) (H : Int → Int) : Int → Int := fun v => if v = 0 then H v + c else H v

theorem Pk.shift {B : Nat} {w : World} {x f : Nat} {n : Nat} {H : Int → Int} {g off cap : Nat} (h : Pk B w x (f : Int) n H (some ⟨g, off, none⟩) cap) (hn : 0 < n) (hB : B ≤ w.heap.size) :
    ∃ g' cap' w2, (∀ ty, (Builtin.append_ #[24, 24] ty #[.slice (some ⟨w.heap.size, 0, none⟩) f f, .slice (some ⟨g, off, none⟩) n cap]).run Yba.prog (w.alloc (.cells (madeCells #[.int .i64 0] f) 3)) = .ok (.slice (some ⟨g', 0, none⟩) (f + n) cap') w2) ∧
      w2.cell? ⟨x, 1, none⟩ = some (.slice (some ⟨g, off, none⟩) n cap) ∧ w2.frozen? ⟨x, 1, none⟩ = false ∧ w2.cell? ⟨x, 0, none⟩ = some (.int .i64 f) ∧ w2.frozen? ⟨x, 0, none⟩ = false ∧
      Pk B ((w2.setCell ⟨x, 1, none⟩ (.slice (some ⟨g', 0, none⟩) (f + n) cap')).setCell ⟨x, 0, none⟩ (.int .i64 0)) x 0 (f + n) H (some ⟨g', 0, none⟩) cap' ∧
      Tch B w ((w2.setCell ⟨x, 1, none⟩ (.slice (some ⟨g', 0, none⟩) (f + n) cap')).setCell ⟨x, 0, none⟩ (.int .i64 0)) := by
  obtain ⟨g1, off1, ha, hg, hs⟩ := h.sl hn
  cases ha
  have hp := h.alloc (.cells (madeCells #[.int .i64 0] f) 3)
  have hs' := hs.alloc (.cells (madeCells #[.int .i64 0] f) 3)
  have hf := h.f0
  have hfb := h.fb
  have hrow := World.rowIs_made w (.int .i64 0) f 3
  obtain ⟨i0, hi, hz0, hz1, hz2⟩ := info_parts info3
  obtain ⟨v', w2, hrun, hown, hgr⟩ := run_append_arg_grows (P := Yba.prog) (w.alloc (.cells (madeCells #[.int .i64 0] f) 3)) 24 0 3 i0 (.int .i64 0) 1 8 Yba.underlying24 hi hz0 hz1 hz2 rfl (by decide) ⟨w.heap.size, 0, none⟩ f f (List.replicate f (.int .i64 0)) (by simp)
    (by
      intro j u hj
      have hjn : j < f := by
        rcases Nat.lt_or_ge j f with h | h
        · exact h
        · rw [List.getElem?_eq_none (by simpa using h)] at hj; cases hj
      simp [hjn] at hj
      subst hj
      rw [Addr.add_lit, Nat.zero_add]
      exact hrow.cell hjn)
    ⟨g, off, none⟩ n cap ((List.range n).map fun (i : Nat) => .int .i64 (H (f + i))) (by simp)
    (by
      intro j u hj
      have hjn : j < n := by
        rcases Nat.lt_or_ge j n with h | h
        · exact h
        · rw [List.getElem?_eq_none (by simpa using h)] at hj; cases hj
      simp [hjn] at hj
      subst hj
      rw [Addr.add_lit]
      exact hs'.cell hjn) (by omega) (by simp only [maxLen]; omega) (by omega)
  obtain ⟨g', cap', rfl, hg', hsl⟩ := Sl.of_owns (h := fun i => H (i : Int)) hown (by omega) (by
    intro i hi'
    by_cases ei : i < f
    · rw [List.getElem?_append_left (by simpa using ei)]
      have hz : H (i : Int) = 0 := by
        by_cases hz : H (i : Int) = 0
        · exact hz
        · have := h.out _ hz; omega
      simp [ei, hz]
    · rw [List.getElem?_append_right (by simpa using ei)]
      have e : (f : Int) + ((i - f : Nat) : Int) = (i : Int) := by omega
      simp [show i - f < n by omega, e])
  have hx := (hgr.block x hp.lt (by simp)).trans hp.blk
  have hne : g' ≠ x := hsl.ne hx (by decide)
  refine ⟨g', cap', w2, fun ty => hrun, ?_, ?_, ?_, ?_, ?_, ?_⟩
  · rw [cell_of_row _ _ 1 _ _ _ hx]; rfl
  · simp [World.frozen?, hx]
  · rw [cell_of_row _ _ 0 _ _ _ hx]; rfl
  · simp [World.frozen?, hx]
  · refine ⟨blk_set (blk_set hx 1 _) 0 _, fun _ => ⟨g', 0, rfl, by simp at hg'; omega, ((hsl.setOther hne _).setOther hne _).congr ?_⟩, ?_, by omega, by omega, h.hb, h.bx⟩
    · intro i _
      simp
    · intro v hv
      have := h.out v hv
      omega
  · have t1 : Tch B w w2 := ((Tch.refl B w).alloc _).trans ⟨hgr.os, hgr.tape, hgr.output, hgr.size, fun k hk _ => hgr.block k hk (by simp)⟩
    exact (t1.setCell h.bx hx (by decide) _).setCell h.bx (blk_set hx 1 _) (by decide) _

theorem Pk.first {B : Nat} {w : World} {x f : Nat} {H : Int → Int} {ao : Option Addr} {cap : Nat} (h : Pk B w x (f : Int) 0 H ao cap) (hB : B ≤ w.heap.size) {c : Int} (hc : 1 ≤ c) (hb : H 0 + c ≤ 1000000) :
    ∃ n' ao' cap', Pk B (((w.alloc (.cells #[.int .i64 c] 3)).setCell ⟨x, 0, none⟩ (.int .i64 0)).setCell ⟨x, 1, none⟩ (.slice (some ⟨w.heap.size, 0, none⟩) 1 1)) x 0 n' (addc c H) ao' cap' ∧ Ends 0 n' (addc c H) ∧
      Tch B w (((w.alloc (.cells #[.int .i64 c] 3)).setCell ⟨x, 0, none⟩ (.int .i64 0)).setCell ⟨x, 1, none⟩ (.slice (some ⟨w.heap.size, 0, none⟩) 1 1)) := by
  have hp := h.alloc (.cells #[.int .i64 c] 3)
  have hz : ∀ v, H v = 0 := fun v => by
    by_cases e : H v = 0
    · exact e
    · have := h.out v e; omega
  have hs : Sl (w.alloc (.cells #[.int .i64 c] 3)) 3 w.heap.size 0 1 1 (fun i => addc c H ((0 : Int) + i)) :=
    ⟨_, Go.Deep.blk_alloc_new w _, by omega, by simp, fun i hi => by
      have : i = 0 := by omega
      subst this
      simp [addc, hz]⟩
  have hne := hs.ne hp.blk (by decide)
  refine ⟨1, _, _, ⟨blk_set (blk_set hp.blk 0 _) 1 _, fun _ => ⟨w.heap.size, 0, rfl, hB, (hs.setOther hne _).setOther hne _⟩, ?_, by omega, by omega, ?_, h.bx⟩, ?_, ((((Tch.refl B w).alloc _).setCell h.bx hp.blk (by decide) _).setCell h.bx (blk_set hp.blk 0 _) (by decide) _)⟩
  · intro v hv
    by_cases e : v = 0
    · omega
    · simp [addc, e, hz] at hv
  · intro v
    have h0 := hz 0
    by_cases e : v = 0
    · subst e; simp only [addc, if_true]; omega
    · simp [addc, e, hz]
  · intro _
    have h0 := hz 0
    constructor
    · simp only [addc, if_true]; omega
    · rw [show (0 : Int) + ((1 : Nat) : Int) - 1 = 0 by omega]
      simp only [addc, if_true]; omega

theorem Pk.addTo {B : Nat} {w0 w : World} {x f n n0 : Nat} {H : Int → Int} {g off cap : Nat} (h : Pk B w x 0 n H (some ⟨g, off, none⟩) cap) (hs : Sl w 3 g off cap n (fun i => H ((0 : Int) + i))) (hg : B ≤ g) (hn : 0 < n) {c : Int} (hc : 1 ≤ c) (hb : H 0 + c ≤ 1000000)
    (he : H (f : Int) ≠ 0 ∧ H ((f : Int) + (n0 : Int) - 1) ≠ 0) (hnn : (n : Int) = f + n0) (ht : Tch B w0 w) :
    Pk B (w.setCell ⟨g, off, none⟩ (.int .i64 (H 0 + c))) x 0 n (addc c H) (some ⟨g, off, none⟩) cap ∧ Ends 0 n (addc c H) ∧ Tch B w0 (w.setCell ⟨g, off, none⟩ (.int .i64 (H 0 + c))) := by
  have h0 := h.hb 0
  have hp := h.set hs rfl hg hn (c := H 0 + c) (by omega) hb
  rw [Nat.add_zero] at hp
  refine ⟨hp.congr fun v => ?_, fun _ => ⟨?_, ?_⟩, ?_⟩
  · by_cases e : v = 0
    · subst e; simp [addc]
    · simp [addc, e]
  · simp only [addc, if_true]; omega
  · rw [show (0 : Int) + (n : Int) - 1 = f + (n0 : Int) - 1 by omega]
    have := h.hb ((f : Int) + (n0 : Int) - 1)
    have := he.2
    simp only [addc]
    split <;> omega
  · obtain ⟨cur, h1, _⟩ := hs
    exact ht.setCell hg h1 (by decide) _

set_option maxHeartbeats 4000000 in
set_option maxRecDepth 100000 in
theorem enter_any {B : Nat} {w : World} {x f : Nat} {n : Nat} {H : Int → Int} {ao : Option Addr} {cap : Nat} (h : Pk B w x (f : Int) n H ao cap) (he : Ends (f : Int) n H) (c : Int) (hc : 1 ≤ c) (hb : H 0 + c ≤ 1000000) (hB : B ≤ w.heap.size) :
    Calls Yba.prog 6 #[.pointer (some ⟨x, 0, none⟩), .int .i64 c] w fun e w' => e = .returned (.tuple #[]) ∧
      ∃ n' ao' cap', Pk B w' x 0 n' (addc c H) ao' cap' ∧ Ends 0 n' (addc c H) ∧ Tch B w w' := by
  obtain ⟨c0, c1, f0, f1⟩ := h.facts
  have hfb := h.fb
  have HE := (show Hid _ from he)
  have HP := (show Hid _ from h)
  clear he
  rcases Nat.eq_zero_or_pos n with rfl | hn
  · obtain ⟨d0, d1, e0, e1⟩ := (h.alloc (.cells #[.int .i64 c] 3)).facts
    clear h
    go_enter Yba.func6, Yba.ntmps6
    go_wp2_with fail
    refine bodyPost_ret (results_none rfl _ _ _) rfl ?_
    exact ⟨rfl, HP.out.first hB hc hb⟩
  · obtain ⟨g, off, rfl, hg, hs⟩ := h.sl hn
    clear h
    have hmk := run_make_row' (P := Yba.prog) 24 3 (.int .i64 0) 8 Yba.underlying24 info3 rfl .i64 .i64 f (by omega) (by omega)
    have c1a := (HP.out.alloc (.cells (madeCells #[.int .i64 0] f) 3)).facts.2.1
    obtain ⟨g', cap', w2, hrun0, c21, f21, c20, f20, hp2, ht2⟩ := HP.out.drew.shift hn hB
    have hrun : ∀ ty, (Builtin.append_ #[24, 24] ty #[.slice (some ⟨w.heap.size, 0, none⟩) f f, .slice (some ⟨g, off, none⟩) n cap]).run Yba.prog (w.alloc (.cells (madeCells #[.int .i64 0] f) 3)).drew = .ok (.slice (some ⟨g', 0, none⟩) (f + n) cap') w2 := hrun0
    clear hrun0
    have HP2 := (show Hid _ from hp2)
    have HT2 := (show Hid _ from ht2)
    clear hp2 ht2
    go_enter Yba.func6, Yba.ntmps6
    go_upto_if 22 with fail
    go_cut [22] (fun _ wx => ∃ n' ao' cap', Pk B wx x 0 n' H ao' cap' ∧ 0 < n' ∧ (n' : Int) = f + n ∧ Tch B w wx)
    case first =>
      rcases Nat.eq_zero_or_pos f with rfl | hf
      · go_wp2_with fail
        go_meet
        exact ⟨n, _, _, HP.out, hn, by omega, Tch.refl _ _⟩
      · go_upto_region 3 with fail
        go_region_law (refine step_append_run rfl (.tmp 28) (.tmp 32) 24 rfl (by simp [Act.eval]) (by simp [Act.eval]) (hrun _) ?_)
        all_goals (go_wp2_with fail; go_meet)
        all_goals exact ⟨f + n, _, _, HP2.out, by omega, by omega, (Tch.refl B w).drew.trans HT2.out⟩
    case rest =>
    obtain ⟨n', ao', cap', hp, hn', hnn, htc⟩ := hcut
    obtain ⟨g3, off3, rfl, hg3, hs3⟩ := hp.sl hn'
    obtain ⟨d0, d1, e0, e1⟩ := hp.facts
    have hcg := hs3.cell (i := 0) hn'
    simp only [Nat.add_zero, Int.natCast_zero, Int.add_zero] at hcg
    have hfg := hs3.frozen off3
    have hH0 := hp.hb 0
    have HQ := (show Hid _ from hp)
    have HTC := (show Hid _ from htc)
    have HS := (show Hid _ from hs3)
    clear hp htc hs3 c0 c1 f0 f1 HP2 HT2 hrun c1a c21 f21 c20 f20 hmk hs
    go_wp2_with fail
    go_end0
    exact ⟨rfl, n', _, _, HQ.out.addTo HS.out hg3 hn' hc hb (HE.out hn) hnn HTC.out⟩
end Go.Proofs.Ybulkbunc.Pk
