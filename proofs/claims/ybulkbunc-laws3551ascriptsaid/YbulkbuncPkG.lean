import Derived.Test.YbulkbuncPkF
namespace Go.Proofs.Ybulkbunc.Pk
open Go.RowKit

/-- Where a round stands: the pack counts the running processes' steps. -/
structure Run (w0 : World) (w : World) (x k pb po cp m : Nat) (P : Nat → Int) (f n : Nat) (ao : Option Addr) (cap : Nat) : Prop where
  pk : Pk w0.heap.size w x (f : Int) n (cnt P m) ao cap
  en : Ends (f : Int) n (cnt P m)
  pr : Sl w 2 pb po cp m P
  pB : w0.heap.size ≤ pb
  P0 : ∀ i, i < m → 0 ≤ P i ∧ P i ≤ 4 * k
  mb : m ≤ 256 + 8 * k
  bel : Below w0.heap.size w0 w

section
variable {w0 w w' : World} {x k pb po cp m : Nat} {P : Nat → Int} {f n : Nat} {ao : Option Addr} {cap : Nat}
theorem Run.below (h : Run w0 w x k pb po cp m P f n ao cap) (hb : Below w.heap.size w w') : Run w0 w' x k pb po cp m P f n ao cap :=
  ⟨h.pk.below hb, h.en, h.pr.of_block (hb.block pb h.pr.lt), h.pB, h.P0, h.mb, h.bel.trans (hb.mono h.bel.size)⟩
theorem Run.drew (h : Run w0 w x k pb po cp m P f n ao cap) : Run w0 w.drew x k pb po cp m P f n ao cap := h.below (Below.refl _ _).drew

/-- The pack stands while a row of int64s turns. -/
theorem Pk.other {B : Nat} {fw : Int} {H : Int → Int} (h : Pk B w x fw n H ao cap) {c : Array Value} {fr : Nat × Nat} (hpb : w.heap[pb]? = some (.cells c 2 fr)) (hb : ∀ b, b < w.heap.size → b ≠ pb → w'.heap[b]? = w.heap[b]?) : Pk B w' x fw n H ao cap := by
  refine ⟨(hb x h.lt (ne_of_types hpb h.blk (by decide))).trans h.blk, fun hn => ?_, h.out, h.f0, h.fb, h.hb, h.bx⟩
  obtain ⟨g, off, h1, h2, h3⟩ := h.sl hn
  refine ⟨g, off, h1, h2, h3.of_block (hb g h3.lt ?_)⟩
  obtain ⟨cur, h4, _⟩ := h3
  exact ne_of_types hpb h4 (by decide)
theorem Sl.row {e g off cap n : Nat} {f : Nat → Int} (h : Sl w e g off cap n f) : ∃ c, w.heap[g]? = some (.cells c e (0, 0)) := by
  obtain ⟨c, h1, _⟩ := h
  exact ⟨c, h1⟩
end

/-- A nought is appended to the processes. -/
theorem Sl.push {B : Nat} {w : World} {x : Nat} {fw : Int} {n : Nat} {H : Int → Int} {ao : Option Addr} {cap pb po cp m : Nat} {P : Nat → Int} (hs : Sl w 2 pb po cp m P) (hp : Pk B w x fw n H ao cap) (hB : B ≤ pb) (hm : m < 1000000) :
    ∃ pb' po' cp' w2, (∀ ty, (Builtin.append_ #[28, 28] ty #[.slice (some ⟨pb, po, none⟩) m cp, .slice (some ⟨w.heap.size, 0, none⟩) 1 1]).run Yba.prog (w.alloc (.cells #[.int .i64 0] 2)) = .ok (.slice (some ⟨pb', po', none⟩) (m + 1) cp') w2) ∧
      Sl w2 2 pb' po' cp' (m + 1) (fun i => if i = m then 0 else P i) ∧ Pk B w2 x fw n H ao cap ∧ B ≤ pb' ∧ Below B w w2 := by
  have hs' := hs.alloc (.cells #[.int .i64 0] 2)
  have hlt := hs.lt
  have hc : (w.alloc (.cells #[.int .i64 0] 2)).cell? ⟨w.heap.size, 0, none⟩ = some (.int .i64 0) := by
    rw [cell_of_row _ _ 0 _ 2 (0, 0) (Go.Deep.blk_alloc_new w _)]; rfl
  obtain ⟨g', off', cap', w2, hrun, hs2, hg2, hgr⟩ := run_append1 (ty := 0) Yba.underlying28 info2 hs' hc (by omega)
  obtain ⟨c, hc⟩ := hs'.row
  refine ⟨g', off', cap', w2, fun ty => hrun, hs2, (hp.alloc _).other hc (fun b hb hn => hgr.block b hb (by intro e; cases e; exact hn rfl)), ?_, ?_⟩
  · rcases hg2 with rfl | h2
    · exact hB
    · simp at h2; omega
  · have hb0 : Below B w (w.alloc (.cells #[.int .i64 0] 2)) := (Below.refl _ _).alloc (by omega) _
    exact hb0.trans ⟨hgr.os, hgr.tape, hgr.output, hgr.size, fun b hb => hgr.block b (by simp; omega) (by intro e; cases e; omega)⟩

/-- c noughts behind P's first m values. -/
def padP (P : Nat → Int) (m : Nat) : Nat → Int := fun i => if i < m then P i else 0
theorem cnt_pad (P : Nat → Int) (m : Nat) (v : Int) : ∀ c : Nat, cnt (padP P m) (m + c) v = cnt P m v + if v = 0 then (c : Int) else 0
  | 0 => by
    rw [Nat.add_zero, cnt_congr (Q := P) (fun i hi => by simp [padP, hi])]
    simp
  | c + 1 => by
    have ih := cnt_pad P m v c
    show cnt (padP P m) (m + c) v + (if padP P m (m + c) = v then 1 else 0) = _
    rw [ih]
    have : padP P m (m + c) = 0 := by simp only [padP]; rw [if_neg (by omega)]
    rw [this]
    by_cases e : v = 0
    · subst e; simp; omega
    · have : ¬ (0 : Int) = v := fun h => e h.symm
      simp [e, this]

/-- The pack as the law makes it. -/
theorem pk_new (w : World) : Pk w.heap.size (w.alloc (.cells #[.int .i64 0, .slice none 0 0] 26)) w.heap.size ((0 : Nat) : Int) 0 (fun _ => 0) none 0 :=
  ⟨Go.Deep.blk_alloc_new w _, fun h => absurd h (by omega), fun v h => absurd rfl h, by omega, by omega, fun v => ⟨by omega, by omega⟩, Nat.le_refl _⟩

section
variable {w0 w1 w2 : World} {x k pb po cp m : Nat} {P : Nat → Int} {f n : Nat} {ao : Option Addr} {cap : Nat}
/-- Behind the first enter and make. -/
theorem run_start {n' : Nat} {ao' : Option Addr} {cap' c : Nat} (hc : c ≤ 256) (hp : Pk w0.heap.size w1 x 0 n' (addc (c : Int) (fun _ => 0)) ao' cap') (he : Ends 0 n' (addc (c : Int) (fun _ => 0)))
    (hb : Below w0.heap.size w0 w1) : Run w0 (w1.alloc (.cells (madeCells #[.int .i64 0] c) 2)) x 0 w1.heap.size 0 c c (fun _ => 0) 0 n' ao' cap' := by
  have e : ∀ v, addc (c : Int) (fun _ => 0) v = cnt (fun _ => 0) c v := fun v => by
    have h := cnt_pad (fun _ => 0) 0 v c
    rw [Nat.zero_add] at h
    have h2 : cnt (padP (fun _ => 0) 0) c v = cnt (fun _ => 0) c v := cnt_congr (fun i _ => by simp [padP])
    rw [← h2, h]
    by_cases ev : v = 0
    · simp [addc, ev, cnt]
    · simp [addc, ev, cnt]
  have eH : addc (c : Int) (fun _ => 0) = cnt (fun _ => 0) c := funext e
  rw [eH] at hp he
  refine ⟨hp.alloc _, he, ?_, hb.size, fun i _ => ⟨by omega, by omega⟩, by omega, hb.alloc hb.size _⟩
  obtain ⟨cur, h1, h2, h3⟩ := World.rowIs_made w1 (.int .i64 0) c 2
  exact ⟨cur, h1, Nat.le_refl _, by omega, fun i hi => by rw [Nat.zero_add]; exact h3 i hi⟩
/-- Behind an enter and its appends. -/
theorem run_enter {n' : Nat} {ao' : Option Addr} {cap' c : Nat} {pb' po' cp' : Nat} (h : Run w0 w1 x k pb po cp m P f n ao cap) (hc : c ≤ 8) (hp : Pk w0.heap.size w2 x ((0 : Nat) : Int) n' (addc (c : Int) (cnt P m)) ao' cap') (he : Ends 0 n' (addc (c : Int) (cnt P m)))
    (hs : Sl w2 2 pb' po' cp' (m + c) (padP P m)) (hB : w0.heap.size ≤ pb') (hb : Below w0.heap.size w0 w2) : Run w0 w2 x (k + 1) pb' po' cp' (m + c) (padP P m) 0 n' ao' cap' := by
  have eH : addc (c : Int) (cnt P m) = cnt (padP P m) (m + c) := funext fun v => by
    rw [cnt_pad]
    by_cases ev : v = 0
    · simp [addc, ev]
    · simp [addc, ev]
  rw [eH] at hp he
  refine ⟨hp, he, hs, hB, fun i _ => ?_, by have := h.mb; omega, hb⟩
  by_cases e : i < m
  · have := h.P0 i e
    simp only [padP, e, if_true]
    omega
  · simp only [padP, e, if_false]
    omega
/-- Behind a move of process i and the store. -/
theorem run_move {f' n' : Nat} {ao' : Option Addr} {cap' i : Nat} {u : Int} (h : Run w0 w1 x k pb po cp m P f n ao cap) (hi : i < m) (hp : Pk w0.heap.size w2 x (f' : Int) n' (decr (P i) (incr u (cnt P m))) ao' cap') (he : Ends (f' : Int) n' (decr (P i) (incr u (cnt P m))))
    (ht : Tch w0.heap.size w1 w2) (hu0 : 0 ≤ u) (hu : u ≤ 4 * k + 4) :
    Run w0 (w2.setCell ⟨pb, po + i, none⟩ (.int .i64 u)) x (k + 1) pb po cp m (fun j => if j = i then u else P j) f' n' ao' cap' := by
  have eH : decr (P i) (incr u (cnt P m)) = cnt (fun j => if j = i then u else P j) m := funext fun v => by
    rw [cnt_set hi]
    simp only [decr, incr]
    by_cases e1 : v = P i
    · by_cases e2 : v = u
      · have e3 : P i = v := e1.symm
        have e4 : u = v := e2.symm
        simp only [e1.symm, e2.symm, if_true]
      · have e3 : P i = v := e1.symm
        have e4 : ¬ u = v := fun h => e2 h.symm
        simp only [← e1, e2, e4, if_true, if_false]; omega
    · by_cases e2 : v = u
      · have e3 : ¬ P i = v := fun h => e1 h.symm
        simp only [e1, ← e2, e3, if_true, if_false]; omega
      · have e3 : ¬ P i = v := fun h => e1 h.symm
        have e4 : ¬ u = v := fun h => e2 h.symm
        simp only [e1, e2, e3, e4, if_false]; omega
  rw [eH] at hp he
  have hs := ht.row rfl h.pr
  obtain ⟨c, hc⟩ := hs.row
  refine ⟨hp.other hc (fun b _ hb => Go.Deep.blk_setCell_other _ _ _ _ hb), he, hs.set i u, h.pB, fun j hj => ?_, by have := h.mb; omega, (h.bel.trans (ht.below h.bel.size)).setCell h.pB _⟩
  by_cases e : j = i
  · simp only [e, if_true]; omega
  · have := h.P0 j hj
    simp only [e, if_false]; omega
/-- Behind the removal of process i. -/
theorem run_out {f' n' : Nat} {ao' : Option Addr} {cap' i : Nat} (h : Run w0 w1 x k pb po cp (m + 1) P f n ao cap) (hi : i < m + 1) (hp : Pk w0.heap.size w2 x (f' : Int) n' (decr (P i) (cnt P (m + 1))) ao' cap') (he : Ends (f' : Int) n' (decr (P i) (cnt P (m + 1))))
    (ht : Tch w0.heap.size w1 w2) :
    Run w0 (w2.setCell ⟨pb, po + i, none⟩ (.int .i64 (P m))) x (k + 1) pb po cp m (fun j => if j = i then P m else P j) f' n' ao' cap' := by
  have eH : decr (P i) (cnt P (m + 1)) = cnt (fun j => if j = i then P m else P j) m := funext fun v => by
    rw [cnt_out hi]
    simp only [decr]
    by_cases e1 : v = P i
    · simp only [← e1, if_true]
    · have e3 : ¬ P i = v := fun h => e1 h.symm
      simp only [e1, e3, if_false]; omega
  rw [eH] at hp he
  have hs := ht.row rfl h.pr
  obtain ⟨c, hc⟩ := hs.row
  refine ⟨hp.other hc (fun b _ hb => Go.Deep.blk_setCell_other _ _ _ _ hb), he, (hs.set i _).init (by omega), h.pB, fun j hj => ?_, by have := h.mb; omega, (h.bel.trans (ht.below h.bel.size)).setCell h.pB _⟩
  by_cases e : j = i
  · have := h.P0 m (by omega)
    simp only [e, if_true]; omega
  · have := h.P0 j (by omega)
    simp only [e, if_false]; omega
end
end Go.Proofs.Ybulkbunc.Pk
