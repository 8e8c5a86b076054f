import Derived.Test.YbulkbuncPkB
namespace Go.Proofs.Ybulkbunc.Pk
open Go.RowKit

/-- What may turn: block x, rows of ints from B on, new blocks. Whatever lies below B stands, and so does every row of int64s. -/
structure Tch (B : Nat) (w w' : World) : Prop where
  os : w'.os = w.os
  tape : w'.tape = w.tape
  output : w'.output = w.output
  size : w.heap.size ≤ w'.heap.size
  block : ∀ k, k < w.heap.size → (k < B ∨ ∃ c fr, w.heap[k]? = some (.cells c 2 fr)) → w'.heap[k]? = w.heap[k]?

section
variable {B : Nat} {w w' w'' : World}
theorem Tch.refl (B : Nat) (w : World) : Tch B w w := ⟨rfl, rfl, rfl, Nat.le_refl _, fun _ _ _ => rfl⟩
theorem Tch.trans (h : Tch B w w') (h' : Tch B w' w'') : Tch B w w'' :=
  ⟨h'.os.trans h.os, h'.tape.trans h.tape, h'.output.trans h.output, Nat.le_trans h.size h'.size, fun k hk hc => by
    have e := h.block k hk hc
    refine (h'.block k (Nat.lt_of_lt_of_le hk h.size) ?_).trans e
    rcases hc with hc | ⟨c, fr, hc⟩
    · exact .inl hc
    · exact .inr ⟨c, fr, e.trans hc⟩⟩
theorem Tch.of_below (h : Below w.heap.size w w') : Tch B w w' := ⟨h.os, h.tape, h.output, h.size, fun k hk _ => h.block k hk⟩
theorem Tch.alloc (h : Tch B w w') (o : Obj) : Tch B w (w'.alloc o) := h.trans (Tch.of_below ((Below.refl _ _).alloc (Nat.le_refl _) _))
theorem Tch.drew (h : Tch B w w') : Tch B w w'.drew := h.trans (Tch.of_below (Below.refl _ _).drew)
theorem Tch.setCell (h : Tch B w w') {a : Addr} {c : Array Value} {t : TypeId} {fr : Nat × Nat} (hb : B ≤ a.block) (hc : w'.heap[a.block]? = some (.cells c t fr)) (ht : t ≠ 2) (v : Value) : Tch B w (w'.setCell a v) :=
  h.trans ⟨rfl, rfl, rfl, by simp [World.setCell], fun k _ hk => Go.Deep.blk_setCell_other _ _ _ _ (by
    rintro rfl
    rcases hk with hk | ⟨c', fr', hk⟩
    · omega
    · rw [hc] at hk; cases hk; exact ht rfl)⟩
theorem Tch.grown (h : Tch B w w') {g : Nat} {c : Array Value} {t : TypeId} {fr : Nat × Nat} (hb : B ≤ g) (hc : w'.heap[g]? = some (.cells c t fr)) (ht : t ≠ 2) (hg : w'.grownBy w'' (some g)) : Tch B w w'' :=
  h.trans ⟨hg.os, hg.tape, hg.output, hg.size, fun k hk hk' => hg.block k hk (by
    intro e
    cases e
    rcases hk' with hk' | ⟨c', fr', hk'⟩
    · omega
    · rw [hc] at hk'; cases hk'; exact ht rfl)⟩
theorem Tch.below (h : Tch B w w') (hB : B ≤ w.heap.size) : Below B w w' := ⟨h.os, h.tape, h.output, h.size, fun k hk => h.block k (by omega) (.inl hk)⟩
theorem Tch.row {e g off cap n : Nat} {f : Nat → Int} (h : Tch B w w') (he : e = 2) (hs : Sl w e g off cap n f) : Sl w' e g off cap n f := by
  subst he
  have hlt := hs.lt
  obtain ⟨cur, h1, h2⟩ := hs
  exact ⟨cur, (h.block g hlt (.inr ⟨cur, _, h1⟩)).trans h1, h2⟩
end

/-- A pack at block x: counts n values from fw on, as H says; H is nought outside them. -/
structure Pk (B : Nat) (w : World) (x : Nat) (fw : Int) (n : Nat) (H : Int → Int) (ao : Option Addr) (cap : Nat) : Prop where
  blk : w.heap[x]? = some (.cells #[.int .i64 fw, .slice ao n cap] 26 (0, 0))
  sl : 0 < n → ∃ g off, ao = some ⟨g, off, none⟩ ∧ B ≤ g ∧ Sl w 3 g off cap n (fun i => H (fw + i))
  out : ∀ v, H v ≠ 0 → fw ≤ v ∧ v < fw + n
  f0 : 0 ≤ fw
  fb : fw + n ≤ 1000000
  hb : ∀ v, 0 ≤ H v ∧ H v ≤ 1000000
  bx : B ≤ x

def incr (u : Int) (H : Int → Int) : Int → Int := fun v => if v = u then H v + 1 else H v
def decr (u : Int) (H : Int → Int) : Int → Int := fun v => if v = u then H v - 1 else H v

section
variable {B : Nat} {w w' : World} {x : Nat} {fw : Int} {n : Nat} {H : Int → Int} {ao : Option Addr} {cap : Nat}
theorem Pk.facts (h : Pk B w x fw n H ao cap) : w.cell? ⟨x, 0, none⟩ = some (.int .i64 fw) ∧ w.cell? ⟨x, 1, none⟩ = some (.slice ao n cap) ∧ w.frozen? ⟨x, 0, none⟩ = false ∧ w.frozen? ⟨x, 1, none⟩ = false := by
  refine ⟨?_, ?_, ?_, ?_⟩
  · rw [cell_of_row w x 0 _ _ _ h.blk]; rfl
  · rw [cell_of_row w x 1 _ _ _ h.blk]; rfl
  · simp [World.frozen?, h.blk]
  · simp [World.frozen?, h.blk]
theorem Pk.lt (h : Pk B w x fw n H ao cap) : x < w.heap.size := by
  rcases Nat.lt_or_ge x w.heap.size with hlt | hge
  · exact hlt
  · have h1 := h.blk; rw [Array.getElem?_eq_none hge] at h1; cases h1
theorem Pk.below (h : Pk B w x fw n H ao cap) (hb : Below w.heap.size w w') : Pk B w' x fw n H ao cap := by
  refine ⟨(hb.block x h.lt).trans h.blk, fun hn => ?_, h.out, h.f0, h.fb, h.hb, h.bx⟩
  obtain ⟨g, off, h1, h2, h3⟩ := h.sl hn
  exact ⟨g, off, h1, h2, h3.of_block (hb.block g h3.lt)⟩
theorem Pk.drew (h : Pk B w x fw n H ao cap) : Pk B w.drew x fw n H ao cap := h.below (Below.refl _ _).drew
theorem Pk.alloc (h : Pk B w x fw n H ao cap) (o : Obj) : Pk B (w.alloc o) x fw n H ao cap := h.below ((Below.refl _ _).alloc (Nat.le_refl _) _)
theorem Pk.congr {H' : Int → Int} (h : Pk B w x fw n H ao cap) (e : ∀ v, H v = H' v) : Pk B w x fw n H' ao cap := by
  rw [show H' = H from funext fun v => (e v).symm]; exact h
theorem ne_of_types {g : Nat} {c c' : Array Value} {t t' : TypeId} {fr fr' : Nat × Nat} (h : w.heap[x]? = some (.cells c t fr)) (h' : w.heap[g]? = some (.cells c' t' fr')) (ht : t ≠ t') : g ≠ x := by
  rintro rfl
  rw [h] at h'
  cases h'
  exact ht rfl
theorem Sl.ne {e g off cap n : Nat} {f : Nat → Int} {c : Array Value} {t : TypeId} {fr : Nat × Nat} (hs : Sl w e g off cap n f) (h : w.heap[x]? = some (.cells c t fr)) (ht : t ≠ e) : g ≠ x := by
  obtain ⟨cur, h1, _⟩ := hs
  exact ne_of_types h h1 ht

theorem blk_set {c : Array Value} {t : TypeId} {fr : Nat × Nat} (h : w.heap[x]? = some (.cells c t fr)) (i : Nat) (v : Value) : (w.setCell ⟨x, i, none⟩ v).heap[x]? = some (.cells (c.setIfInBounds i v) t fr) := by
  simp [World.setCell, h, Array.getElem?_modify]

/-- A count is set. -/
theorem Pk.set (h : Pk B w x fw n H ao cap) {g off j : Nat} (hs : Sl w 3 g off cap n (fun i => H (fw + i))) (ha : ao = some ⟨g, off, none⟩) (hg : B ≤ g) (hj : j < n) {c : Int} (h0 : 0 ≤ c) (h1 : c ≤ 1000000) :
    Pk B (w.setCell ⟨g, off + j, none⟩ (.int .i64 c)) x fw n (fun v => if v = fw + j then c else H v) ao cap := by
  have hne := hs.ne h.blk (by decide)
  refine ⟨(Go.Deep.blk_setCell_other _ _ _ _ (by show x ≠ g; omega)).trans h.blk, fun _ => ⟨g, off, ha, hg, (hs.set j c).congr ?_⟩, ?_, h.f0, h.fb, ?_, h.bx⟩
  · intro i _
    by_cases e : i = j
    · subst e; simp
    · have : ¬ (fw + (i : Int) = fw + (j : Int)) := by omega
      simp [e, this]
  · intro v hv
    by_cases e : v = fw + j
    · omega
    · simp only [e, if_false] at hv; exact h.out v hv
  · intro v
    by_cases e : v = fw + j
    · simp only [e, if_true]; exact ⟨h0, h1⟩
    · simp only [e, if_false]; exact h.hb v
/-- The last count, nought, falls away. -/
theorem Pk.init (h : Pk B w x fw (n + 1) H ao cap) (hz : H (fw + n) = 0) : Pk B (w.setCell ⟨x, 1, none⟩ (.slice ao n cap)) x fw n H ao cap := by
  obtain ⟨g, off, ha, hg, hs⟩ := h.sl (by omega)
  have hne := hs.ne h.blk (by decide)
  refine ⟨blk_set h.blk 1 _, fun _ => ⟨g, off, ha, hg, (hs.setOther hne _).init (by omega)⟩, ?_, h.f0, by have := h.fb; omega, h.hb, h.bx⟩
  intro v hv
  have := h.out v hv
  have : v ≠ fw + n := fun e => hv (by rw [e]; exact hz)
  omega
/-- The first count, nought, falls away. -/
theorem Pk.tail (h : Pk B w x fw (n + 1) H ao cap) (hz : H fw = 0) {g off : Nat} (ha : ao = some ⟨g, off, none⟩) {ao' : Option Addr} (ha' : 0 < n → ao' = some ⟨g, off + 1, none⟩) :
    Pk B ((w.setCell ⟨x, 1, none⟩ (.slice ao' n (cap - 1))).setCell ⟨x, 0, none⟩ (.int .i64 (fw + 1))) x (fw + 1) n H ao' (cap - 1) := by
  obtain ⟨g', off', hb', hg, hs⟩ := h.sl (by omega)
  rw [ha] at hb'
  cases hb'
  have hne := hs.ne h.blk (by decide)
  refine ⟨blk_set (blk_set h.blk 1 _) 0 _, fun hn => ⟨g, off + 1, ha' hn, hg, (((hs.setOther hne _).setOther hne _).tail).congr ?_⟩, ?_, by have := h.f0; omega, by have := h.fb; omega, h.hb, h.bx⟩
  · intro i _
    show H (fw + ((i + 1 : Nat) : Int)) = H (fw + 1 + (i : Int))
    congr 1
    omega
  · intro v hv
    have := h.out v hv
    have : v ≠ fw := fun e => hv (by rw [e]; exact hz)
    omega
/-- A nought is appended. -/
theorem Pk.push (h : Pk B w x fw n H ao cap) {w' : World} {g g' off' cap' : Nat} {c : Array Value} (hgr : w.grownBy w' (some g)) (hg3 : w.heap[g]? = some (.cells c 3 (0, 0))) (hg' : B ≤ g')
    (hs : Sl w' 3 g' off' cap' (n + 1) (fun i => if i = n then 0 else H (fw + i))) (hb : fw + (n + 1 : Nat) ≤ 1000000) :
    Pk B (w'.setCell ⟨x, 1, none⟩ (.slice (some ⟨g', off', none⟩) (n + 1) cap')) x fw (n + 1) H (some ⟨g', off', none⟩) cap' := by
  have hx := (hgr.block x h.lt (by intro e; cases e; rw [h.blk] at hg3; cases hg3)).trans h.blk
  have hne := hs.ne hx (by decide)
  refine ⟨blk_set hx 1 _, fun _ => ⟨g', off', rfl, hg', (hs.setOther hne _).congr ?_⟩, ?_, h.f0, hb, h.hb, h.bx⟩
  · intro i _
    by_cases e : i = n
    · subst e
      simp only [if_true]
      by_cases hz : H (fw + i) = 0
      · exact hz.symm
      · have := h.out _ hz; omega
    · simp [e]
  · intro v hv
    have := h.out v hv
    omega
end

/-- The pack's ends count something. -/
def Ends (fw : Int) (n : Nat) (H : Int → Int) : Prop := 0 < n → H fw ≠ 0 ∧ H (fw + (n : Int) - 1) ≠ 0

set_option maxHeartbeats 1000000 in
theorem most_any {B : Nat} {w : World} {x : Nat} {fw : Int} {n : Nat} {H : Int → Int} {ao : Option Addr} {cap : Nat} (h : Pk B w x fw n H ao cap) :
    Calls Yba.prog 11 #[.pointer (some ⟨x, 0, none⟩)] w fun e w' => e = .returned (.int .i64 (fw + n - 1)) ∧ Below w.heap.size w w' := by
  obtain ⟨c0, c1, _, _⟩ := h.facts
  have b0 := h.f0
  have b1 := h.fb
  go_enter Yba.func11, Yba.ntmps11
  go_wp2
  go_region
  go_wp2
  go_ret
  exact ⟨by simp, (Below.refl _ _).drew⟩
end Go.Proofs.Ybulkbunc.Pk
