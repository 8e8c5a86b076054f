import Derived.Test.YbulkbulmPullA
import Derived.Deep.RegionHeld3
import Derived.Deep.QuietTactic
import Derived.BigQuiet
namespace Go.Proofs.Ybulkbulm.Pu
open Go.RowKit

/-- Block B holds the cells C (none frozen). -/
def Blk (w : World) (B : Nat) (t : TypeId) (C : List Value) : Prop := w.heap[B]? = some (.cells C.toArray t (0, 0))

theorem Blk.cell {w : World} {B : Nat} {t : TypeId} {C : List Value} (h : Blk w B t C) (o : Nat) : w.cell? ⟨B, o, none⟩ = C[o]? := by
  simp only [Blk] at h
  simp [World.cell?, h]
theorem Blk.frozen {w : World} {B : Nat} {t : TypeId} {C : List Value} (h : Blk w B t C) (o : Nat) : w.frozen? ⟨B, o, none⟩ = false := by
  simp only [Blk] at h
  simp [World.frozen?, h]
theorem Blk.lt {w : World} {B : Nat} {t : TypeId} {C : List Value} (h : Blk w B t C) : B < w.heap.size := by
  obtain ⟨hlt, _⟩ := Array.getElem?_eq_some_iff.1 h
  exact hlt
theorem Blk.below {w w' : World} {B N : Nat} {t : TypeId} {C : List Value} (h : Blk w B t C) (hb : Below N w w') (hN : B < N) : Blk w' B t C := (hb.block B hN).trans h
theorem Blk.alloc {w : World} {B : Nat} {t : TypeId} {C : List Value} (h : Blk w B t C) (o : Obj) : Blk (w.alloc o) B t C := (Below.heap_alloc w o B h.lt).trans h
theorem Blk.new (w : World) (t : TypeId) (C : List Value) : Blk (w.alloc (.cells C.toArray t)) w.heap.size t C := heap_alloc_new w _
theorem Blk.drew {w : World} {B : Nat} {t : TypeId} {C : List Value} (h : Blk w B t C) : Blk w.drew B t C := h
theorem Blk.set {w : World} {B : Nat} {t : TypeId} {C : List Value} (h : Blk w B t C) (o : Nat) (v : Value) : Blk (w.setCell ⟨B, o, none⟩ v) B t (C.set o v) := by
  have := heap_setCell_same w B o C.toArray t v h
  simpa [Blk] using this
theorem Blk.setOther {w : World} {B : Nat} {t : TypeId} {C : List Value} (h : Blk w B t C) {a : Addr} (ha : B ≠ a.block) (v : Value) : Blk (w.setCell a v) B t C := (Below.heap_setCell w a v B ha).trans h

theorem chalf_no (f l g s0 s1 s2 l0 l1 l2 h0 h1 h2 : Int) (w : World) :
    Calls Yba.prog 9 #[.agg #[.bool false, .int .i64 f, .int .i64 l, .int .i64 g, .int .i64 s0, .int .i64 s1, .int .i64 s2, .int .i64 l0, .int .i64 l1, .int .i64 l2, .int .i64 h0, .int .i64 h1, .int .i64 h2]] w
      fun e w' => e = .returned (.pointer none) ∧ Below w.heap.size w w' := by
  go_enter Yba.func9, Yba.ntmps9
  go_wp2
  go_ret
  exact ⟨rfl, (Below.refl _ _).alloc (Nat.le_refl _) _⟩

theorem keepH {w W w1 : World} {C : List Value} (h : (∀ o, W.cell? ⟨w.heap.size, o, none⟩ = C[o]?) ∧ Below w.heap.size w W ∧ w.heap.size < W.heap.size) (hb : Below W.heap.size W w1) :
    (∀ o, w1.cell? ⟨w.heap.size, o, none⟩ = C[o]?) ∧ Below w.heap.size w w1 ∧ w.heap.size < w1.heap.size :=
  ⟨fun o => (hb.cell (p := ⟨w.heap.size, o, none⟩) h.2.2).trans (h.1 o), h.2.1.trans (hb.mono (Nat.le_of_lt h.2.2)), Nat.lt_of_lt_of_le h.2.2 hb.size⟩
theorem keepH_alloc {w W : World} {C : List Value} (o : Obj) (h : (∀ o, W.cell? ⟨w.heap.size, o, none⟩ = C[o]?) ∧ Below w.heap.size w W ∧ w.heap.size < W.heap.size) :
    (∀ x, (W.alloc o).cell? ⟨w.heap.size, x, none⟩ = C[x]?) ∧ Below w.heap.size w (W.alloc o) ∧ w.heap.size < (W.alloc o).heap.size :=
  keepH h ((Below.refl _ _).alloc (Nat.le_refl _) _)
theorem keepH_new {w : World} (C : List Value) (t : TypeId) :
    (∀ x, (w.alloc (.cells C.toArray t)).drew.cell? ⟨w.heap.size, x, none⟩ = C[x]?) ∧ Below w.heap.size w (w.alloc (.cells C.toArray t)).drew ∧ w.heap.size < (w.alloc (.cells C.toArray t)).drew.heap.size :=
  ⟨fun o => (Blk.new w t C).drew.cell o, ((Below.refl _ _).alloc (Nat.le_refl _) _).drew, by show w.heap.size < (w.heap.push _).size; simp⟩

theorem finH {w W : World} {C : List Value} {D : List Value} (h : (∀ o, (W.alloc (.cells D.toArray 44)).cell? ⟨w.heap.size, o, none⟩ = C[o]?) ∧ Below w.heap.size w (W.alloc (.cells D.toArray 44)) ∧ w.heap.size < (W.alloc (.cells D.toArray 44)).heap.size) :
    ∃ x, Ending.returned (.pointer (some ⟨W.heap.size, 0, none⟩)) = .returned (.pointer (some ⟨x, 0, none⟩)) ∧ Below w.heap.size w (W.alloc (.cells D.toArray 44)) ∧ w.heap.size ≤ x ∧ Blk (W.alloc (.cells D.toArray 44)) x 44 D :=
  ⟨_, rfl, h.2.1, by have := h.2.2; simp at this; omega, Blk.new _ _ _⟩

set_option maxHeartbeats 2000000 in
theorem chalf_yes (f l g s0 s1 s2 l0 l1 l2 h0 h1 h2 : Int) (w : World) :
    Calls Yba.prog 9 #[.agg #[.bool true, .int .i64 f, .int .i64 l, .int .i64 g, .int .i64 s0, .int .i64 s1, .int .i64 s2, .int .i64 l0, .int .i64 l1, .int .i64 l2, .int .i64 h0, .int .i64 h1, .int .i64 h2]] w
      fun e w' => ∃ x, e = .returned (.pointer (some ⟨x, 0, none⟩)) ∧ Below w.heap.size w w' ∧ w.heap.size ≤ x ∧ Blk w' x 44 [.int .i64 f, .pointer none, .pointer none, .int .i64 0, .int .i64 0, .int .i64 0, .int .i64 s0, .int .i64 s1, .int .i64 s2, .int .i64 l0, .int .i64 l1, .int .i64 l2, .int .i64 h0, .int .i64 h1, .int .i64 h2, .int .i64 f, .int .i64 l, .int .i64 0, .int .i64 0, .int .i64 0, .int .u64 0, .int .i64 0, .int .i64 0, .int .i64 0, .int .i64 0, .int .i64 0, .int .i64 0, .int .i64 0, .int .i64 0, .int .i64 0, .int .i64 0, .int .i64 0, .int .i64 0, .int .i64 0, .int .i64 0, .int .i64 0, .int .i64 0, .bool true, .bool true, .int .i64 0, .int .i64 g, .slice none 0 0, .slice none 0 0] := by
  go_enter Yba.func9, Yba.ntmps9
  go_wp2_with fail
  go_region_held3 (fun w' => (∀ o, w'.cell? ⟨w.heap.size, o, none⟩ = [.bool true, .int .i64 f, .int .i64 l, .int .i64 g, .int .i64 s0, .int .i64 s1, .int .i64 s2, .int .i64 l0, .int .i64 l1, .int .i64 l2, .int .i64 h0, .int .i64 h1, .int .i64 h2][o]?) ∧ Below w.heap.size w w' ∧ w.heap.size < w'.heap.size) (first | exact keepH_new [.bool true, .int .i64 f, .int .i64 l, .int .i64 g, .int .i64 s0, .int .i64 s1, .int .i64 s2, .int .i64 l0, .int .i64 l1, .int .i64 l2, .int .i64 h0, .int .i64 h1, .int .i64 h2] _ | exact keepH (by assumption) (by assumption) | exact keepH_alloc _ (by assumption)) (first | (go_at_call 10; refine (cres_any _ _ _ _).mono ?_; rintro e w1 ⟨rfl, hb⟩))
  go_wp2
  go_ret
  exact finH (by assumption)
end Go.Proofs.Ybulkbulm.Pu
