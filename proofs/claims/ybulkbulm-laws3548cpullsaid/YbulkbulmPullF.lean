import Derived.Test.YbulkbulmPullE
namespace Go.Proofs.Ybulkbulm.Pu
open Go.RowKit
attribute [local go_sem ↓] Go.wp_at_zero Go.wp_at_succ

/-- The zero value of a moment. -/
def Z44 : Array Value := [.int .i64 0, .pointer none, .pointer none, .int .i64 0, .int .i64 0, .int .i64 0, .int .i64 0, .int .i64 0, .int .i64 0, .int .i64 0, .int .i64 0, .int .i64 0, .int .i64 0, .int .i64 0, .int .i64 0, .int .i64 0, .int .i64 0, .int .i64 0, .int .i64 0, .int .i64 0, .int .u64 0, .int .i64 0, .int .i64 0, .int .i64 0, .int .i64 0, .int .i64 0, .int .i64 0, .int .i64 0, .int .i64 0, .int .i64 0, .int .i64 0, .int .i64 0, .int .i64 0, .int .i64 0, .int .i64 0, .int .i64 0, .int .i64 0, .bool false, .bool false, .int .i64 0, .int .i64 0, .slice none 0 0, .slice none 0 0].toArray
theorem z44_run (w : World) : (zeroValue 44).run Yba.prog w = .ok (.agg Z44) w := by kernel_rfl
theorem z44_size : Z44.size = 43 := by kernel_rfl
theorem z44_ne : ¬ Z44 = #[] := fun h => by have := congrArg Array.size h; rw [z44_size] at this; cases this

/-- The literal of the law's moment, laid by its twelve parts. -/
def mk44 (v0 v1 v2 v3 v4 v5 v6 v7 v8 v9 v10 v11 : Value) : Array Value := ((((((((((((((((((Z44.setIfInBounds 0 v0).setIfInBounds 1 v1).setIfInBounds 2 v2).setIfInBounds 3 (v3.cells.getD 0 undef)).setIfInBounds 4 (v3.cells.getD 1 undef)).setIfInBounds 5 (v3.cells.getD 2 undef)).setIfInBounds 39 v4).setIfInBounds 40 v5).setIfInBounds 17 (v6.cells.getD 0 undef)).setIfInBounds 18 (v6.cells.getD 1 undef)).setIfInBounds 19 (v6.cells.getD 2 undef)).setIfInBounds 21 v7).setIfInBounds 22 (v8.cells.getD 0 undef)).setIfInBounds 23 (v8.cells.getD 1 undef)).setIfInBounds 24 (v8.cells.getD 2 undef)).setIfInBounds 20 v9).setIfInBounds 37 v10).setIfInBounds 38 v11)
def B44 (v0 v1 v2 v3 v4 v5 v6 v7 v8 v9 v10 v11 : Value) : Sem Next := do pure (.value (← Instr.build 44 #[(0, v0), (1, v1), (2, v2), (3, v3), (16, v4), (17, v5), (9, v6), (11, v7), (12, v8), (10, v9), (14, v10), (15, v11)]))
theorem execOp_44 (ρ : Operand → Value) (x0 x1 x2 x3 x4 x5 x6 x7 x8 x9 x10 x11 : Operand) (d : Option Tmp) (T : TypeId) (pos : String) (af : Array Edge) (gd : Option (Nat × Bool)) :
    execOp ρ (Oper.mk d (Op.build 44 #[(0, x0), (1, x1), (2, x2), (3, x3), (16, x4), (17, x5), (9, x6), (11, x7), (12, x8), (10, x9), (14, x10), (15, x11)]) T pos af gd) = B44 (ρ x0) (ρ x1) (ρ x2) (ρ x3) (ρ x4) (ρ x5) (ρ x6) (ρ x7) (ρ x8) (ρ x9) (ρ x10) (ρ x11) := by kernel_rfl
theorem run_B44 (at' r0 r1 r2 gains stale : Int) (pl pr : Option Addr) (w : World) : (B44 (.int .i64 at') (.pointer pl) (.pointer pr) (.agg #[.int .i64 r0, .int .i64 r1, .int .i64 r2]) (.int .i64 gains) (.int .i64 stale) (.agg #[.int .i64 r0, .int .i64 r1, .int .i64 r2]) (.int .i64 7) (.agg #[.int .i64 r0, .int .i64 r1, .int .i64 r2]) (.int .u64 5) (.bool true) (.bool true)).run Yba.prog w = .ok (.value (.agg (mk44 (.int .i64 at') (.pointer pl) (.pointer pr) (.agg #[.int .i64 r0, .int .i64 r1, .int .i64 r2]) (.int .i64 gains) (.int .i64 stale) (.agg #[.int .i64 r0, .int .i64 r1, .int .i64 r2]) (.int .i64 7) (.agg #[.int .i64 r0, .int .i64 r1, .int .i64 r2]) (.int .u64 5) (.bool true) (.bool true)))) w := by kernel_rfl
attribute [local go_sem ↓] execOp_44
attribute [local go_sem] run_B44

/-- What lies there while the law runs: r, left, right boxed; the two halves; nothing old has turned. -/
structure LawS (w : World) (hL hR : Bool) (pl pr : Option Addr) (R L Rr Lm Rm : List Value) (wx : World) : Prop where
  r : Blk wx w.heap.size 32 R
  l : Blk wx (w.heap.size + 1) 34 L
  rr : Blk wx (w.heap.size + 1 + 1) 34 Rr
  hl : HalfAt wx hL pl Lm
  hr : HalfAt wx hR pr Rm
  bel : Below w.heap.size w wx

section
variable {w : World} {hL hR : Bool} {pl pr : Option Addr} {R L Rr Lm Rm : List Value} {wx w1 : World}
theorem LawS.below (h : LawS w hL hR pl pr R L Rr Lm Rm wx) (hb : Below wx.heap.size wx w1) : LawS w hL hR pl pr R L Rr Lm Rm w1 :=
  ⟨h.r.below hb h.r.lt, h.l.below hb h.l.lt, h.rr.below hb h.rr.lt, h.hl.below hb (Nat.le_refl _), h.hr.below hb (Nat.le_refl _), h.bel.trans (hb.mono h.bel.size)⟩
theorem LawS.drew (h : LawS w hL hR pl pr R L Rr Lm Rm wx) : LawS w hL hR pl pr R L Rr Lm Rm wx.drew := h.below (Below.refl _ _).drew

/-- The three boxes alone: what region 1's loads read. -/
theorem keep1 (h : (∀ o, wx.cell? ⟨w.heap.size + 1, o, none⟩ = L[o]?) ∧ (∀ o, wx.cell? ⟨w.heap.size + 1 + 1, o, none⟩ = Rr[o]?) ∧ Blk wx w.heap.size 32 R ∧ Blk wx (w.heap.size + 1) 34 L ∧ Blk wx (w.heap.size + 1 + 1) 34 Rr ∧ Below w.heap.size w wx) (hb : Below wx.heap.size wx w1) :
    (∀ o, w1.cell? ⟨w.heap.size + 1, o, none⟩ = L[o]?) ∧ (∀ o, w1.cell? ⟨w.heap.size + 1 + 1, o, none⟩ = Rr[o]?) ∧ Blk w1 w.heap.size 32 R ∧ Blk w1 (w.heap.size + 1) 34 L ∧ Blk w1 (w.heap.size + 1 + 1) 34 Rr ∧ Below w.heap.size w w1 :=
  ⟨(h.2.2.2.1.below hb h.2.2.2.1.lt).cell, (h.2.2.2.2.1.below hb h.2.2.2.2.1.lt).cell, h.2.2.1.below hb h.2.2.1.lt, h.2.2.2.1.below hb h.2.2.2.1.lt, h.2.2.2.2.1.below hb h.2.2.2.2.1.lt, h.2.2.2.2.2.trans (hb.mono h.2.2.2.2.2.size)⟩
theorem keep1_new (R L Rr : List Value) :
    (∀ o, (((w.alloc (.cells R.toArray 32)).alloc (.cells L.toArray 34)).alloc (.cells Rr.toArray 34)).drew.cell? ⟨w.heap.size + 1, o, none⟩ = L[o]?) ∧ (∀ o, (((w.alloc (.cells R.toArray 32)).alloc (.cells L.toArray 34)).alloc (.cells Rr.toArray 34)).drew.cell? ⟨w.heap.size + 1 + 1, o, none⟩ = Rr[o]?) ∧
    Blk (((w.alloc (.cells R.toArray 32)).alloc (.cells L.toArray 34)).alloc (.cells Rr.toArray 34)).drew w.heap.size 32 R ∧ Blk (((w.alloc (.cells R.toArray 32)).alloc (.cells L.toArray 34)).alloc (.cells Rr.toArray 34)).drew (w.heap.size + 1) 34 L ∧
    Blk (((w.alloc (.cells R.toArray 32)).alloc (.cells L.toArray 34)).alloc (.cells Rr.toArray 34)).drew (w.heap.size + 1 + 1) 34 Rr ∧ Below w.heap.size w (((w.alloc (.cells R.toArray 32)).alloc (.cells L.toArray 34)).alloc (.cells Rr.toArray 34)).drew := by
  have b0 := Blk.new w 32 R
  have b1 := Blk.new (w.alloc (.cells R.toArray 32)) 34 L
  have b2 := Blk.new ((w.alloc (.cells R.toArray 32)).alloc (.cells L.toArray 34)) 34 Rr
  have z1 : (w.alloc (.cells R.toArray 32)).heap.size = w.heap.size + 1 := by simp
  have z2 : ((w.alloc (.cells R.toArray 32)).alloc (.cells L.toArray 34)).heap.size = w.heap.size + 1 + 1 := by simp
  rw [z1] at b1
  rw [z2] at b2
  refine ⟨((b1.alloc _).drew).cell, b2.drew.cell, ((b0.alloc _).alloc _).drew, (b1.alloc _).drew, b2.drew, ?_⟩
  exact ((((Below.refl _ _).alloc (Nat.le_refl _) _).alloc (by rw [z1]; omega) _).alloc (by rw [z2]; omega) _).drew
theorem fin1 {w2 : World} (hh1 : HalfAt w1 hL pl Lm) (hb2 : Below w1.heap.size w1 w2) (hh2 : HalfAt w2 hR pr Rm)
    (h : (∀ o, w2.cell? ⟨w.heap.size + 1, o, none⟩ = L[o]?) ∧ (∀ o, w2.cell? ⟨w.heap.size + 1 + 1, o, none⟩ = Rr[o]?) ∧ Blk w2 w.heap.size 32 R ∧ Blk w2 (w.heap.size + 1) 34 L ∧ Blk w2 (w.heap.size + 1 + 1) 34 Rr ∧ Below w.heap.size w w2) :
    LawS w hL hR pl pr R L Rr Lm Rm w2 := ⟨h.2.2.1, h.2.2.2.1, h.2.2.2.2.1, hh1.below hb2 (Nat.le_refl _), hh2, h.2.2.2.2.2⟩

/-- Region 2: the loads read r. -/
theorem keep2 (h : (∀ o, wx.cell? ⟨w.heap.size, o, none⟩ = R[o]?) ∧ LawS w hL hR pl pr R L Rr Lm Rm wx) (hb : Below wx.heap.size wx w1) : (∀ o, w1.cell? ⟨w.heap.size, o, none⟩ = R[o]?) ∧ LawS w hL hR pl pr R L Rr Lm Rm w1 :=
  ⟨(h.2.below hb).r.cell, h.2.below hb⟩
theorem fin2 {M : List Value} {C : Array Value} (hC : C = M.toArray) (h : (∀ o, (wx.alloc (.cells C 44)).cell? ⟨w.heap.size, o, none⟩ = R[o]?) ∧ LawS w hL hR pl pr R L Rr Lm Rm (wx.alloc (.cells C 44)))
    {wc : World} (hx : LawS w hL hR pl pr R L Rr Lm Rm wc) (hz : wc.heap.size ≤ wx.heap.size) : ∃ x, Value.pointer (some ⟨wx.heap.size, 0, none⟩) = .pointer (some ⟨x, 0, none⟩) ∧ LawS w hL hR pl pr R L Rr Lm Rm (wx.alloc (.cells C 44)) ∧ Blk (wx.alloc (.cells C 44)) x 44 M ∧
      w.heap.size + 1 + 1 < x ∧ pl ≠ some ⟨x, 0, none⟩ ∧ pr ≠ some ⟨x, 0, none⟩ := by
  subst hC
  refine ⟨_, rfl, h.2, Blk.new _ _ _, Nat.lt_of_lt_of_le hx.rr.lt hz, ?_, ?_⟩
  · intro e
    rcases hx.hl with ⟨_, y, hy, hb⟩ | ⟨_, hy⟩
    · rw [hy] at e; simp at e; have := hb.lt; omega
    · rw [hy] at e; cases e
  · intro e
    rcases hx.hr with ⟨_, y, hy, hb⟩ | ⟨_, hy⟩
    · rw [hy] at e; simp at e; have := hb.lt; omega
    · rw [hy] at e; cases e
theorem LawS.but {x : Nat} (h : LawS w hL hR pl pr R L Rr Lm Rm wx) (hb : But x wx w1) (hx : w.heap.size + 1 + 1 < x) (hl : pl ≠ some ⟨x, 0, none⟩) (hr : pr ≠ some ⟨x, 0, none⟩) : LawS w hL hR pl pr R L Rr Lm Rm w1 := by
  have half : ∀ {b : Bool} {p : Option Addr} {C : List Value}, HalfAt wx b p C → p ≠ some ⟨x, 0, none⟩ → HalfAt w1 b p C := by
    intro b p C h hp
    rcases h with ⟨rfl, y, rfl, hy⟩ | h
    · exact .inl ⟨rfl, y, rfl, (hb.block y hy.lt (fun e => hp (by rw [e]))).trans hy⟩
    · exact .inr h
  refine ⟨(hb.block _ h.r.lt (by omega)).trans h.r, (hb.block _ h.l.lt (by omega)).trans h.l, (hb.block _ h.rr.lt (by omega)).trans h.rr, half h.hl hl, half h.hr hr, ?_⟩
  have hs := h.bel.size
  exact h.bel.trans ⟨hb.os, hb.tape, hb.output, hb.size, fun k hk => hb.block k (by omega) (by omega)⟩
theorem half_split {x : Nat} {b : Bool} {p : Option Addr} {C : List Value} (h : HalfAt wx b p C) (hp : p ≠ some ⟨x, 0, none⟩) : ∃ y, (b = true ∧ p = some ⟨y, 0, none⟩ ∧ y ≠ x ∧ Blk wx y 44 C) ∨ (b = false ∧ p = none) := by
  rcases h with ⟨rfl, y, rfl, hy⟩ | h
  · exact ⟨y, .inl ⟨rfl, rfl, fun e => hp (by rw [e]), hy⟩⟩
  · exact ⟨0, .inr h⟩
end

def sel (a b c : Int) (j : Nat) : Int := if j = 0 then a else if j = 1 then b else c
theorem three {j : Nat} (h : j < 3) : j = 0 ∨ j = 1 ∨ j = 2 := by omega
def SF (hL hR : Bool) (ls r rs : Int) : Int := gi hR (ow hL ls r) rs
def LF (hL hR : Bool) (lw ls r rw : Int) : Int := lo2 hR (lo1 hL lw ls r) (ow hL ls r) rw
def HF (hL hR : Bool) (lh ls r rh : Int) : Int := hi2 hR (hi1 hL lh ls r) (ow hL ls r) rh

theorem rows_start (W : World) (f g h : Nat → Int) :
    (((W.alloc (.cells #[.int .i64 0, .int .i64 0, .int .i64 0] 32)).alloc (.cells #[.int .i64 0, .int .i64 0, .int .i64 0] 32)).alloc (.cells #[.int .i64 0, .int .i64 0, .int .i64 0] 32)).rowIs W.heap.size 32 3 (fun j => .int .i64 (if j < 0 then f j else 0)) ∧
    (((W.alloc (.cells #[.int .i64 0, .int .i64 0, .int .i64 0] 32)).alloc (.cells #[.int .i64 0, .int .i64 0, .int .i64 0] 32)).alloc (.cells #[.int .i64 0, .int .i64 0, .int .i64 0] 32)).rowIs (W.heap.size + 1) 32 3 (fun j => .int .i64 (if j < 0 then g j else 0)) ∧
    (((W.alloc (.cells #[.int .i64 0, .int .i64 0, .int .i64 0] 32)).alloc (.cells #[.int .i64 0, .int .i64 0, .int .i64 0] 32)).alloc (.cells #[.int .i64 0, .int .i64 0, .int .i64 0] 32)).rowIs (W.heap.size + 1 + 1) 32 3 (fun j => .int .i64 (if j < 0 then h j else 0)) ∧
    Below W.heap.size W (((W.alloc (.cells #[.int .i64 0, .int .i64 0, .int .i64 0] 32)).alloc (.cells #[.int .i64 0, .int .i64 0, .int .i64 0] 32)).alloc (.cells #[.int .i64 0, .int .i64 0, .int .i64 0] 32)) := by
  have row : ∀ (V : World) (f : Nat → Int), (V.alloc (.cells #[.int .i64 0, .int .i64 0, .int .i64 0] 32)).rowIs V.heap.size 32 3 (fun j => .int .i64 (if j < 0 then f j else 0)) := fun V f => by
    refine World.rowIs_alloc V _ _ _ ?_
    intro i hi
    have h3 : i < 3 := hi
    rcases three h3 with rfl | rfl | rfl <;> simp
  have z1 : (W.alloc (.cells #[.int .i64 0, .int .i64 0, .int .i64 0] 32)).heap.size = W.heap.size + 1 := by simp
  have z2 : ((W.alloc (.cells #[.int .i64 0, .int .i64 0, .int .i64 0] 32)).alloc (.cells #[.int .i64 0, .int .i64 0, .int .i64 0] 32)).heap.size = W.heap.size + 1 + 1 := by simp
  have a := row W f
  have b := row (W.alloc (.cells #[.int .i64 0, .int .i64 0, .int .i64 0] 32)) g
  have c := row ((W.alloc (.cells #[.int .i64 0, .int .i64 0, .int .i64 0] 32)).alloc (.cells #[.int .i64 0, .int .i64 0, .int .i64 0] 32)) h
  rw [z1] at b
  rw [z2] at c
  exact ⟨(a.alloc _).alloc _, b.alloc _, c, (((Below.refl _ _).alloc (Nat.le_refl _) _).alloc (by rw [z1]; omega) _).alloc (by rw [z2]; omega) _⟩

theorem pick3 {j : Nat} (h : j < 3) (a b c : Int) : ([.int .i64 a, .int .i64 b, .int .i64 c] : List Value)[j]? = some (.int .i64 (sel a b c j)) := by
  rcases three h with rfl | rfl | rfl <;> simp [sel]
theorem pickL {j : Nat} (h : j < 3) (b : Bool) (f l g s0 s1 s2 l0 l1 l2 h0 h1 h2 : Int) :
    ([.bool b, .int .i64 f, .int .i64 l, .int .i64 g, .int .i64 s0, .int .i64 s1, .int .i64 s2, .int .i64 l0, .int .i64 l1, .int .i64 l2, .int .i64 h0, .int .i64 h1, .int .i64 h2] : List Value)[4 + j]? = some (.int .i64 (sel s0 s1 s2 j)) ∧ ([.bool b, .int .i64 f, .int .i64 l, .int .i64 g, .int .i64 s0, .int .i64 s1, .int .i64 s2, .int .i64 l0, .int .i64 l1, .int .i64 l2, .int .i64 h0, .int .i64 h1, .int .i64 h2] : List Value)[7 + j]? = some (.int .i64 (sel l0 l1 l2 j)) ∧ ([.bool b, .int .i64 f, .int .i64 l, .int .i64 g, .int .i64 s0, .int .i64 s1, .int .i64 s2, .int .i64 l0, .int .i64 l1, .int .i64 l2, .int .i64 h0, .int .i64 h1, .int .i64 h2] : List Value)[10 + j]? = some (.int .i64 (sel h0 h1 h2 j)) := by
  rcases three h with rfl | rfl | rfl <;> simp [sel]

theorem row_step {W : World} {b n : Nat} {f : Nat → Int} {g : Nat → Value} (h : W.rowIs b 32 3 g) (hg : ∀ j, j ≠ n → g j = .int .i64 (if j < n then f j else 0)) (hv : g n = .int .i64 (f n)) :
    W.rowIs b 32 3 (fun j => .int .i64 (if j < n + 1 then f j else 0)) := by
  refine h.congr ?_
  intro j hj
  by_cases e : j = n
  · subst e; rw [hv]; simp
  · have : j < n + 1 ↔ j < n := by omega
    rw [hg j e]; simp [this]

theorem isSome_setCell (W : World) (a b : Addr) (v : Value) : ((W.setCell a v).cell? b).isSome = (W.cell? b).isSome := by
  simp only [World.cell?, World.setCell, Array.getElem?_modify]
  by_cases hb : a.block = b.block
  · rw [if_pos hb]
    cases W.heap[b.block]? with
    | none => rfl
    | some o =>
      cases o with
      | cells c t f =>
        simp only [Option.map_some]
        by_cases hs : b.spot.isSome = true
        · simp [hs]
        · by_cases ha : a.spot.isSome = true
          · simp [hs, ha]
          · simp only [hs, ha, if_false, Bool.false_eq_true]
            rw [Array.getElem?_setIfInBounds]
            by_cases ho : a.off = b.off
            · rw [if_pos ho]
              by_cases hlt : a.off < c.size
              · have : b.off < c.size := by omega
                simp [hlt, this]
              · have : ¬ b.off < c.size := by omega
                simp [hlt, this]
            · rw [if_neg ho]
      | _ => rfl
  · rw [if_neg hb]
attribute [local go_sem] isSome_setCell

/-- A round's state: three rows, nothing old has turned. -/
structure Rd (w1 : World) (n : Nat) (F G K : Nat → Int) (S L H : Int) (V : World) : Prop where
  s : V.rowIs w1.heap.size 32 3 (fun j => .int .i64 (if j = n then S else if j < n then F j else 0))
  l : V.rowIs (w1.heap.size + 1) 32 3 (fun j => .int .i64 (if j = n then L else if j < n then G j else 0))
  h : V.rowIs (w1.heap.size + 1 + 1) 32 3 (fun j => .int .i64 (if j = n then H else if j < n then K j else 0))
  b : Below w1.heap.size w1 V

section
variable {w1 : World} {n : Nat} {F G K : Nat → Int} {S L H : Int} {V : World}
theorem Rd.start (hs : V.rowIs w1.heap.size 32 3 (fun j => .int .i64 (if j < n then F j else 0))) (hl : V.rowIs (w1.heap.size + 1) 32 3 (fun j => .int .i64 (if j < n then G j else 0)))
    (hh : V.rowIs (w1.heap.size + 1 + 1) 32 3 (fun j => .int .i64 (if j < n then K j else 0))) (hb : Below w1.heap.size w1 V) : Rd w1 n F G K 0 0 0 V := by
  have e : ∀ (f : Nat → Int) (j : Nat), Value.int .i64 (if j < n then f j else 0) = .int .i64 (if j = n then 0 else if j < n then f j else 0) := fun f j => by
    by_cases h : j = n
    · subst h; simp
    · simp [h]
  exact ⟨hs.congr fun j _ => e F j, hl.congr fun j _ => e G j, hh.congr fun j _ => e K j, hb⟩
theorem Rd.drew (h : Rd w1 n F G K S L H V) : Rd w1 n F G K S L H V.drew := ⟨h.s, h.l, h.h, h.b.drew⟩
theorem Rd.setS (h : Rd w1 n F G K S L H V) {X S' : Int} (e : X = S') : Rd w1 n F G K S' L H (V.setCell ⟨w1.heap.size, n, none⟩ (.int .i64 X)) := by
  subst e
  refine ⟨(h.s.set n _).congr ?_, h.l.setOther (by show w1.heap.size + 1 ≠ w1.heap.size; omega) _, h.h.setOther (by show w1.heap.size + 1 + 1 ≠ w1.heap.size; omega) _, h.b.setCell (by show w1.heap.size ≤ w1.heap.size; omega) _⟩
  intro j _
  by_cases hj : j = n <;> simp [hj]
theorem Rd.setL (h : Rd w1 n F G K S L H V) {X L' : Int} (e : X = L') : Rd w1 n F G K S L' H (V.setCell ⟨w1.heap.size + 1, n, none⟩ (.int .i64 X)) := by
  subst e
  refine ⟨h.s.setOther (by show w1.heap.size ≠ w1.heap.size + 1; omega) _, (h.l.set n _).congr ?_, h.h.setOther (by show w1.heap.size + 1 + 1 ≠ w1.heap.size + 1; omega) _, h.b.setCell (by show w1.heap.size ≤ w1.heap.size + 1; omega) _⟩
  intro j _
  by_cases hj : j = n <;> simp [hj]
theorem Rd.setH (h : Rd w1 n F G K S L H V) {X H' : Int} (e : X = H') : Rd w1 n F G K S L H' (V.setCell ⟨w1.heap.size + 1 + 1, n, none⟩ (.int .i64 X)) := by
  subst e
  refine ⟨h.s.setOther (by show w1.heap.size ≠ w1.heap.size + 1 + 1; omega) _, h.l.setOther (by show w1.heap.size + 1 ≠ w1.heap.size + 1 + 1; omega) _, (h.h.set n _).congr ?_, h.b.setCell (by show w1.heap.size ≤ w1.heap.size + 1 + 1; omega) _⟩
  intro j _
  by_cases hj : j = n <;> simp [hj]
theorem Rd.facts (h : Rd w1 n F G K S L H V) (hn : n < 3) :
    V.cell? ⟨w1.heap.size, n, none⟩ = some (.int .i64 S) ∧ V.frozen? ⟨w1.heap.size, n, none⟩ = false ∧ V.cell? ⟨w1.heap.size + 1, n, none⟩ = some (.int .i64 L) ∧ V.frozen? ⟨w1.heap.size + 1, n, none⟩ = false ∧
    V.cell? ⟨w1.heap.size + 1 + 1, n, none⟩ = some (.int .i64 H) ∧ V.frozen? ⟨w1.heap.size + 1 + 1, n, none⟩ = false :=
  ⟨(h.s.cell hn).trans (by simp), h.s.frozen n, (h.l.cell hn).trans (by simp), h.l.frozen n, (h.h.cell hn).trans (by simp), h.h.frozen n⟩
theorem Rd.fin (h : Rd w1 n F G K S L H V) (es : S = F n) (el : L = G n) (eh : H = K n) :
    V.rowIs w1.heap.size 32 3 (fun j => .int .i64 (if j < n + 1 then F j else 0)) ∧ V.rowIs (w1.heap.size + 1) 32 3 (fun j => .int .i64 (if j < n + 1 then G j else 0)) ∧
    V.rowIs (w1.heap.size + 1 + 1) 32 3 (fun j => .int .i64 (if j < n + 1 then K j else 0)) ∧ Below w1.heap.size w1 V := by
  subst es el eh
  have e : ∀ (f : Nat → Int) (j : Nat), Value.int .i64 (if j = n then f n else if j < n then f j else 0) = .int .i64 (if j < n + 1 then f j else 0) := fun f j => by
    by_cases h : j = n
    · subst h; simp
    · have : j < n + 1 ↔ j < n := by omega
      simp [h, this]
  exact ⟨h.s.congr fun j _ => e F j, h.l.congr fun j _ => e G j, h.h.congr fun j _ => e K j, h.b⟩

/-- The cells of the law's own boxes that a round reads. -/
structure Old (w1 : World) (B n : Nat) (hL hR : Bool) (r ls lw lh rs rw rh : Int) : Prop where
  far : B + 1 + 1 < w1.heap.size
  r : w1.cell? ⟨B, n, none⟩ = some (.int .i64 r)
  l0 : w1.cell? ⟨B + 1, 0, none⟩ = some (.bool hL)
  l1 : w1.cell? ⟨B + 1, 4 + n, none⟩ = some (.int .i64 ls)
  l2 : w1.cell? ⟨B + 1, 7 + n, none⟩ = some (.int .i64 lw)
  l3 : w1.cell? ⟨B + 1, 10 + n, none⟩ = some (.int .i64 lh)
  r0 : w1.cell? ⟨B + 1 + 1, 0, none⟩ = some (.bool hR)
  r1 : w1.cell? ⟨B + 1 + 1, 4 + n, none⟩ = some (.int .i64 rs)
  r2 : w1.cell? ⟨B + 1 + 1, 7 + n, none⟩ = some (.int .i64 rw)
  r3 : w1.cell? ⟨B + 1 + 1, 10 + n, none⟩ = some (.int .i64 rh)
theorem Rd.old {B : Nat} {hL hR : Bool} {r ls lw lh rs rw rh : Int} (h : Rd w1 n F G K S L H V) (o : Old w1 B n hL hR r ls lw lh rs rw rh) :
    V.cell? ⟨B, n, none⟩ = some (.int .i64 r) ∧ V.cell? ⟨B + 1, 0, none⟩ = some (.bool hL) ∧ V.cell? ⟨B + 1, 4 + n, none⟩ = some (.int .i64 ls) ∧ V.cell? ⟨B + 1, 7 + n, none⟩ = some (.int .i64 lw) ∧ V.cell? ⟨B + 1, 10 + n, none⟩ = some (.int .i64 lh) ∧
    V.cell? ⟨B + 1 + 1, 0, none⟩ = some (.bool hR) ∧ V.cell? ⟨B + 1 + 1, 4 + n, none⟩ = some (.int .i64 rs) ∧ V.cell? ⟨B + 1 + 1, 7 + n, none⟩ = some (.int .i64 rw) ∧ V.cell? ⟨B + 1 + 1, 10 + n, none⟩ = some (.int .i64 rh) := by
  have f := o.far
  have c : ∀ b o, b < w1.heap.size → V.cell? ⟨b, o, none⟩ = w1.cell? ⟨b, o, none⟩ := fun b o hb => h.b.cell hb
  exact ⟨(c _ _ (by omega)).trans o.r, (c _ _ (by omega)).trans o.l0, (c _ _ (by omega)).trans o.l1, (c _ _ (by omega)).trans o.l2, (c _ _ (by omega)).trans o.l3, (c _ _ (by omega)).trans o.r0, (c _ _ (by omega)).trans o.r1, (c _ _ (by omega)).trans o.r2, (c _ _ (by omega)).trans o.r3⟩
end

/-- The cells of a half as it is handed in. -/
def halfV (b : Bool) (f l g s0 s1 s2 l0 l1 l2 h0 h1 h2 : Int) : List Value := [.bool b, .int .i64 f, .int .i64 l, .int .i64 g, .int .i64 s0, .int .i64 s1, .int .i64 s2, .int .i64 l0, .int .i64 l1, .int .i64 l2, .int .i64 h0, .int .i64 h1, .int .i64 h2]
theorem momOf_0 (at' : Int) (pl pr : Option Addr) (r0 r1 r2 s0 s1 s2 l0 l1 l2 h0 h1 h2 first last gains gin : Int) (k : Bool) : (momOf at' pl pr r0 r1 r2 s0 s1 s2 l0 l1 l2 h0 h1 h2 first last gains gin k)[0]? = some (.int .i64 at') := rfl
theorem momOf_1 (at' : Int) (pl pr : Option Addr) (r0 r1 r2 s0 s1 s2 l0 l1 l2 h0 h1 h2 first last gains gin : Int) (k : Bool) : (momOf at' pl pr r0 r1 r2 s0 s1 s2 l0 l1 l2 h0 h1 h2 first last gains gin k)[1]? = some (.pointer pl) := rfl
theorem momOf_2 (at' : Int) (pl pr : Option Addr) (r0 r1 r2 s0 s1 s2 l0 l1 l2 h0 h1 h2 first last gains gin : Int) (k : Bool) : (momOf at' pl pr r0 r1 r2 s0 s1 s2 l0 l1 l2 h0 h1 h2 first last gains gin k)[2]? = some (.pointer pr) := rfl
theorem momOf_3 (at' : Int) (pl pr : Option Addr) (r0 r1 r2 s0 s1 s2 l0 l1 l2 h0 h1 h2 first last gains gin : Int) (k : Bool) : (momOf at' pl pr r0 r1 r2 s0 s1 s2 l0 l1 l2 h0 h1 h2 first last gains gin k)[3]? = some (.int .i64 r0) := rfl
theorem momOf_4 (at' : Int) (pl pr : Option Addr) (r0 r1 r2 s0 s1 s2 l0 l1 l2 h0 h1 h2 first last gains gin : Int) (k : Bool) : (momOf at' pl pr r0 r1 r2 s0 s1 s2 l0 l1 l2 h0 h1 h2 first last gains gin k)[4]? = some (.int .i64 r1) := rfl
theorem momOf_5 (at' : Int) (pl pr : Option Addr) (r0 r1 r2 s0 s1 s2 l0 l1 l2 h0 h1 h2 first last gains gin : Int) (k : Bool) : (momOf at' pl pr r0 r1 r2 s0 s1 s2 l0 l1 l2 h0 h1 h2 first last gains gin k)[5]? = some (.int .i64 r2) := rfl
theorem momOf_6 (at' : Int) (pl pr : Option Addr) (r0 r1 r2 s0 s1 s2 l0 l1 l2 h0 h1 h2 first last gains gin : Int) (k : Bool) : (momOf at' pl pr r0 r1 r2 s0 s1 s2 l0 l1 l2 h0 h1 h2 first last gains gin k)[6]? = some (.int .i64 s0) := rfl
theorem momOf_7 (at' : Int) (pl pr : Option Addr) (r0 r1 r2 s0 s1 s2 l0 l1 l2 h0 h1 h2 first last gains gin : Int) (k : Bool) : (momOf at' pl pr r0 r1 r2 s0 s1 s2 l0 l1 l2 h0 h1 h2 first last gains gin k)[7]? = some (.int .i64 s1) := rfl
theorem momOf_8 (at' : Int) (pl pr : Option Addr) (r0 r1 r2 s0 s1 s2 l0 l1 l2 h0 h1 h2 first last gains gin : Int) (k : Bool) : (momOf at' pl pr r0 r1 r2 s0 s1 s2 l0 l1 l2 h0 h1 h2 first last gains gin k)[8]? = some (.int .i64 s2) := rfl
theorem momOf_9 (at' : Int) (pl pr : Option Addr) (r0 r1 r2 s0 s1 s2 l0 l1 l2 h0 h1 h2 first last gains gin : Int) (k : Bool) : (momOf at' pl pr r0 r1 r2 s0 s1 s2 l0 l1 l2 h0 h1 h2 first last gains gin k)[9]? = some (.int .i64 l0) := rfl
theorem momOf_10 (at' : Int) (pl pr : Option Addr) (r0 r1 r2 s0 s1 s2 l0 l1 l2 h0 h1 h2 first last gains gin : Int) (k : Bool) : (momOf at' pl pr r0 r1 r2 s0 s1 s2 l0 l1 l2 h0 h1 h2 first last gains gin k)[10]? = some (.int .i64 l1) := rfl
theorem momOf_11 (at' : Int) (pl pr : Option Addr) (r0 r1 r2 s0 s1 s2 l0 l1 l2 h0 h1 h2 first last gains gin : Int) (k : Bool) : (momOf at' pl pr r0 r1 r2 s0 s1 s2 l0 l1 l2 h0 h1 h2 first last gains gin k)[11]? = some (.int .i64 l2) := rfl
theorem momOf_12 (at' : Int) (pl pr : Option Addr) (r0 r1 r2 s0 s1 s2 l0 l1 l2 h0 h1 h2 first last gains gin : Int) (k : Bool) : (momOf at' pl pr r0 r1 r2 s0 s1 s2 l0 l1 l2 h0 h1 h2 first last gains gin k)[12]? = some (.int .i64 h0) := rfl
theorem momOf_13 (at' : Int) (pl pr : Option Addr) (r0 r1 r2 s0 s1 s2 l0 l1 l2 h0 h1 h2 first last gains gin : Int) (k : Bool) : (momOf at' pl pr r0 r1 r2 s0 s1 s2 l0 l1 l2 h0 h1 h2 first last gains gin k)[13]? = some (.int .i64 h1) := rfl
theorem momOf_14 (at' : Int) (pl pr : Option Addr) (r0 r1 r2 s0 s1 s2 l0 l1 l2 h0 h1 h2 first last gains gin : Int) (k : Bool) : (momOf at' pl pr r0 r1 r2 s0 s1 s2 l0 l1 l2 h0 h1 h2 first last gains gin k)[14]? = some (.int .i64 h2) := rfl
theorem momOf_15 (at' : Int) (pl pr : Option Addr) (r0 r1 r2 s0 s1 s2 l0 l1 l2 h0 h1 h2 first last gains gin : Int) (k : Bool) : (momOf at' pl pr r0 r1 r2 s0 s1 s2 l0 l1 l2 h0 h1 h2 first last gains gin k)[15]? = some (.int .i64 first) := rfl
theorem momOf_16 (at' : Int) (pl pr : Option Addr) (r0 r1 r2 s0 s1 s2 l0 l1 l2 h0 h1 h2 first last gains gin : Int) (k : Bool) : (momOf at' pl pr r0 r1 r2 s0 s1 s2 l0 l1 l2 h0 h1 h2 first last gains gin k)[16]? = some (.int .i64 last) := rfl
theorem momOf_17 (at' : Int) (pl pr : Option Addr) (r0 r1 r2 s0 s1 s2 l0 l1 l2 h0 h1 h2 first last gains gin : Int) (k : Bool) : (momOf at' pl pr r0 r1 r2 s0 s1 s2 l0 l1 l2 h0 h1 h2 first last gains gin k)[17]? = some (.int .i64 r0) := rfl
theorem momOf_18 (at' : Int) (pl pr : Option Addr) (r0 r1 r2 s0 s1 s2 l0 l1 l2 h0 h1 h2 first last gains gin : Int) (k : Bool) : (momOf at' pl pr r0 r1 r2 s0 s1 s2 l0 l1 l2 h0 h1 h2 first last gains gin k)[18]? = some (.int .i64 r1) := rfl
theorem momOf_19 (at' : Int) (pl pr : Option Addr) (r0 r1 r2 s0 s1 s2 l0 l1 l2 h0 h1 h2 first last gains gin : Int) (k : Bool) : (momOf at' pl pr r0 r1 r2 s0 s1 s2 l0 l1 l2 h0 h1 h2 first last gains gin k)[19]? = some (.int .i64 r2) := rfl
theorem momOf_20 (at' : Int) (pl pr : Option Addr) (r0 r1 r2 s0 s1 s2 l0 l1 l2 h0 h1 h2 first last gains gin : Int) (k : Bool) : (momOf at' pl pr r0 r1 r2 s0 s1 s2 l0 l1 l2 h0 h1 h2 first last gains gin k)[20]? = some (.int .u64 5) := rfl
theorem momOf_21 (at' : Int) (pl pr : Option Addr) (r0 r1 r2 s0 s1 s2 l0 l1 l2 h0 h1 h2 first last gains gin : Int) (k : Bool) : (momOf at' pl pr r0 r1 r2 s0 s1 s2 l0 l1 l2 h0 h1 h2 first last gains gin k)[21]? = some (.int .i64 7) := rfl
theorem momOf_22 (at' : Int) (pl pr : Option Addr) (r0 r1 r2 s0 s1 s2 l0 l1 l2 h0 h1 h2 first last gains gin : Int) (k : Bool) : (momOf at' pl pr r0 r1 r2 s0 s1 s2 l0 l1 l2 h0 h1 h2 first last gains gin k)[22]? = some (.int .i64 r0) := rfl
theorem momOf_23 (at' : Int) (pl pr : Option Addr) (r0 r1 r2 s0 s1 s2 l0 l1 l2 h0 h1 h2 first last gains gin : Int) (k : Bool) : (momOf at' pl pr r0 r1 r2 s0 s1 s2 l0 l1 l2 h0 h1 h2 first last gains gin k)[23]? = some (.int .i64 r1) := rfl
theorem momOf_24 (at' : Int) (pl pr : Option Addr) (r0 r1 r2 s0 s1 s2 l0 l1 l2 h0 h1 h2 first last gains gin : Int) (k : Bool) : (momOf at' pl pr r0 r1 r2 s0 s1 s2 l0 l1 l2 h0 h1 h2 first last gains gin k)[24]? = some (.int .i64 r2) := rfl
theorem momOf_25 (at' : Int) (pl pr : Option Addr) (r0 r1 r2 s0 s1 s2 l0 l1 l2 h0 h1 h2 first last gains gin : Int) (k : Bool) : (momOf at' pl pr r0 r1 r2 s0 s1 s2 l0 l1 l2 h0 h1 h2 first last gains gin k)[25]? = some (.int .i64 0) := rfl
theorem momOf_26 (at' : Int) (pl pr : Option Addr) (r0 r1 r2 s0 s1 s2 l0 l1 l2 h0 h1 h2 first last gains gin : Int) (k : Bool) : (momOf at' pl pr r0 r1 r2 s0 s1 s2 l0 l1 l2 h0 h1 h2 first last gains gin k)[26]? = some (.int .i64 0) := rfl
theorem momOf_27 (at' : Int) (pl pr : Option Addr) (r0 r1 r2 s0 s1 s2 l0 l1 l2 h0 h1 h2 first last gains gin : Int) (k : Bool) : (momOf at' pl pr r0 r1 r2 s0 s1 s2 l0 l1 l2 h0 h1 h2 first last gains gin k)[27]? = some (.int .i64 0) := rfl
theorem momOf_28 (at' : Int) (pl pr : Option Addr) (r0 r1 r2 s0 s1 s2 l0 l1 l2 h0 h1 h2 first last gains gin : Int) (k : Bool) : (momOf at' pl pr r0 r1 r2 s0 s1 s2 l0 l1 l2 h0 h1 h2 first last gains gin k)[28]? = some (.int .i64 0) := rfl
theorem momOf_29 (at' : Int) (pl pr : Option Addr) (r0 r1 r2 s0 s1 s2 l0 l1 l2 h0 h1 h2 first last gains gin : Int) (k : Bool) : (momOf at' pl pr r0 r1 r2 s0 s1 s2 l0 l1 l2 h0 h1 h2 first last gains gin k)[29]? = some (.int .i64 0) := rfl
theorem momOf_30 (at' : Int) (pl pr : Option Addr) (r0 r1 r2 s0 s1 s2 l0 l1 l2 h0 h1 h2 first last gains gin : Int) (k : Bool) : (momOf at' pl pr r0 r1 r2 s0 s1 s2 l0 l1 l2 h0 h1 h2 first last gains gin k)[30]? = some (.int .i64 0) := rfl
theorem momOf_31 (at' : Int) (pl pr : Option Addr) (r0 r1 r2 s0 s1 s2 l0 l1 l2 h0 h1 h2 first last gains gin : Int) (k : Bool) : (momOf at' pl pr r0 r1 r2 s0 s1 s2 l0 l1 l2 h0 h1 h2 first last gains gin k)[31]? = some (.int .i64 0) := rfl
theorem momOf_32 (at' : Int) (pl pr : Option Addr) (r0 r1 r2 s0 s1 s2 l0 l1 l2 h0 h1 h2 first last gains gin : Int) (k : Bool) : (momOf at' pl pr r0 r1 r2 s0 s1 s2 l0 l1 l2 h0 h1 h2 first last gains gin k)[32]? = some (.int .i64 0) := rfl
theorem momOf_33 (at' : Int) (pl pr : Option Addr) (r0 r1 r2 s0 s1 s2 l0 l1 l2 h0 h1 h2 first last gains gin : Int) (k : Bool) : (momOf at' pl pr r0 r1 r2 s0 s1 s2 l0 l1 l2 h0 h1 h2 first last gains gin k)[33]? = some (.int .i64 0) := rfl
theorem momOf_34 (at' : Int) (pl pr : Option Addr) (r0 r1 r2 s0 s1 s2 l0 l1 l2 h0 h1 h2 first last gains gin : Int) (k : Bool) : (momOf at' pl pr r0 r1 r2 s0 s1 s2 l0 l1 l2 h0 h1 h2 first last gains gin k)[34]? = some (.int .i64 0) := rfl
theorem momOf_35 (at' : Int) (pl pr : Option Addr) (r0 r1 r2 s0 s1 s2 l0 l1 l2 h0 h1 h2 first last gains gin : Int) (k : Bool) : (momOf at' pl pr r0 r1 r2 s0 s1 s2 l0 l1 l2 h0 h1 h2 first last gains gin k)[35]? = some (.int .i64 0) := rfl
theorem momOf_36 (at' : Int) (pl pr : Option Addr) (r0 r1 r2 s0 s1 s2 l0 l1 l2 h0 h1 h2 first last gains gin : Int) (k : Bool) : (momOf at' pl pr r0 r1 r2 s0 s1 s2 l0 l1 l2 h0 h1 h2 first last gains gin k)[36]? = some (.int .i64 0) := rfl
theorem momOf_37 (at' : Int) (pl pr : Option Addr) (r0 r1 r2 s0 s1 s2 l0 l1 l2 h0 h1 h2 first last gains gin : Int) (k : Bool) : (momOf at' pl pr r0 r1 r2 s0 s1 s2 l0 l1 l2 h0 h1 h2 first last gains gin k)[37]? = some (.bool k) := rfl
theorem momOf_38 (at' : Int) (pl pr : Option Addr) (r0 r1 r2 s0 s1 s2 l0 l1 l2 h0 h1 h2 first last gains gin : Int) (k : Bool) : (momOf at' pl pr r0 r1 r2 s0 s1 s2 l0 l1 l2 h0 h1 h2 first last gains gin k)[38]? = some (.bool k) := rfl
theorem momOf_39 (at' : Int) (pl pr : Option Addr) (r0 r1 r2 s0 s1 s2 l0 l1 l2 h0 h1 h2 first last gains gin : Int) (k : Bool) : (momOf at' pl pr r0 r1 r2 s0 s1 s2 l0 l1 l2 h0 h1 h2 first last gains gin k)[39]? = some (.int .i64 gains) := rfl
theorem momOf_40 (at' : Int) (pl pr : Option Addr) (r0 r1 r2 s0 s1 s2 l0 l1 l2 h0 h1 h2 first last gains gin : Int) (k : Bool) : (momOf at' pl pr r0 r1 r2 s0 s1 s2 l0 l1 l2 h0 h1 h2 first last gains gin k)[40]? = some (.int .i64 gin) := rfl
theorem momOf_41 (at' : Int) (pl pr : Option Addr) (r0 r1 r2 s0 s1 s2 l0 l1 l2 h0 h1 h2 first last gains gin : Int) (k : Bool) : (momOf at' pl pr r0 r1 r2 s0 s1 s2 l0 l1 l2 h0 h1 h2 first last gains gin k)[41]? = some (.slice none 0 0) := rfl
theorem momOf_42 (at' : Int) (pl pr : Option Addr) (r0 r1 r2 s0 s1 s2 l0 l1 l2 h0 h1 h2 first last gains gin : Int) (k : Bool) : (momOf at' pl pr r0 r1 r2 s0 s1 s2 l0 l1 l2 h0 h1 h2 first last gains gin k)[42]? = some (.slice none 0 0) := rfl
theorem halfV_0 (b : Bool) (f l g s0 s1 s2 l0 l1 l2 h0 h1 h2 : Int) : (halfV b f l g s0 s1 s2 l0 l1 l2 h0 h1 h2)[0]? = some (.bool b) := rfl
theorem halfV_1 (b : Bool) (f l g s0 s1 s2 l0 l1 l2 h0 h1 h2 : Int) : (halfV b f l g s0 s1 s2 l0 l1 l2 h0 h1 h2)[1]? = some (.int .i64 f) := rfl
theorem halfV_2 (b : Bool) (f l g s0 s1 s2 l0 l1 l2 h0 h1 h2 : Int) : (halfV b f l g s0 s1 s2 l0 l1 l2 h0 h1 h2)[2]? = some (.int .i64 l) := rfl
theorem halfV_3 (b : Bool) (f l g s0 s1 s2 l0 l1 l2 h0 h1 h2 : Int) : (halfV b f l g s0 s1 s2 l0 l1 l2 h0 h1 h2)[3]? = some (.int .i64 g) := rfl
theorem halfV_4 (b : Bool) (f l g s0 s1 s2 l0 l1 l2 h0 h1 h2 : Int) : (halfV b f l g s0 s1 s2 l0 l1 l2 h0 h1 h2)[4]? = some (.int .i64 s0) := rfl
theorem halfV_5 (b : Bool) (f l g s0 s1 s2 l0 l1 l2 h0 h1 h2 : Int) : (halfV b f l g s0 s1 s2 l0 l1 l2 h0 h1 h2)[5]? = some (.int .i64 s1) := rfl
theorem halfV_6 (b : Bool) (f l g s0 s1 s2 l0 l1 l2 h0 h1 h2 : Int) : (halfV b f l g s0 s1 s2 l0 l1 l2 h0 h1 h2)[6]? = some (.int .i64 s2) := rfl
theorem halfV_7 (b : Bool) (f l g s0 s1 s2 l0 l1 l2 h0 h1 h2 : Int) : (halfV b f l g s0 s1 s2 l0 l1 l2 h0 h1 h2)[7]? = some (.int .i64 l0) := rfl
theorem halfV_8 (b : Bool) (f l g s0 s1 s2 l0 l1 l2 h0 h1 h2 : Int) : (halfV b f l g s0 s1 s2 l0 l1 l2 h0 h1 h2)[8]? = some (.int .i64 l1) := rfl
theorem halfV_9 (b : Bool) (f l g s0 s1 s2 l0 l1 l2 h0 h1 h2 : Int) : (halfV b f l g s0 s1 s2 l0 l1 l2 h0 h1 h2)[9]? = some (.int .i64 l2) := rfl
theorem halfV_10 (b : Bool) (f l g s0 s1 s2 l0 l1 l2 h0 h1 h2 : Int) : (halfV b f l g s0 s1 s2 l0 l1 l2 h0 h1 h2)[10]? = some (.int .i64 h0) := rfl
theorem halfV_11 (b : Bool) (f l g s0 s1 s2 l0 l1 l2 h0 h1 h2 : Int) : (halfV b f l g s0 s1 s2 l0 l1 l2 h0 h1 h2)[11]? = some (.int .i64 h1) := rfl
theorem halfV_12 (b : Bool) (f l g s0 s1 s2 l0 l1 l2 h0 h1 h2 : Int) : (halfV b f l g s0 s1 s2 l0 l1 l2 h0 h1 h2)[12]? = some (.int .i64 h2) := rfl
attribute [local go_sem] momOf_0 momOf_1 momOf_2 momOf_3 momOf_4 momOf_5 momOf_6 momOf_7 momOf_8 momOf_9 momOf_10 momOf_11 momOf_12 momOf_13 momOf_14 momOf_15 momOf_16 momOf_17 momOf_18 momOf_19 momOf_20 momOf_21 momOf_22 momOf_23 momOf_24 momOf_25 momOf_26 momOf_27 momOf_28 momOf_29 momOf_30 momOf_31 momOf_32 momOf_33 momOf_34 momOf_35 momOf_36 momOf_37 momOf_38 momOf_39 momOf_40 momOf_41 momOf_42 halfV_0 halfV_1 halfV_2 halfV_3 halfV_4 halfV_5 halfV_6 halfV_7 halfV_8 halfV_9 halfV_10 halfV_11 halfV_12
/-- What lies there as the law comes to its return. -/
structure FinS (w : World) (x bs : Nat) (hL hR : Bool) (pl pr : Option Addr) (M S L H R Lf Rt Lm Rm : List Value) (wx : World) : Prop where
  m : Blk wx x 44 M
  s : Blk wx bs 32 S
  l : Blk wx (bs + 1) 32 L
  h : Blk wx (bs + 1 + 1) 32 H
  law : LawS w hL hR pl pr R Lf Rt Lm Rm wx
section
variable {w : World} {x bs : Nat} {hL hR : Bool} {pl pr : Option Addr} {M S L H R Lf Rt Lm Rm : List Value} {wx w1 : World}
theorem FinS.below (h : FinS w x bs hL hR pl pr M S L H R Lf Rt Lm Rm wx) (hb : Below wx.heap.size wx w1) : FinS w x bs hL hR pl pr M S L H R Lf Rt Lm Rm w1 :=
  ⟨h.m.below hb h.m.lt, h.s.below hb h.s.lt, h.l.below hb h.l.lt, h.h.below hb h.h.lt, h.law.below hb⟩
theorem FinS.all (h : FinS w x bs hL hR pl pr M S L H R Lf Rt Lm Rm wx) : (∀ o, wx.cell? ⟨x, o, none⟩ = M[o]?) ∧ (∀ o, wx.cell? ⟨bs, o, none⟩ = S[o]?) ∧ (∀ o, wx.cell? ⟨bs + 1, o, none⟩ = L[o]?) ∧ (∀ o, wx.cell? ⟨bs + 1 + 1, o, none⟩ = H[o]?) ∧ (∀ o, wx.cell? ⟨w.heap.size, o, none⟩ = R[o]?) ∧ (∀ o, wx.cell? ⟨w.heap.size + 1, o, none⟩ = Lf[o]?) ∧ (∀ o, wx.cell? ⟨w.heap.size + 1 + 1, o, none⟩ = Rt[o]?) ∧ FinS w x bs hL hR pl pr M S L H R Lf Rt Lm Rm wx :=
  ⟨h.m.cell, h.s.cell, h.l.cell, h.h.cell, h.law.r.cell, h.law.l.cell, h.law.rr.cell, h⟩
theorem keepF (h : (∀ o, wx.cell? ⟨x, o, none⟩ = M[o]?) ∧ (∀ o, wx.cell? ⟨bs, o, none⟩ = S[o]?) ∧ (∀ o, wx.cell? ⟨bs + 1, o, none⟩ = L[o]?) ∧ (∀ o, wx.cell? ⟨bs + 1 + 1, o, none⟩ = H[o]?) ∧ (∀ o, wx.cell? ⟨w.heap.size, o, none⟩ = R[o]?) ∧ (∀ o, wx.cell? ⟨w.heap.size + 1, o, none⟩ = Lf[o]?) ∧ (∀ o, wx.cell? ⟨w.heap.size + 1 + 1, o, none⟩ = Rt[o]?) ∧ FinS w x bs hL hR pl pr M S L H R Lf Rt Lm Rm wx) (hb : Below wx.heap.size wx w1) : (∀ o, w1.cell? ⟨x, o, none⟩ = M[o]?) ∧ (∀ o, w1.cell? ⟨bs, o, none⟩ = S[o]?) ∧ (∀ o, w1.cell? ⟨bs + 1, o, none⟩ = L[o]?) ∧ (∀ o, w1.cell? ⟨bs + 1 + 1, o, none⟩ = H[o]?) ∧ (∀ o, w1.cell? ⟨w.heap.size, o, none⟩ = R[o]?) ∧ (∀ o, w1.cell? ⟨w.heap.size + 1, o, none⟩ = Lf[o]?) ∧ (∀ o, w1.cell? ⟨w.heap.size + 1 + 1, o, none⟩ = Rt[o]?) ∧ FinS w x bs hL hR pl pr M S L H R Lf Rt Lm Rm w1 := (h.2.2.2.2.2.2.2.below hb).all
theorem finF (h : (∀ o, wx.cell? ⟨x, o, none⟩ = M[o]?) ∧ (∀ o, wx.cell? ⟨bs, o, none⟩ = S[o]?) ∧ (∀ o, wx.cell? ⟨bs + 1, o, none⟩ = L[o]?) ∧ (∀ o, wx.cell? ⟨bs + 1 + 1, o, none⟩ = H[o]?) ∧ (∀ o, wx.cell? ⟨w.heap.size, o, none⟩ = R[o]?) ∧ (∀ o, wx.cell? ⟨w.heap.size + 1, o, none⟩ = Lf[o]?) ∧ (∀ o, wx.cell? ⟨w.heap.size + 1 + 1, o, none⟩ = Rt[o]?) ∧ FinS w x bs hL hR pl pr M S L H R Lf Rt Lm Rm wx) : Below w.heap.size w wx := h.2.2.2.2.2.2.2.law.bel
theorem heldL {f l g s0 s1 s2 l0 l1 l2 h0 h1 h2 : Int} (h : (∀ o, wx.cell? ⟨x, o, none⟩ = M[o]?) ∧ (∀ o, wx.cell? ⟨bs, o, none⟩ = S[o]?) ∧ (∀ o, wx.cell? ⟨bs + 1, o, none⟩ = L[o]?) ∧ (∀ o, wx.cell? ⟨bs + 1 + 1, o, none⟩ = H[o]?) ∧ (∀ o, wx.cell? ⟨w.heap.size, o, none⟩ = R[o]?) ∧ (∀ o, wx.cell? ⟨w.heap.size + 1, o, none⟩ = Lf[o]?) ∧ (∀ o, wx.cell? ⟨w.heap.size + 1 + 1, o, none⟩ = Rt[o]?) ∧ FinS w x bs hL hR pl pr M S L H R Lf Rt (halfMom f l g s0 s1 s2 l0 l1 l2 h0 h1 h2) Rm wx) : HalfAt wx hL pl (halfMom f l g s0 s1 s2 l0 l1 l2 h0 h1 h2) := h.2.2.2.2.2.2.2.law.hl
theorem heldR {f l g s0 s1 s2 l0 l1 l2 h0 h1 h2 : Int} (h : (∀ o, wx.cell? ⟨x, o, none⟩ = M[o]?) ∧ (∀ o, wx.cell? ⟨bs, o, none⟩ = S[o]?) ∧ (∀ o, wx.cell? ⟨bs + 1, o, none⟩ = L[o]?) ∧ (∀ o, wx.cell? ⟨bs + 1 + 1, o, none⟩ = H[o]?) ∧ (∀ o, wx.cell? ⟨w.heap.size, o, none⟩ = R[o]?) ∧ (∀ o, wx.cell? ⟨w.heap.size + 1, o, none⟩ = Lf[o]?) ∧ (∀ o, wx.cell? ⟨w.heap.size + 1 + 1, o, none⟩ = Rt[o]?) ∧ FinS w x bs hL hR pl pr M S L H R Lf Rt Lm (halfMom f l g s0 s1 s2 l0 l1 l2 h0 h1 h2) wx) : HalfAt wx hR pr (halfMom f l g s0 s1 s2 l0 l1 l2 h0 h1 h2) := h.2.2.2.2.2.2.2.law.hr
theorem Blk.of_row {b : Nat} {t : TypeId} {f : Nat → Value} (h : wx.rowIs b t 3 f) : Blk wx b t [f 0, f 1, f 2] := by
  obtain ⟨c, hb, hz, hc⟩ := h
  have e : c = #[f 0, f 1, f 2] := by
    apply Array.ext
    · simp [hz]
    · intro i h1 h2
      have h3 : i < 3 := by omega
      have e := hc i h3
      rw [Array.getElem?_eq_getElem h1] at e
      injection e with e
      rw [e]
      rcases three h3 with rfl | rfl | rfl <;> rfl
  show wx.heap[b]? = _
  rw [hb, e]
theorem LawS.wide (h : LawS w hL hR pl pr R Lf Rt Lm Rm wx) (hb : Below wx.heap.size wx w1) : LawS w hL hR pl pr R Lf Rt Lm Rm w1 := h.below hb
end

set_option maxHeartbeats 400000000 in
set_option maxRecDepth 100000 in
theorem law_walk (at' r0 r1 r2 gains stale : Int) (hL hR : Bool) (lf ll lg ls0 ls1 ls2 lw0 lw1 lw2 lh0 lh1 lh2 rf rl rg rs0 rs1 rs2 rw0 rw1 rw2 rh0 rh1 rh2 : Int) (w : World) :
    Calls Yba.prog 5 #[.int .i64 at', .agg #[.int .i64 r0, .int .i64 r1, .int .i64 r2], .int .i64 gains, .int .i64 stale, .agg #[.bool hL, .int .i64 lf, .int .i64 ll, .int .i64 lg, .int .i64 ls0, .int .i64 ls1, .int .i64 ls2, .int .i64 lw0, .int .i64 lw1, .int .i64 lw2, .int .i64 lh0, .int .i64 lh1, .int .i64 lh2], .agg #[.bool hR, .int .i64 rf, .int .i64 rl, .int .i64 rg, .int .i64 rs0, .int .i64 rs1, .int .i64 rs2, .int .i64 rw0, .int .i64 rw1, .int .i64 rw2, .int .i64 rh0, .int .i64 rh1, .int .i64 rh2]] w
      fun e w' => e = .returned (.bool true) ∧ Below w.heap.size w w' := by
  go_enter Yba.func5, Yba.ntmps5
  go_upto_region 1 with fail
  go_cut [13, 14] (fun s13 s14 wx => ∃ pl pr, s13 = .pointer pl ∧ s14 = .pointer pr ∧ LawS w hL hR pl pr [.int .i64 r0, .int .i64 r1, .int .i64 r2] [.bool hL, .int .i64 lf, .int .i64 ll, .int .i64 lg, .int .i64 ls0, .int .i64 ls1, .int .i64 ls2, .int .i64 lw0, .int .i64 lw1, .int .i64 lw2, .int .i64 lh0, .int .i64 lh1, .int .i64 lh2] [.bool hR, .int .i64 rf, .int .i64 rl, .int .i64 rg, .int .i64 rs0, .int .i64 rs1, .int .i64 rs2, .int .i64 rw0, .int .i64 rw1, .int .i64 rw2, .int .i64 rh0, .int .i64 rh1, .int .i64 rh2] (halfMom lf ll lg ls0 ls1 ls2 lw0 lw1 lw2 lh0 lh1 lh2) (halfMom rf rl rg rs0 rs1 rs2 rw0 rw1 rw2 rh0 rh1 rh2) wx)
  case first =>
    go_region_held3 (fun w' => (∀ o, w'.cell? ⟨w.heap.size + 1, o, none⟩ = [.bool hL, .int .i64 lf, .int .i64 ll, .int .i64 lg, .int .i64 ls0, .int .i64 ls1, .int .i64 ls2, .int .i64 lw0, .int .i64 lw1, .int .i64 lw2, .int .i64 lh0, .int .i64 lh1, .int .i64 lh2][o]?) ∧ (∀ o, w'.cell? ⟨w.heap.size + 1 + 1, o, none⟩ = [.bool hR, .int .i64 rf, .int .i64 rl, .int .i64 rg, .int .i64 rs0, .int .i64 rs1, .int .i64 rs2, .int .i64 rw0, .int .i64 rw1, .int .i64 rw2, .int .i64 rh0, .int .i64 rh1, .int .i64 rh2][o]?) ∧ Blk w' w.heap.size 32 [.int .i64 r0, .int .i64 r1, .int .i64 r2] ∧ Blk w' (w.heap.size + 1) 34 [.bool hL, .int .i64 lf, .int .i64 ll, .int .i64 lg, .int .i64 ls0, .int .i64 ls1, .int .i64 ls2, .int .i64 lw0, .int .i64 lw1, .int .i64 lw2, .int .i64 lh0, .int .i64 lh1, .int .i64 lh2] ∧ Blk w' (w.heap.size + 1 + 1) 34 [.bool hR, .int .i64 rf, .int .i64 rl, .int .i64 rg, .int .i64 rs0, .int .i64 rs1, .int .i64 rs2, .int .i64 rw0, .int .i64 rw1, .int .i64 rw2, .int .i64 rh0, .int .i64 rh1, .int .i64 rh2] ∧ Below w.heap.size w w')
      (first | exact keep1_new [.int .i64 r0, .int .i64 r1, .int .i64 r2] [.bool hL, .int .i64 lf, .int .i64 ll, .int .i64 lg, .int .i64 ls0, .int .i64 ls1, .int .i64 ls2, .int .i64 lw0, .int .i64 lw1, .int .i64 lw2, .int .i64 lh0, .int .i64 lh1, .int .i64 lh2] [.bool hR, .int .i64 rf, .int .i64 rl, .int .i64 rg, .int .i64 rs0, .int .i64 rs1, .int .i64 rs2, .int .i64 rw0, .int .i64 rw1, .int .i64 rw2, .int .i64 rh0, .int .i64 rh1, .int .i64 rh2] | exact keep1 (by assumption) (by assumption))
      (first | (go_at_call_of 9 (Value.int IntKind.i64 lf); refine (chalf_any _ _ _ _ _ _ _ _ _ _ _ _ _ _).mono ?_; rintro e w1 ⟨pl, rfl, hb1, hh1, _⟩) | (go_at_call_of 9 (Value.int IntKind.i64 rf); refine (chalf_any _ _ _ _ _ _ _ _ _ _ _ _ _ _).mono ?_; rintro e w2 ⟨pr, rfl, hb2, hh2, _⟩))
    go_wp2_with fail
    go_meet
    exact ⟨_, _, rfl, rfl, fin1 hh1 hb2 hh2 (by assumption)⟩
  case rest =>
  obtain ⟨pl, pr, rfl, rfl, hst⟩ := hcut
  have hr := hst.r.cell
  go_upto_region 2 with fail
  go_cut [15] (fun s15 wx => ∃ x, s15 = .pointer (some ⟨x, 0, none⟩) ∧ LawS w hL hR pl pr [.int .i64 r0, .int .i64 r1, .int .i64 r2] [.bool hL, .int .i64 lf, .int .i64 ll, .int .i64 lg, .int .i64 ls0, .int .i64 ls1, .int .i64 ls2, .int .i64 lw0, .int .i64 lw1, .int .i64 lw2, .int .i64 lh0, .int .i64 lh1, .int .i64 lh2] [.bool hR, .int .i64 rf, .int .i64 rl, .int .i64 rg, .int .i64 rs0, .int .i64 rs1, .int .i64 rs2, .int .i64 rw0, .int .i64 rw1, .int .i64 rw2, .int .i64 rh0, .int .i64 rh1, .int .i64 rh2] (halfMom lf ll lg ls0 ls1 ls2 lw0 lw1 lw2 lh0 lh1 lh2) (halfMom rf rl rg rs0 rs1 rs2 rw0 rw1 rw2 rh0 rh1 rh2) wx ∧ Blk wx x 44 (momOf at' pl pr r0 r1 r2 0 0 0 0 0 0 0 0 0 0 0 gains stale true) ∧ w.heap.size + 1 + 1 < x ∧ pl ≠ some ⟨x, 0, none⟩ ∧ pr ≠ some ⟨x, 0, none⟩)
  case first =>
    go_region_held3 (fun w' => (∀ o, w'.cell? ⟨w.heap.size, o, none⟩ = [.int .i64 r0, .int .i64 r1, .int .i64 r2][o]?) ∧ LawS w hL hR pl pr [.int .i64 r0, .int .i64 r1, .int .i64 r2] [.bool hL, .int .i64 lf, .int .i64 ll, .int .i64 lg, .int .i64 ls0, .int .i64 ls1, .int .i64 ls2, .int .i64 lw0, .int .i64 lw1, .int .i64 lw2, .int .i64 lh0, .int .i64 lh1, .int .i64 lh2] [.bool hR, .int .i64 rf, .int .i64 rl, .int .i64 rg, .int .i64 rs0, .int .i64 rs1, .int .i64 rs2, .int .i64 rw0, .int .i64 rw1, .int .i64 rw2, .int .i64 rh0, .int .i64 rh1, .int .i64 rh2] (halfMom lf ll lg ls0 ls1 ls2 lw0 lw1 lw2 lh0 lh1 lh2) (halfMom rf rl rg rs0 rs1 rs2 rw0 rw1 rw2 rh0 rh1 rh2) w')
      (first | exact ⟨hst.drew.r.cell, hst.drew⟩ | exact keep2 (by assumption) (by assumption) | exact keep2 (by assumption) ((Below.refl _ _).alloc (Nat.le_refl _) _))
      (first | (go_at_call 10; refine (cres_any _ _ _ _).mono ?_; rintro e w1 ⟨rfl, hb1⟩; dsimp only; have hz : wc.heap.size ≤ w1.heap.size := (by have hq := hb1.size; first | exact hq | omega)))
    go_wp2_with fail
    go_meet
    exact fin2 (by kernel_rfl) (by assumption) hst hz
  case rest =>
  clear hr
  obtain ⟨x, rfl, hst, hx, hxn, hxl, hxr⟩ := hcut
  obtain ⟨xl, hpl⟩ := half_split hst.hl hxl
  obtain ⟨xr, hpr⟩ := half_split hst.hr hxr
  go_wp2_with fail
  refine (pull_any x at' r0 r1 r2 gains stale pl pr xl xr lf ll lg ls0 ls1 ls2 lw0 lw1 lw2 lh0 lh1 lh2 rf rl rg rs0 rs1 rs2 rw0 rw1 rw2 rh0 rh1 rh2 wc hL hR hpl hpr hx).mono ?_
  rintro e w1 ⟨rfl, hx1, hbut⟩
  have hst1 := hst.but hbut hxn hxl hxr
  clear hst hx hbut hpl hpr
  dsimp only
  go_wp2_with fail
  have hfar : w.heap.size + 1 + 1 < w1.heap.size := hst1.rr.lt
  go_loopw [19] (fun k wr => ∃ n : Nat, n ≤ 3 ∧ k = .int .i64 n ∧ wr.rowIs w1.heap.size 32 3 (fun j => .int .i64 (if j < n then SF hL hR (sel ls0 ls1 ls2 j) (sel r0 r1 r2 j) (sel rs0 rs1 rs2 j) else 0)) ∧ wr.rowIs (w1.heap.size + 1) 32 3 (fun j => .int .i64 (if j < n then LF hL hR (sel lw0 lw1 lw2 j) (sel ls0 ls1 ls2 j) (sel r0 r1 r2 j) (sel rw0 rw1 rw2 j) else 0)) ∧ wr.rowIs (w1.heap.size + 1 + 1) 32 3 (fun j => .int .i64 (if j < n then HF hL hR (sel lh0 lh1 lh2 j) (sel ls0 ls1 ls2 j) (sel r0 r1 r2 j) (sel rh0 rh1 rh2 j) else 0)) ∧ Below w1.heap.size w1 wr) (fun k _ => 3 - (intOf k).toNat)
  case atStart => exact ⟨0, by omega, rfl, rows_start _ _ _ _⟩
  case round =>
    obtain ⟨n, hn, rfl, hs, hl, hh, hbel⟩ := hrel
    by_cases hlt : n < 3
    · as_aux_lemma =>
        have HO : Hid (Old w1 w.heap.size n hL hR (sel r0 r1 r2 n) (sel ls0 ls1 ls2 n) (sel lw0 lw1 lw2 n) (sel lh0 lh1 lh2 n) (sel rs0 rs1 rs2 n) (sel rw0 rw1 rw2 n) (sel rh0 rh1 rh2 n)) := by
          have oL := hst1.l.cell
          have oR := hst1.rr.cell
          have p := pickL hlt hL lf ll lg ls0 ls1 ls2 lw0 lw1 lw2 lh0 lh1 lh2
          have q := pickL hlt hR rf rl rg rs0 rs1 rs2 rw0 rw1 rw2 rh0 rh1 rh2
          exact ⟨hfar, (hst1.r.cell n).trans (pick3 hlt _ _ _), oL 0, (oL _).trans p.1, (oL _).trans p.2.1, (oL _).trans p.2.2, oR 0, (oR _).trans q.1, (oR _).trans q.2.1, (oR _).trans q.2.2⟩
        have hrd2 := Rd.start hs hl hh hbel
        clear hs hl hh hbel
        obtain ⟨F, hF⟩ : ∃ F : Nat → Int, F = fun j => SF hL hR (sel ls0 ls1 ls2 j) (sel r0 r1 r2 j) (sel rs0 rs1 rs2 j) := ⟨_, rfl⟩
        obtain ⟨G, hG⟩ : ∃ G : Nat → Int, G = fun j => LF hL hR (sel lw0 lw1 lw2 j) (sel ls0 ls1 ls2 j) (sel r0 r1 r2 j) (sel rw0 rw1 rw2 j) := ⟨_, rfl⟩
        obtain ⟨K, hK⟩ : ∃ K : Nat → Int, K = fun j => HF hL hR (sel lh0 lh1 lh2 j) (sel ls0 ls1 ls2 j) (sel r0 r1 r2 j) (sel rh0 rh1 rh2 j) := ⟨_, rfl⟩
        have hFn : F n = SF hL hR (sel ls0 ls1 ls2 n) (sel r0 r1 r2 n) (sel rs0 rs1 rs2 n) := by rw [hF]
        have hGn : G n = LF hL hR (sel lw0 lw1 lw2 n) (sel ls0 ls1 ls2 n) (sel r0 r1 r2 n) (sel rw0 rw1 rw2 n) := by rw [hG]
        have hKn : K n = HF hL hR (sel lh0 lh1 lh2 n) (sel ls0 ls1 ls2 n) (sel r0 r1 r2 n) (sel rh0 rh1 rh2 n) := by rw [hK]
        have hrd : Rd w1 n F G K 0 0 0 wr := by rw [hF, hG, hK]; exact hrd2
        clear hrd2
        have HH := (show Hid (_ ∧ _ ∧ _) from ⟨hF, hG, hK⟩)
        clear hF hG hK
        generalize sel r0 r1 r2 n = r, sel ls0 ls1 ls2 n = ls, sel lw0 lw1 lw2 n = lw, sel lh0 lh1 lh2 n = lh, sel rs0 rs1 rs2 n = rs, sel rw0 rw1 rw2 n = rw, sel rh0 rh1 rh2 n = rh at HO hFn hGn hKn
        have HV := (show Hid (_ ∧ _ ∧ _) from ⟨hFn, hGn, hKn⟩)
        clear hFn hGn hKn
        obtain ⟨cs, fs, cl, fl, ch, fh⟩ := hrd.facts hlt
        obtain ⟨cR, cL0, cL1, cL2, cL3, cR0, cR1, cR2, cR3⟩ := hrd.old HO.out
        go_upto_if 51 with fail
        go_cut [20] (fun s20 wx => s20 = .int .i64 (ow hL ls r) ∧ Rd w1 n F G K 0 0 0 wx)
        case first =>
          cases hL with
          | true =>
            go_wp2_with fail
            go_region
            all_goals (go_wp2_with fail; go_meet)
            all_goals exact ⟨rfl, hrd.drew⟩
          | false =>
            go_wp2_with fail
            go_meet
            exact ⟨rfl, hrd⟩
        case rest =>
        obtain ⟨rfl, hcut⟩ := hcut
        clear cs fs cl fl ch fh cR cL0 cL1 cL2 cL3 cR0 cR1 cR2 cR3
        have hrd := hcut
        clear hcut
        obtain ⟨cs, fs, cl, fl, ch, fh⟩ := hrd.facts hlt
        obtain ⟨cR, cL0, cL1, cL2, cL3, cR0, cR1, cR2, cR3⟩ := hrd.old HO.out
        go_upto_region 11 with fail
        go_cut [] (fun wx => Rd w1 n F G K 0 (ow hL ls r) (ow hL ls r) wx)
        case first =>
          go_wp2_with fail
          go_meet
          exact (hrd.setL rfl).setH rfl
        case rest =>
        clear cs fs cl fl ch fh cR cL0 cL1 cL2 cL3 cR0 cR1 cR2 cR3
        have hrd := hcut
        clear hcut
        obtain ⟨cs, fs, cl, fl, ch, fh⟩ := hrd.facts hlt
        obtain ⟨cR, cL0, cL1, cL2, cL3, cR0, cR1, cR2, cR3⟩ := hrd.old HO.out
        go_upto_if 67 with fail
        go_cut [] (fun wx => Rd w1 n F G K 0 (lo1 hL lw ls r) (hi1 hL lh ls r) wx)
        case first =>
          cases hL with
          | true =>
            go_upto_region 13 with fail
            go_cut [] (fun wx => Rd w1 n F G K 0 (lo1 true lw ls r) (ow true ls r) wx)
            case first =>
              go_region
              all_goals (go_wp2_with fail; go_meet)
              all_goals exact Rd.drew (hrd.setL (by simp [lo1, ow, Int.min_comm]))
            case rest =>
            clear cs fs cl fl ch fh cR cL0 cL1 cL2 cL3 cR0 cR1 cR2 cR3
            have hrd := hcut
            clear hcut
            obtain ⟨cs, fs, cl, fl, ch, fh⟩ := hrd.facts hlt
            obtain ⟨cR, cL0, cL1, cL2, cL3, cR0, cR1, cR2, cR3⟩ := hrd.old HO.out
            go_upto_region 14 with fail
            go_region
            all_goals (go_wp2_with fail; go_meet)
            all_goals exact Rd.drew (hrd.setH (by simp [hi1, ow, Int.max_comm]))
          | false =>
            go_wp2_with fail
            go_meet
            exact hrd
        case rest =>
        clear cs fs cl fl ch fh cR cL0 cL1 cL2 cL3 cR0 cR1 cR2 cR3
        have hrd := hcut
        clear hcut
        obtain ⟨cs, fs, cl, fl, ch, fh⟩ := hrd.facts hlt
        obtain ⟨cR, cL0, cL1, cL2, cL3, cR0, cR1, cR2, cR3⟩ := hrd.old HO.out
        go_upto_region 15 with fail
        go_cut [] (fun wx => Rd w1 n F G K (ow hL ls r) (lo1 hL lw ls r) (hi1 hL lh ls r) wx)
        case first =>
          go_wp2_with fail
          go_meet
          exact hrd.setS rfl
        case rest =>
        clear cs fs cl fl ch fh cR cL0 cL1 cL2 cL3 cR0 cR1 cR2 cR3
        have hrd := hcut
        clear hcut
        obtain ⟨cs, fs, cl, fl, ch, fh⟩ := hrd.facts hlt
        obtain ⟨cR, cL0, cL1, cL2, cL3, cR0, cR1, cR2, cR3⟩ := hrd.old HO.out
        cases hR with
        | true =>
          go_upto_region 17 with fail
          go_cut [] (fun wx => Rd w1 n F G K (ow hL ls r) (lo2 true (lo1 hL lw ls r) (ow hL ls r) rw) (hi1 hL lh ls r) wx)
          case first =>
            go_region
            all_goals (go_wp2_with fail; go_meet)
            all_goals exact Rd.drew (hrd.setL (by simp [lo2]))
          case rest =>
            clear cs fs cl fl ch fh cR cL0 cL1 cL2 cL3 cR0 cR1 cR2 cR3
            have hrd := hcut
            clear hcut
            obtain ⟨cs, fs, cl, fl, ch, fh⟩ := hrd.facts hlt
            obtain ⟨cR, cL0, cL1, cL2, cL3, cR0, cR1, cR2, cR3⟩ := hrd.old HO.out
            go_upto_region 18 with fail
            go_cut [] (fun wx => Rd w1 n F G K (ow hL ls r) (lo2 true (lo1 hL lw ls r) (ow hL ls r) rw) (hi2 true (hi1 hL lh ls r) (ow hL ls r) rh) wx)
            case first =>
              go_region
              all_goals (go_wp2_with fail; go_meet)
              all_goals exact Rd.drew (hrd.setH (by simp [hi2]))
            case rest =>
            clear cs fs cl fl ch fh cR cL0 cL1 cL2 cL3 cR0 cR1 cR2 cR3
            have hrd := hcut
            clear hcut
            obtain ⟨cs, fs, cl, fl, ch, fh⟩ := hrd.facts hlt
            obtain ⟨cR, cL0, cL1, cL2, cL3, cR0, cR1, cR2, cR3⟩ := hrd.old HO.out
            have HRD := (show Hid _ from hrd)
            clear hrd
            go_wp2_with fail
            go_roundw
            case rel =>
              obtain ⟨hFn, hGn, hKn⟩ := HV.out
              obtain ⟨hF, hG, hK⟩ := HH.out
              have hfin := (HRD.out.setS (X := wrap64 (ow hL ls r + rs)) (S' := gi true (ow hL ls r) rs) rfl).fin (by rw [hFn]; rfl) (by rw [hGn]; rfl) (by rw [hKn]; rfl)
              rw [hF, hG, hK] at hfin
              exact ⟨n + 1, by omega, by go_num, hfin⟩
            case measure => simp [intOf]; omega
        | false =>
          have HRD := (show Hid _ from hrd)
          clear hrd
          go_wp2_with fail
          go_roundw
          case rel =>
            obtain ⟨hFn, hGn, hKn⟩ := HV.out
            obtain ⟨hF, hG, hK⟩ := HH.out
            have hfin := HRD.out.fin (by rw [hFn]; rfl) (by rw [hGn]; rfl) (by rw [hKn]; rfl)
            rw [hF, hG, hK] at hfin
            exact ⟨n + 1, by omega, by go_num, hfin⟩
          case measure => simp [intOf]; omega
    · have hn3 : n = 3 := by omega
      subst hn3
      have hfs : FinS w x w1.heap.size hL hR pl pr (momOf at' pl pr r0 r1 r2 (gi hR (ow hL ls0 r0) rs0) (gi hR (ow hL ls1 r1) rs1) (gi hR (ow hL ls2 r2) rs2) (lo2 hR (lo1 hL lw0 ls0 r0) (ow hL ls0 r0) rw0) (lo2 hR (lo1 hL lw1 ls1 r1) (ow hL ls1 r1) rw1) (lo2 hR (lo1 hL lw2 ls2 r2) (ow hL ls2 r2) rw2) (hi2 hR (hi1 hL lh0 ls0 r0) (ow hL ls0 r0) rh0) (hi2 hR (hi1 hL lh1 ls1 r1) (ow hL ls1 r1) rh1) (hi2 hR (hi1 hL lh2 ls2 r2) (ow hL ls2 r2) rh2) (pick hL lf at') (pick hR rl at') gains (gi hR (gi hL gains lg) rg) false) [.int .i64 (gi hR (ow hL ls0 r0) rs0), .int .i64 (gi hR (ow hL ls1 r1) rs1), .int .i64 (gi hR (ow hL ls2 r2) rs2)] [.int .i64 (lo2 hR (lo1 hL lw0 ls0 r0) (ow hL ls0 r0) rw0), .int .i64 (lo2 hR (lo1 hL lw1 ls1 r1) (ow hL ls1 r1) rw1), .int .i64 (lo2 hR (lo1 hL lw2 ls2 r2) (ow hL ls2 r2) rw2)] [.int .i64 (hi2 hR (hi1 hL lh0 ls0 r0) (ow hL ls0 r0) rh0), .int .i64 (hi2 hR (hi1 hL lh1 ls1 r1) (ow hL ls1 r1) rh1), .int .i64 (hi2 hR (hi1 hL lh2 ls2 r2) (ow hL ls2 r2) rh2)] [.int .i64 r0, .int .i64 r1, .int .i64 r2] (halfV hL lf ll lg ls0 ls1 ls2 lw0 lw1 lw2 lh0 lh1 lh2) (halfV hR rf rl rg rs0 rs1 rs2 rw0 rw1 rw2 rh0 rh1 rh2) (halfMom lf ll lg ls0 ls1 ls2 lw0 lw1 lw2 lh0 lh1 lh2) (halfMom rf rl rg rs0 rs1 rs2 rw0 rw1 rw2 rh0 rh1 rh2) wr :=
        ⟨hx1.below hbel hx1.lt, Blk.of_row hs, Blk.of_row hl, Blk.of_row hh, hst1.below hbel⟩
      clear hs hl hh hbel hst1 hx1 hfar
      generalize w1.heap.size = bs at hfs ⊢
      generalize gi hR (ow hL ls0 r0) rs0 = a0 at hfs
      generalize gi hR (ow hL ls1 r1) rs1 = a1 at hfs
      generalize gi hR (ow hL ls2 r2) rs2 = a2 at hfs
      generalize lo2 hR (lo1 hL lw0 ls0 r0) (ow hL ls0 r0) rw0 = b0 at hfs
      generalize lo2 hR (lo1 hL lw1 ls1 r1) (ow hL ls1 r1) rw1 = b1 at hfs
      generalize lo2 hR (lo1 hL lw2 ls2 r2) (ow hL ls2 r2) rw2 = b2 at hfs
      generalize hi2 hR (hi1 hL lh0 ls0 r0) (ow hL ls0 r0) rh0 = c0 at hfs
      generalize hi2 hR (hi1 hL lh1 ls1 r1) (ow hL ls1 r1) rh1 = c1 at hfs
      generalize hi2 hR (hi1 hL lh2 ls2 r2) (ow hL ls2 r2) rh2 = c2 at hfs
      obtain ⟨fi, hfi⟩ : ∃ fi, fi = (pick hL lf at') := ⟨_, rfl⟩
      obtain ⟨la, hla⟩ : ∃ la, la = (pick hR rl at') := ⟨_, rfl⟩
      obtain ⟨gn, hgn⟩ : ∃ gn, gn = (gi hR (gi hL gains lg) rg) := ⟨_, rfl⟩
      rw [← hfi, ← hla, ← hgn] at hfs
      have HI := (show Hid (_ ∧ _ ∧ _) from ⟨hfi, hla, hgn⟩)
      clear hfi hla hgn
      have HFS := (show Hid _ from hfs)
      have cL := hfs.law.l.cell
      have cR := hfs.law.rr.cell
      clear hfs
      go_upto_if 129 with fail
      go_cut [21, 23] (fun s21 s23 wx => s21 = .int .i64 (pick hL lf at') ∧ s23 = .int .i64 (gi hL gains lg) ∧ wx = wr)
      case first =>
        as_aux_lemma =>
          cases hL with
          | true =>
            go_wp2_with fail
            go_meet
            exact ⟨rfl, rfl, rfl⟩
          | false =>
            go_wp2_with fail
            go_meet
            exact ⟨rfl, rfl, rfl⟩
      case rest =>
        as_aux_lemma =>
          obtain ⟨rfl, rfl, hw⟩ := hcut
          subst hw
          go_upto_if 137 with fail
          go_cut [22, 23] (fun s22 s23 wx => s22 = .int .i64 (pick hR rl at') ∧ s23 = .int .i64 (gi hR (gi hL gains lg) rg) ∧ wx = wc)
          case first =>
            as_aux_lemma =>
              cases hR with
              | true =>
                go_wp2_with fail
                go_meet
                exact ⟨rfl, rfl, rfl⟩
              | false =>
                go_wp2_with fail
                go_meet
                exact ⟨rfl, rfl, rfl⟩
          case rest =>
            as_aux_lemma =>
              obtain ⟨rfl, rfl, hw⟩ := hcut
              subst hw
              rw [← HI.out.1, ← HI.out.2.1, ← HI.out.2.2]
              clear cL cR HI
              have h32 := eql32
              have hg := guard32
              have hep := eqlPtr
              go_wp2_with fail
              as_aux_lemma =>
                dsimp only [List.append]
                refine wp_region_noPanic ?_
                refine wp_region_held_drew (S := (fun w' => (∀ o, w'.cell? ⟨x, o, none⟩ = (momOf at' pl pr r0 r1 r2 a0 a1 a2 b0 b1 b2 c0 c1 c2 fi la gains gn false)[o]?) ∧ (∀ o, w'.cell? ⟨bs, o, none⟩ = [.int .i64 a0, .int .i64 a1, .int .i64 a2][o]?) ∧ (∀ o, w'.cell? ⟨bs + 1, o, none⟩ = [.int .i64 b0, .int .i64 b1, .int .i64 b2][o]?) ∧ (∀ o, w'.cell? ⟨bs + 1 + 1, o, none⟩ = [.int .i64 c0, .int .i64 c1, .int .i64 c2][o]?) ∧ (∀ o, w'.cell? ⟨w.heap.size, o, none⟩ = [.int .i64 r0, .int .i64 r1, .int .i64 r2][o]?) ∧ (∀ o, w'.cell? ⟨w.heap.size + 1, o, none⟩ = (halfV hL lf ll lg ls0 ls1 ls2 lw0 lw1 lw2 lh0 lh1 lh2)[o]?) ∧ (∀ o, w'.cell? ⟨w.heap.size + 1 + 1, o, none⟩ = (halfV hR rf rl rg rs0 rs1 rs2 rw0 rw1 rw2 rh0 rh1 rh2)[o]?) ∧ FinS w x bs hL hR pl pr (momOf at' pl pr r0 r1 r2 a0 a1 a2 b0 b1 b2 c0 c1 c2 fi la gains gn false) [.int .i64 a0, .int .i64 a1, .int .i64 a2] [.int .i64 b0, .int .i64 b1, .int .i64 b2] [.int .i64 c0, .int .i64 c1, .int .i64 c2] [.int .i64 r0, .int .i64 r1, .int .i64 r2] (halfV hL lf ll lg ls0 ls1 ls2 lw0 lw1 lw2 lh0 lh1 lh2) (halfV hR rf rl rg rs0 rs1 rs2 rw0 rw1 rw2 rh0 rh1 rh2) (halfMom lf ll lg ls0 ls1 ls2 lw0 lw1 lw2 lh0 lh1 lh2) (halfMom rf rl rg rs0 rs1 rs2 rw0 rw1 rw2 rh0 rh1 rh2) w')) (by kernel_rfl) ?_ (fun hHeld => ?_)
                · exact (HFS.out.below (Below.refl _ _).drew).all
                refine wpAnyH_take (i := 0) (v := ?_) (by simp only [List.getElem?_toArray, List.getElem?_cons_zero]; exact rfl) (by as_aux_lemma => kernel_rfl) (by as_aux_lemma => kernel_rfl) (by as_aux_lemma => kernel_rfl) (fun _ _ _ h => h) (Or.inl ⟨by rfl, ?hy⟩) (by assumption) ?_
                case hy => (intro w hSw; (try dsimp only at hSw); go_simp; all_goals (with_reducible rfl))
                try simp only [Act.put, List.setIfInBounds_toArray, List.set_cons_zero, List.set_cons_succ]
                refine wpAnyH_take (i := 1) (v := ?_) (by simp only [List.getElem?_toArray, List.getElem?_cons_succ, List.getElem?_cons_zero]; exact rfl) (by as_aux_lemma => kernel_rfl) (by as_aux_lemma => kernel_rfl) (by as_aux_lemma => kernel_rfl) (fun _ _ _ h => h) (Or.inl ⟨by rfl, ?hy⟩) (by assumption) ?_
                case hy => (intro w hSw; (try dsimp only at hSw); go_simp; all_goals (with_reducible rfl))
                try simp only [Act.put, List.setIfInBounds_toArray, List.set_cons_zero, List.set_cons_succ]
                refine wpAnyH_take (i := 2) (v := ?_) (by simp only [List.getElem?_toArray, List.getElem?_cons_succ, List.getElem?_cons_zero]; exact rfl) (by as_aux_lemma => kernel_rfl) (by as_aux_lemma => kernel_rfl) (by as_aux_lemma => kernel_rfl) (fun _ _ _ h => h) (Or.inl ⟨by rfl, ?hy⟩) (by assumption) ?_
                case hy => (intro w hSw; (try dsimp only at hSw); go_simp; all_goals (with_reducible rfl))
                try simp only [Act.put, List.setIfInBounds_toArray, List.set_cons_zero, List.set_cons_succ]
                refine wpAnyH_take (i := 3) (v := ?_) (by simp only [List.getElem?_toArray, List.getElem?_cons_succ, List.getElem?_cons_zero]; exact rfl) (by as_aux_lemma => kernel_rfl) (by as_aux_lemma => kernel_rfl) (by as_aux_lemma => kernel_rfl) (fun _ _ _ h => h) (Or.inl ⟨by rfl, ?hy⟩) (by assumption) ?_
                case hy => (intro w hSw; (try dsimp only at hSw); go_simp; all_goals (with_reducible rfl))
                try simp only [Act.put, List.setIfInBounds_toArray, List.set_cons_zero, List.set_cons_succ]
                refine wpAnyH_take (i := 5) (v := ?_) (by simp only [List.getElem?_toArray, List.getElem?_cons_succ, List.getElem?_cons_zero]; exact rfl) (by as_aux_lemma => kernel_rfl) (by as_aux_lemma => kernel_rfl) (by as_aux_lemma => kernel_rfl) (fun _ _ _ h => h) (Or.inl ⟨by rfl, ?hy⟩) (by assumption) ?_
                case hy => (intro w hSw; (try dsimp only at hSw); go_simp; all_goals (with_reducible rfl))
                try simp only [Act.put, List.setIfInBounds_toArray, List.set_cons_zero, List.set_cons_succ]
                refine wpAnyH_ready (rs := [4]) (by as_aux_lemma => kernel_rfl) (by simp) ?_
                refine AllReadyH.cons (by simp only [List.getElem?_toArray, List.getElem?_cons_succ, List.getElem?_cons_zero]; exact rfl) (fun K hK => ?_) AllReadyH.nil
                go_simp
                (go_at_call 12; refine (carr_any _ _ _ _).mono ?_; rintro e w1 ⟨rfl, hb1⟩; dsimp only)
                go_wp2_with fail
                refine hK.out _ _ ?_ (fun hHeld2 => ?_)
                · exact keepF (by assumption) (by assumption)
                clear hK K hHeld
                have hHeld := hHeld2
                clear hHeld2
                try simp only [Act.put, List.setIfInBounds_toArray, List.set_cons_zero, List.set_cons_succ]
                refine wpAnyH_take (i := 6) (v := ?_) (by simp only [List.getElem?_toArray, List.getElem?_cons_succ, List.getElem?_cons_zero]; exact rfl) (by as_aux_lemma => kernel_rfl) (by as_aux_lemma => kernel_rfl) (by as_aux_lemma => kernel_rfl) (fun _ _ _ h => h) (Or.inl ⟨by rfl, ?hy⟩) (by assumption) ?_
                case hy => (intro w hSw; (try dsimp only at hSw); go_simp; all_goals (with_reducible rfl))
                try simp only [Act.put, List.setIfInBounds_toArray, List.set_cons_zero, List.set_cons_succ]
                refine wpAnyH_take (i := 7) (v := ?_) (by simp only [List.getElem?_toArray, List.getElem?_cons_succ, List.getElem?_cons_zero]; exact rfl) (by as_aux_lemma => kernel_rfl) (by as_aux_lemma => kernel_rfl) (by as_aux_lemma => kernel_rfl) (fun _ _ _ h => h) (Or.inl ⟨by rfl, ?hy⟩) (by assumption) ?_
                case hy => (intro w hSw; (try dsimp only at hSw); go_simp; all_goals (with_reducible rfl))
                try simp only [Act.put, List.setIfInBounds_toArray, List.set_cons_zero, List.set_cons_succ]
                refine wpAnyH_take (i := 8) (v := ?_) (by simp only [List.getElem?_toArray, List.getElem?_cons_succ, List.getElem?_cons_zero]; exact rfl) (by as_aux_lemma => kernel_rfl) (by as_aux_lemma => kernel_rfl) (by as_aux_lemma => kernel_rfl) (fun _ _ _ h => h) (Or.inl ⟨by rfl, ?hy⟩) (by assumption) ?_
                case hy => (intro w hSw; (try dsimp only at hSw); go_simp; all_goals (with_reducible rfl))
                try simp only [Act.put, List.setIfInBounds_toArray, List.set_cons_zero, List.set_cons_succ]
                refine wpAnyH_take (i := 9) (v := ?_) (by simp only [List.getElem?_toArray, List.getElem?_cons_succ, List.getElem?_cons_zero]; exact rfl) (by as_aux_lemma => kernel_rfl) (by as_aux_lemma => kernel_rfl) (by as_aux_lemma => kernel_rfl) (fun _ _ _ h => h) (Or.inl ⟨by rfl, ?hy⟩) (by assumption) ?_
                case hy => (intro w hSw; (try dsimp only at hSw); go_simp; all_goals (with_reducible rfl))
                try simp only [Act.put, List.setIfInBounds_toArray, List.set_cons_zero, List.set_cons_succ]
                as_aux_lemma =>
                  refine wpAnyH_take (i := 10) (v := ?_) (by simp only [List.getElem?_toArray, List.getElem?_cons_succ, List.getElem?_cons_zero]; exact rfl) (by as_aux_lemma => kernel_rfl) (by as_aux_lemma => kernel_rfl) (by as_aux_lemma => kernel_rfl) (fun _ _ _ h => h) (Or.inl ⟨by rfl, ?hy⟩) (by assumption) ?_
                  case hy => (intro w hSw; (try dsimp only at hSw); go_simp; all_goals (with_reducible rfl))
                  try simp only [Act.put, List.setIfInBounds_toArray, List.set_cons_zero, List.set_cons_succ]
                  refine wpAnyH_take (i := 11) (v := ?_) (by simp only [List.getElem?_toArray, List.getElem?_cons_succ, List.getElem?_cons_zero]; exact rfl) (by as_aux_lemma => kernel_rfl) (by as_aux_lemma => kernel_rfl) (by as_aux_lemma => kernel_rfl) (fun _ _ _ h => h) (Or.inl ⟨by rfl, ?hy⟩) (by assumption) ?_
                  case hy => (intro w hSw; (try dsimp only at hSw); go_simp; all_goals (with_reducible rfl))
                  try simp only [Act.put, List.setIfInBounds_toArray, List.set_cons_zero, List.set_cons_succ]
                  refine wpAnyH_take (i := 13) (v := ?_) (by simp only [List.getElem?_toArray, List.getElem?_cons_succ, List.getElem?_cons_zero]; exact rfl) (by as_aux_lemma => kernel_rfl) (by as_aux_lemma => kernel_rfl) (by as_aux_lemma => kernel_rfl) (fun _ _ _ h => h) (Or.inl ⟨by rfl, ?hy⟩) (by assumption) ?_
                  case hy => (intro w hSw; (try dsimp only at hSw); go_simp; all_goals (with_reducible rfl))
                  try simp only [Act.put, List.setIfInBounds_toArray, List.set_cons_zero, List.set_cons_succ]
                  refine wpAnyH_ready (rs := [12]) (by as_aux_lemma => kernel_rfl) (by simp) ?_
                  refine AllReadyH.cons (by simp only [List.getElem?_toArray, List.getElem?_cons_succ, List.getElem?_cons_zero]; exact rfl) (fun K hK => ?_) AllReadyH.nil
                  go_simp
                  (go_at_call 12; refine (carr_any _ _ _ _).mono ?_; rintro e w1 ⟨rfl, hb1⟩; dsimp only)
                  go_wp2_with fail
                  refine hK.out _ _ ?_ (fun hHeld2 => ?_)
                  · exact keepF (by assumption) (by assumption)
                  clear hK K hHeld
                  have hHeld := hHeld2
                  clear hHeld2
                  try simp only [Act.put, List.setIfInBounds_toArray, List.set_cons_zero, List.set_cons_succ]
                  refine wpAnyH_take (i := 14) (v := ?_) (by simp only [List.getElem?_toArray, List.getElem?_cons_succ, List.getElem?_cons_zero]; exact rfl) (by as_aux_lemma => kernel_rfl) (by as_aux_lemma => kernel_rfl) (by as_aux_lemma => kernel_rfl) (fun _ _ _ h => h) (Or.inl ⟨by rfl, ?hy⟩) (by assumption) ?_
                  case hy => (intro w hSw; (try dsimp only at hSw); go_simp; all_goals (with_reducible rfl))
                  try simp only [Act.put, List.setIfInBounds_toArray, List.set_cons_zero, List.set_cons_succ]
                  refine wpAnyH_take (i := 15) (v := ?_) (by simp only [List.getElem?_toArray, List.getElem?_cons_succ, List.getElem?_cons_zero]; exact rfl) (by as_aux_lemma => kernel_rfl) (by as_aux_lemma => kernel_rfl) (by as_aux_lemma => kernel_rfl) (fun _ _ _ h => h) (Or.inl ⟨by rfl, ?hy⟩) (by assumption) ?_
                  case hy => (intro w hSw; (try dsimp only at hSw); go_simp; all_goals (with_reducible rfl))
                  try simp only [Act.put, List.setIfInBounds_toArray, List.set_cons_zero, List.set_cons_succ]
                  refine wpAnyH_take (i := 16) (v := ?_) (by simp only [List.getElem?_toArray, List.getElem?_cons_succ, List.getElem?_cons_zero]; exact rfl) (by as_aux_lemma => kernel_rfl) (by as_aux_lemma => kernel_rfl) (by as_aux_lemma => kernel_rfl) (fun _ _ _ h => h) (Or.inl ⟨by rfl, ?hy⟩) (by assumption) ?_
                  case hy => (intro w hSw; (try dsimp only at hSw); go_simp; all_goals (with_reducible rfl))
                  try simp only [Act.put, List.setIfInBounds_toArray, List.set_cons_zero, List.set_cons_succ]
                  refine wpAnyH_take (i := 17) (v := ?_) (by simp only [List.getElem?_toArray, List.getElem?_cons_succ, List.getElem?_cons_zero]; exact rfl) (by as_aux_lemma => kernel_rfl) (by as_aux_lemma => kernel_rfl) (by as_aux_lemma => kernel_rfl) (fun _ _ _ h => h) (Or.inl ⟨by rfl, ?hy⟩) (by assumption) ?_
                  case hy => (intro w hSw; (try dsimp only at hSw); go_simp; all_goals (with_reducible rfl))
                  try simp only [Act.put, List.setIfInBounds_toArray, List.set_cons_zero, List.set_cons_succ]
                  refine wpAnyH_take (i := 18) (v := ?_) (by simp only [List.getElem?_toArray, List.getElem?_cons_succ, List.getElem?_cons_zero]; exact rfl) (by as_aux_lemma => kernel_rfl) (by as_aux_lemma => kernel_rfl) (by as_aux_lemma => kernel_rfl) (fun _ _ _ h => h) (Or.inl ⟨by rfl, ?hy⟩) (by assumption) ?_
                  case hy => (intro w hSw; (try dsimp only at hSw); go_simp; all_goals (with_reducible rfl))
                  try simp only [Act.put, List.setIfInBounds_toArray, List.set_cons_zero, List.set_cons_succ]
                  refine wpAnyH_take (i := 19) (v := ?_) (by simp only [List.getElem?_toArray, List.getElem?_cons_succ, List.getElem?_cons_zero]; exact rfl) (by as_aux_lemma => kernel_rfl) (by as_aux_lemma => kernel_rfl) (by as_aux_lemma => kernel_rfl) (fun _ _ _ h => h) (Or.inl ⟨by rfl, ?hy⟩) (by assumption) ?_
                  case hy => (intro w hSw; (try dsimp only at hSw); go_simp; all_goals (with_reducible rfl))
                  try simp only [Act.put, List.setIfInBounds_toArray, List.set_cons_zero, List.set_cons_succ]
                  as_aux_lemma =>
                    refine wpAnyH_take (i := 20) (v := ?_) (by simp only [List.getElem?_toArray, List.getElem?_cons_succ, List.getElem?_cons_zero]; exact rfl) (by as_aux_lemma => kernel_rfl) (by as_aux_lemma => kernel_rfl) (by as_aux_lemma => kernel_rfl) (fun _ _ _ h => h) (Or.inl ⟨by rfl, ?hy⟩) (by assumption) ?_
                    case hy => (intro w hSw; (try dsimp only at hSw); go_simp; all_goals (with_reducible rfl))
                    try simp only [Act.put, List.setIfInBounds_toArray, List.set_cons_zero, List.set_cons_succ]
                    refine wpAnyH_take (i := 22) (v := ?_) (by simp only [List.getElem?_toArray, List.getElem?_cons_succ, List.getElem?_cons_zero]; exact rfl) (by as_aux_lemma => kernel_rfl) (by as_aux_lemma => kernel_rfl) (by as_aux_lemma => kernel_rfl) (fun _ _ _ h => h) (Or.inl ⟨by rfl, ?hy⟩) (by assumption) ?_
                    case hy => (intro w hSw; (try dsimp only at hSw); go_simp; all_goals (with_reducible rfl))
                    try simp only [Act.put, List.setIfInBounds_toArray, List.set_cons_zero, List.set_cons_succ]
                    refine wpAnyH_ready (rs := [21]) (by as_aux_lemma => kernel_rfl) (by simp) ?_
                    refine AllReadyH.cons (by simp only [List.getElem?_toArray, List.getElem?_cons_succ, List.getElem?_cons_zero]; exact rfl) (fun K hK => ?_) AllReadyH.nil
                    go_simp
                    (go_at_call 12; refine (carr_any _ _ _ _).mono ?_; rintro e w1 ⟨rfl, hb1⟩; dsimp only)
                    go_wp2_with fail
                    refine hK.out _ _ ?_ (fun hHeld2 => ?_)
                    · exact keepF (by assumption) (by assumption)
                    clear hK K hHeld
                    have hHeld := hHeld2
                    clear hHeld2
                    try simp only [Act.put, List.setIfInBounds_toArray, List.set_cons_zero, List.set_cons_succ]
                    refine wpAnyH_take (i := 23) (v := ?_) (by simp only [List.getElem?_toArray, List.getElem?_cons_succ, List.getElem?_cons_zero]; exact rfl) (by as_aux_lemma => kernel_rfl) (by as_aux_lemma => kernel_rfl) (by as_aux_lemma => kernel_rfl) (fun _ _ _ h => h) (Or.inl ⟨by rfl, ?hy⟩) (by assumption) ?_
                    case hy => (intro w hSw; (try dsimp only at hSw); go_simp; all_goals (with_reducible rfl))
                    try simp only [Act.put, List.setIfInBounds_toArray, List.set_cons_zero, List.set_cons_succ]
                    refine wpAnyH_take (i := 24) (v := ?_) (by simp only [List.getElem?_toArray, List.getElem?_cons_succ, List.getElem?_cons_zero]; exact rfl) (by as_aux_lemma => kernel_rfl) (by as_aux_lemma => kernel_rfl) (by as_aux_lemma => kernel_rfl) (fun _ _ _ h => h) (Or.inl ⟨by rfl, ?hy⟩) (by assumption) ?_
                    case hy => (intro w hSw; (try dsimp only at hSw); go_simp; all_goals (with_reducible rfl))
                    try simp only [Act.put, List.setIfInBounds_toArray, List.set_cons_zero, List.set_cons_succ]
                    refine wpAnyH_take (i := 25) (v := ?_) (by simp only [List.getElem?_toArray, List.getElem?_cons_succ, List.getElem?_cons_zero]; exact rfl) (by as_aux_lemma => kernel_rfl) (by as_aux_lemma => kernel_rfl) (by as_aux_lemma => kernel_rfl) (fun _ _ _ h => h) (Or.inl ⟨by rfl, ?hy⟩) (by assumption) ?_
                    case hy => (intro w hSw; (try dsimp only at hSw); go_simp; all_goals (with_reducible rfl))
                    try simp only [Act.put, List.setIfInBounds_toArray, List.set_cons_zero, List.set_cons_succ]
                    refine wpAnyH_take (i := 26) (v := ?_) (by simp only [List.getElem?_toArray, List.getElem?_cons_succ, List.getElem?_cons_zero]; exact rfl) (by as_aux_lemma => kernel_rfl) (by as_aux_lemma => kernel_rfl) (by as_aux_lemma => kernel_rfl) (fun _ _ _ h => h) (Or.inl ⟨by rfl, ?hy⟩) (by assumption) ?_
                    case hy => (intro w hSw; (try dsimp only at hSw); go_simp; all_goals (with_reducible rfl))
                    try simp only [Act.put, List.setIfInBounds_toArray, List.set_cons_zero, List.set_cons_succ]
                    refine wpAnyH_take (i := 27) (v := ?_) (by simp only [List.getElem?_toArray, List.getElem?_cons_succ, List.getElem?_cons_zero]; exact rfl) (by as_aux_lemma => kernel_rfl) (by as_aux_lemma => kernel_rfl) (by as_aux_lemma => kernel_rfl) (fun _ _ _ h => h) (Or.inl ⟨by rfl, ?hy⟩) (by assumption) ?_
                    case hy => (intro w hSw; (try dsimp only at hSw); go_simp; all_goals (with_reducible rfl))
                    try simp only [Act.put, List.setIfInBounds_toArray, List.set_cons_zero, List.set_cons_succ]
                    refine wpAnyH_take (i := 28) (v := ?_) (by simp only [List.getElem?_toArray, List.getElem?_cons_succ, List.getElem?_cons_zero]; exact rfl) (by as_aux_lemma => kernel_rfl) (by as_aux_lemma => kernel_rfl) (by as_aux_lemma => kernel_rfl) (fun _ _ _ h => h) (Or.inl ⟨by rfl, ?hy⟩) (by assumption) ?_
                    case hy => (intro w hSw; (try dsimp only at hSw); go_simp; all_goals (with_reducible rfl))
                    try simp only [Act.put, List.setIfInBounds_toArray, List.set_cons_zero, List.set_cons_succ]
                    refine wpAnyH_take (i := 29) (v := ?_) (by simp only [List.getElem?_toArray, List.getElem?_cons_succ, List.getElem?_cons_zero]; exact rfl) (by as_aux_lemma => kernel_rfl) (by as_aux_lemma => kernel_rfl) (by as_aux_lemma => kernel_rfl) (fun _ _ _ h => h) (Or.inl ⟨by rfl, ?hy⟩) (by assumption) ?_
                    case hy => (intro w hSw; (try dsimp only at hSw); go_simp; all_goals (with_reducible rfl))
                    try simp only [Act.put, List.setIfInBounds_toArray, List.set_cons_zero, List.set_cons_succ]
                    as_aux_lemma =>
                      refine wpAnyH_take (i := 30) (v := ?_) (by simp only [List.getElem?_toArray, List.getElem?_cons_succ, List.getElem?_cons_zero]; exact rfl) (by as_aux_lemma => kernel_rfl) (by as_aux_lemma => kernel_rfl) (by as_aux_lemma => kernel_rfl) (fun _ _ _ h => h) (Or.inl ⟨by rfl, ?hy⟩) (by assumption) ?_
                      case hy => (intro w hSw; (try dsimp only at hSw); go_simp; all_goals (with_reducible rfl))
                      try simp only [Act.put, List.setIfInBounds_toArray, List.set_cons_zero, List.set_cons_succ]
                      refine wpAnyH_take (i := 31) (v := ?_) (by simp only [List.getElem?_toArray, List.getElem?_cons_succ, List.getElem?_cons_zero]; exact rfl) (by as_aux_lemma => kernel_rfl) (by as_aux_lemma => kernel_rfl) (by as_aux_lemma => kernel_rfl) (fun _ _ _ h => h) (Or.inl ⟨by rfl, ?hy⟩) (by assumption) ?_
                      case hy => (intro w hSw; (try dsimp only at hSw); go_simp; all_goals (with_reducible rfl))
                      try simp only [Act.put, List.setIfInBounds_toArray, List.set_cons_zero, List.set_cons_succ]
                      refine wpAnyH_take (i := 32) (v := ?_) (by simp only [List.getElem?_toArray, List.getElem?_cons_succ, List.getElem?_cons_zero]; exact rfl) (by as_aux_lemma => kernel_rfl) (by as_aux_lemma => kernel_rfl) (by as_aux_lemma => kernel_rfl) (fun _ _ _ h => h) (Or.inl ⟨by rfl, ?hy⟩) (by assumption) ?_
                      case hy => (intro w hSw; (try dsimp only at hSw); go_simp; all_goals (with_reducible rfl))
                      try simp only [Act.put, List.setIfInBounds_toArray, List.set_cons_zero, List.set_cons_succ]
                      refine wpAnyH_take (i := 33) (v := ?_) (by simp only [List.getElem?_toArray, List.getElem?_cons_succ, List.getElem?_cons_zero]; exact rfl) (by as_aux_lemma => kernel_rfl) (by as_aux_lemma => kernel_rfl) (by as_aux_lemma => kernel_rfl) (fun _ _ _ h => h) (Or.inl ⟨by rfl, ?hy⟩) (by assumption) ?_
                      case hy => (intro w hSw; (try dsimp only at hSw); go_simp; all_goals (with_reducible rfl))
                      try simp only [Act.put, List.setIfInBounds_toArray, List.set_cons_zero, List.set_cons_succ]
                      refine wpAnyH_take (i := 34) (v := ?_) (by simp only [List.getElem?_toArray, List.getElem?_cons_succ, List.getElem?_cons_zero]; exact rfl) (by as_aux_lemma => kernel_rfl) (by as_aux_lemma => kernel_rfl) (by as_aux_lemma => kernel_rfl) (fun _ _ _ h => h) (Or.inl ⟨by rfl, ?hy⟩) (by assumption) ?_
                      case hy => (intro w hSw; (try dsimp only at hSw); go_simp; all_goals (with_reducible rfl))
                      try simp only [Act.put, List.setIfInBounds_toArray, List.set_cons_zero, List.set_cons_succ]
                      refine wpAnyH_take (i := 35) (v := ?_) (by simp only [List.getElem?_toArray, List.getElem?_cons_succ, List.getElem?_cons_zero]; exact rfl) (by as_aux_lemma => kernel_rfl) (by as_aux_lemma => kernel_rfl) (by as_aux_lemma => kernel_rfl) (fun _ _ _ h => h) (Or.inl ⟨by rfl, ?hy⟩) (by assumption) ?_
                      case hy => (intro w hSw; (try dsimp only at hSw); go_simp; all_goals (with_reducible rfl))
                      try simp only [Act.put, List.setIfInBounds_toArray, List.set_cons_zero, List.set_cons_succ]
                      refine wpAnyH_take (i := 36) (v := ?_) (by simp only [List.getElem?_toArray, List.getElem?_cons_succ, List.getElem?_cons_zero]; exact rfl) (by as_aux_lemma => kernel_rfl) (by as_aux_lemma => kernel_rfl) (by as_aux_lemma => kernel_rfl) (fun _ _ _ h => h) (Or.inl ⟨by rfl, ?hy⟩) (by assumption) ?_
                      case hy => (intro w hSw; (try dsimp only at hSw); go_simp; all_goals (with_reducible rfl))
                      try simp only [Act.put, List.setIfInBounds_toArray, List.set_cons_zero, List.set_cons_succ]
                      refine wpAnyH_take (i := 37) (v := ?_) (by simp only [List.getElem?_toArray, List.getElem?_cons_succ, List.getElem?_cons_zero]; exact rfl) (by as_aux_lemma => kernel_rfl) (by as_aux_lemma => kernel_rfl) (by as_aux_lemma => kernel_rfl) (fun _ _ _ h => h) (Or.inl ⟨by rfl, ?hy⟩) (by assumption) ?_
                      case hy => (intro w hSw; (try dsimp only at hSw); go_simp; all_goals (with_reducible rfl))
                      try simp only [Act.put, List.setIfInBounds_toArray, List.set_cons_zero, List.set_cons_succ]
                      refine wpAnyH_take (i := 38) (v := ?_) (by simp only [List.getElem?_toArray, List.getElem?_cons_succ, List.getElem?_cons_zero]; exact rfl) (by as_aux_lemma => kernel_rfl) (by as_aux_lemma => kernel_rfl) (by as_aux_lemma => kernel_rfl) (fun _ _ _ h => h) (Or.inl ⟨by rfl, ?hy⟩) (by assumption) ?_
                      case hy => (intro w hSw; (try dsimp only at hSw); go_simp; all_goals (with_reducible rfl))
                      try simp only [Act.put, List.setIfInBounds_toArray, List.set_cons_zero, List.set_cons_succ]
                      refine wpAnyH_take (i := 39) (v := ?_) (by simp only [List.getElem?_toArray, List.getElem?_cons_succ, List.getElem?_cons_zero]; exact rfl) (by as_aux_lemma => kernel_rfl) (by as_aux_lemma => kernel_rfl) (by as_aux_lemma => kernel_rfl) (fun _ _ _ h => h) (Or.inl ⟨by rfl, ?hy⟩) (by assumption) ?_
                      case hy => (intro w hSw; (try dsimp only at hSw); go_simp; all_goals (with_reducible rfl))
                      try simp only [Act.put, List.setIfInBounds_toArray, List.set_cons_zero, List.set_cons_succ]
                      as_aux_lemma =>
                        refine wpAnyH_take (i := 40) (v := ?_) (by simp only [List.getElem?_toArray, List.getElem?_cons_succ, List.getElem?_cons_zero]; exact rfl) (by as_aux_lemma => kernel_rfl) (by as_aux_lemma => kernel_rfl) (by as_aux_lemma => kernel_rfl) (fun _ _ _ h => h) (Or.inl ⟨by rfl, ?hy⟩) (by assumption) ?_
                        case hy => (intro w hSw; (try dsimp only at hSw); go_simp; all_goals (with_reducible rfl))
                        try simp only [Act.put, List.setIfInBounds_toArray, List.set_cons_zero, List.set_cons_succ]
                        refine wpAnyH_take (i := 41) (v := ?_) (by simp only [List.getElem?_toArray, List.getElem?_cons_succ, List.getElem?_cons_zero]; exact rfl) (by as_aux_lemma => kernel_rfl) (by as_aux_lemma => kernel_rfl) (by as_aux_lemma => kernel_rfl) (fun _ _ _ h => h) (Or.inl ⟨by rfl, ?hy⟩) (by assumption) ?_
                        case hy => (intro w hSw; (try dsimp only at hSw); go_simp; all_goals (with_reducible rfl))
                        try simp only [Act.put, List.setIfInBounds_toArray, List.set_cons_zero, List.set_cons_succ]
                        refine wpAnyH_take (i := 42) (v := ?_) (by simp only [List.getElem?_toArray, List.getElem?_cons_succ, List.getElem?_cons_zero]; exact rfl) (by as_aux_lemma => kernel_rfl) (by as_aux_lemma => kernel_rfl) (by as_aux_lemma => kernel_rfl) (fun _ _ _ h => h) (Or.inl ⟨by rfl, ?hy⟩) (by assumption) ?_
                        case hy => (intro w hSw; (try dsimp only at hSw); go_simp; all_goals (with_reducible rfl))
                        try simp only [Act.put, List.setIfInBounds_toArray, List.set_cons_zero, List.set_cons_succ]
                        refine wpAnyH_take (i := 43) (v := ?_) (by simp only [List.getElem?_toArray, List.getElem?_cons_succ, List.getElem?_cons_zero]; exact rfl) (by as_aux_lemma => kernel_rfl) (by as_aux_lemma => kernel_rfl) (by as_aux_lemma => kernel_rfl) (fun _ _ _ h => h) (Or.inl ⟨by rfl, ?hy⟩) (by assumption) ?_
                        case hy => (intro w hSw; (try dsimp only at hSw); go_simp; all_goals (with_reducible rfl))
                        try simp only [Act.put, List.setIfInBounds_toArray, List.set_cons_zero, List.set_cons_succ]
                        refine wpAnyH_take (i := 44) (v := ?_) (by simp only [List.getElem?_toArray, List.getElem?_cons_succ, List.getElem?_cons_zero]; exact rfl) (by as_aux_lemma => kernel_rfl) (by as_aux_lemma => kernel_rfl) (by as_aux_lemma => kernel_rfl) (fun _ _ _ h => h) (Or.inl ⟨by rfl, ?hy⟩) (by assumption) ?_
                        case hy => (intro w hSw; (try dsimp only at hSw); go_simp; all_goals (with_reducible rfl))
                        try simp only [Act.put, List.setIfInBounds_toArray, List.set_cons_zero, List.set_cons_succ]
                        refine wpAnyH_take (i := 45) (v := ?_) (by simp only [List.getElem?_toArray, List.getElem?_cons_succ, List.getElem?_cons_zero]; exact rfl) (by as_aux_lemma => kernel_rfl) (by as_aux_lemma => kernel_rfl) (by as_aux_lemma => kernel_rfl) (fun _ _ _ h => h) (Or.inl ⟨by rfl, ?hy⟩) (by assumption) ?_
                        case hy => (intro w hSw; (try dsimp only at hSw); go_simp; all_goals (with_reducible rfl))
                        try simp only [Act.put, List.setIfInBounds_toArray, List.set_cons_zero, List.set_cons_succ]
                        refine wpAnyH_take (i := 46) (v := ?_) (by simp only [List.getElem?_toArray, List.getElem?_cons_succ, List.getElem?_cons_zero]; exact rfl) (by as_aux_lemma => kernel_rfl) (by as_aux_lemma => kernel_rfl) (by as_aux_lemma => kernel_rfl) (fun _ _ _ h => h) (Or.inl ⟨by rfl, ?hy⟩) (by assumption) ?_
                        case hy => (intro w hSw; (try dsimp only at hSw); go_simp; all_goals (with_reducible rfl))
                        try simp only [Act.put, List.setIfInBounds_toArray, List.set_cons_zero, List.set_cons_succ]
                        refine wpAnyH_take (i := 47) (v := ?_) (by simp only [List.getElem?_toArray, List.getElem?_cons_succ, List.getElem?_cons_zero]; exact rfl) (by as_aux_lemma => kernel_rfl) (by as_aux_lemma => kernel_rfl) (by as_aux_lemma => kernel_rfl) (fun _ _ _ h => h) (Or.inl ⟨by rfl, ?hy⟩) (by assumption) ?_
                        case hy => (intro w hSw; (try dsimp only at hSw); go_simp; all_goals (with_reducible rfl))
                        try simp only [Act.put, List.setIfInBounds_toArray, List.set_cons_zero, List.set_cons_succ]
                        refine wpAnyH_take (i := 48) (v := ?_) (by simp only [List.getElem?_toArray, List.getElem?_cons_succ, List.getElem?_cons_zero]; exact rfl) (by as_aux_lemma => kernel_rfl) (by as_aux_lemma => kernel_rfl) (by as_aux_lemma => kernel_rfl) (fun _ _ _ h => h) (Or.inl ⟨by rfl, ?hy⟩) (by assumption) ?_
                        case hy => (intro w hSw; (try dsimp only at hSw); go_simp; all_goals (with_reducible rfl))
                        try simp only [Act.put, List.setIfInBounds_toArray, List.set_cons_zero, List.set_cons_succ]
                        refine wpAnyH_take (i := 49) (v := ?_) (by simp only [List.getElem?_toArray, List.getElem?_cons_succ, List.getElem?_cons_zero]; exact rfl) (by as_aux_lemma => kernel_rfl) (by as_aux_lemma => kernel_rfl) (by as_aux_lemma => kernel_rfl) (fun _ _ _ h => h) (Or.inl ⟨by rfl, ?hy⟩) (by assumption) ?_
                        case hy => (intro w hSw; (try dsimp only at hSw); go_simp; all_goals (with_reducible rfl))
                        try simp only [Act.put, List.setIfInBounds_toArray, List.set_cons_zero, List.set_cons_succ]
                        as_aux_lemma =>
                          refine wpAnyH_take (i := 50) (v := ?_) (by simp only [List.getElem?_toArray, List.getElem?_cons_succ, List.getElem?_cons_zero]; exact rfl) (by as_aux_lemma => kernel_rfl) (by as_aux_lemma => kernel_rfl) (by as_aux_lemma => kernel_rfl) (fun _ _ _ h => h) (Or.inl ⟨by rfl, ?hy⟩) (by assumption) ?_
                          case hy => (intro w hSw; (try dsimp only at hSw); go_simp; all_goals (with_reducible rfl))
                          try simp only [Act.put, List.setIfInBounds_toArray, List.set_cons_zero, List.set_cons_succ]
                          refine wpAnyH_take (i := 51) (v := ?_) (by simp only [List.getElem?_toArray, List.getElem?_cons_succ, List.getElem?_cons_zero]; exact rfl) (by as_aux_lemma => kernel_rfl) (by as_aux_lemma => kernel_rfl) (by as_aux_lemma => kernel_rfl) (fun _ _ _ h => h) (Or.inl ⟨by rfl, ?hy⟩) (by assumption) ?_
                          case hy => (intro w hSw; (try dsimp only at hSw); go_simp; all_goals (with_reducible rfl))
                          try simp only [Act.put, List.setIfInBounds_toArray, List.set_cons_zero, List.set_cons_succ]
                          refine wpAnyH_take (i := 52) (v := ?_) (by simp only [List.getElem?_toArray, List.getElem?_cons_succ, List.getElem?_cons_zero]; exact rfl) (by as_aux_lemma => kernel_rfl) (by as_aux_lemma => kernel_rfl) (by as_aux_lemma => kernel_rfl) (fun _ _ _ h => h) (Or.inl ⟨by rfl, ?hy⟩) (by assumption) ?_
                          case hy => (intro w hSw; (try dsimp only at hSw); go_simp; all_goals (with_reducible rfl))
                          try simp only [Act.put, List.setIfInBounds_toArray, List.set_cons_zero, List.set_cons_succ]
                          refine wpAnyH_take (i := 53) (v := ?_) (by simp only [List.getElem?_toArray, List.getElem?_cons_succ, List.getElem?_cons_zero]; exact rfl) (by as_aux_lemma => kernel_rfl) (by as_aux_lemma => kernel_rfl) (by as_aux_lemma => kernel_rfl) (fun _ _ _ h => h) (Or.inl ⟨by rfl, ?hy⟩) (by assumption) ?_
                          case hy => (intro w hSw; (try dsimp only at hSw); go_simp; all_goals (with_reducible rfl))
                          try simp only [Act.put, List.setIfInBounds_toArray, List.set_cons_zero, List.set_cons_succ]
                          refine wpAnyH_take (i := 54) (v := ?_) (by simp only [List.getElem?_toArray, List.getElem?_cons_succ, List.getElem?_cons_zero]; exact rfl) (by as_aux_lemma => kernel_rfl) (by as_aux_lemma => kernel_rfl) (by as_aux_lemma => kernel_rfl) (fun _ _ _ h => h) (Or.inl ⟨by rfl, ?hy⟩) (by assumption) ?_
                          case hy => (intro w hSw; (try dsimp only at hSw); go_simp; all_goals (with_reducible rfl))
                          try simp only [Act.put, List.setIfInBounds_toArray, List.set_cons_zero, List.set_cons_succ]
                          refine wpAnyH_take (i := 55) (v := ?_) (by simp only [List.getElem?_toArray, List.getElem?_cons_succ, List.getElem?_cons_zero]; exact rfl) (by as_aux_lemma => kernel_rfl) (by as_aux_lemma => kernel_rfl) (by as_aux_lemma => kernel_rfl) (fun _ _ _ h => h) (Or.inl ⟨by rfl, ?hy⟩) (by assumption) ?_
                          case hy => (intro w hSw; (try dsimp only at hSw); go_simp; all_goals (with_reducible rfl))
                          try simp only [Act.put, List.setIfInBounds_toArray, List.set_cons_zero, List.set_cons_succ]
                          refine wpAnyH_take (i := 56) (v := ?_) (by simp only [List.getElem?_toArray, List.getElem?_cons_succ, List.getElem?_cons_zero]; exact rfl) (by as_aux_lemma => kernel_rfl) (by as_aux_lemma => kernel_rfl) (by as_aux_lemma => kernel_rfl) (fun _ _ _ h => h) (Or.inl ⟨by rfl, ?hy⟩) (by assumption) ?_
                          case hy => (intro w hSw; (try dsimp only at hSw); go_simp; all_goals (with_reducible rfl))
                          try simp only [Act.put, List.setIfInBounds_toArray, List.set_cons_zero, List.set_cons_succ]
                          refine wpAnyH_take (i := 57) (v := ?_) (by simp only [List.getElem?_toArray, List.getElem?_cons_succ, List.getElem?_cons_zero]; exact rfl) (by as_aux_lemma => kernel_rfl) (by as_aux_lemma => kernel_rfl) (by as_aux_lemma => kernel_rfl) (fun _ _ _ h => h) (Or.inl ⟨by rfl, ?hy⟩) (by assumption) ?_
                          case hy => (intro w hSw; (try dsimp only at hSw); go_simp; all_goals (with_reducible rfl))
                          try simp only [Act.put, List.setIfInBounds_toArray, List.set_cons_zero, List.set_cons_succ]
                          refine wpAnyH_take (i := 58) (v := ?_) (by simp only [List.getElem?_toArray, List.getElem?_cons_succ, List.getElem?_cons_zero]; exact rfl) (by as_aux_lemma => kernel_rfl) (by as_aux_lemma => kernel_rfl) (by as_aux_lemma => kernel_rfl) (fun _ _ _ h => h) (Or.inl ⟨by rfl, ?hy⟩) (by assumption) ?_
                          case hy => (intro w hSw; (try dsimp only at hSw); go_simp; all_goals (with_reducible rfl))
                          try simp only [Act.put, List.setIfInBounds_toArray, List.set_cons_zero, List.set_cons_succ]
                          refine wpAnyH_take (i := 59) (v := ?_) (by simp only [List.getElem?_toArray, List.getElem?_cons_succ, List.getElem?_cons_zero]; exact rfl) (by as_aux_lemma => kernel_rfl) (by as_aux_lemma => kernel_rfl) (by as_aux_lemma => kernel_rfl) (fun _ _ _ h => h) (Or.inl ⟨by rfl, ?hy⟩) (by assumption) ?_
                          case hy => (intro w hSw; (try dsimp only at hSw); go_simp; all_goals (with_reducible rfl))
                          try simp only [Act.put, List.setIfInBounds_toArray, List.set_cons_zero, List.set_cons_succ]
                          as_aux_lemma =>
                            refine wpAnyH_take (i := 60) (v := ?_) (by simp only [List.getElem?_toArray, List.getElem?_cons_succ, List.getElem?_cons_zero]; exact rfl) (by as_aux_lemma => kernel_rfl) (by as_aux_lemma => kernel_rfl) (by as_aux_lemma => kernel_rfl) (fun _ _ _ h => h) (Or.inl ⟨by rfl, ?hy⟩) (by assumption) ?_
                            case hy => (intro w hSw; (try dsimp only at hSw); go_simp; all_goals (with_reducible rfl))
                            try simp only [Act.put, List.setIfInBounds_toArray, List.set_cons_zero, List.set_cons_succ]
                            refine wpAnyH_take (i := 61) (v := ?_) (by simp only [List.getElem?_toArray, List.getElem?_cons_succ, List.getElem?_cons_zero]; exact rfl) (by as_aux_lemma => kernel_rfl) (by as_aux_lemma => kernel_rfl) (by as_aux_lemma => kernel_rfl) (fun _ _ _ h => h) (Or.inl ⟨by rfl, ?hy⟩) (by assumption) ?_
                            case hy => (intro w hSw; (try dsimp only at hSw); go_simp; all_goals (with_reducible rfl))
                            try simp only [Act.put, List.setIfInBounds_toArray, List.set_cons_zero, List.set_cons_succ]
                            refine wpAnyH_take (i := 62) (v := ?_) (by simp only [List.getElem?_toArray, List.getElem?_cons_succ, List.getElem?_cons_zero]; exact rfl) (by as_aux_lemma => kernel_rfl) (by as_aux_lemma => kernel_rfl) (by as_aux_lemma => kernel_rfl) (fun _ _ _ h => h) (Or.inl ⟨by rfl, ?hy⟩) (by assumption) ?_
                            case hy => (intro w hSw; (try dsimp only at hSw); go_simp; all_goals (with_reducible rfl))
                            try simp only [Act.put, List.setIfInBounds_toArray, List.set_cons_zero, List.set_cons_succ]
                            refine wpAnyH_take (i := 63) (v := ?_) (by simp only [List.getElem?_toArray, List.getElem?_cons_succ, List.getElem?_cons_zero]; exact rfl) (by as_aux_lemma => kernel_rfl) (by as_aux_lemma => kernel_rfl) (by as_aux_lemma => kernel_rfl) (fun _ _ _ h => h) (Or.inl ⟨by rfl, ?hy⟩) (by assumption) ?_
                            case hy => (intro w hSw; (try dsimp only at hSw); go_simp; all_goals (with_reducible rfl))
                            try simp only [Act.put, List.setIfInBounds_toArray, List.set_cons_zero, List.set_cons_succ]
                            refine wpAnyH_take (i := 64) (v := ?_) (by simp only [List.getElem?_toArray, List.getElem?_cons_succ, List.getElem?_cons_zero]; exact rfl) (by as_aux_lemma => kernel_rfl) (by as_aux_lemma => kernel_rfl) (by as_aux_lemma => kernel_rfl) (fun _ _ _ h => h) (Or.inl ⟨by rfl, ?hy⟩) (by assumption) ?_
                            case hy => (intro w hSw; (try dsimp only at hSw); go_simp; all_goals (with_reducible rfl))
                            try simp only [Act.put, List.setIfInBounds_toArray, List.set_cons_zero, List.set_cons_succ]
                            refine wpAnyH_take (i := 65) (v := ?_) (by simp only [List.getElem?_toArray, List.getElem?_cons_succ, List.getElem?_cons_zero]; exact rfl) (by as_aux_lemma => kernel_rfl) (by as_aux_lemma => kernel_rfl) (by as_aux_lemma => kernel_rfl) (fun _ _ _ h => h) (Or.inl ⟨by rfl, ?hy⟩) (by assumption) ?_
                            case hy => (intro w hSw; (try dsimp only at hSw); go_simp; all_goals (with_reducible rfl))
                            try simp only [Act.put, List.setIfInBounds_toArray, List.set_cons_zero, List.set_cons_succ]
                            refine wpAnyH_take (i := 66) (v := ?_) (by simp only [List.getElem?_toArray, List.getElem?_cons_succ, List.getElem?_cons_zero]; exact rfl) (by as_aux_lemma => kernel_rfl) (by as_aux_lemma => kernel_rfl) (by as_aux_lemma => kernel_rfl) (fun _ _ _ h => h) (Or.inl ⟨by rfl, ?hy⟩) (by assumption) ?_
                            case hy => (intro w hSw; (try dsimp only at hSw); go_simp; all_goals (with_reducible rfl))
                            try simp only [Act.put, List.setIfInBounds_toArray, List.set_cons_zero, List.set_cons_succ]
                            refine wpAnyH_take (i := 67) (v := ?_) (by simp only [List.getElem?_toArray, List.getElem?_cons_succ, List.getElem?_cons_zero]; exact rfl) (by as_aux_lemma => kernel_rfl) (by as_aux_lemma => kernel_rfl) (by as_aux_lemma => kernel_rfl) (fun _ _ _ h => h) (Or.inl ⟨by rfl, ?hy⟩) (by assumption) ?_
                            case hy => (intro w hSw; (try dsimp only at hSw); go_simp; all_goals (with_reducible rfl))
                            try simp only [Act.put, List.setIfInBounds_toArray, List.set_cons_zero, List.set_cons_succ]
                            refine wpAnyH_take (i := 68) (v := ?_) (by simp only [List.getElem?_toArray, List.getElem?_cons_succ, List.getElem?_cons_zero]; exact rfl) (by as_aux_lemma => kernel_rfl) (by as_aux_lemma => kernel_rfl) (by as_aux_lemma => kernel_rfl) (fun _ _ _ h => h) (Or.inl ⟨by rfl, ?hy⟩) (by assumption) ?_
                            case hy => (intro w hSw; (try dsimp only at hSw); go_simp; all_goals (with_reducible rfl))
                            try simp only [Act.put, List.setIfInBounds_toArray, List.set_cons_zero, List.set_cons_succ]
                            refine wpAnyH_take (i := 69) (v := ?_) (by simp only [List.getElem?_toArray, List.getElem?_cons_succ, List.getElem?_cons_zero]; exact rfl) (by as_aux_lemma => kernel_rfl) (by as_aux_lemma => kernel_rfl) (by as_aux_lemma => kernel_rfl) (fun _ _ _ h => h) (Or.inl ⟨by rfl, ?hy⟩) (by assumption) ?_
                            case hy => (intro w hSw; (try dsimp only at hSw); go_simp; all_goals (with_reducible rfl))
                            try simp only [Act.put, List.setIfInBounds_toArray, List.set_cons_zero, List.set_cons_succ]
                            as_aux_lemma =>
                              refine wpAnyH_take (i := 70) (v := ?_) (by simp only [List.getElem?_toArray, List.getElem?_cons_succ, List.getElem?_cons_zero]; exact rfl) (by as_aux_lemma => kernel_rfl) (by as_aux_lemma => kernel_rfl) (by as_aux_lemma => kernel_rfl) (fun _ _ _ h => h) (Or.inl ⟨by rfl, ?hy⟩) (by assumption) ?_
                              case hy => (intro w hSw; (try dsimp only at hSw); go_simp; all_goals (with_reducible rfl))
                              try simp only [Act.put, List.setIfInBounds_toArray, List.set_cons_zero, List.set_cons_succ]
                              refine wpAnyH_take (i := 71) (v := ?_) (by simp only [List.getElem?_toArray, List.getElem?_cons_succ, List.getElem?_cons_zero]; exact rfl) (by as_aux_lemma => kernel_rfl) (by as_aux_lemma => kernel_rfl) (by as_aux_lemma => kernel_rfl) (fun _ _ _ h => h) (Or.inl ⟨by rfl, ?hy⟩) (by assumption) ?_
                              case hy => (intro w hSw; (try dsimp only at hSw); go_simp; all_goals (with_reducible rfl))
                              try simp only [Act.put, List.setIfInBounds_toArray, List.set_cons_zero, List.set_cons_succ]
                              refine wpAnyH_take (i := 72) (v := ?_) (by simp only [List.getElem?_toArray, List.getElem?_cons_succ, List.getElem?_cons_zero]; exact rfl) (by as_aux_lemma => kernel_rfl) (by as_aux_lemma => kernel_rfl) (by as_aux_lemma => kernel_rfl) (fun _ _ _ h => h) (Or.inl ⟨by rfl, ?hy⟩) (by assumption) ?_
                              case hy => (intro w hSw; (try dsimp only at hSw); go_simp; all_goals (with_reducible rfl))
                              try simp only [Act.put, List.setIfInBounds_toArray, List.set_cons_zero, List.set_cons_succ]
                              refine wpAnyH_take (i := 73) (v := ?_) (by simp only [List.getElem?_toArray, List.getElem?_cons_succ, List.getElem?_cons_zero]; exact rfl) (by as_aux_lemma => kernel_rfl) (by as_aux_lemma => kernel_rfl) (by as_aux_lemma => kernel_rfl) (fun _ _ _ h => h) (Or.inl ⟨by rfl, ?hy⟩) (by assumption) ?_
                              case hy => (intro w hSw; (try dsimp only at hSw); go_simp; all_goals (with_reducible rfl))
                              try simp only [Act.put, List.setIfInBounds_toArray, List.set_cons_zero, List.set_cons_succ]
                              refine wpAnyH_take (i := 74) (v := ?_) (by simp only [List.getElem?_toArray, List.getElem?_cons_succ, List.getElem?_cons_zero]; exact rfl) (by as_aux_lemma => kernel_rfl) (by as_aux_lemma => kernel_rfl) (by as_aux_lemma => kernel_rfl) (fun _ _ _ h => h) (Or.inl ⟨by rfl, ?hy⟩) (by assumption) ?_
                              case hy => (intro w hSw; (try dsimp only at hSw); go_simp; all_goals (with_reducible rfl))
                              try simp only [Act.put, List.setIfInBounds_toArray, List.set_cons_zero, List.set_cons_succ]
                              refine wpAnyH_take (i := 75) (v := ?_) (by simp only [List.getElem?_toArray, List.getElem?_cons_succ, List.getElem?_cons_zero]; exact rfl) (by as_aux_lemma => kernel_rfl) (by as_aux_lemma => kernel_rfl) (by as_aux_lemma => kernel_rfl) (fun _ _ _ h => h) (Or.inl ⟨by rfl, ?hy⟩) (by assumption) ?_
                              case hy => (intro w hSw; (try dsimp only at hSw); go_simp; all_goals (with_reducible rfl))
                              try simp only [Act.put, List.setIfInBounds_toArray, List.set_cons_zero, List.set_cons_succ]
                              refine wpAnyH_take (i := 76) (v := ?_) (by simp only [List.getElem?_toArray, List.getElem?_cons_succ, List.getElem?_cons_zero]; exact rfl) (by as_aux_lemma => kernel_rfl) (by as_aux_lemma => kernel_rfl) (by as_aux_lemma => kernel_rfl) (fun _ _ _ h => h) (Or.inl ⟨by rfl, ?hy⟩) (by assumption) ?_
                              case hy => (intro w hSw; (try dsimp only at hSw); go_simp; all_goals (with_reducible rfl))
                              try simp only [Act.put, List.setIfInBounds_toArray, List.set_cons_zero, List.set_cons_succ]
                              refine wpAnyH_take (i := 77) (v := ?_) (by simp only [List.getElem?_toArray, List.getElem?_cons_succ, List.getElem?_cons_zero]; exact rfl) (by as_aux_lemma => kernel_rfl) (by as_aux_lemma => kernel_rfl) (by as_aux_lemma => kernel_rfl) (fun _ _ _ h => h) (Or.inl ⟨by rfl, ?hy⟩) (by assumption) ?_
                              case hy => (intro w hSw; (try dsimp only at hSw); go_simp; all_goals (with_reducible rfl))
                              try simp only [Act.put, List.setIfInBounds_toArray, List.set_cons_zero, List.set_cons_succ]
                              refine wpAnyH_take (i := 78) (v := ?_) (by simp only [List.getElem?_toArray, List.getElem?_cons_succ, List.getElem?_cons_zero]; exact rfl) (by as_aux_lemma => kernel_rfl) (by as_aux_lemma => kernel_rfl) (by as_aux_lemma => kernel_rfl) (fun _ _ _ h => h) (Or.inl ⟨by rfl, ?hy⟩) (by assumption) ?_
                              case hy => (intro w hSw; (try dsimp only at hSw); go_simp; all_goals (with_reducible rfl))
                              try simp only [Act.put, List.setIfInBounds_toArray, List.set_cons_zero, List.set_cons_succ]
                              refine wpAnyH_take (i := 79) (v := ?_) (by simp only [List.getElem?_toArray, List.getElem?_cons_succ, List.getElem?_cons_zero]; exact rfl) (by as_aux_lemma => kernel_rfl) (by as_aux_lemma => kernel_rfl) (by as_aux_lemma => kernel_rfl) (fun _ _ _ h => h) (Or.inl ⟨by rfl, ?hy⟩) (by assumption) ?_
                              case hy => (intro w hSw; (try dsimp only at hSw); go_simp; all_goals (with_reducible rfl))
                              try simp only [Act.put, List.setIfInBounds_toArray, List.set_cons_zero, List.set_cons_succ]
                              as_aux_lemma =>
                                refine wpAnyH_take (i := 80) (v := ?_) (by simp only [List.getElem?_toArray, List.getElem?_cons_succ, List.getElem?_cons_zero]; exact rfl) (by as_aux_lemma => kernel_rfl) (by as_aux_lemma => kernel_rfl) (by as_aux_lemma => kernel_rfl) (fun _ _ _ h => h) (Or.inl ⟨by rfl, ?hy⟩) (by assumption) ?_
                                case hy => (intro w hSw; (try dsimp only at hSw); go_simp; all_goals (with_reducible rfl))
                                try simp only [Act.put, List.setIfInBounds_toArray, List.set_cons_zero, List.set_cons_succ]
                                refine wpAnyH_take (i := 81) (v := ?_) (by simp only [List.getElem?_toArray, List.getElem?_cons_succ, List.getElem?_cons_zero]; exact rfl) (by as_aux_lemma => kernel_rfl) (by as_aux_lemma => kernel_rfl) (by as_aux_lemma => kernel_rfl) (fun _ _ _ h => h) (Or.inl ⟨by rfl, ?hy⟩) (by assumption) ?_
                                case hy => (intro w hSw; (try dsimp only at hSw); go_simp; all_goals (with_reducible rfl))
                                try simp only [Act.put, List.setIfInBounds_toArray, List.set_cons_zero, List.set_cons_succ]
                                refine wpAnyH_take (i := 82) (v := ?_) (by simp only [List.getElem?_toArray, List.getElem?_cons_succ, List.getElem?_cons_zero]; exact rfl) (by as_aux_lemma => kernel_rfl) (by as_aux_lemma => kernel_rfl) (by as_aux_lemma => kernel_rfl) (fun _ _ _ h => h) (Or.inl ⟨by rfl, ?hy⟩) (by assumption) ?_
                                case hy => (intro w hSw; (try dsimp only at hSw); go_simp; all_goals (with_reducible rfl))
                                try simp only [Act.put, List.setIfInBounds_toArray, List.set_cons_zero, List.set_cons_succ]
                                refine wpAnyH_take (i := 83) (v := ?_) (by simp only [List.getElem?_toArray, List.getElem?_cons_succ, List.getElem?_cons_zero]; exact rfl) (by as_aux_lemma => kernel_rfl) (by as_aux_lemma => kernel_rfl) (by as_aux_lemma => kernel_rfl) (fun _ _ _ h => h) (Or.inl ⟨by rfl, ?hy⟩) (by assumption) ?_
                                case hy => (intro w hSw; (try dsimp only at hSw); go_simp; all_goals (with_reducible rfl))
                                try simp only [Act.put, List.setIfInBounds_toArray, List.set_cons_zero, List.set_cons_succ]
                                refine wpAnyH_take (i := 84) (v := ?_) (by simp only [List.getElem?_toArray, List.getElem?_cons_succ, List.getElem?_cons_zero]; exact rfl) (by as_aux_lemma => kernel_rfl) (by as_aux_lemma => kernel_rfl) (by as_aux_lemma => kernel_rfl) (fun _ _ _ h => h) (Or.inl ⟨by rfl, ?hy⟩) (by assumption) ?_
                                case hy => (intro w hSw; (try dsimp only at hSw); go_simp; all_goals (with_reducible rfl))
                                try simp only [Act.put, List.setIfInBounds_toArray, List.set_cons_zero, List.set_cons_succ]
                                refine wpAnyH_take (i := 85) (v := ?_) (by simp only [List.getElem?_toArray, List.getElem?_cons_succ, List.getElem?_cons_zero]; exact rfl) (by as_aux_lemma => kernel_rfl) (by as_aux_lemma => kernel_rfl) (by as_aux_lemma => kernel_rfl) (fun _ _ _ h => h) (Or.inl ⟨by rfl, ?hy⟩) (by assumption) ?_
                                case hy => (intro w hSw; (try dsimp only at hSw); go_simp; all_goals (with_reducible rfl))
                                try simp only [Act.put, List.setIfInBounds_toArray, List.set_cons_zero, List.set_cons_succ]
                                refine wpAnyH_take (i := 86) (v := ?_) (by simp only [List.getElem?_toArray, List.getElem?_cons_succ, List.getElem?_cons_zero]; exact rfl) (by as_aux_lemma => kernel_rfl) (by as_aux_lemma => kernel_rfl) (by as_aux_lemma => kernel_rfl) (fun _ _ _ h => h) (Or.inl ⟨by rfl, ?hy⟩) (by assumption) ?_
                                case hy => (intro w hSw; (try dsimp only at hSw); go_simp; all_goals (with_reducible rfl))
                                try simp only [Act.put, List.setIfInBounds_toArray, List.set_cons_zero, List.set_cons_succ]
                                refine wpAnyH_take (i := 87) (v := ?_) (by simp only [List.getElem?_toArray, List.getElem?_cons_succ, List.getElem?_cons_zero]; exact rfl) (by as_aux_lemma => kernel_rfl) (by as_aux_lemma => kernel_rfl) (by as_aux_lemma => kernel_rfl) (fun _ _ _ h => h) (Or.inl ⟨by rfl, ?hy⟩) (by assumption) ?_
                                case hy => (intro w hSw; (try dsimp only at hSw); go_simp; all_goals (with_reducible rfl))
                                try simp only [Act.put, List.setIfInBounds_toArray, List.set_cons_zero, List.set_cons_succ]
                                refine wpAnyH_take (i := 88) (v := ?_) (by simp only [List.getElem?_toArray, List.getElem?_cons_succ, List.getElem?_cons_zero]; exact rfl) (by as_aux_lemma => kernel_rfl) (by as_aux_lemma => kernel_rfl) (by as_aux_lemma => kernel_rfl) (fun _ _ _ h => h) (Or.inl ⟨by rfl, ?hy⟩) (by assumption) ?_
                                case hy => (intro w hSw; (try dsimp only at hSw); go_simp; all_goals (with_reducible rfl))
                                try simp only [Act.put, List.setIfInBounds_toArray, List.set_cons_zero, List.set_cons_succ]
                                refine wpAnyH_take (i := 89) (v := ?_) (by simp only [List.getElem?_toArray, List.getElem?_cons_succ, List.getElem?_cons_zero]; exact rfl) (by as_aux_lemma => kernel_rfl) (by as_aux_lemma => kernel_rfl) (by as_aux_lemma => kernel_rfl) (fun _ _ _ h => h) (Or.inl ⟨by rfl, ?hy⟩) (by assumption) ?_
                                case hy => (intro w hSw; (try dsimp only at hSw); go_simp; all_goals (with_reducible rfl))
                                try simp only [Act.put, List.setIfInBounds_toArray, List.set_cons_zero, List.set_cons_succ]
                                as_aux_lemma =>
                                  refine wpAnyH_take (i := 90) (v := ?_) (by simp only [List.getElem?_toArray, List.getElem?_cons_succ, List.getElem?_cons_zero]; exact rfl) (by as_aux_lemma => kernel_rfl) (by as_aux_lemma => kernel_rfl) (by as_aux_lemma => kernel_rfl) (fun _ _ _ h => h) (Or.inl ⟨by rfl, ?hy⟩) (by assumption) ?_
                                  case hy => (intro w hSw; (try dsimp only at hSw); go_simp; all_goals (with_reducible rfl))
                                  try simp only [Act.put, List.setIfInBounds_toArray, List.set_cons_zero, List.set_cons_succ]
                                  refine wpAnyH_take (i := 91) (v := ?_) (by simp only [List.getElem?_toArray, List.getElem?_cons_succ, List.getElem?_cons_zero]; exact rfl) (by as_aux_lemma => kernel_rfl) (by as_aux_lemma => kernel_rfl) (by as_aux_lemma => kernel_rfl) (fun _ _ _ h => h) (Or.inl ⟨by rfl, ?hy⟩) (by assumption) ?_
                                  case hy => (intro w hSw; (try dsimp only at hSw); go_simp; all_goals (with_reducible rfl))
                                  try simp only [Act.put, List.setIfInBounds_toArray, List.set_cons_zero, List.set_cons_succ]
                                  refine wpAnyH_take (i := 93) (v := ?_) (by simp only [List.getElem?_toArray, List.getElem?_cons_succ, List.getElem?_cons_zero]; exact rfl) (by as_aux_lemma => kernel_rfl) (by as_aux_lemma => kernel_rfl) (by as_aux_lemma => kernel_rfl) (fun _ _ _ h => h) (Or.inl ⟨by rfl, ?hy⟩) (by assumption) ?_
                                  case hy => (intro w hSw; (try dsimp only at hSw); go_simp; all_goals (with_reducible rfl))
                                  try simp only [Act.put, List.setIfInBounds_toArray, List.set_cons_zero, List.set_cons_succ]
                                  refine wpAnyH_ready (rs := [92]) (by as_aux_lemma => kernel_rfl) (by simp) ?_
                                  refine AllReadyH.cons (by simp only [List.getElem?_toArray, List.getElem?_cons_succ, List.getElem?_cons_zero]; exact rfl) (fun K hK => ?_) AllReadyH.nil
                                  go_simp
                                  (go_at_call 12; refine (carr_any _ _ _ _).mono ?_; rintro e w1 ⟨rfl, hb1⟩; dsimp only)
                                  go_wp2_with fail
                                  refine hK.out _ _ ?_ (fun hHeld2 => ?_)
                                  · exact keepF (by assumption) (by assumption)
                                  clear hK K hHeld
                                  have hHeld := hHeld2
                                  clear hHeld2
                                  try simp only [Act.put, List.setIfInBounds_toArray, List.set_cons_zero, List.set_cons_succ]
                                  refine wpAnyH_take (i := 94) (v := ?_) (by simp only [List.getElem?_toArray, List.getElem?_cons_succ, List.getElem?_cons_zero]; exact rfl) (by as_aux_lemma => kernel_rfl) (by as_aux_lemma => kernel_rfl) (by as_aux_lemma => kernel_rfl) (fun _ _ _ h => h) (Or.inl ⟨by rfl, ?hy⟩) (by assumption) ?_
                                  case hy => (intro w hSw; (try dsimp only at hSw); go_simp; all_goals (with_reducible rfl))
                                  try simp only [Act.put, List.setIfInBounds_toArray, List.set_cons_zero, List.set_cons_succ]
                                  refine wpAnyH_take (i := 95) (v := ?_) (by simp only [List.getElem?_toArray, List.getElem?_cons_succ, List.getElem?_cons_zero]; exact rfl) (by as_aux_lemma => kernel_rfl) (by as_aux_lemma => kernel_rfl) (by as_aux_lemma => kernel_rfl) (fun _ _ _ h => h) (Or.inl ⟨by rfl, ?hy⟩) (by assumption) ?_
                                  case hy => (intro w hSw; (try dsimp only at hSw); go_simp; all_goals (with_reducible rfl))
                                  try simp only [Act.put, List.setIfInBounds_toArray, List.set_cons_zero, List.set_cons_succ]
                                  refine wpAnyH_take (i := 96) (v := ?_) (by simp only [List.getElem?_toArray, List.getElem?_cons_succ, List.getElem?_cons_zero]; exact rfl) (by as_aux_lemma => kernel_rfl) (by as_aux_lemma => kernel_rfl) (by as_aux_lemma => kernel_rfl) (fun _ _ _ h => h) (Or.inl ⟨by rfl, ?hy⟩) (by assumption) ?_
                                  case hy => (intro w hSw; (try dsimp only at hSw); go_simp; all_goals (with_reducible rfl))
                                  try simp only [Act.put, List.setIfInBounds_toArray, List.set_cons_zero, List.set_cons_succ]
                                  refine wpAnyH_take (i := 97) (v := ?_) (by simp only [List.getElem?_toArray, List.getElem?_cons_succ, List.getElem?_cons_zero]; exact rfl) (by as_aux_lemma => kernel_rfl) (by as_aux_lemma => kernel_rfl) (by as_aux_lemma => kernel_rfl) (fun _ _ _ h => h) (Or.inl ⟨by rfl, ?hy⟩) (by assumption) ?_
                                  case hy => (intro w hSw; (try dsimp only at hSw); go_simp; all_goals (with_reducible rfl))
                                  try simp only [Act.put, List.setIfInBounds_toArray, List.set_cons_zero, List.set_cons_succ]
                                  refine wpAnyH_take (i := 98) (v := ?_) (by simp only [List.getElem?_toArray, List.getElem?_cons_succ, List.getElem?_cons_zero]; exact rfl) (by as_aux_lemma => kernel_rfl) (by as_aux_lemma => kernel_rfl) (by as_aux_lemma => kernel_rfl) (fun _ _ _ h => h) (Or.inl ⟨by rfl, ?hy⟩) (by assumption) ?_
                                  case hy => (intro w hSw; (try dsimp only at hSw); go_simp; all_goals (with_reducible rfl))
                                  try simp only [Act.put, List.setIfInBounds_toArray, List.set_cons_zero, List.set_cons_succ]
                                  refine wpAnyH_take (i := 99) (v := ?_) (by simp only [List.getElem?_toArray, List.getElem?_cons_succ, List.getElem?_cons_zero]; exact rfl) (by as_aux_lemma => kernel_rfl) (by as_aux_lemma => kernel_rfl) (by as_aux_lemma => kernel_rfl) (fun _ _ _ h => h) (Or.inl ⟨by rfl, ?hy⟩) (by assumption) ?_
                                  case hy => (intro w hSw; (try dsimp only at hSw); go_simp; all_goals (with_reducible rfl))
                                  try simp only [Act.put, List.setIfInBounds_toArray, List.set_cons_zero, List.set_cons_succ]
                                  as_aux_lemma =>
                                    refine wpAnyH_take (i := 100) (v := ?_) (by simp only [List.getElem?_toArray, List.getElem?_cons_succ, List.getElem?_cons_zero]; exact rfl) (by as_aux_lemma => kernel_rfl) (by as_aux_lemma => kernel_rfl) (by as_aux_lemma => kernel_rfl) (fun _ _ _ h => h) (Or.inl ⟨by rfl, ?hy⟩) (by assumption) ?_
                                    case hy => (intro w hSw; (try dsimp only at hSw); go_simp; all_goals (with_reducible rfl))
                                    try simp only [Act.put, List.setIfInBounds_toArray, List.set_cons_zero, List.set_cons_succ]
                                    refine wpAnyH_take (i := 101) (v := ?_) (by simp only [List.getElem?_toArray, List.getElem?_cons_succ, List.getElem?_cons_zero]; exact rfl) (by as_aux_lemma => kernel_rfl) (by as_aux_lemma => kernel_rfl) (by as_aux_lemma => kernel_rfl) (fun _ _ _ h => h) (Or.inl ⟨by rfl, ?hy⟩) (by assumption) ?_
                                    case hy => (intro w hSw; (try dsimp only at hSw); go_simp; all_goals (with_reducible rfl))
                                    try simp only [Act.put, List.setIfInBounds_toArray, List.set_cons_zero, List.set_cons_succ]
                                    refine wpAnyH_take (i := 102) (v := ?_) (by simp only [List.getElem?_toArray, List.getElem?_cons_succ, List.getElem?_cons_zero]; exact rfl) (by as_aux_lemma => kernel_rfl) (by as_aux_lemma => kernel_rfl) (by as_aux_lemma => kernel_rfl) (fun _ _ _ h => h) (Or.inl ⟨by rfl, ?hy⟩) (by assumption) ?_
                                    case hy => (intro w hSw; (try dsimp only at hSw); go_simp; all_goals (with_reducible rfl))
                                    try simp only [Act.put, List.setIfInBounds_toArray, List.set_cons_zero, List.set_cons_succ]
                                    refine wpAnyH_take (i := 103) (v := ?_) (by simp only [List.getElem?_toArray, List.getElem?_cons_succ, List.getElem?_cons_zero]; exact rfl) (by as_aux_lemma => kernel_rfl) (by as_aux_lemma => kernel_rfl) (by as_aux_lemma => kernel_rfl) (fun _ _ _ h => h) (Or.inl ⟨by rfl, ?hy⟩) (by assumption) ?_
                                    case hy => (intro w hSw; (try dsimp only at hSw); go_simp; all_goals (with_reducible rfl))
                                    try simp only [Act.put, List.setIfInBounds_toArray, List.set_cons_zero, List.set_cons_succ]
                                    refine wpAnyH_take (i := 104) (v := ?_) (by simp only [List.getElem?_toArray, List.getElem?_cons_succ, List.getElem?_cons_zero]; exact rfl) (by as_aux_lemma => kernel_rfl) (by as_aux_lemma => kernel_rfl) (by as_aux_lemma => kernel_rfl) (fun _ _ _ h => h) (Or.inl ⟨by rfl, ?hy⟩) (by assumption) ?_
                                    case hy => (intro w hSw; (try dsimp only at hSw); go_simp; all_goals (with_reducible rfl))
                                    try simp only [Act.put, List.setIfInBounds_toArray, List.set_cons_zero, List.set_cons_succ]
                                    refine wpAnyH_take (i := 105) (v := ?_) (by simp only [List.getElem?_toArray, List.getElem?_cons_succ, List.getElem?_cons_zero]; exact rfl) (by as_aux_lemma => kernel_rfl) (by as_aux_lemma => kernel_rfl) (by as_aux_lemma => kernel_rfl) (fun _ _ _ h => h) (Or.inl ⟨by rfl, ?hy⟩) (by assumption) ?_
                                    case hy => (intro w hSw; (try dsimp only at hSw); go_simp; all_goals (with_reducible rfl))
                                    try simp only [Act.put, List.setIfInBounds_toArray, List.set_cons_zero, List.set_cons_succ]
                                    refine wpAnyH_take (i := 106) (v := ?_) (by simp only [List.getElem?_toArray, List.getElem?_cons_succ, List.getElem?_cons_zero]; exact rfl) (by as_aux_lemma => kernel_rfl) (by as_aux_lemma => kernel_rfl) (by as_aux_lemma => kernel_rfl) (fun _ _ _ h => h) (Or.inl ⟨by rfl, ?hy⟩) (by assumption) ?_
                                    case hy => (intro w hSw; (try dsimp only at hSw); go_simp; all_goals (with_reducible rfl))
                                    try simp only [Act.put, List.setIfInBounds_toArray, List.set_cons_zero, List.set_cons_succ]
                                    refine wpAnyH_take (i := 107) (v := ?_) (by simp only [List.getElem?_toArray, List.getElem?_cons_succ, List.getElem?_cons_zero]; exact rfl) (by as_aux_lemma => kernel_rfl) (by as_aux_lemma => kernel_rfl) (by as_aux_lemma => kernel_rfl) (fun _ _ _ h => h) (Or.inl ⟨by rfl, ?hy⟩) (by assumption) ?_
                                    case hy => (intro w hSw; (try dsimp only at hSw); go_simp; all_goals (with_reducible rfl))
                                    try simp only [Act.put, List.setIfInBounds_toArray, List.set_cons_zero, List.set_cons_succ]
                                    refine wpAnyH_take (i := 108) (v := ?_) (by simp only [List.getElem?_toArray, List.getElem?_cons_succ, List.getElem?_cons_zero]; exact rfl) (by as_aux_lemma => kernel_rfl) (by as_aux_lemma => kernel_rfl) (by as_aux_lemma => kernel_rfl) (fun _ _ _ h => h) (Or.inl ⟨by rfl, ?hy⟩) (by assumption) ?_
                                    case hy => (intro w hSw; (try dsimp only at hSw); go_simp; all_goals (with_reducible rfl))
                                    try simp only [Act.put, List.setIfInBounds_toArray, List.set_cons_zero, List.set_cons_succ]
                                    refine wpAnyH_take (i := 110) (v := ?_) (by simp only [List.getElem?_toArray, List.getElem?_cons_succ, List.getElem?_cons_zero]; exact rfl) (by as_aux_lemma => kernel_rfl) (by as_aux_lemma => kernel_rfl) (by as_aux_lemma => kernel_rfl) (fun _ _ _ h => h) (Or.inl ⟨by rfl, ?hy⟩) (by assumption) ?_
                                    case hy => (intro w hSw; (try dsimp only at hSw); go_simp; all_goals (with_reducible rfl))
                                    try simp only [Act.put, List.setIfInBounds_toArray, List.set_cons_zero, List.set_cons_succ]
                                    as_aux_lemma =>
                                      refine wpAnyH_ready (rs := [109]) (by as_aux_lemma => kernel_rfl) (by simp) ?_
                                      refine AllReadyH.cons (by simp only [List.getElem?_toArray, List.getElem?_cons_succ, List.getElem?_cons_zero]; exact rfl) (fun K hK => ?_) AllReadyH.nil
                                      go_simp
                                      (go_at_call 12; refine (carr_any _ _ _ _).mono ?_; rintro e w1 ⟨rfl, hb1⟩; dsimp only)
                                      go_wp2_with fail
                                      refine hK.out _ _ ?_ (fun hHeld2 => ?_)
                                      · exact keepF (by assumption) (by assumption)
                                      clear hK K hHeld
                                      have hHeld := hHeld2
                                      clear hHeld2
                                      try simp only [Act.put, List.setIfInBounds_toArray, List.set_cons_zero, List.set_cons_succ]
                                      refine wpAnyH_take (i := 111) (v := ?_) (by simp only [List.getElem?_toArray, List.getElem?_cons_succ, List.getElem?_cons_zero]; exact rfl) (by as_aux_lemma => kernel_rfl) (by as_aux_lemma => kernel_rfl) (by as_aux_lemma => kernel_rfl) (fun _ _ _ h => h) (Or.inl ⟨by rfl, ?hy⟩) (by assumption) ?_
                                      case hy => (intro w hSw; (try dsimp only at hSw); go_simp; all_goals (with_reducible rfl))
                                      try simp only [Act.put, List.setIfInBounds_toArray, List.set_cons_zero, List.set_cons_succ]
                                      refine wpAnyH_take (i := 112) (v := ?_) (by simp only [List.getElem?_toArray, List.getElem?_cons_succ, List.getElem?_cons_zero]; exact rfl) (by as_aux_lemma => kernel_rfl) (by as_aux_lemma => kernel_rfl) (by as_aux_lemma => kernel_rfl) (fun _ _ _ h => h) (Or.inl ⟨by rfl, ?hy⟩) (by assumption) ?_
                                      case hy => (intro w hSw; (try dsimp only at hSw); go_simp; all_goals (with_reducible rfl))
                                      try simp only [Act.put, List.setIfInBounds_toArray, List.set_cons_zero, List.set_cons_succ]
                                      refine wpAnyH_take (i := 113) (v := ?_) (by simp only [List.getElem?_toArray, List.getElem?_cons_succ, List.getElem?_cons_zero]; exact rfl) (by as_aux_lemma => kernel_rfl) (by as_aux_lemma => kernel_rfl) (by as_aux_lemma => kernel_rfl) (fun _ _ _ h => h) (Or.inl ⟨by rfl, ?hy⟩) (by assumption) ?_
                                      case hy => (intro w hSw; (try dsimp only at hSw); go_simp; all_goals (with_reducible rfl))
                                      try simp only [Act.put, List.setIfInBounds_toArray, List.set_cons_zero, List.set_cons_succ]
                                      refine wpAnyH_take (i := 114) (v := ?_) (by simp only [List.getElem?_toArray, List.getElem?_cons_succ, List.getElem?_cons_zero]; exact rfl) (by as_aux_lemma => kernel_rfl) (by as_aux_lemma => kernel_rfl) (by as_aux_lemma => kernel_rfl) (fun _ _ _ h => h) (Or.inl ⟨by rfl, ?hy⟩) (by assumption) ?_
                                      case hy => (intro w hSw; (try dsimp only at hSw); go_simp; all_goals (with_reducible rfl))
                                      try simp only [Act.put, List.setIfInBounds_toArray, List.set_cons_zero, List.set_cons_succ]
                                      refine wpAnyH_take (i := 115) (v := ?_) (by simp only [List.getElem?_toArray, List.getElem?_cons_succ, List.getElem?_cons_zero]; exact rfl) (by as_aux_lemma => kernel_rfl) (by as_aux_lemma => kernel_rfl) (by as_aux_lemma => kernel_rfl) (fun _ _ _ h => h) (Or.inl ⟨by rfl, ?hy⟩) (by assumption) ?_
                                      case hy => (intro w hSw; (try dsimp only at hSw); go_simp; all_goals (with_reducible rfl))
                                      try simp only [Act.put, List.setIfInBounds_toArray, List.set_cons_zero, List.set_cons_succ]
                                      refine wpAnyH_take (i := 116) (v := ?_) (by simp only [List.getElem?_toArray, List.getElem?_cons_succ, List.getElem?_cons_zero]; exact rfl) (by as_aux_lemma => kernel_rfl) (by as_aux_lemma => kernel_rfl) (by as_aux_lemma => kernel_rfl) (fun _ _ _ h => h) (Or.inl ⟨by rfl, ?hy⟩) (by assumption) ?_
                                      case hy => (intro w hSw; (try dsimp only at hSw); go_simp; all_goals (with_reducible rfl))
                                      try simp only [Act.put, List.setIfInBounds_toArray, List.set_cons_zero, List.set_cons_succ]
                                      refine wpAnyH_take (i := 117) (v := ?_) (by simp only [List.getElem?_toArray, List.getElem?_cons_succ, List.getElem?_cons_zero]; exact rfl) (by as_aux_lemma => kernel_rfl) (by as_aux_lemma => kernel_rfl) (by as_aux_lemma => kernel_rfl) (fun _ _ _ h => h) (Or.inl ⟨by rfl, ?hy⟩) (by assumption) ?_
                                      case hy => (intro w hSw; (try dsimp only at hSw); go_simp; all_goals (with_reducible rfl))
                                      try simp only [Act.put, List.setIfInBounds_toArray, List.set_cons_zero, List.set_cons_succ]
                                      refine wpAnyH_take (i := 118) (v := ?_) (by simp only [List.getElem?_toArray, List.getElem?_cons_succ, List.getElem?_cons_zero]; exact rfl) (by as_aux_lemma => kernel_rfl) (by as_aux_lemma => kernel_rfl) (by as_aux_lemma => kernel_rfl) (fun _ _ _ h => h) (Or.inl ⟨by rfl, ?hy⟩) (by assumption) ?_
                                      case hy => (intro w hSw; (try dsimp only at hSw); go_simp; all_goals (with_reducible rfl))
                                      try simp only [Act.put, List.setIfInBounds_toArray, List.set_cons_zero, List.set_cons_succ]
                                      refine wpAnyH_take (i := 119) (v := ?_) (by simp only [List.getElem?_toArray, List.getElem?_cons_succ, List.getElem?_cons_zero]; exact rfl) (by as_aux_lemma => kernel_rfl) (by as_aux_lemma => kernel_rfl) (by as_aux_lemma => kernel_rfl) (fun _ _ _ h => h) (Or.inl ⟨by rfl, ?hy⟩) (by assumption) ?_
                                      case hy => (intro w hSw; (try dsimp only at hSw); go_simp; all_goals (with_reducible rfl))
                                      try simp only [Act.put, List.setIfInBounds_toArray, List.set_cons_zero, List.set_cons_succ]
                                      as_aux_lemma =>
                                        refine wpAnyH_take (i := 120) (v := ?_) (by simp only [List.getElem?_toArray, List.getElem?_cons_succ, List.getElem?_cons_zero]; exact rfl) (by as_aux_lemma => kernel_rfl) (by as_aux_lemma => kernel_rfl) (by as_aux_lemma => kernel_rfl) (fun _ _ _ h => h) (Or.inl ⟨by rfl, ?hy⟩) (by assumption) ?_
                                        case hy => (intro w hSw; (try dsimp only at hSw); go_simp; all_goals (with_reducible rfl))
                                        try simp only [Act.put, List.setIfInBounds_toArray, List.set_cons_zero, List.set_cons_succ]
                                        refine wpAnyH_take (i := 121) (v := ?_) (by simp only [List.getElem?_toArray, List.getElem?_cons_succ, List.getElem?_cons_zero]; exact rfl) (by as_aux_lemma => kernel_rfl) (by as_aux_lemma => kernel_rfl) (by as_aux_lemma => kernel_rfl) (fun _ _ _ h => h) (Or.inl ⟨by rfl, ?hy⟩) (by assumption) ?_
                                        case hy => (intro w hSw; (try dsimp only at hSw); go_simp; all_goals (with_reducible rfl))
                                        try simp only [Act.put, List.setIfInBounds_toArray, List.set_cons_zero, List.set_cons_succ]
                                        refine wpAnyH_take (i := 122) (v := ?_) (by simp only [List.getElem?_toArray, List.getElem?_cons_succ, List.getElem?_cons_zero]; exact rfl) (by as_aux_lemma => kernel_rfl) (by as_aux_lemma => kernel_rfl) (by as_aux_lemma => kernel_rfl) (fun _ _ _ h => h) (Or.inl ⟨by rfl, ?hy⟩) (by assumption) ?_
                                        case hy => (intro w hSw; (try dsimp only at hSw); go_simp; all_goals (with_reducible rfl))
                                        try simp only [Act.put, List.setIfInBounds_toArray, List.set_cons_zero, List.set_cons_succ]
                                        refine wpAnyH_take (i := 123) (v := ?_) (by simp only [List.getElem?_toArray, List.getElem?_cons_succ, List.getElem?_cons_zero]; exact rfl) (by as_aux_lemma => kernel_rfl) (by as_aux_lemma => kernel_rfl) (by as_aux_lemma => kernel_rfl) (fun _ _ _ h => h) (Or.inl ⟨by rfl, ?hy⟩) (by assumption) ?_
                                        case hy => (intro w hSw; (try dsimp only at hSw); go_simp; all_goals (with_reducible rfl))
                                        try simp only [Act.put, List.setIfInBounds_toArray, List.set_cons_zero, List.set_cons_succ]
                                        refine wpAnyH_take (i := 124) (v := ?_) (by simp only [List.getElem?_toArray, List.getElem?_cons_succ, List.getElem?_cons_zero]; exact rfl) (by as_aux_lemma => kernel_rfl) (by as_aux_lemma => kernel_rfl) (by as_aux_lemma => kernel_rfl) (fun _ _ _ h => h) (Or.inl ⟨by rfl, ?hy⟩) (by assumption) ?_
                                        case hy => (intro w hSw; (try dsimp only at hSw); go_simp; all_goals (with_reducible rfl))
                                        try simp only [Act.put, List.setIfInBounds_toArray, List.set_cons_zero, List.set_cons_succ]
                                        refine wpAnyH_take (i := 126) (v := ?_) (by simp only [List.getElem?_toArray, List.getElem?_cons_succ, List.getElem?_cons_zero]; exact rfl) (by as_aux_lemma => kernel_rfl) (by as_aux_lemma => kernel_rfl) (by as_aux_lemma => kernel_rfl) (fun _ _ _ h => h) (Or.inl ⟨by rfl, ?hy⟩) (by assumption) ?_
                                        case hy => (intro w hSw; (try dsimp only at hSw); go_simp; all_goals (with_reducible rfl))
                                        try simp only [Act.put, List.setIfInBounds_toArray, List.set_cons_zero, List.set_cons_succ]
                                        refine wpAnyH_ready (rs := [125]) (by as_aux_lemma => kernel_rfl) (by simp) ?_
                                        refine AllReadyH.cons (by simp only [List.getElem?_toArray, List.getElem?_cons_succ, List.getElem?_cons_zero]; exact rfl) (fun K hK => ?_) AllReadyH.nil
                                        go_simp
                                        (go_at_call 12; refine (carr_any _ _ _ _).mono ?_; rintro e w1 ⟨rfl, hb1⟩; dsimp only)
                                        go_wp2_with fail
                                        refine hK.out _ _ ?_ (fun hHeld2 => ?_)
                                        · exact keepF (by assumption) (by assumption)
                                        clear hK K hHeld
                                        have hHeld := hHeld2
                                        clear hHeld2
                                        try simp only [Act.put, List.setIfInBounds_toArray, List.set_cons_zero, List.set_cons_succ]
                                        refine wpAnyH_take (i := 127) (v := ?_) (by simp only [List.getElem?_toArray, List.getElem?_cons_succ, List.getElem?_cons_zero]; exact rfl) (by as_aux_lemma => kernel_rfl) (by as_aux_lemma => kernel_rfl) (by as_aux_lemma => kernel_rfl) (fun _ _ _ h => h) (Or.inl ⟨by rfl, ?hy⟩) (by assumption) ?_
                                        case hy => (intro w hSw; (try dsimp only at hSw); go_simp; all_goals (with_reducible rfl))
                                        try simp only [Act.put, List.setIfInBounds_toArray, List.set_cons_zero, List.set_cons_succ]
                                        refine wpAnyH_take (i := 128) (v := ?_) (by simp only [List.getElem?_toArray, List.getElem?_cons_succ, List.getElem?_cons_zero]; exact rfl) (by as_aux_lemma => kernel_rfl) (by as_aux_lemma => kernel_rfl) (by as_aux_lemma => kernel_rfl) (fun _ _ _ h => h) (Or.inl ⟨by rfl, ?hy⟩) (by assumption) ?_
                                        case hy => (intro w hSw; (try dsimp only at hSw); go_simp; all_goals (with_reducible rfl))
                                        try simp only [Act.put, List.setIfInBounds_toArray, List.set_cons_zero, List.set_cons_succ]
                                        refine wpAnyH_take (i := 129) (v := ?_) (by simp only [List.getElem?_toArray, List.getElem?_cons_succ, List.getElem?_cons_zero]; exact rfl) (by as_aux_lemma => kernel_rfl) (by as_aux_lemma => kernel_rfl) (by as_aux_lemma => kernel_rfl) (fun _ _ _ h => h) (Or.inl ⟨by rfl, ?hy⟩) (by assumption) ?_
                                        case hy => (intro w hSw; (try dsimp only at hSw); go_simp; all_goals (with_reducible rfl))
                                        try simp only [Act.put, List.setIfInBounds_toArray, List.set_cons_zero, List.set_cons_succ]
                                        as_aux_lemma =>
                                          refine wpAnyH_take (i := 130) (v := ?_) (by simp only [List.getElem?_toArray, List.getElem?_cons_succ, List.getElem?_cons_zero]; exact rfl) (by as_aux_lemma => kernel_rfl) (by as_aux_lemma => kernel_rfl) (by as_aux_lemma => kernel_rfl) (fun _ _ _ h => h) (Or.inl ⟨by rfl, ?hy⟩) (by assumption) ?_
                                          case hy => (intro w hSw; (try dsimp only at hSw); go_simp; all_goals (with_reducible rfl))
                                          try simp only [Act.put, List.setIfInBounds_toArray, List.set_cons_zero, List.set_cons_succ]
                                          refine wpAnyH_take (i := 131) (v := ?_) (by simp only [List.getElem?_toArray, List.getElem?_cons_succ, List.getElem?_cons_zero]; exact rfl) (by as_aux_lemma => kernel_rfl) (by as_aux_lemma => kernel_rfl) (by as_aux_lemma => kernel_rfl) (fun _ _ _ h => h) (Or.inl ⟨by rfl, ?hy⟩) (by assumption) ?_
                                          case hy => (intro w hSw; (try dsimp only at hSw); go_simp; all_goals (with_reducible rfl))
                                          try simp only [Act.put, List.setIfInBounds_toArray, List.set_cons_zero, List.set_cons_succ]
                                          refine wpAnyH_take (i := 132) (v := ?_) (by simp only [List.getElem?_toArray, List.getElem?_cons_succ, List.getElem?_cons_zero]; exact rfl) (by as_aux_lemma => kernel_rfl) (by as_aux_lemma => kernel_rfl) (by as_aux_lemma => kernel_rfl) (fun _ _ _ h => h) (Or.inl ⟨by rfl, ?hy⟩) (by assumption) ?_
                                          case hy => (intro w hSw; (try dsimp only at hSw); go_simp; all_goals (with_reducible rfl))
                                          try simp only [Act.put, List.setIfInBounds_toArray, List.set_cons_zero, List.set_cons_succ]
                                          refine wpAnyH_take (i := 133) (v := ?_) (by simp only [List.getElem?_toArray, List.getElem?_cons_succ, List.getElem?_cons_zero]; exact rfl) (by as_aux_lemma => kernel_rfl) (by as_aux_lemma => kernel_rfl) (by as_aux_lemma => kernel_rfl) (fun _ _ _ h => h) (Or.inl ⟨by rfl, ?hy⟩) (by assumption) ?_
                                          case hy => (intro w hSw; (try dsimp only at hSw); go_simp; all_goals (with_reducible rfl))
                                          try simp only [Act.put, List.setIfInBounds_toArray, List.set_cons_zero, List.set_cons_succ]
                                          refine wpAnyH_take (i := 134) (v := ?_) (by simp only [List.getElem?_toArray, List.getElem?_cons_succ, List.getElem?_cons_zero]; exact rfl) (by as_aux_lemma => kernel_rfl) (by as_aux_lemma => kernel_rfl) (by as_aux_lemma => kernel_rfl) (fun _ _ _ h => h) (Or.inl ⟨by rfl, ?hy⟩) (by assumption) ?_
                                          case hy => (intro w hSw; (try dsimp only at hSw); go_simp; all_goals (with_reducible rfl))
                                          try simp only [Act.put, List.setIfInBounds_toArray, List.set_cons_zero, List.set_cons_succ]
                                          refine wpAnyH_take (i := 135) (v := ?_) (by simp only [List.getElem?_toArray, List.getElem?_cons_succ, List.getElem?_cons_zero]; exact rfl) (by as_aux_lemma => kernel_rfl) (by as_aux_lemma => kernel_rfl) (by as_aux_lemma => kernel_rfl) (fun _ _ _ h => h) (Or.inl ⟨by rfl, ?hy⟩) (by assumption) ?_
                                          case hy => (intro w hSw; (try dsimp only at hSw); go_simp; all_goals (with_reducible rfl))
                                          try simp only [Act.put, List.setIfInBounds_toArray, List.set_cons_zero, List.set_cons_succ]
                                          refine wpAnyH_take (i := 136) (v := ?_) (by simp only [List.getElem?_toArray, List.getElem?_cons_succ, List.getElem?_cons_zero]; exact rfl) (by as_aux_lemma => kernel_rfl) (by as_aux_lemma => kernel_rfl) (by as_aux_lemma => kernel_rfl) (fun _ _ _ h => h) (Or.inl ⟨by rfl, ?hy⟩) (by assumption) ?_
                                          case hy => (intro w hSw; (try dsimp only at hSw); go_simp; all_goals (with_reducible rfl))
                                          try simp only [Act.put, List.setIfInBounds_toArray, List.set_cons_zero, List.set_cons_succ]
                                          refine wpAnyH_take (i := 137) (v := ?_) (by simp only [List.getElem?_toArray, List.getElem?_cons_succ, List.getElem?_cons_zero]; exact rfl) (by as_aux_lemma => kernel_rfl) (by as_aux_lemma => kernel_rfl) (by as_aux_lemma => kernel_rfl) (fun _ _ _ h => h) (Or.inl ⟨by rfl, ?hy⟩) (by assumption) ?_
                                          case hy => (intro w hSw; (try dsimp only at hSw); go_simp; all_goals (with_reducible rfl))
                                          try simp only [Act.put, List.setIfInBounds_toArray, List.set_cons_zero, List.set_cons_succ]
                                          refine wpAnyH_take (i := 138) (v := ?_) (by simp only [List.getElem?_toArray, List.getElem?_cons_succ, List.getElem?_cons_zero]; exact rfl) (by as_aux_lemma => kernel_rfl) (by as_aux_lemma => kernel_rfl) (by as_aux_lemma => kernel_rfl) (fun _ _ _ h => h) (Or.inl ⟨by rfl, ?hy⟩) (by assumption) ?_
                                          case hy => (intro w hSw; (try dsimp only at hSw); go_simp; all_goals (with_reducible rfl))
                                          try simp only [Act.put, List.setIfInBounds_toArray, List.set_cons_zero, List.set_cons_succ]
                                          refine wpAnyH_ready (rs := [139]) (by as_aux_lemma => kernel_rfl) (by simp) ?_
                                          refine AllReadyH.cons (by simp only [List.getElem?_toArray, List.getElem?_cons_succ, List.getElem?_cons_zero]; exact rfl) (fun K hK => ?_) AllReadyH.nil
                                          go_simp
                                          (go_at_call_of 13 (Value.int IntKind.i64 lf); refine (csame_any hL pl lf ll lg ls0 ls1 ls2 lw0 lw1 lw2 lh0 lh1 lh2 _ (heldL (by assumption))).mono ?_; rintro e w1 ⟨rfl, hb1⟩; dsimp only)
                                          go_wp2_with fail
                                          refine hK.out _ _ ?_ (fun hHeld2 => ?_)
                                          · exact keepF (by assumption) (by assumption)
                                          clear hK K hHeld
                                          have hHeld := hHeld2
                                          clear hHeld2
                                          try simp only [Act.put, List.setIfInBounds_toArray, List.set_cons_zero, List.set_cons_succ]
                                          as_aux_lemma =>
                                            refine wpAnyH_take (i := 140) (v := ?_) (by simp only [List.getElem?_toArray, List.getElem?_cons_succ, List.getElem?_cons_zero]; exact rfl) (by as_aux_lemma => kernel_rfl) (by as_aux_lemma => kernel_rfl) (by as_aux_lemma => kernel_rfl) (fun _ _ _ h => h) (Or.inl ⟨by rfl, ?hy⟩) (by assumption) ?_
                                            case hy => (intro w hSw; (try dsimp only at hSw); go_simp; all_goals (with_reducible rfl))
                                            try simp only [Act.put, List.setIfInBounds_toArray, List.set_cons_zero, List.set_cons_succ]
                                            refine wpAnyH_take (i := 141) (v := ?_) (by simp only [List.getElem?_toArray, List.getElem?_cons_succ, List.getElem?_cons_zero]; exact rfl) (by as_aux_lemma => kernel_rfl) (by as_aux_lemma => kernel_rfl) (by as_aux_lemma => kernel_rfl) (fun _ _ _ h => h) (Or.inl ⟨by rfl, ?hy⟩) (by assumption) ?_
                                            case hy => (intro w hSw; (try dsimp only at hSw); go_simp; all_goals (with_reducible rfl))
                                            try simp only [Act.put, List.setIfInBounds_toArray, List.set_cons_zero, List.set_cons_succ]
                                            refine wpAnyH_take (i := 142) (v := ?_) (by simp only [List.getElem?_toArray, List.getElem?_cons_succ, List.getElem?_cons_zero]; exact rfl) (by as_aux_lemma => kernel_rfl) (by as_aux_lemma => kernel_rfl) (by as_aux_lemma => kernel_rfl) (fun _ _ _ h => h) (Or.inl ⟨by rfl, ?hy⟩) (by assumption) ?_
                                            case hy => (intro w hSw; (try dsimp only at hSw); go_simp; all_goals (with_reducible rfl))
                                            try simp only [Act.put, List.setIfInBounds_toArray, List.set_cons_zero, List.set_cons_succ]
                                            refine wpAnyH_take (i := 143) (v := ?_) (by simp only [List.getElem?_toArray, List.getElem?_cons_succ, List.getElem?_cons_zero]; exact rfl) (by as_aux_lemma => kernel_rfl) (by as_aux_lemma => kernel_rfl) (by as_aux_lemma => kernel_rfl) (fun _ _ _ h => h) (Or.inl ⟨by rfl, ?hy⟩) (by assumption) ?_
                                            case hy => (intro w hSw; (try dsimp only at hSw); go_simp; all_goals (with_reducible rfl))
                                            try simp only [Act.put, List.setIfInBounds_toArray, List.set_cons_zero, List.set_cons_succ]
                                            refine wpAnyH_ready (rs := [144]) (by as_aux_lemma => kernel_rfl) (by simp) ?_
                                            refine AllReadyH.cons (by simp only [List.getElem?_toArray, List.getElem?_cons_succ, List.getElem?_cons_zero]; exact rfl) (fun K hK => ?_) AllReadyH.nil
                                            go_simp
                                            (go_at_call_of 13 (Value.int IntKind.i64 rf); refine (csame_any hR pr rf rl rg rs0 rs1 rs2 rw0 rw1 rw2 rh0 rh1 rh2 _ (heldR (by assumption))).mono ?_; rintro e w1 ⟨rfl, hb1⟩; dsimp only)
                                            go_wp2_with fail
                                            refine hK.out _ _ ?_ (fun hHeld2 => ?_)
                                            · exact keepF (by assumption) (by assumption)
                                            clear hK K hHeld
                                            have hHeld := hHeld2
                                            clear hHeld2
                                            try simp only [Act.put, List.setIfInBounds_toArray, List.set_cons_zero, List.set_cons_succ]
                                            refine wpAnyH_take (i := 145) (v := ?_) (by simp only [List.getElem?_toArray, List.getElem?_cons_succ, List.getElem?_cons_zero]; exact rfl) (by as_aux_lemma => kernel_rfl) (by as_aux_lemma => kernel_rfl) (by as_aux_lemma => kernel_rfl) (fun _ _ _ h => h) (Or.inl ⟨by rfl, ?hy⟩) (by assumption) ?_
                                            case hy => (intro w hSw; (try dsimp only at hSw); go_simp; all_goals (with_reducible rfl))
                                            try simp only [Act.put, List.setIfInBounds_toArray, List.set_cons_zero, List.set_cons_succ]
                                            refine wpAnyH_take (i := 146) (v := ?_) (by simp only [List.getElem?_toArray, List.getElem?_cons_succ, List.getElem?_cons_zero]; exact rfl) (by as_aux_lemma => kernel_rfl) (by as_aux_lemma => kernel_rfl) (by as_aux_lemma => kernel_rfl) (fun _ _ _ h => h) (Or.inl ⟨by rfl, ?hy⟩) (by assumption) ?_
                                            case hy => (intro w hSw; (try dsimp only at hSw); go_simp; all_goals (with_reducible rfl))
                                            try simp only [Act.put, List.setIfInBounds_toArray, List.set_cons_zero, List.set_cons_succ]
                                            refine wpAnyH_done (by as_aux_lemma => kernel_rfl) ?_ _
                                            refine NoPanic.normal ?_
                                            go_wp2_with fail
                                            go_ret
                                            exact ⟨rfl, finF (by assumption)⟩
end Go.Proofs.Ybulkbulm.Pu
