import Derived.Test.YbulkbulmPullB
import Derived.BigRegion
import Derived.Deep.RegionWith
import Derived.Deep.DeepCutAuto
import Derived.Deep.DrawnRows
namespace Go.Proofs.Ybulkbulm.Pu
open Go.RowKit
attribute [local go_sem ↓] Go.wp_at_zero Go.wp_at_succ

/-- Of the blocks that w has none but block x has turned. -/
structure But (x : Nat) (w w' : World) : Prop where
  os : w'.os = w.os
  tape : w'.tape = w.tape
  output : w'.output = w.output
  size : w.heap.size ≤ w'.heap.size
  block : ∀ k, k < w.heap.size → k ≠ x → w'.heap[k]? = w.heap[k]?

theorem But.refl (x : Nat) (w : World) : But x w w := ⟨rfl, rfl, rfl, Nat.le_refl _, fun _ _ _ => rfl⟩
theorem But.drew {x : Nat} {w w' : World} (h : But x w w') : But x w w'.drew := ⟨h.os, h.tape, h.output, h.size, h.block⟩
theorem But.alloc {x : Nat} {w w' : World} (h : But x w w') (o : Obj) : But x w (w'.alloc o) :=
  ⟨h.os, h.tape, h.output, by have := h.size; simp; omega, fun k hk hx => (Below.heap_alloc w' o k (by have := h.size; omega)).trans (h.block k hk hx)⟩
theorem But.setCell {x : Nat} {w w' : World} (h : But x w w') {a : Addr} (ha : a.block = x ∨ w.heap.size ≤ a.block) (v : Value) : But x w (w'.setCell a v) :=
  ⟨h.os, h.tape, h.output, by have := h.size; simpa [World.setCell] using this, fun k hk hx => (Below.heap_setCell w' a v k (by omega)).trans (h.block k hk hx)⟩
theorem But.below {x : Nat} {w w' w1 : World} (h : But x w w') (hb : Below w'.heap.size w' w1) : But x w w1 :=
  ⟨hb.os.trans h.os, hb.tape.trans h.tape, hb.output.trans h.output, Nat.le_trans h.size hb.size, fun k hk hx => (hb.block k (by have := h.size; omega)).trans (h.block k hk hx)⟩

structure St (w : World) (x : Nat) (M : List Value) (bs bl bh : Nat) (S L H : List Value) (wx : World) : Prop where
  m : Blk wx x 44 M
  s : Blk wx bs 39 S
  l : Blk wx bl 39 L
  h : Blk wx bh 39 H
  xlt : x < w.heap.size
  ns : w.heap.size ≤ bs
  nl : w.heap.size ≤ bl
  nh : w.heap.size ≤ bh
  sl : bs ≠ bl
  sh : bs ≠ bh
  lh : bl ≠ bh
  but : But x w wx

section
variable {w : World} {x : Nat} {M : List Value} {bs bl bh : Nat} {S L H : List Value} {wx : World}
theorem St.drew (h : St w x M bs bl bh S L H wx) : St w x M bs bl bh S L H wx.drew := ⟨h.m, h.s, h.l, h.h, h.xlt, h.ns, h.nl, h.nh, h.sl, h.sh, h.lh, h.but.drew⟩
theorem St.below {w1 : World} (h : St w x M bs bl bh S L H wx) (hb : Below wx.heap.size wx w1) : St w x M bs bl bh S L H w1 :=
  ⟨h.m.below hb h.m.lt, h.s.below hb h.s.lt, h.l.below hb h.l.lt, h.h.below hb h.h.lt, h.xlt, h.ns, h.nl, h.nh, h.sl, h.sh, h.lh, h.but.below hb⟩
theorem St.setM (h : St w x M bs bl bh S L H wx) (o : Nat) (v : Value) : St w x (M.set o v) bs bl bh S L H (wx.setCell ⟨x, o, none⟩ v) := by
  have := h.xlt; have := h.ns; have := h.nl; have := h.nh
  exact ⟨h.m.set o v, h.s.setOther (by show bs ≠ x; omega) v, h.l.setOther (by show bl ≠ x; omega) v, h.h.setOther (by show bh ≠ x; omega) v, h.xlt, h.ns, h.nl, h.nh, h.sl, h.sh, h.lh, h.but.setCell (.inl rfl) v⟩
theorem St.setS (h : St w x M bs bl bh S L H wx) (o : Nat) (v : Value) : St w x M bs bl bh (S.set o v) L H (wx.setCell ⟨bs, o, none⟩ v) := by
  have := h.xlt; have := h.ns
  exact ⟨h.m.setOther (by show x ≠ bs; omega) v, h.s.set o v, h.l.setOther (Ne.symm h.sl) v, h.h.setOther (Ne.symm h.sh) v, h.xlt, h.ns, h.nl, h.nh, h.sl, h.sh, h.lh, h.but.setCell (.inr h.ns) v⟩
theorem St.setL (h : St w x M bs bl bh S L H wx) (o : Nat) (v : Value) : St w x M bs bl bh S (L.set o v) H (wx.setCell ⟨bl, o, none⟩ v) := by
  have := h.xlt; have := h.nl
  exact ⟨h.m.setOther (by show x ≠ bl; omega) v, h.s.setOther h.sl v, h.l.set o v, h.h.setOther (Ne.symm h.lh) v, h.xlt, h.ns, h.nl, h.nh, h.sl, h.sh, h.lh, h.but.setCell (.inr h.nl) v⟩
theorem St.setH (h : St w x M bs bl bh S L H wx) (o : Nat) (v : Value) : St w x M bs bl bh S L (H.set o v) (wx.setCell ⟨bh, o, none⟩ v) := by
  have := h.xlt; have := h.nh
  exact ⟨h.m.setOther (by show x ≠ bh; omega) v, h.s.setOther h.sh v, h.l.setOther h.lh v, h.h.set o v, h.xlt, h.ns, h.nl, h.nh, h.sl, h.sh, h.lh, h.but.setCell (.inr h.nh) v⟩
/-- What the walk wants of such a world. -/
theorem St.facts (h : St w x M bs bl bh S L H wx) :
    ((∀ o, wx.cell? ⟨x, o, none⟩ = M[o]?) ∧ (∀ o, wx.frozen? ⟨x, o, none⟩ = false)) ∧ ((∀ o, wx.cell? ⟨bs, o, none⟩ = S[o]?) ∧ (∀ o, wx.frozen? ⟨bs, o, none⟩ = false)) ∧
    ((∀ o, wx.cell? ⟨bl, o, none⟩ = L[o]?) ∧ (∀ o, wx.frozen? ⟨bl, o, none⟩ = false)) ∧ ((∀ o, wx.cell? ⟨bh, o, none⟩ = H[o]?) ∧ (∀ o, wx.frozen? ⟨bh, o, none⟩ = false)) :=
  ⟨⟨h.m.cell, h.m.frozen⟩, ⟨h.s.cell, h.s.frozen⟩, ⟨h.l.cell, h.l.frozen⟩, ⟨h.h.cell, h.h.frozen⟩⟩
theorem St.apart (h : St w x M bs bl bh S L H wx) : x ≠ bs ∧ x ≠ bl ∧ x ≠ bh ∧ bs ≠ x ∧ bl ≠ x ∧ bh ≠ x ∧ bs ≠ bl ∧ bs ≠ bh ∧ bl ≠ bh ∧ bl ≠ bs ∧ bh ≠ bs ∧ bh ≠ bl := by
  have := h.xlt; have := h.ns; have := h.nl; have := h.nh
  exact ⟨by omega, by omega, by omega, by omega, by omega, by omega, h.sl, h.sh, h.lh, Ne.symm h.sl, Ne.symm h.sh, Ne.symm h.lh⟩
/-- A half's cells. -/
theorem St.half {y : Nat} {C : List Value} (h : St w x M bs bl bh S L H wx) (hy : Blk w y 44 C) (hne : y ≠ x) : ∀ o, wx.cell? ⟨y, o, none⟩ = C[o]? :=
  Blk.cell (show Blk wx y 44 C from (h.but.block y hy.lt hne).trans hy)
end

def ow (b : Bool) (s r : Int) : Int := if b then wrap64 (s + r) else r
def lo1 (b : Bool) (l s r : Int) : Int := if b then min l (wrap64 (s + r)) else r
def hi1 (b : Bool) (l s r : Int) : Int := if b then max l (wrap64 (s + r)) else r
def pick (b : Bool) (x y : Int) : Int := if b then x else y
def lo2 (b : Bool) (l s r : Int) : Int := if b then min l (wrap64 (s + r)) else l
def hi2 (b : Bool) (l s r : Int) : Int := if b then max l (wrap64 (s + r)) else l
def gi (b : Bool) (g l : Int) : Int := if b then wrap64 (g + l) else g

theorem St_start {w : World} {x : Nat} {M : List Value} (hx : Blk w x 44 M) (v1 v2 v3 : Value) (S : List Value) :
    St w x (((M.set 15 v1).set 16 v2).set 40 v3) w.heap.size (w.heap.size + 1) (w.heap.size + 1 + 1) S S S
      ((((((w.setCell ⟨x, 15, none⟩ v1).setCell ⟨x, 16, none⟩ v2).setCell ⟨x, 40, none⟩ v3).alloc (.cells S.toArray 39)).alloc (.cells S.toArray 39)).alloc (.cells S.toArray 39)).drew.drew ∧
    St w x (((M.set 15 v1).set 16 v2).set 40 v3) w.heap.size (w.heap.size + 1 + 1) (w.heap.size + 1) S S S
      ((((((w.setCell ⟨x, 15, none⟩ v1).setCell ⟨x, 16, none⟩ v2).setCell ⟨x, 40, none⟩ v3).alloc (.cells S.toArray 39)).alloc (.cells S.toArray 39)).alloc (.cells S.toArray 39)).drew.drew := by
  have hm := ((hx.set 15 v1).set 16 v2).set 40 v3
  have hB : But x w (((w.setCell ⟨x, 15, none⟩ v1).setCell ⟨x, 16, none⟩ v2).setCell ⟨x, 40, none⟩ v3) := (((But.refl x w).setCell (.inl rfl) _).setCell (.inl rfl) _).setCell (.inl rfl) _
  have hz : (((w.setCell ⟨x, 15, none⟩ v1).setCell ⟨x, 16, none⟩ v2).setCell ⟨x, 40, none⟩ v3).heap.size = w.heap.size := by simp [World.setCell]
  generalize ((w.setCell ⟨x, 15, none⟩ v1).setCell ⟨x, 16, none⟩ v2).setCell ⟨x, 40, none⟩ v3 = w1 at *
  have b0 := Blk.new w1 39 S
  have b1 := Blk.new (w1.alloc (.cells S.toArray 39)) 39 S
  have b2 := Blk.new ((w1.alloc (.cells S.toArray 39)).alloc (.cells S.toArray 39)) 39 S
  have z1 : (w1.alloc (.cells S.toArray 39)).heap.size = w.heap.size + 1 := by simp [hz]
  have z2 : ((w1.alloc (.cells S.toArray 39)).alloc (.cells S.toArray 39)).heap.size = w.heap.size + 1 + 1 := by simp [hz]
  rw [hz] at b0
  rw [z1] at b1
  rw [z2] at b2
  have hx2 := hx.lt
  exact ⟨⟨((hm.alloc _).alloc _).alloc _, (b0.alloc _).alloc _, b1.alloc _, b2, hx2, by omega, by omega, by omega, by omega, by omega, by omega, ((((hB.alloc _).alloc _).alloc _).drew).drew⟩,
    ⟨((hm.alloc _).alloc _).alloc _, (b0.alloc _).alloc _, b2, b1.alloc _, hx2, by omega, by omega, by omega, by omega, by omega, by omega, ((((hB.alloc _).alloc _).alloc _).drew).drew⟩⟩


theorem fin {w : World} {x : Nat} {M : List Value} {bs bl bh : Nat} {S L H : List Value} {wx : World} (h : St w x M bs bl bh S L H wx) : Ending.returned (.tuple #[]) = .returned (.tuple #[]) ∧ Blk wx x 44 M ∧ But x w wx := ⟨rfl, h.m, h.but⟩

/-- The cells of a half's moment. -/
def halfMom (f l g s0 s1 s2 l0 l1 l2 h0 h1 h2 : Int) : List Value := [.int .i64 f, .pointer none, .pointer none, .int .i64 0, .int .i64 0, .int .i64 0, .int .i64 s0, .int .i64 s1, .int .i64 s2, .int .i64 l0, .int .i64 l1, .int .i64 l2, .int .i64 h0, .int .i64 h1, .int .i64 h2, .int .i64 f, .int .i64 l, .int .i64 0, .int .i64 0, .int .i64 0, .int .u64 0, .int .i64 0, .int .i64 0, .int .i64 0, .int .i64 0, .int .i64 0, .int .i64 0, .int .i64 0, .int .i64 0, .int .i64 0, .int .i64 0, .int .i64 0, .int .i64 0, .int .i64 0, .int .i64 0, .int .i64 0, .int .i64 0, .bool true, .bool true, .int .i64 0, .int .i64 g, .slice none 0 0, .slice none 0 0]
/-- The cells of a moment: at, its halves, r, sum, low, high, first, last; head and pairHigh are r; gains, gainsIn. -/
def momOf (at' : Int) (pl pr : Option Addr) (r0 r1 r2 s0 s1 s2 l0 l1 l2 h0 h1 h2 first last gains gin : Int) (k : Bool) : List Value :=
  [.int .i64 at', .pointer pl, .pointer pr, .int .i64 r0, .int .i64 r1, .int .i64 r2, .int .i64 s0, .int .i64 s1, .int .i64 s2, .int .i64 l0, .int .i64 l1, .int .i64 l2, .int .i64 h0, .int .i64 h1, .int .i64 h2, .int .i64 first, .int .i64 last, .int .i64 r0, .int .i64 r1, .int .i64 r2, .int .u64 5, .int .i64 7, .int .i64 r0, .int .i64 r1, .int .i64 r2, .int .i64 0, .int .i64 0, .int .i64 0, .int .i64 0, .int .i64 0, .int .i64 0, .int .i64 0, .int .i64 0, .int .i64 0, .int .i64 0, .int .i64 0, .int .i64 0, .bool k, .bool k, .int .i64 gains, .int .i64 gin, .slice none 0 0, .slice none 0 0]
set_option maxHeartbeats 4000000 in
set_option maxRecDepth 100000 in
theorem pull_any (x : Nat) (at' r0 r1 r2 gains stale : Int) (pl pr : Option Addr) (xl xr : Nat) (lf ll lg ls0 ls1 ls2 lw0 lw1 lw2 lh0 lh1 lh2 rf rl rg rs0 rs1 rs2 rw0 rw1 rw2 rh0 rh1 rh2 : Int) (w : World) (hL hR : Bool)
    (hpl : (hL = true ∧ pl = some ⟨xl, 0, none⟩ ∧ xl ≠ x ∧ Blk w xl 44 (halfMom lf ll lg ls0 ls1 ls2 lw0 lw1 lw2 lh0 lh1 lh2)) ∨ (hL = false ∧ pl = none))
    (hpr : (hR = true ∧ pr = some ⟨xr, 0, none⟩ ∧ xr ≠ x ∧ Blk w xr 44 (halfMom rf rl rg rs0 rs1 rs2 rw0 rw1 rw2 rh0 rh1 rh2)) ∨ (hR = false ∧ pr = none))
    (hx : Blk w x 44 (momOf at' pl pr r0 r1 r2 0 0 0 0 0 0 0 0 0 0 0 gains stale true)) :
    Calls Yba.prog 11 #[.pointer (some ⟨x, 0, none⟩)] w fun e w' => e = .returned (.tuple #[]) ∧ Blk w' x 44 (momOf at' pl pr r0 r1 r2 (gi hR (ow hL ls0 r0) rs0) (gi hR (ow hL ls1 r1) rs1) (gi hR (ow hL ls2 r2) rs2) (lo2 hR (lo1 hL lw0 ls0 r0) (ow hL ls0 r0) rw0) (lo2 hR (lo1 hL lw1 ls1 r1) (ow hL ls1 r1) rw1) (lo2 hR (lo1 hL lw2 ls2 r2) (ow hL ls2 r2) rw2) (hi2 hR (hi1 hL lh0 ls0 r0) (ow hL ls0 r0) rh0) (hi2 hR (hi1 hL lh1 ls1 r1) (ow hL ls1 r1) rh1) (hi2 hR (hi1 hL lh2 ls2 r2) (ow hL ls2 r2) rh2) (pick hL lf at') (pick hR rl at') gains (gi hR (gi hL gains lg) rg) false) ∧ But x w w' := by
  have HPR := (show Hid _ from hpr)
  clear hpr
  have HPL := (show Hid _ from hpl)
  clear hpl
  have hc := hx.cell
  simp only [momOf] at hc
  have hf := hx.frozen
  have hxl := hx.lt
  have HX := (show Hid _ from hx)
  clear hx
  go_enter Yba.func11, Yba.ntmps11
  go_wp2
  go_region
  go_upto_region 2 with fail
  go_cut [3, 4] (fun s3 s4 wx => ∃ bl bh, s3 = .pointer (some ⟨bl, 0, none⟩) ∧ s4 = .pointer (some ⟨bh, 0, none⟩) ∧ St w x [.int .i64 at', .pointer pl, .pointer pr, .int .i64 r0, .int .i64 r1, .int .i64 r2, .int .i64 0, .int .i64 0, .int .i64 0, .int .i64 0, .int .i64 0, .int .i64 0, .int .i64 0, .int .i64 0, .int .i64 0, .int .i64 at', .int .i64 at', .int .i64 r0, .int .i64 r1, .int .i64 r2, .int .u64 5, .int .i64 7, .int .i64 r0, .int .i64 r1, .int .i64 r2, .int .i64 0, .int .i64 0, .int .i64 0, .int .i64 0, .int .i64 0, .int .i64 0, .int .i64 0, .int .i64 0, .int .i64 0, .int .i64 0, .int .i64 0, .int .i64 0, .bool true, .bool true, .int .i64 gains, .int .i64 gains, .slice none 0 0, .slice none 0 0] w.heap.size bl bh [.int .i64 (r0), .int .i64 (r1), .int .i64 (r2)] [.int .i64 (r0), .int .i64 (r1), .int .i64 (r2)] [.int .i64 (r0), .int .i64 (r1), .int .i64 (r2)] wx)
  case first =>
    go_region
    all_goals (go_wp2_with fail; go_meet)
    case rel => exact ⟨_, _, rfl, rfl, (St_start HX.out _ _ _ [.int .i64 (r0), .int .i64 (r1), .int .i64 (r2)]).1⟩
    case rel => exact ⟨_, _, rfl, rfl, (St_start HX.out _ _ _ [.int .i64 (r0), .int .i64 (r1), .int .i64 (r2)]).2⟩
  case rest =>
  obtain ⟨bl, bh, rfl, rfl, hst⟩ := hcut
  obtain ⟨⟨hm, fm⟩, ⟨hs, fs⟩, ⟨hl, fl⟩, ⟨hh, fh⟩⟩ := hst.facts
  have hneq := fun w => run_neq_pointer_nil (P := Yba.prog) w 35 pl Yba.underlying35
  go_upto_if 39 with fail
  go_cut [5] (fun _ wx => St w x [.int .i64 at', .pointer pl, .pointer pr, .int .i64 r0, .int .i64 r1, .int .i64 r2, .int .i64 0, .int .i64 0, .int .i64 0, .int .i64 0, .int .i64 0, .int .i64 0, .int .i64 0, .int .i64 0, .int .i64 0, .int .i64 (pick hL lf at'), .int .i64 at', .int .i64 r0, .int .i64 r1, .int .i64 r2, .int .u64 5, .int .i64 7, .int .i64 r0, .int .i64 r1, .int .i64 r2, .int .i64 0, .int .i64 0, .int .i64 0, .int .i64 0, .int .i64 0, .int .i64 0, .int .i64 0, .int .i64 0, .int .i64 0, .int .i64 0, .int .i64 0, .int .i64 0, .bool true, .bool true, .int .i64 gains, .int .i64 (gi hL gains lg), .slice none 0 0, .slice none 0 0] w.heap.size bl bh [.int .i64 (ow hL ls0 r0), .int .i64 (ow hL ls1 r1), .int .i64 (ow hL ls2 r2)] [.int .i64 (lo1 hL lw0 ls0 r0), .int .i64 (lo1 hL lw1 ls1 r1), .int .i64 (lo1 hL lw2 ls2 r2)] [.int .i64 (hi1 hL lh0 ls0 r0), .int .i64 (hi1 hL lh1 ls1 r1), .int .i64 (hi1 hL lh2 ls2 r2)] wx)
  case first =>
    rcases HPL.out with ⟨rfl, rfl, hne, hbl⟩ | ⟨rfl, rfl⟩
    · have hy := hst.half hbl hne
      simp only [halfMom] at hy
      go_upto_region 5 with fail
      go_cut [] (fun wx => St w x [.int .i64 at', .pointer (some ⟨xl, 0, none⟩), .pointer pr, .int .i64 r0, .int .i64 r1, .int .i64 r2, .int .i64 0, .int .i64 0, .int .i64 0, .int .i64 0, .int .i64 0, .int .i64 0, .int .i64 0, .int .i64 0, .int .i64 0, .int .i64 at', .int .i64 at', .int .i64 r0, .int .i64 r1, .int .i64 r2, .int .u64 5, .int .i64 7, .int .i64 r0, .int .i64 r1, .int .i64 r2, .int .i64 0, .int .i64 0, .int .i64 0, .int .i64 0, .int .i64 0, .int .i64 0, .int .i64 0, .int .i64 0, .int .i64 0, .int .i64 0, .int .i64 0, .int .i64 0, .bool true, .bool true, .int .i64 gains, .int .i64 gains, .slice none 0 0, .slice none 0 0] w.heap.size bl bh [.int .i64 (wrap64 (ls0 + r0)), .int .i64 (wrap64 (ls1 + r1)), .int .i64 (wrap64 (ls2 + r2))] [.int .i64 (r0), .int .i64 (r1), .int .i64 (r2)] [.int .i64 (r0), .int .i64 (r1), .int .i64 (r2)] wx)
      case first =>
        go_region_with ((go_at_call 14; refine (add_any _ _ _ _ _ _ _).mono ?_; rintro e w1 ⟨rfl, hb1⟩; have hst1 := hst.drew.below hb1; obtain ⟨⟨hm1, fm1⟩, ⟨hs1, fs1⟩, ⟨hl1, fl1⟩, ⟨hh1, fh1⟩⟩ := hst1.facts))
        all_goals (go_wp2_with fail; go_meet)
        all_goals exact ((hst1.setS 0 _).setS 1 _).setS 2 _
      case rest =>
      clear hm fm hs fs hl fl hh fh hy
      have hst := hcut
      clear hcut
      obtain ⟨⟨hm, fm⟩, ⟨hs, fs⟩, ⟨hl, fl⟩, ⟨hh, fh⟩⟩ := hst.facts
      have hy := hst.half hbl hne
      simp only [halfMom] at hy
      go_upto_region 7 with fail
      go_cut [] (fun wx => St w x [.int .i64 at', .pointer (some ⟨xl, 0, none⟩), .pointer pr, .int .i64 r0, .int .i64 r1, .int .i64 r2, .int .i64 0, .int .i64 0, .int .i64 0, .int .i64 0, .int .i64 0, .int .i64 0, .int .i64 0, .int .i64 0, .int .i64 0, .int .i64 lf, .int .i64 at', .int .i64 r0, .int .i64 r1, .int .i64 r2, .int .u64 5, .int .i64 7, .int .i64 r0, .int .i64 r1, .int .i64 r2, .int .i64 0, .int .i64 0, .int .i64 0, .int .i64 0, .int .i64 0, .int .i64 0, .int .i64 0, .int .i64 0, .int .i64 0, .int .i64 0, .int .i64 0, .int .i64 0, .bool true, .bool true, .int .i64 gains, .int .i64 (wrap64 (gains + lg)), .slice none 0 0, .slice none 0 0] w.heap.size bl bh [.int .i64 (wrap64 (ls0 + r0)), .int .i64 (wrap64 (ls1 + r1)), .int .i64 (wrap64 (ls2 + r2))] [.int .i64 (r0), .int .i64 (r1), .int .i64 (r2)] [.int .i64 (r0), .int .i64 (r1), .int .i64 (r2)] wx)
      case first =>
        go_region
        all_goals (go_wp2_with fail; go_meet)
        all_goals exact ((hst.setM 15 _).setM 40 _).drew
      case rest =>
      clear hm fm hs fs hl fl hh fh hy
      have hst := hcut
      clear hcut
      obtain ⟨⟨hm, fm⟩, ⟨hs, fs⟩, ⟨hl, fl⟩, ⟨hh, fh⟩⟩ := hst.facts
      have hy := hst.half hbl hne
      simp only [halfMom] at hy
      go_upto_region 8 with fail
      go_cut [] (fun wx => St w x [.int .i64 at', .pointer (some ⟨xl, 0, none⟩), .pointer pr, .int .i64 r0, .int .i64 r1, .int .i64 r2, .int .i64 0, .int .i64 0, .int .i64 0, .int .i64 0, .int .i64 0, .int .i64 0, .int .i64 0, .int .i64 0, .int .i64 0, .int .i64 lf, .int .i64 at', .int .i64 r0, .int .i64 r1, .int .i64 r2, .int .u64 5, .int .i64 7, .int .i64 r0, .int .i64 r1, .int .i64 r2, .int .i64 0, .int .i64 0, .int .i64 0, .int .i64 0, .int .i64 0, .int .i64 0, .int .i64 0, .int .i64 0, .int .i64 0, .int .i64 0, .int .i64 0, .int .i64 0, .bool true, .bool true, .int .i64 gains, .int .i64 (wrap64 (gains + lg)), .slice none 0 0, .slice none 0 0] w.heap.size bl bh [.int .i64 (wrap64 (ls0 + r0)), .int .i64 (wrap64 (ls1 + r1)), .int .i64 (wrap64 (ls2 + r2))] [.int .i64 (min lw0 (wrap64 (ls0 + r0))), .int .i64 (min lw1 (wrap64 (ls1 + r1))), .int .i64 (min lw2 (wrap64 (ls2 + r2)))] [.int .i64 (r0), .int .i64 (r1), .int .i64 (r2)] wx)
      case first =>
        go_region_with ((go_at_call 15; refine (min_any _ _ _ _ _ _ _).mono ?_; rintro e w1 ⟨rfl, hb1⟩; have hst1 := hst.drew.below hb1; obtain ⟨⟨hm1, fm1⟩, ⟨hs1, fs1⟩, ⟨hl1, fl1⟩, ⟨hh1, fh1⟩⟩ := hst1.facts))
        all_goals (go_wp2_with fail; go_meet)
        all_goals exact ((hst1.setL 0 _).setL 1 _).setL 2 _
      case rest =>
      clear hm fm hs fs hl fl hh fh hy
      have hst := hcut
      clear hcut
      obtain ⟨⟨hm, fm⟩, ⟨hs, fs⟩, ⟨hl, fl⟩, ⟨hh, fh⟩⟩ := hst.facts
      have hy := hst.half hbl hne
      simp only [halfMom] at hy
      go_upto_region 9 with fail
      go_region_with ((go_at_call 16; refine (max_any _ _ _ _ _ _ _).mono ?_; rintro e w1 ⟨rfl, hb1⟩; have hst1 := hst.drew.below hb1; obtain ⟨⟨hm1, fm1⟩, ⟨hs1, fs1⟩, ⟨hl1, fl1⟩, ⟨hh1, fh1⟩⟩ := hst1.facts))
      all_goals (go_wp2_with fail; go_meet)
      all_goals exact ((hst1.setH 0 _).setH 1 _).setH 2 _
    · go_wp2_with fail
      go_meet
      exact hst
  case rest =>
  clear hm fm hs fs hl fl hh fh hneq HPL
  have hst := hcut
  clear hcut
  obtain ⟨⟨hm, fm⟩, ⟨hs, fs⟩, ⟨hl, fl⟩, ⟨hh, fh⟩⟩ := hst.facts
  have hneq := fun w => run_neq_pointer_nil (P := Yba.prog) w 35 pr Yba.underlying35
  go_upto_if 81 with fail
  go_cut [6] (fun _ wx => St w x [.int .i64 at', .pointer pl, .pointer pr, .int .i64 r0, .int .i64 r1, .int .i64 r2, .int .i64 0, .int .i64 0, .int .i64 0, .int .i64 0, .int .i64 0, .int .i64 0, .int .i64 0, .int .i64 0, .int .i64 0, .int .i64 (pick hL lf at'), .int .i64 (pick hR rl at'), .int .i64 r0, .int .i64 r1, .int .i64 r2, .int .u64 5, .int .i64 7, .int .i64 r0, .int .i64 r1, .int .i64 r2, .int .i64 0, .int .i64 0, .int .i64 0, .int .i64 0, .int .i64 0, .int .i64 0, .int .i64 0, .int .i64 0, .int .i64 0, .int .i64 0, .int .i64 0, .int .i64 0, .bool true, .bool true, .int .i64 gains, .int .i64 (gi hR (gi hL gains lg) rg), .slice none 0 0, .slice none 0 0] w.heap.size bl bh [.int .i64 (gi hR (ow hL ls0 r0) rs0), .int .i64 (gi hR (ow hL ls1 r1) rs1), .int .i64 (gi hR (ow hL ls2 r2) rs2)] [.int .i64 (lo2 hR (lo1 hL lw0 ls0 r0) (ow hL ls0 r0) rw0), .int .i64 (lo2 hR (lo1 hL lw1 ls1 r1) (ow hL ls1 r1) rw1), .int .i64 (lo2 hR (lo1 hL lw2 ls2 r2) (ow hL ls2 r2) rw2)] [.int .i64 (hi2 hR (hi1 hL lh0 ls0 r0) (ow hL ls0 r0) rh0), .int .i64 (hi2 hR (hi1 hL lh1 ls1 r1) (ow hL ls1 r1) rh1), .int .i64 (hi2 hR (hi1 hL lh2 ls2 r2) (ow hL ls2 r2) rh2)] wx)
  case first =>
    rcases HPR.out with ⟨rfl, rfl, hne, hbl⟩ | ⟨rfl, rfl⟩
    · have hy := hst.half hbl hne
      simp only [halfMom] at hy
      go_upto_region 12 with fail
      go_cut [] (fun wx => St w x [.int .i64 at', .pointer pl, .pointer (some ⟨xr, 0, none⟩), .int .i64 r0, .int .i64 r1, .int .i64 r2, .int .i64 0, .int .i64 0, .int .i64 0, .int .i64 0, .int .i64 0, .int .i64 0, .int .i64 0, .int .i64 0, .int .i64 0, .int .i64 (pick hL lf at'), .int .i64 at', .int .i64 r0, .int .i64 r1, .int .i64 r2, .int .u64 5, .int .i64 7, .int .i64 r0, .int .i64 r1, .int .i64 r2, .int .i64 0, .int .i64 0, .int .i64 0, .int .i64 0, .int .i64 0, .int .i64 0, .int .i64 0, .int .i64 0, .int .i64 0, .int .i64 0, .int .i64 0, .int .i64 0, .bool true, .bool true, .int .i64 gains, .int .i64 (gi hL gains lg), .slice none 0 0, .slice none 0 0] w.heap.size bl bh [.int .i64 (ow hL ls0 r0), .int .i64 (ow hL ls1 r1), .int .i64 (ow hL ls2 r2)] [.int .i64 (min (lo1 hL lw0 ls0 r0) (wrap64 (ow hL ls0 r0 + rw0))), .int .i64 (min (lo1 hL lw1 ls1 r1) (wrap64 (ow hL ls1 r1 + rw1))), .int .i64 (min (lo1 hL lw2 ls2 r2) (wrap64 (ow hL ls2 r2 + rw2)))] [.int .i64 (hi1 hL lh0 ls0 r0), .int .i64 (hi1 hL lh1 ls1 r1), .int .i64 (hi1 hL lh2 ls2 r2)] wx)
      case first =>
        go_region_with (first | (go_at_call 14; refine (add_any _ _ _ _ _ _ _).mono ?_; rintro e w1 ⟨rfl, hb1⟩; have hst1 := hst.drew.below hb1; obtain ⟨⟨hm1, fm1⟩, ⟨hs1, fs1⟩, ⟨hl1, fl1⟩, ⟨hh1, fh1⟩⟩ := hst1.facts) | (go_at_call 15; refine (min_any _ _ _ _ _ _ _).mono ?_; rintro e w2 ⟨rfl, hb2⟩; have hst2 := hst1.below hb2; obtain ⟨⟨hm2, fm2⟩, ⟨hs2, fs2⟩, ⟨hl2, fl2⟩, ⟨hh2, fh2⟩⟩ := hst2.facts))
        all_goals (go_wp2_with fail; go_meet)
        all_goals exact ((hst2.setL 0 _).setL 1 _).setL 2 _
      case rest =>
      clear hm fm hs fs hl fl hh fh hy
      have hst := hcut
      clear hcut
      obtain ⟨⟨hm, fm⟩, ⟨hs, fs⟩, ⟨hl, fl⟩, ⟨hh, fh⟩⟩ := hst.facts
      have hy := hst.half hbl hne
      simp only [halfMom] at hy
      go_upto_region 13 with fail
      go_cut [] (fun wx => St w x [.int .i64 at', .pointer pl, .pointer (some ⟨xr, 0, none⟩), .int .i64 r0, .int .i64 r1, .int .i64 r2, .int .i64 0, .int .i64 0, .int .i64 0, .int .i64 0, .int .i64 0, .int .i64 0, .int .i64 0, .int .i64 0, .int .i64 0, .int .i64 (pick hL lf at'), .int .i64 at', .int .i64 r0, .int .i64 r1, .int .i64 r2, .int .u64 5, .int .i64 7, .int .i64 r0, .int .i64 r1, .int .i64 r2, .int .i64 0, .int .i64 0, .int .i64 0, .int .i64 0, .int .i64 0, .int .i64 0, .int .i64 0, .int .i64 0, .int .i64 0, .int .i64 0, .int .i64 0, .int .i64 0, .bool true, .bool true, .int .i64 gains, .int .i64 (gi hL gains lg), .slice none 0 0, .slice none 0 0] w.heap.size bl bh [.int .i64 (ow hL ls0 r0), .int .i64 (ow hL ls1 r1), .int .i64 (ow hL ls2 r2)] [.int .i64 (min (lo1 hL lw0 ls0 r0) (wrap64 (ow hL ls0 r0 + rw0))), .int .i64 (min (lo1 hL lw1 ls1 r1) (wrap64 (ow hL ls1 r1 + rw1))), .int .i64 (min (lo1 hL lw2 ls2 r2) (wrap64 (ow hL ls2 r2 + rw2)))] [.int .i64 (max (hi1 hL lh0 ls0 r0) (wrap64 (ow hL ls0 r0 + rh0))), .int .i64 (max (hi1 hL lh1 ls1 r1) (wrap64 (ow hL ls1 r1 + rh1))), .int .i64 (max (hi1 hL lh2 ls2 r2) (wrap64 (ow hL ls2 r2 + rh2)))] wx)
      case first =>
        go_region_with (first | (go_at_call 14; refine (add_any _ _ _ _ _ _ _).mono ?_; rintro e w1 ⟨rfl, hb1⟩; have hst1 := hst.drew.below hb1; obtain ⟨⟨hm1, fm1⟩, ⟨hs1, fs1⟩, ⟨hl1, fl1⟩, ⟨hh1, fh1⟩⟩ := hst1.facts) | (go_at_call 16; refine (max_any _ _ _ _ _ _ _).mono ?_; rintro e w2 ⟨rfl, hb2⟩; have hst2 := hst1.below hb2; obtain ⟨⟨hm2, fm2⟩, ⟨hs2, fs2⟩, ⟨hl2, fl2⟩, ⟨hh2, fh2⟩⟩ := hst2.facts))
        all_goals (go_wp2_with fail; go_meet)
        all_goals exact ((hst2.setH 0 _).setH 1 _).setH 2 _
      case rest =>
      clear hm fm hs fs hl fl hh fh hy
      have hst := hcut
      clear hcut
      obtain ⟨⟨hm, fm⟩, ⟨hs, fs⟩, ⟨hl, fl⟩, ⟨hh, fh⟩⟩ := hst.facts
      have hy := hst.half hbl hne
      simp only [halfMom] at hy
      go_upto_region 14 with fail
      go_cut [] (fun wx => St w x [.int .i64 at', .pointer pl, .pointer (some ⟨xr, 0, none⟩), .int .i64 r0, .int .i64 r1, .int .i64 r2, .int .i64 0, .int .i64 0, .int .i64 0, .int .i64 0, .int .i64 0, .int .i64 0, .int .i64 0, .int .i64 0, .int .i64 0, .int .i64 (pick hL lf at'), .int .i64 at', .int .i64 r0, .int .i64 r1, .int .i64 r2, .int .u64 5, .int .i64 7, .int .i64 r0, .int .i64 r1, .int .i64 r2, .int .i64 0, .int .i64 0, .int .i64 0, .int .i64 0, .int .i64 0, .int .i64 0, .int .i64 0, .int .i64 0, .int .i64 0, .int .i64 0, .int .i64 0, .int .i64 0, .bool true, .bool true, .int .i64 gains, .int .i64 (gi hL gains lg), .slice none 0 0, .slice none 0 0] w.heap.size bl bh [.int .i64 (wrap64 (ow hL ls0 r0 + rs0)), .int .i64 (wrap64 (ow hL ls1 r1 + rs1)), .int .i64 (wrap64 (ow hL ls2 r2 + rs2))] [.int .i64 (min (lo1 hL lw0 ls0 r0) (wrap64 (ow hL ls0 r0 + rw0))), .int .i64 (min (lo1 hL lw1 ls1 r1) (wrap64 (ow hL ls1 r1 + rw1))), .int .i64 (min (lo1 hL lw2 ls2 r2) (wrap64 (ow hL ls2 r2 + rw2)))] [.int .i64 (max (hi1 hL lh0 ls0 r0) (wrap64 (ow hL ls0 r0 + rh0))), .int .i64 (max (hi1 hL lh1 ls1 r1) (wrap64 (ow hL ls1 r1 + rh1))), .int .i64 (max (hi1 hL lh2 ls2 r2) (wrap64 (ow hL ls2 r2 + rh2)))] wx)
      case first =>
        go_region_with ((go_at_call 14; refine (add_any _ _ _ _ _ _ _).mono ?_; rintro e w1 ⟨rfl, hb1⟩; have hst1 := hst.drew.below hb1; obtain ⟨⟨hm1, fm1⟩, ⟨hs1, fs1⟩, ⟨hl1, fl1⟩, ⟨hh1, fh1⟩⟩ := hst1.facts))
        all_goals (go_wp2_with fail; go_meet)
        all_goals exact ((hst1.setS 0 _).setS 1 _).setS 2 _
      case rest =>
      clear hm fm hs fs hl fl hh fh hy
      have hst := hcut
      clear hcut
      obtain ⟨⟨hm, fm⟩, ⟨hs, fs⟩, ⟨hl, fl⟩, ⟨hh, fh⟩⟩ := hst.facts
      have hy := hst.half hbl hne
      simp only [halfMom] at hy
      go_upto_region 16 with fail
      go_region
      all_goals (go_wp2_with fail; go_meet)
      all_goals exact ((hst.setM 16 _).setM 40 _).drew
    · go_wp2_with fail
      go_meet
      exact hst
  case rest =>
  clear hm fm hs fs hl fl hh fh hneq HPR
  have hst := hcut
  clear hcut
  obtain ⟨⟨hm, fm⟩, ⟨hs, fs⟩, ⟨hl, fl⟩, ⟨hh, fh⟩⟩ := hst.facts
  go_upto_region 17 with fail
  go_region
  all_goals go_wp2
  all_goals go_end0
  all_goals exact fin (((((((((((hst.setM 6 _).setM 7 _).setM 8 _).setM 9 _).setM 10 _).setM 11 _).setM 12 _).setM 13 _).setM 14 _).setM 37 _).setM 38 _).drew
end Go.Proofs.Ybulkbulm.Pu
