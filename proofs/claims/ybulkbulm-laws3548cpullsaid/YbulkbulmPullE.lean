import Derived.Test.YbulkbulmPullD
import Derived.Deep.OwnRows
import Derived.LaidEqlPtr
namespace Go.Proofs.Ybulkbulm.Pu
open Go.RowKit
attribute [local go_sem ↓] Go.wp_at_zero Go.wp_at_succ

/-- What a half's pointer is. -/
def HalfAt (w : World) (b : Bool) (p : Option Addr) (C : List Value) : Prop := (b = true ∧ ∃ x, p = some ⟨x, 0, none⟩ ∧ Blk w x 44 C) ∨ (b = false ∧ p = none)

theorem HalfAt.below {w w' : World} {N : Nat} {b : Bool} {p : Option Addr} {C : List Value} (h : HalfAt w b p C) (hb : Below N w w') (hN : w.heap.size ≤ N) : HalfAt w' b p C := by
  rcases h with ⟨rfl, x, rfl, h⟩ | h
  · exact .inl ⟨rfl, x, rfl, h.below hb (Nat.lt_of_lt_of_le h.lt hN)⟩
  · exact .inr h

theorem chalf_any (b : Bool) (f l g s0 s1 s2 l0 l1 l2 h0 h1 h2 : Int) (w : World) :
    Calls Yba.prog 9 #[.agg #[.bool b, .int .i64 f, .int .i64 l, .int .i64 g, .int .i64 s0, .int .i64 s1, .int .i64 s2, .int .i64 l0, .int .i64 l1, .int .i64 l2, .int .i64 h0, .int .i64 h1, .int .i64 h2]] w
      fun e w' => ∃ p, e = .returned (.pointer p) ∧ Below w.heap.size w w' ∧ HalfAt w' b p (halfMom f l g s0 s1 s2 l0 l1 l2 h0 h1 h2) ∧ ∀ x, p = some ⟨x, 0, none⟩ → w.heap.size ≤ x := by
  cases b with
  | false =>
    refine (chalf_no f l g s0 s1 s2 l0 l1 l2 h0 h1 h2 w).mono ?_
    rintro e w' ⟨rfl, hb⟩
    exact ⟨none, rfl, hb, .inr ⟨rfl, rfl⟩, fun x h => by cases h⟩
  | true =>
    refine (chalf_yes f l g s0 s1 s2 l0 l1 l2 h0 h1 h2 w).mono ?_
    rintro e w' ⟨x, rfl, hb, hx, hB⟩
    exact ⟨some ⟨x, 0, none⟩, rfl, hb, .inl ⟨rfl, x, rfl, hB⟩, fun y h => by cases h; exact hx⟩

theorem csame_any (b : Bool) (p : Option Addr) (f l g s0 s1 s2 l0 l1 l2 h0 h1 h2 : Int) (w : World) (h : HalfAt w b p (halfMom f l g s0 s1 s2 l0 l1 l2 h0 h1 h2)) :
    Calls Yba.prog 13 #[.pointer p, .agg #[.bool b, .int .i64 f, .int .i64 l, .int .i64 g, .int .i64 s0, .int .i64 s1, .int .i64 s2, .int .i64 l0, .int .i64 l1, .int .i64 l2, .int .i64 h0, .int .i64 h1, .int .i64 h2]] w fun e w' => e = .returned (.bool true) ∧ Below w.heap.size w w' := by
  rcases h with ⟨rfl, x, rfl, h⟩ | ⟨rfl, rfl⟩
  · exact csame_yes x f l g s0 s1 s2 l0 l1 l2 h0 h1 h2 w h
  · exact csame_no f l g s0 s1 s2 l0 l1 l2 h0 h1 h2 w

theorem info44 : (Yba.prog.info? 44).isSome = true := by kernel_rfl
/-- A pointer is equal to itself. -/
theorem eqlPtr (p : Option Addr) (w : World) : (binOp .eql 35 (.pointer p) (.pointer p)).run Yba.prog w = .ok (.bool true) w := by
  cases p with
  | none => exact run_eql_pointer_nil (P := Yba.prog) w 35 none Yba.underlying35
  | some a =>
    obtain ⟨i, hi⟩ := Option.isSome_iff_exists.1 info44
    exact run_eql_ptr_same (P := Yba.prog) w a Yba.underlying35 hi

end Go.Proofs.Ybulkbulm.Pu
