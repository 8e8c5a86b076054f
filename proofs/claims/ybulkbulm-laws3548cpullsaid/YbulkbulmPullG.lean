import Derived.Test.YbulkbulmRows
import Derived.ProofKit
import Derived.OpenShut
import Derived.ShutString
namespace Go.Proofs.Ybulkbulm.Pu
open Go.ChangeShapes Go.WideShapes Go.ChangeAt Go.RowKit

section
variable {H : Type} {enc : TypeId × Value → H} {w : World} {base : Nat} {spare : Nat → Bool} {held : Bool}
theorem arr_shape {r : Reach} {b0 : Nat} {v : Value} (h : Value.okWide Yba.prog w r b0 32 v) : ∃ cs, v = .agg cs := by
  unfold Value.okWide at h
  simp only [Yba.underlying32] at h
  cases v <;> simp_all
/-- Three numbers out of an array's cells. -/
theorem arr_cells {fuel : Nat} {cs : List Value} {x : DataW H × List MemPlace} (h : DataW.trod enc Yba.prog w base spare held fuel 32 cs = some x) : ∃ a b c, cs = [.int .i64 a, .int .i64 b, .int .i64 c] := by
  obtain ⟨xs, m, rfl, _, hl, hn, hx⟩ := DataW.trod_array Yba.underlying32 h
  have c2 : Yba.prog.cellsOf 2 = 1 := by kernel_rfl
  have c32 : Yba.prog.cellsOf 32 = 3 := by kernel_rfl
  rw [c32] at hl
  rw [c2] at hx
  match cs, hl with
  | [u0, u1, u2], _ =>
    have g : ∀ (u : Value) (o : Option (DataW H × List MemPlace)), o.isSome = true → DataW.trod enc Yba.prog w base spare held m 2 [u] = o → ∃ n, u = .int .i64 n := by
      intro u o ho e
      obtain ⟨y, rfl⟩ := Option.isSome_iff_exists.1 ho
      obtain ⟨n, e1, _⟩ := DataW.trod_int Yba.underlying2 e
      exact ⟨n, by simpa using e1⟩
    obtain ⟨a, rfl⟩ := g u0 _ (by simp [hn]) (hx 0 (by omega))
    obtain ⟨b, rfl⟩ := g u1 _ (by simp [hn]) (hx 1 (by omega))
    obtain ⟨c, rfl⟩ := g u2 _ (by simp [hn]) (hx 2 (by omega))
    exact ⟨a, b, c, rfl⟩
/-- A half's cells. -/
theorem half_cells {fuel : Nat} {cs : List Value} {x : DataW H × List MemPlace} (h : DataW.trod enc Yba.prog w base spare held fuel 34 cs = some x) :
    ∃ (b : Bool) (f l g s0 s1 s2 l0 l1 l2 h0 h1 h2 : Int), cs = [.bool b, .int .i64 f, .int .i64 l, .int .i64 g, .int .i64 s0, .int .i64 s1, .int .i64 s2, .int .i64 l0, .int .i64 l1, .int .i64 l2, .int .i64 h0, .int .i64 h1, .int .i64 h2] := by
  obtain ⟨xs, m, rfl, _, hl, hn, hx⟩ := DataW.trod_struct Yba.underlying34 h
  have c2 : Yba.prog.cellsOf 2 = 1 := by kernel_rfl
  have c3 : Yba.prog.cellsOf 3 = 1 := by kernel_rfl
  have c4 : Yba.prog.cellsOf 4 = 1 := by kernel_rfl
  have c32 : Yba.prog.cellsOf 32 = 3 := by kernel_rfl
  have c34 : Yba.prog.cellsOf 34 = 13 := by kernel_rfl
  rw [c34] at hl
  have hn7 : xs.length = 7 := hn
  match cs, hl with
  | [u0, u1, u2, u3, u4, u5, u6, u7, u8, u9, u10, u11, u12], _ =>
    have some_of : ∀ i, i < 7 → ∃ y, xs[i]? = some y := fun i hi => ⟨xs[i]'(by omega), List.getElem?_eq_getElem _⟩
    have e0 : DataW.trod enc Yba.prog w base spare held m 4 [u0] = xs[0]? := by
      have e := hx 0 _ rfl
      rw [← e]
      show _ = DataW.trod enc Yba.prog w base spare held m 4 (List.take (Yba.prog.cellsOf 4) _)
      rw [c4]
      rfl
    have e1 : DataW.trod enc Yba.prog w base spare held m 2 [u1] = xs[1]? := by
      have e := hx 1 _ rfl
      rw [← e]
      show _ = DataW.trod enc Yba.prog w base spare held m 2 (List.take (Yba.prog.cellsOf 2) _)
      rw [c2]
      rfl
    have e2 : DataW.trod enc Yba.prog w base spare held m 2 [u2] = xs[2]? := by
      have e := hx 2 _ rfl
      rw [← e]
      show _ = DataW.trod enc Yba.prog w base spare held m 2 (List.take (Yba.prog.cellsOf 2) _)
      rw [c2]
      rfl
    have e3 : DataW.trod enc Yba.prog w base spare held m 3 [u3] = xs[3]? := by
      have e := hx 3 _ rfl
      rw [← e]
      show _ = DataW.trod enc Yba.prog w base spare held m 3 (List.take (Yba.prog.cellsOf 3) _)
      rw [c3]
      rfl
    have e4 : DataW.trod enc Yba.prog w base spare held m 32 [u4, u5, u6] = xs[4]? := by
      have e := hx 4 _ rfl
      rw [← e]
      show _ = DataW.trod enc Yba.prog w base spare held m 32 (List.take (Yba.prog.cellsOf 32) _)
      rw [c32]
      rfl
    have e5 : DataW.trod enc Yba.prog w base spare held m 32 [u7, u8, u9] = xs[5]? := by
      have e := hx 5 _ rfl
      rw [← e]
      show _ = DataW.trod enc Yba.prog w base spare held m 32 (List.take (Yba.prog.cellsOf 32) _)
      rw [c32]
      rfl
    have e6 : DataW.trod enc Yba.prog w base spare held m 32 [u10, u11, u12] = xs[6]? := by
      have e := hx 6 _ rfl
      rw [← e]
      show _ = DataW.trod enc Yba.prog w base spare held m 32 (List.take (Yba.prog.cellsOf 32) _)
      rw [c32]
      rfl
    obtain ⟨y0, k0⟩ := some_of 0 (by omega)
    obtain ⟨y1, k1⟩ := some_of 1 (by omega)
    obtain ⟨y2, k2⟩ := some_of 2 (by omega)
    obtain ⟨y3, k3⟩ := some_of 3 (by omega)
    obtain ⟨y4, k4⟩ := some_of 4 (by omega)
    obtain ⟨y5, k5⟩ := some_of 5 (by omega)
    obtain ⟨y6, k6⟩ := some_of 6 (by omega)
    rw [k0] at e0
    rw [k1] at e1
    rw [k2] at e2
    rw [k3] at e3
    rw [k4] at e4
    rw [k5] at e5
    rw [k6] at e6
    obtain ⟨b, hb, _⟩ := DataW.trod_bool Yba.underlying4 e0
    obtain ⟨f, hf, _⟩ := DataW.trod_int Yba.underlying2 e1
    obtain ⟨l, hl1, _⟩ := DataW.trod_int Yba.underlying2 e2
    obtain ⟨g, hg, _⟩ := DataW.trod_int Yba.underlying3 e3
    obtain ⟨s0, s1, s2, hs⟩ := arr_cells e4
    obtain ⟨l0, l1, l2, hlo⟩ := arr_cells e5
    obtain ⟨h0, h1, h2, hhi⟩ := arr_cells e6
    simp at hb hf hl1 hg hs hlo hhi
    obtain ⟨rfl, rfl, rfl⟩ := hs
    obtain ⟨rfl, rfl, rfl⟩ := hlo
    obtain ⟨rfl, rfl, rfl⟩ := hhi
    subst hb hf hl1 hg
    exact ⟨b, f, l, g, s0, s1, s2, l0, l1, l2, h0, h1, h2, rfl⟩
/-- An array argument, opened. -/
theorem open_arr3 {b0 : Nat} {r : Reach} {v : Value} {d : DataW H} {p : List MemPlace} (ok : Value.okWide Yba.prog w r b0 32 v) (h : DataW.Trod enc Yba.prog w base spare held 32 v d p) : ∃ a b c, v = .agg #[.int .i64 a, .int .i64 b, .int .i64 c] := by
  obtain ⟨cs, rfl⟩ := arr_shape ok
  obtain ⟨fuel, hf⟩ := h
  obtain ⟨a, b, c, e⟩ := arr_cells hf
  refine ⟨a, b, c, ?_⟩
  congr 1
  exact Array.toList_inj.1 (by simpa [Value.cells] using e)
theorem open_half {b0 : Nat} {r : Reach} {v : Value} {d : DataW H} {p : List MemPlace} (ok : Value.okWide Yba.prog w r b0 34 v) (h : DataW.Trod enc Yba.prog w base spare held 34 v d p) :
    ∃ (b : Bool) (f l g s0 s1 s2 l0 l1 l2 h0 h1 h2 : Int), v = .agg #[.bool b, .int .i64 f, .int .i64 l, .int .i64 g, .int .i64 s0, .int .i64 s1, .int .i64 s2, .int .i64 l0, .int .i64 l1, .int .i64 l2, .int .i64 h0, .int .i64 h1, .int .i64 h2] := by
  obtain ⟨cs, rfl, _⟩ := okWide_struct Yba.underlying34 ok
  obtain ⟨fuel, hf⟩ := h
  obtain ⟨b, f, l, g, s0, s1, s2, l0, l1, l2, h0, h1, h2, e⟩ := half_cells hf
  refine ⟨b, f, l, g, s0, s1, s2, l0, l1, l2, h0, h1, h2, ?_⟩
  congr 1
  exact Array.toList_inj.1 (by simpa [Value.cells] using e)
end
end Go.Proofs.Ybulkbulm.Pu
