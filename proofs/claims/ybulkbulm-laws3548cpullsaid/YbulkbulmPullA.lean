import Derived.Test.YbulkbulmRows
import Derived.WalkKit
import Derived.WalkSmall
import Derived.Lib.MinMax
namespace Go.Proofs.Ybulkbulm.Pu
open Go.RowKit

theorem cres_any (a b c : Int) (w : World) :
    Calls Yba.prog 10 #[.agg #[.int .i64 a, .int .i64 b, .int .i64 c]] w fun e w' => e = .returned (.agg #[.int .i64 a, .int .i64 b, .int .i64 c]) ∧ Below w.heap.size w w' := by
  go_enter Yba.func10, Yba.ntmps10
  go_wp2
  refine bodyPost_ret (v := .agg #[.int .i64 a, .int .i64 b, .int .i64 c]) (by simp [results, Yba.results10, go_sem]) rfl ⟨rfl, ?_⟩
  repeat (first | exact Below.refl _ _ | (refine Below.setCell ?_ (by first | (simp; done) | (simp; omega)) _) | (refine Below.alloc ?_ (by first | (simp; done) | (simp; omega)) _))
theorem carr_any (a b c : Int) (w : World) :
    Calls Yba.prog 12 #[.agg #[.int .i64 a, .int .i64 b, .int .i64 c]] w fun e w' => e = .returned (.agg #[.int .i64 a, .int .i64 b, .int .i64 c]) ∧ Below w.heap.size w w' := by
  go_enter Yba.func12, Yba.ntmps12
  go_wp2
  refine bodyPost_ret (v := .agg #[.int .i64 a, .int .i64 b, .int .i64 c]) (by simp [results, Yba.results12, go_sem]) rfl ⟨rfl, ?_⟩
  repeat (first | exact Below.refl _ _ | (refine Below.setCell ?_ (by first | (simp; done) | (simp; omega)) _) | (refine Below.alloc ?_ (by first | (simp; done) | (simp; omega)) _))
theorem add_any (a b c a' b' c' : Int) (w : World) :
    Calls Yba.prog 14 #[.agg #[.int .i64 a, .int .i64 b, .int .i64 c], .agg #[.int .i64 a', .int .i64 b', .int .i64 c']] w fun e w' => e = .returned (.agg #[.int .i64 (wrap64 (a + a')), .int .i64 (wrap64 (b + b')), .int .i64 (wrap64 (c + c'))]) ∧ Below w.heap.size w w' := by
  go_enter Yba.func14, Yba.ntmps14
  go_wp2
  refine bodyPost_ret (v := .agg #[.int .i64 (wrap64 (a + a')), .int .i64 (wrap64 (b + b')), .int .i64 (wrap64 (c + c'))]) (by simp [results, Yba.results14, go_sem]) rfl ⟨rfl, ?_⟩
  repeat (first | exact Below.refl _ _ | (refine Below.setCell ?_ (by first | (simp; done) | (simp; omega)) _) | (refine Below.alloc ?_ (by first | (simp; done) | (simp; omega)) _))
theorem min_any (a b c a' b' c' : Int) (w : World) :
    Calls Yba.prog 15 #[.agg #[.int .i64 a, .int .i64 b, .int .i64 c], .agg #[.int .i64 a', .int .i64 b', .int .i64 c']] w fun e w' => e = .returned (.agg #[.int .i64 (min a a'), .int .i64 (min b b'), .int .i64 (min c c')]) ∧ Below w.heap.size w w' := by
  go_enter Yba.func15, Yba.ntmps15
  go_wp2
  refine bodyPost_ret (v := .agg #[.int .i64 (min a a'), .int .i64 (min b b'), .int .i64 (min c c')]) (by simp [results, Yba.results15, go_sem]) rfl ⟨rfl, ?_⟩
  repeat (first | exact Below.refl _ _ | (refine Below.setCell ?_ (by first | (simp; done) | (simp; omega)) _) | (refine Below.alloc ?_ (by first | (simp; done) | (simp; omega)) _))
theorem max_any (a b c a' b' c' : Int) (w : World) :
    Calls Yba.prog 16 #[.agg #[.int .i64 a, .int .i64 b, .int .i64 c], .agg #[.int .i64 a', .int .i64 b', .int .i64 c']] w fun e w' => e = .returned (.agg #[.int .i64 (max a a'), .int .i64 (max b b'), .int .i64 (max c c')]) ∧ Below w.heap.size w w' := by
  go_enter Yba.func16, Yba.ntmps16
  go_wp2
  refine bodyPost_ret (v := .agg #[.int .i64 (max a a'), .int .i64 (max b b'), .int .i64 (max c c')]) (by simp [results, Yba.results16, go_sem]) rfl ⟨rfl, ?_⟩
  repeat (first | exact Below.refl _ _ | (refine Below.setCell ?_ (by first | (simp; done) | (simp; omega)) _) | (refine Below.alloc ?_ (by first | (simp; done) | (simp; omega)) _))
end Go.Proofs.Ybulkbulm.Pu
