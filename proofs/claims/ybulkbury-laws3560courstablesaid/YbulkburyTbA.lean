import Derived.Test.YbulkburyDiv
import Derived.Lib.Mul64
namespace Go.Proofs.Ybulkbury.Tb
open Go.RowKit

theorem divN (a : Nat) : (a : Int) / 4294967296 = ((a / 4294967296 : Nat) : Int) := by omega
theorem mulN (a b : Nat) : (a : Int) * (b : Int) = ((a * b : Nat) : Int) := (Int.natCast_mul a b).symm
theorem addN (a b : Nat) : (a : Int) + (b : Int) = ((a + b : Nat) : Int) := (Int.natCast_add a b).symm
theorem wrapN (a : Nat) (ha : a < 18446744073709551616) : IntKind.u64.wrap (a : Int) = (a : Int) := by rw [IntKind.wrap_u64]; omega
theorem wrapM (a : Nat) : IntKind.u64.wrap (a : Int) = ((a % 18446744073709551616 : Nat) : Int) := by rw [IntKind.wrap_u64]; omega

set_option maxHeartbeats 1000000 in
theorem mul64_any (x y : Nat) (hx : x < 18446744073709551616) (hy : y < 18446744073709551616) (w : World) :
    Calls Yba.prog 23 #[.int .u64 x, .int .u64 y] w fun e w' => ∃ h l : Nat, e = .returned (.tuple #[.int .u64 h, .int .u64 l]) ∧ h = x * y / 18446744073709551616 ∧ l = x * y % 18446744073709551616 ∧ w' = w := by
  obtain ⟨bd, bt, bw, hhi⟩ := Lib.mul64_hi x y hx hy
  have ba := Lib.half_mul_le (a := x / 4294967296) (b := y / 4294967296) (by omega) (by omega)
  have bb := Lib.half_mul_le (a := x / 4294967296) (b := y % 4294967296) (by omega) (by omega)
  have bc := Lib.half_mul_le (a := x % 4294967296) (b := y / 4294967296) (by omega) (by omega)
  have ba' : x / 4294967296 * (y / 4294967296) < 18446744073709551616 := by omega
  have bb' : x / 4294967296 * (y % 4294967296) < 18446744073709551616 := by omega
  have bc' : x % 4294967296 * (y / 4294967296) < 18446744073709551616 := by omega
  have bh1 : x / 4294967296 * (y / 4294967296) + (x / 4294967296 * (y % 4294967296) + x % 4294967296 * (y % 4294967296) / 4294967296) / 4294967296 < 18446744073709551616 := by omega
  have bh : x / 4294967296 * (y / 4294967296) + (x / 4294967296 * (y % 4294967296) + x % 4294967296 * (y % 4294967296) / 4294967296) / 4294967296 + ((x / 4294967296 * (y % 4294967296) + x % 4294967296 * (y % 4294967296) / 4294967296) % 4294967296 + x % 4294967296 * (y / 4294967296)) / 4294967296 < 18446744073709551616 := by omega
  go_enter Yba.func23, Yba.ntmps23
  go_wp2
  simp only [maskN x hx, maskN y hy, divN, mulN, addN, wrapN _ bd, wrapN _ bb', wrapN _ bt, maskN _ bt, wrapN _ bc', wrapN _ bw, wrapN _ ba', wrapN _ bh1, wrapN _ bh, wrapM (x * y)]
  rw [hhi]
  go_ret2
  exact ⟨_, _, rfl, rfl, rfl, rfl⟩

/-- The product of two chances, rounded down; a part of one. -/
def mulC (a b : Nat) : Nat := a * b / 9223372036854775808
def scC (n d : Nat) : Nat := 9223372036854775808 * n / d
theorem mulC_le (a b : Nat) (hb : b ≤ 9223372036854775808) : mulC a b ≤ a := by
  have h := Nat.mul_le_mul_left a hb
  exact Nat.le_trans (Nat.div_le_div_right h) (Nat.le_of_eq (Nat.mul_div_cancel a (by omega)))
theorem mulC_comm (a b : Nat) : mulC a b = mulC b a := by unfold mulC; rw [Nat.mul_comm]
theorem mulC_zero (a : Nat) : mulC a 0 = 0 := by unfold mulC; rw [Nat.mul_zero]
theorem mulC_one (c : Nat) : mulC 9223372036854775808 c = c := by unfold mulC; exact Nat.mul_div_cancel_left c (by omega)
theorem scC_le {n d : Nat} (h : n ≤ d) (h0 : 0 < d) : scC n d ≤ 9223372036854775808 := by
  have h1 := Nat.mul_le_mul_left 9223372036854775808 h
  exact Nat.le_trans (Nat.div_le_div_right h1) (Nat.le_of_eq (Nat.mul_div_cancel _ h0))

theorem wide_bounds {a n d h : Nat} (ha : a ≤ 9223372036854775808) (h0 : 0 < d) (hn : n ≤ d) (hh : h = a * n / 18446744073709551616) : h < d := by
  rw [hh, Nat.div_lt_iff_lt_mul (by omega)]
  have h1 := Nat.mul_le_mul ha hn
  omega
theorem wide_back {a n h l : Nat} (hh : h = a * n / 18446744073709551616) (hl : l = a * n % 18446744073709551616) : h * 18446744073709551616 + l = a * n := by
  rw [hh, hl]
  exact Nat.div_add_mod' _ _
theorem shl_or {a b h l : Nat} (ha : a ≤ 9223372036854775808) (hb : b ≤ 9223372036854775808) (hh : h = a * b / 18446744073709551616) (hl : l = a * b % 18446744073709551616) :
    h ≤ 4611686018427387904 ∧ l < 18446744073709551616 ∧ bits .or .u64 ((h : Int) * 2) ((l : Int) / 9223372036854775808) = ((mulC a b : Nat) : Int) := by
  have h1 : a * b ≤ 85070591730234615865843651857942052864 := Nat.mul_le_mul ha hb
  have hm : mulC a b = h * 2 + l / 9223372036854775808 := by
    unfold mulC
    generalize a * b = X at *
    omega
  have h2 : h ≤ 4611686018427387904 := by
    generalize a * b = X at *
    omega
  have h3 : l < 18446744073709551616 := by
    generalize a * b = X at *
    omega
  refine ⟨h2, h3, ?_⟩
  have ho := orN h 1 (l / 9223372036854775808) (by omega) (by omega) (by omega)
  rw [hm]
  have e1 : ((h * 2 ^ 1 : Nat) : Int) = (h : Int) * 2 := by omega
  have e2 : ((l / 9223372036854775808 : Nat) : Int) = (l : Int) / 9223372036854775808 := by omega
  rw [e1, e2] at ho
  rw [ho]

theorem scale_val {c n d h l : Nat} (hc : c = 9223372036854775808) (hw : h * 18446744073709551616 + l = c * n) : ((scC n d : Nat) : Int) = ((h : Int) * 18446744073709551616 + (l : Int)) / (d : Int) := by
  unfold scC
  rw [← hc, ← hw, Int.natCast_ediv]
  congr 1
set_option maxHeartbeats 1000000 in
theorem mul_any (a b : Nat) (ha : a ≤ 9223372036854775808) (hb : b ≤ 9223372036854775808) (w : World) :
    Calls Yba.prog 18 #[.int .u64 a, .int .u64 b] w fun e w' => e = .returned (.int .u64 (mulC a b)) ∧ w' = w := by
  go_enter Yba.func18, Yba.ntmps18
  go_wp2_with (go_at_call 23; refine (mul64_any a b (by omega) (by omega) _).mono ?_; rintro e w1 ⟨h, l, rfl, hh, hl, rfl⟩; obtain ⟨b1, b2, hor⟩ := shl_or ha hb hh hl; clear hh hl)
  go_ret
  exact ⟨rfl, rfl⟩
set_option maxHeartbeats 1000000 in
theorem scale_any (n d : Nat) (h : n ≤ d) (h0 : 0 < d) (hd : d < 18446744073709551616) (w : World) :
    Calls Yba.prog 15 #[.int .u64 9223372036854775808, .int .u64 n, .int .u64 d] w fun e w' => e = .returned (.int .u64 (scC n d)) ∧ Below w.heap.size w w' := by
  obtain ⟨c, hc⟩ : ∃ c : Nat, c = 9223372036854775808 := ⟨_, rfl⟩
  have hc' : (9223372036854775808 : Int) = (c : Int) := by omega
  rw [hc']
  have HC := (show Hid _ from hc)
  have hcl : c ≤ 9223372036854775808 := by omega
  clear hc hc'
  go_enter Yba.func15, Yba.ntmps15
  go_wp2_with (first
    | (go_at_call 23; refine (mul64_any c n (by omega) (by omega) _).mono ?_; rintro e w1 ⟨hh, l, rfl, hh1, hl1, rfl⟩; have HW := (show Hid _ from wide_back hh1 hl1); have hb1 := wide_bounds hcl h0 h hh1; have hb2 : l < 18446744073709551616 := (by rw [hl1]; exact Nat.mod_lt _ (by omega)); clear hh1 hl1)
    | (go_at_call 24; refine (div64_any hh l d hb2 hd hb1 _).mono ?_; rintro e w2 ⟨r, rfl, hb3⟩))
  go_ret
  refine ⟨?_, hb3⟩
  rw [scale_val HC.out HW.out]
  rfl

set_option maxHeartbeats 1000000 in
theorem chance_any (n d : Nat) (h : n ≤ d) (h0 : 0 < d) (hd : d < 18446744073709551616) (w : World) :
    Calls Yba.prog 19 #[.int .u64 n, .int .u64 d] w fun e w' => e = .returned (.int .u64 (scC n d)) ∧ Below w.heap.size w w' := by
  obtain ⟨c, hc⟩ : ∃ c : Nat, c = 9223372036854775808 := ⟨_, rfl⟩
  have hc' : (9223372036854775808 : Int) = (c : Int) := by omega
  have HC := (show Hid _ from hc)
  have hcl : c ≤ 9223372036854775808 := by omega
  clear hc
  have m64 : ∀ w, Calls Yba.prog 23 #[.int .u64 9223372036854775808, .int .u64 n] w fun e w' => ∃ h l : Nat, e = .returned (.tuple #[.int .u64 h, .int .u64 l]) ∧ h = c * n / 18446744073709551616 ∧ l = c * n % 18446744073709551616 ∧ w' = w := by
    intro w
    rw [hc']
    exact mul64_any c n (by omega) (by omega) w
  clear hc'
  go_enter Yba.func19, Yba.ntmps19
  go_wp2_with (first
    | (go_at_call 23; refine (m64 _).mono ?_; rintro e w1 ⟨hh, l, rfl, hh1, hl1, rfl⟩; have HW := (show Hid _ from wide_back hh1 hl1); have hb1 := wide_bounds hcl h0 h hh1; have hb2 : l < 18446744073709551616 := (by rw [hl1]; exact Nat.mod_lt _ (by omega)); clear hh1 hl1)
    | (go_at_call 24; refine (div64_any hh l d hb2 hd hb1 _).mono ?_; rintro e w2 ⟨r, rfl, hb3⟩))
  go_ret
  refine ⟨?_, hb3⟩
  rw [scale_val HC.out HW.out]
  rfl
end Go.Proofs.Ybulkbury.Tb
