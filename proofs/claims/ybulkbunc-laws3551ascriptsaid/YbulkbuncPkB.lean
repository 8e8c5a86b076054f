import Derived.Test.YbulkbuncPkA
namespace Go.Proofs.Ybulkbunc.Pk
open Go.RowKit

/-- The least and the most of P's first m values. -/
def Rng (P : Nat → Int) (m : Nat) (lo hi : Int) : Prop := (∀ i, i < m → lo ≤ P i ∧ P i ≤ hi) ∧ (∃ i, i < m ∧ P i = lo) ∧ ∃ i, i < m ∧ P i = hi
def Rk (P : Nat → Int) (m k : Nat) (lo hi : Int) : Prop := (∀ i, i < k → lo ≤ P i ∧ P i ≤ hi) ∧ (∃ i, i < m ∧ P i = lo) ∧ ∃ i, i < m ∧ P i = hi
theorem Rk.step {P : Nat → Int} {m k : Nat} {lo hi lo' hi' : Int} (h : Rk P m k lo hi) (hk : k < m) (a : lo' ≤ lo) (b : hi ≤ hi') (c : lo' ≤ P k) (d : P k ≤ hi') (e : lo' = lo ∨ lo' = P k) (f : hi' = hi ∨ hi' = P k) : Rk P m (k + 1) lo' hi' := by
  refine ⟨fun i hi => ?_, ?_, ?_⟩
  · by_cases e : i = k
    · subst e; exact ⟨c, d⟩
    · have := h.1 i (by omega); omega
  · rcases e with rfl | rfl
    · exact h.2.1
    · exact ⟨k, hk, rfl⟩
  · rcases f with rfl | rfl
    · exact h.2.2
    · exact ⟨k, hk, rfl⟩

set_option maxHeartbeats 1000000 in
theorem range_any (p off cap m : Nat) (P : Nat → Int) (w : World) (hs : Sl w 2 p off cap m P) (hm : 0 < m) (hb : m < 1099511627776) :
    Calls Yba.prog 9 #[.slice (some ⟨p, off, none⟩) m cap] w fun e w' => ∃ lo hi, e = .returned (.tuple #[.int .i64 lo, .int .i64 hi]) ∧ Rng P m lo hi ∧ Below w.heap.size w w' := by
  have hc : ∀ i, i < m → w.cell? ⟨p, off + i, none⟩ = some (.int .i64 (P i)) := fun i hi => hs.cell hi
  have h0 := hc 0 hm
  simp only [Nat.add_zero] at h0
  go_enter Yba.func9, Yba.ntmps9
  go_wp2
  go_region
  go_wp2
  go_loopw [4, 5, 16] (fun a b i wr => ∃ (k : Nat) (lo hi : Int), k ≤ m ∧ i = .int .i64 k ∧ a = .int .i64 lo ∧ b = .int .i64 hi ∧ Rk P m k lo hi ∧ wr = w.drew) (fun _ _ i _ => m - (intOf i).toNat)
  case atStart => exact ⟨0, P 0, P 0, by omega, rfl, rfl, rfl, ⟨fun i hi => by omega, ⟨0, hm, rfl⟩, ⟨0, hm, rfl⟩⟩, rfl⟩
  case round =>
    obtain ⟨k, lo, hi, hk, rfl, rfl, rfl, hr, rfl⟩ := hrel
    have HR : Hid (Rk P m k lo hi) := hr
    clear hr
    by_cases hlt : k < m
    · have hck := hc k hlt
      have hcd : w.drew.cell? ⟨p, off + k, none⟩ = some (.int .i64 (P k)) := hck
      go_wp2
      all_goals go_roundw
      all_goals first
        | exact ⟨k + 1, _, _, by omega, by go_num, rfl, rfl, Rk.step HR.out hlt (by omega) (by omega) (by omega) (by omega) (by omega) (by omega), trivial⟩
        | (simp [intOf]; omega)
    · have : k = m := by omega
      subst this
      go_wp2
      go_ret2
      exact ⟨lo, hi, rfl, ⟨HR.out.1, HR.out.2.1, HR.out.2.2⟩, (Below.refl _ _).drew⟩
end Go.Proofs.Ybulkbunc.Pk
