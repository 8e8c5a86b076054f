/- 'Rows.LawS3551AScriptSaid': the row's frame, after the seats' own shells. -/
import Derived.Test.YbulkbuncPkH
import Derived.Deep.SlicePairs
import Derived.ProofKit
import Derived.OpenShut
import Derived.ShutString
import Derived.ChangeOld
import Derived.Below
namespace Go.Proofs.Ybulkbunc.lawS3551AScript
open Go.ChangeShapes Go.WideShapes Go.ChangeAt Go.RowKit
set_option linter.unusedVariables false

theorem own : ownKnob Yba.prog.godebug = none := by kernel_rfl
theorem laidOut : laidOutB Yba.prog = true := by kernel_rfl


open Go.Proofs.Ybulkbunc.Pk
/-- The script, opened. -/
theorem ops_of {W : World} {a : Addr} {len cap : Nat} {V0 V1 : Nat → Value} (h : ∀ i, i < len → W.cell? (a.add (i * 2)) = some (V0 i) ∧ W.cell? (a.add (i * 2 + 1)) = some (V1 i) ∧ (∃ n, V0 i = .int .u8 n ∧ (Lit.int .u8 n).wf = true) ∧ ∃ n, V1 i = .int .u16 n ∧ (Lit.int .u16 n).wf = true) :
    Ops W (some a) len (fun k => (intOf (V0 k)).toNat) (fun k => (intOf (V1 k)).toNat) := by
  refine ⟨fun hl => ?_⟩
  obtain ⟨b, off, spot⟩ := a
  have h0 := (h 0 hl).1
  have hspot : spot = none := by simpa [Addr.add] using World.cell?_spot h0
  subst hspot
  have hb : b < W.heap.size := World.block_lt_of_cell? W _ h0
  refine ⟨b, off, rfl, hb, fun k hk => ?_⟩
  obtain ⟨c0, c1, ⟨n0, e0, w0⟩, ⟨n1, e1, w1⟩⟩ := h k hk
  rw [Addr.add_lit] at c0 c1
  have b0 := bounds_u8 w0
  have b1 := bounds_u16 w1
  rw [e0] at c0
  rw [e1] at c1
  simp only [e0, e1, intOf]
  rw [show 2 * k = k * 2 by omega]
  refine ⟨?_, ?_, by omega, by omega⟩
  · rw [c0, show ((n0.toNat : Nat) : Int) = n0 by omega]
  · rw [Nat.add_assoc, c1, show ((n1.toNat : Nat) : Int) = n1 by omega]

set_option maxRecDepth 100000 in
theorem lifted (os : Os) (started : os.Started) (H : Type) (enc : TypeId × Value → H) :
    ReturnsInHanded {} Yba.checked os 3 .any (Rows.lawS3551AScriptSpec.pre6 enc Yba.prog Yba.f3 Rows.lawS3551AScriptRow.domain false) (Rows.lawS3551AScriptSpec.post enc Yba.prog Yba.f3 false true false false) := by
  refine returnsInHanded_of_change (C := Yba.checked) own started (by kernel_rfl) Yba.func3
    (ChangeSpec.witness6 (enc := enc) (C := Yba.checked) false ⟨#[], #[.int .u8 0, .slice none 0 0], []⟩ 8 (by kernel_rfl) (by kernel_rfl) (by kernel_rfl) (by kernel_rfl)) ?_
  intro W base args ds gs before hval0 hW hcnd _
  have hval : ∀ (j : Nat) t v, Yba.f3.params[j]? = some t → args[j]? = some v → Value.okWide Yba.prog W .any base t v := hval0
  have hW' := hW
  obtain ⟨p, q, hA0, hV, rfl, hfz, hnd⟩ := hW
  have hA : DataW.TrodAll enc Yba.prog W 0 (fun _ => true) true Yba.f3.params.toList args.toList ds p := hA0
  rw [Yba.params3] at hA hval
  obtain ⟨v0, vs0, d0, ds0, p0, q0, hargs, rfl, rfl, h0, r0⟩ := trodAll_cons hA
  obtain ⟨v1, vs1, d1, ds1, p1, q1, rfl, rfl, rfl, h1, r1⟩ := trodAll_cons r0
  obtain ⟨rfl, rfl, rfl⟩ := trodAll_nil r1
  obtain rfl : args = #[v0, v1] := by cases args; simp_all
  obtain ⟨rfl, rfl⟩ := trodVars_none hV
  obtain ⟨a0, rfl, rfl, rfl, w0⟩ := open_int Yba.underlying5 (hval 0 5 v0 rfl rfl) h0
  have k1 := h1
  have lt1 : ∀ x ∈ p1, x.block < W.heap.size := by obtain ⟨m, hm⟩ := k1; exact DataW.trod_lt m _ _ _ hm
  obtain ⟨ao, len, cap, rfl⟩ := okWide_slice Yba.underlying22 (hval 1 22 v1 rfl rfl)
  obtain ⟨O, A, hops⟩ : ∃ O A, Ops W ao len O A := by
    obtain ⟨fuel, hf⟩ := h1
    rcases Go.Deep.open_slice_pairs Yba.underlying22 Yba.underlying32 (by kernel_rfl) rfl rfl (by kernel_rfl) (by kernel_rfl) hf with ⟨hcs, _⟩ | ⟨a, l, c, m, n, V0, V1, D0, D1, P0, P1, hcs, _, hl, hm, hmm, _, hx⟩
    · simp [Value.cells] at hcs
      obtain ⟨rfl, rfl, rfl⟩ := hcs
      exact ⟨fun _ => 0, fun _ => 0, ⟨fun h => absurd h (by omega)⟩⟩
    · simp [Value.cells] at hcs
      obtain ⟨rfl, rfl, rfl⟩ := hcs
      refine ⟨_, _, ops_of (cap := cap) (V0 := V0) (V1 := V1) fun i hi => ?_⟩
      have hmc : m = cap := by simpa using hmm
      obtain ⟨g1, g2, g3, g4⟩ := hx i (by omega)
      obtain ⟨n0, e0, _, f0⟩ := DataW.trod_int Yba.underlying5 g3
      obtain ⟨n1, e1, _, f1⟩ := DataW.trod_int Yba.underlying30 g4
      exact ⟨g1, g2, ⟨n0, by simpa using e0, f0⟩, ⟨n1, by simpa using e1, f1⟩⟩
  clear hA0 hval0
  have hb0 := bounds_u8 w0
  obtain ⟨cc, hcc⟩ : ∃ cc : Nat, a0 = (cc : Int) - 1 := ⟨(a0 + 1).toNat, by omega⟩
  subst hcc
  refine (law_walk cc (by omega) (by omega) ao len cap O A W hops).mono fun e W' ⟨he, bel⟩ => ?_
  subst he
  exact ⟨_, rfl, _, _, _, [], _, [], hW', trodAll_mk1 (shut_bool Yba.underlying4 _), (trodAll_cons_mk (shut_int Yba.underlying5 w0) (trodAll_cons_mk (Below.trod laidOut (by kernel_rfl) (of_decide_eq_true (by kernel_rfl)) k1 bel lt1) trodAll_mk0)), rfl, bel.frame _, fun h => by cases h⟩

theorem over : Rows.lawS3551AScriptRow.holds Yba.pinned (OpenSpec.ofChange Rows.lawS3551AScriptSpec) :=
  OpenClaim.holds_of_wide 3 Yba.f3 rfl rfl rfl rfl rfl rfl rfl ⟨rfl, rfl, rfl, rfl, rfl⟩ rfl rfl rfl rfl rfl (by kernel_rfl) Yba.func3 (by kernel_rfl)
    (of_decide_eq_true (by kernel_rfl)) (by unfold Func.isWrapper; first | (rw [if_pos (by decide +kernel)]; kernel_rfl) | (rw [if_neg (by decide +kernel)]; exact ⟨rfl, rfl⟩))
    (fun os started H enc _ => lifted os started H enc)
end Go.Proofs.Ybulkbunc.lawS3551AScript
namespace Go.Proofs.Ybulkbunc
/-- THE STATEMENT -/
theorem lawS3551AScript_holds : Rows.LawS3551AScriptSaid := lawS3551AScript.over
#print axioms lawS3551AScript_holds
end Go.Proofs.Ybulkbunc
