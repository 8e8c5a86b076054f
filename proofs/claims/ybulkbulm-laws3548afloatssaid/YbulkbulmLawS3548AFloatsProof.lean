/- 'Rows.LawS3548AFloatsSaid': the frame after the seat's own shell for the sister law. -/
import Derived.Test.YbulkbulmFloatsW
import Derived.ProofKit
import Derived.OpenShut
import Derived.ShutString
import Derived.ChangeOld
import Derived.Below
import Derived.Deep.Slices
namespace Go.Proofs.Ybulkbulm.lawS3548AFloats
open Go.ChangeShapes Go.WideShapes Go.ChangeAt Go.RowKit
open Go.Proofs.Ybulkbulm.Fl
set_option linter.unusedVariables false

theorem own : ownKnob Yba.prog.godebug = none := by kernel_rfl
theorem laidOut : laidOutB Yba.prog = true := by kernel_rfl
theorem cells24 : Yba.prog.cellsOf 24 = 1 := by kernel_rfl

theorem walk_long (a : Option Addr) (n c : Nat) (w : World) (h : 4096 < n) :
    Calls Yba.prog 4 #[.slice a n c] w fun e w' => e = .returned (.bool true) ∧ Below w.heap.size w w' := by
  have h' : (4096 : Int) < (n : Int) := by omega
  go_enter Yba.func4, Yba.ntmps4
  go_wp2
  go_ret
  exact ⟨rfl, Below.refl _ _⟩

theorem walk_nil (w : World) :
    Calls Yba.prog 4 #[.slice none 0 0] w fun e w' => e = .returned (.bool true) ∧ Below w.heap.size w w' := by
  have hbits := bits_run
  have hne := fun w => run_neq_slice_nil (P := Yba.prog) w 23 24 none 0 0 Yba.underlying23
  go_enter Yba.func4, Yba.ntmps4
  go_wp2_with (go_at_call 6; refine (mean_none _ _ _).mono ?_; rintro e w' ⟨rfl, rfl⟩)
  go_loop [5] (fun i => i = .int .i64 0) (fun _ => 0)
  case atStart => rfl
  case round =>
    subst hrel
    go_wp2
    go_ret
    exact ⟨rfl, Below.refl _ _⟩

theorem walk_empty (x : Addr) (c : Nat) (w : World) :
    Calls Yba.prog 4 #[.slice (some x) 0 c] w fun e w' => e = .returned (.bool true) ∧ Below w.heap.size w w' := by
  have hbits := bits_run
  have hmk : ∀ w : World, (Instr.makeSlice 23 (.int .i64 0) (.int .i64 0)).run Yba.prog w = .ok (.slice (some ⟨w.heap.size, 0, none⟩) 0 0) (w.alloc (.cells (madeCells #[.float .f64 0] 0) 24)) := run_make_row' (P := Yba.prog) 23 24 (.float .f64 0) 8 Yba.underlying23 info24 rfl .i64 .i64 0 (by omega) (by omega)
  have hne := fun w => run_neq_slice_nil (P := Yba.prog) w 23 24 (some x) 0 c Yba.underlying23
  go_enter Yba.func4, Yba.ntmps4
  go_wp2_with (first
    | (refine wpList_copy_nothing rfl (.tmp 17) (.tmp 18) 23 23 rfl 24 Yba.underlying23 (by kernel_rfl) _ _ 0 0 0 c rfl rfl rfl ?_)
    | (go_at_call 6; refine (mean_none _ _ _).mono ?_; rintro e w' ⟨rfl, rfl⟩))
  go_loop [5] (fun i => i = .int .i64 0) (fun _ => 0)
  case atStart => rfl
  case round =>
    subst hrel
    go_wp2
    go_ret
    exact ⟨rfl, (Below.refl _ _).alloc (Nat.le_refl _) _⟩

theorem trod_float {H : Type} {enc : TypeId × Value → H} {P : Program} {W : World} {base : Nat} {spare : Nat → Bool} {held : Bool} {n : Nat} {t : TypeId} {k : FloatKind} {v : Value} {y : DataW H × List MemPlace}
    (ht : P.underlying t = some (.float k)) (h : DataW.trod enc P W base spare held n t [v] = some y) : ∃ b, v = .float k b := by
  cases n with
  | zero => simp [DataW.trod] at h
  | succ n =>
    cases v <;> simp [DataW.trod, ht] at h
    obtain ⟨⟨rfl, _⟩, _⟩ := h
    exact ⟨_, rfl⟩

theorem walk {H : Type} {enc : TypeId × Value → H} {W : World} {a0 : Option Addr} {len0 cap0 fuel : Nat} {y : DataW H × List MemPlace}
    (hf : DataW.trod enc Yba.prog W 0 (fun _ => true) true fuel 23 [.slice a0 len0 cap0] = some y) :
    Calls Yba.prog 4 #[.slice a0 len0 cap0] W fun e w' => e = .returned (.bool true) ∧ Below W.heap.size W w' := by
  rcases Go.Deep.open_slice1 Yba.underlying23 cells24 hf with ⟨hcs, _⟩ | ⟨x, l, c, m, n, V, D, Pl, hcs, _, hl, hm, hmm, _, hx⟩
  · simp at hcs
    obtain ⟨rfl, rfl, rfl⟩ := hcs
    exact walk_nil W
  · simp at hcs
    obtain ⟨rfl, rfl, rfl⟩ := hcs
    simp only [if_true] at hmm
    subst hmm
    by_cases h1 : 4096 < len0
    · exact walk_long _ _ _ _ h1
    by_cases h2 : len0 = 0
    · subst h2; exact walk_empty _ _ _
    obtain ⟨b, off, spot⟩ := x
    have hspot : spot = none := by simpa [Addr.add] using World.cell?_spot (hx 0 (by omega)).1
    subst hspot
    have hV : ∀ i, i < len0 → ∃ q, V i = .float .f64 q := fun i hi => trod_float Yba.underlying24 (hx i (by omega)).2
    obtain ⟨F, hF⟩ := Go.Deep.choose_lt (α := Nat) (p := fun i q => V i = .float .f64 q) hV
    have hcell : ∀ i, i < len0 → W.cell? ⟨b, off + i, none⟩ = some (.float .f64 (((List.range len0).map F)[i]?.getD 0)) := by
      intro i hi
      have h := (hx i (by omega)).1
      rw [add_plain] at h
      rw [h, hF i hi]
      simp [hi]
    have hb : b < W.heap.size := by
      have h := (hx 0 (by omega)).1
      exact World.block_lt_of_cell? W _ h
    exact floats_walk b off len0 m ((List.range len0).map F) W (by omega) (by omega) (by simp) hb hcell

/-! ### THE ROW's STEP -/
set_option maxRecDepth 100000 in
theorem lifted (os : Os) (started : os.Started) (H : Type) (enc : TypeId × Value → H) :
    ReturnsInHanded {} Yba.checked os 4 .any (Rows.lawS3548AFloatsSpec.pre6 enc Yba.prog Yba.f4 Rows.lawS3548AFloatsRow.domain false) (Rows.lawS3548AFloatsSpec.post enc Yba.prog Yba.f4 false true false false) := by
  refine returnsInHanded_of_change (C := Yba.checked) own started (by kernel_rfl) Yba.func4
    (ChangeSpec.witness6 (enc := enc) (C := Yba.checked) false ⟨#[], #[.slice none 0 0], []⟩ 8 (by kernel_rfl) (by kernel_rfl) (by kernel_rfl) (by kernel_rfl)) ?_
  intro W base args ds gs before hval0 hW hcnd _
  have hval : ∀ (j : Nat) t v, Yba.f4.params[j]? = some t → args[j]? = some v → Value.okWide Yba.prog W .any base t v := hval0
  have hW' := hW
  obtain ⟨p, q, hA0, hV, rfl, hfz, hnd⟩ := hW
  have hA : DataW.TrodAll enc Yba.prog W 0 (fun _ => true) true Yba.f4.params.toList args.toList ds p := hA0
  rw [Yba.params4] at hA hval
  obtain ⟨v0, vs0, d0, ds0, p0, q0, hargs, rfl, rfl, h0, r0⟩ := trodAll_cons hA
  obtain ⟨rfl, rfl, rfl⟩ := trodAll_nil r0
  obtain rfl : args = #[v0] := by cases args; simp_all
  obtain ⟨rfl, rfl⟩ := trodVars_none hV
  obtain ⟨a0, len0, cap0, rfl⟩ := okWide_slice Yba.underlying23 (hval 0 23 v0 rfl rfl)
  have k0 := h0
  have lt0 : ∀ x ∈ p0, x.block < W.heap.size := by obtain ⟨m, hm⟩ := k0; exact DataW.trod_lt m _ _ _ hm
  obtain ⟨fuel, hf⟩ := h0
  clear hA0 hval0
  refine (walk (enc := enc) (W := W) (a0 := a0) (len0 := len0) (cap0 := cap0) (by simpa [Value.cells] using hf)).mono fun e W' ⟨he, bel⟩ => ?_
  subst he
  exact ⟨_, rfl, _, _, _, [], _, [], hW', trodAll_mk1 (shut_bool Yba.underlying4 _), (trodAll_cons_mk (Below.trod laidOut (by kernel_rfl) (of_decide_eq_true (by kernel_rfl)) k0 bel lt0) trodAll_mk0), rfl, bel.frame _, fun h => by cases h⟩

theorem over : Rows.lawS3548AFloatsRow.holds Yba.pinned (OpenSpec.ofChange Rows.lawS3548AFloatsSpec) :=
  OpenClaim.holds_of_wide 4 Yba.f4 rfl rfl rfl rfl rfl rfl rfl ⟨rfl, rfl, rfl, rfl, rfl⟩ rfl rfl rfl rfl rfl (by kernel_rfl) Yba.func4 (by kernel_rfl)
    (of_decide_eq_true (by kernel_rfl)) (by unfold Func.isWrapper; first | (rw [if_pos (by decide +kernel)]; kernel_rfl) | (rw [if_neg (by decide +kernel)]; exact ⟨rfl, rfl⟩))
    (fun os started H enc _ => lifted os started H enc)

end Go.Proofs.Ybulkbulm.lawS3548AFloats
namespace Go.Proofs.Ybulkbulm
/-- THE STATEMENT -/
theorem lawS3548AFloats_holds : Rows.LawS3548AFloatsSaid := lawS3548AFloats.over
#print axioms lawS3548AFloats_holds
end Go.Proofs.Ybulkbulm
