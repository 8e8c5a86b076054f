import Derived.Test.YbulkbulmFloatsW
namespace Go.Proofs.Ybulkbulm.Fl
open Go.RowKit Go.WideShapes

theorem foldl_int (l : List Int) (a : Int) (B : Nat) (ha : a.natAbs ≤ B) (hz : ∀ z ∈ l, z.natAbs ≤ 32768) (hB : B + 32768 * l.length < 2 ^ 53) :
    (l.map fz).foldl (fun a x => a.bind fun s => Ieee.double.add s x) (some (fz a)) = some (fz (a + l.sum)) := by
  induction l generalizing a B with
  | nil => simp
  | cons z l ih =>
    have h1 := hz z (by simp)
    simp only [List.length_cons] at hB
    simp only [List.map_cons, List.foldl_cons, Option.bind_some, List.sum_cons]
    rw [add_int a z (by omega) (by omega) (by omega), ih (a + z) (B + 32768) (by omega) (fun y hy => hz y (by simp [hy])) (by omega), Int.add_assoc]

theorem sum_bd (l : List Int) (hz : ∀ z ∈ l, z.natAbs ≤ 32768) : l.sum.natAbs ≤ 32768 * l.length := by
  induction l with
  | nil => simp
  | cons z l ih =>
    have h1 := hz z (by simp)
    have h2 := ih (fun y hy => hz y (by simp [hy]))
    simp only [List.sum_cons, List.length_cons]
    omega

theorem sumO_int (l : List Int) (hz : ∀ z ∈ l, z.natAbs ≤ 32768) (hl : l.length ≤ 4096) : sumO (l.map fz) = some (fz l.sum) := by
  have h := foldl_int l 0 0 (by simp) hz (by omega)
  rw [fz_zero, Int.zero_add] at h
  exact h

theorem meanO_int (l : List Int) (hz : ∀ z ∈ l, z.natAbs ≤ 32768) (hl : l.length ≤ 4096) (h0 : 0 < l.length) :
    ∃ r, Ieee.double.div (fz l.sum) (fz l.length) = some r ∧ Ieee.double.order r r = some .eq ∧ ∀ g, Rep (meanO (l.map fz)) g → g = r := by
  have hs := sum_bd l hz
  obtain ⟨r, e1, e2⟩ := div_int l.sum l.length (by omega) (by omega) (by omega)
  refine ⟨r, e1, e2, ?_⟩
  intro g hg
  have e : meanO (l.map fz) = some r := by
    unfold meanO; rw [sumO_int l hz hl, List.length_map]; exact e1
  rw [e] at hg
  rcases hg with h | ⟨h, _⟩
  · cases h; rfl
  · cases h

theorem sum_take (l : List Int) (k : Nat) (h : k < l.length) : (l.take (k + 1)).sum = (l.take k).sum + l[k]?.getD 0 := by
  rw [List.take_succ_eq_append_getElem h, List.sum_append]; simp [h]

theorem sum_take_bd (l : List Int) (hz : ∀ z ∈ l, z.natAbs ≤ 32768) (hl : l.length ≤ 4096) (k : Nat) : -134217728 ≤ (l.take k).sum ∧ (l.take k).sum ≤ 134217728 := by
  have h := sum_bd (l.take k) (fun z hh => hz z (List.mem_of_mem_take hh))
  have h2 : (l.take k).length ≤ l.length := by rw [List.length_take]; omega
  omega

theorem elem_bd (l : List Int) (hz : ∀ z ∈ l, z.natAbs ≤ 32768) (k : Nat) : -32768 ≤ l[k]?.getD 0 ∧ l[k]?.getD 0 ≤ 32768 := by
  cases h : l[k]? with
  | none => simp
  | some z => have := hz z (List.mem_of_getElem? h); simp; omega

set_option maxHeartbeats 1000000 in
theorem ints_walk (b off n c : Nat) (zs : List Int) (w : World) (hn : 0 < n) (hn2 : n ≤ 4096) (hl : zs.length = n) (hb : b < w.heap.size) (hz : ∀ z ∈ zs, z.natAbs ≤ 32768)
    (hc : ∀ i, i < n → w.cell? ⟨b, off + i, none⟩ = some (.int .i16 (zs[i]?.getD 0))) :
    Calls Yba.prog 3 #[.slice (some ⟨b, off, none⟩) n c] w fun e w' => e = .returned (.bool true) ∧ Below w.heap.size w w' := by
  have hmk := run_make_row' (P := Yba.prog) 23 24 (.float .f64 0) 8 Yba.underlying23 info24 rfl .i64 .i64 n (by omega) (by omega)
  have hst := fun (w : World) (a : Addr) (b : Nat) (m : Mode) => run_store Yba.prog w a (.float .f64 b) m rfl
  have h0 : ((n : Int) == 0) = false := by simp; omega
  have HL : Hid (zs.length = n) := hl
  clear hl
  have HZ : Hid (∀ z ∈ zs, z.natAbs ≤ 32768) := hz
  clear hz
  have HC : Hid (∀ i, i < n → w.cell? ⟨b, off + i, none⟩ = some (.int .i16 (zs[i]?.getD 0))) := hc
  clear hc
  have hne := fun w => run_neq_slice_nil (P := Yba.prog) w 22 25 (some ⟨b, off, none⟩) n c Yba.underlying22
  go_enter Yba.func3, Yba.ntmps3
  go_wp2
  go_loopw [4, 5] (fun s i wr => ∃ k : Nat, k ≤ n ∧ i = .int .i64 k ∧ s = .int .i64 (zs.take k).sum ∧ wr.rowIs w.heap.size 24 n (fun j => .float .f64 (if j < k then fz (zs[j]?.getD 0) else 0)) ∧ Below w.heap.size w wr) (fun _ i _ => n - (intOf i).toNat)
  case atStart => exact ⟨0, Nat.zero_le _, rfl, rfl, World.rowIs_made _ _ _ _, (Below.refl _ _).alloc (Nat.le_refl _) _⟩
  case round =>
    obtain ⟨k, hk, rfl, rfl, hrow, hbel⟩ := hrel
    have hsb := sum_take_bd zs HZ.out (by rw [HL.out]; exact hn2) k
    by_cases hlt : k < n
    · have hcx : wr.cell? ⟨w.heap.size, k, none⟩ = some _ := hrow.cell hlt
      have hfx : wr.frozen? ⟨w.heap.size, k, none⟩ = false := hrow.frozen k
      have hci : wr.cell? ⟨b, off + k, none⟩ = some (.int .i16 (zs[k]?.getD 0)) := (hbel.cell hb).trans (HC.out k hlt)
      have hsn := sum_take zs k (by rw [HL.out]; exact hlt)
      have hzb := elem_bd zs HZ.out k
      have HROW : Hid ((wr.setCell ⟨w.heap.size, k, none⟩ (.float .f64 (fz (zs[k]?.getD 0)))).rowIs w.heap.size 24 n (fun j => .float .f64 (if j < k + 1 then fz (zs[j]?.getD 0) else 0))) := by
        refine (hrow.set k (.float .f64 (fz (zs[k]?.getD 0)))).congr ?_
        intro j hj
        by_cases e : j = k
        · subst e; simp
        · have : j < k + 1 ↔ j < k := by omega
          simp [e, this]
      have HB : Hid (Below w.heap.size w (wr.setCell ⟨w.heap.size, k, none⟩ (.float .f64 (fz (zs[k]?.getD 0))))) := hbel.setCell (Nat.le_refl _) _
      have HS : Hid ((zs.take (k + 1)).sum = (zs.take k).sum + zs[k]?.getD 0) := hsn
      clear hrow hbel hsn
      generalize zs[k]?.getD 0 = z at *
      generalize (zs.take k).sum = s at *
      go_wp2
      go_roundw
      case rel => exact ⟨k + 1, by omega, by go_num, by rw [HS.out], HROW.out, HB.out⟩
      case measure => simp [intOf]; omega
    · have hkn : k = n := by omega
      subst hkn
      have HROW : Hid (wr.rowIs w.heap.size 24 k (fun j => .float .f64 ((zs.map fz)[j]?.getD 0))) := hrow.congr (fun i hi => by
        have hi' : i < zs.length := by rw [HL.out]; exact hi
        simp [hi, hi'])
      have HB : Hid (Below w.heap.size w wr) := hbel
      have hsum : (zs.take k).sum = zs.sum := by rw [List.take_of_length_le (by rw [HL.out]; exact Nat.le_refl _)]
      rw [hsum] at hsb ⊢
      have HLm : Hid ((zs.map fz).length = k) := by have := HL.out; simpa [Hid] using this
      obtain ⟨r, e1, e2, e3⟩ := meanO_int zs HZ.out (by rw [HL.out]; exact hn2) (by rw [HL.out]; exact hn)
      rw [HL.out] at e1
      have E1 := (show Hid _ from e1)
      have E2 := (show Hid _ from e2)
      have E3 := (show Hid _ from e3)
      clear hrow hbel hsum e1 e2 e3 hmk hne
      generalize zs.sum = s at *
      go_wp2_with (go_at_call 6; refine (mean_any w.heap.size 0 k k (zs.map fz) wr hn hn2 HLm.out (fun i hi => by simpa using (World.rowIs.cell HROW.out hi))).mono ?_; rintro e w3 ⟨got, kd, rfl, hrep, rfl⟩)
      have hgot := E3.out got (by assumption)
      subst hgot
      go_loopw [7] (fun i wr' => ∃ k2 m : Nat, k2 ≤ k ∧ i = .int .i64 k2 ∧ wr' = wr.drewN m) (fun i _ => k - (intOf i).toNat)
      case atStart => exact ⟨0, _, Nat.zero_le _, rfl, rfl⟩
      case round =>
        obtain ⟨k2, m, hk2, rfl, rfl⟩ := hrel
        by_cases hlt2 : k2 < k
        · have hcx : wr.cell? ⟨w.heap.size, k2, none⟩ = some (.float .f64 (floatOfInt .f64 (zs[k2]?.getD 0))) := by
            have := World.rowIs.cell HROW.out hlt2
            have hi' : k2 < zs.length := by rw [HL.out]; exact hlt2
            simpa [hi', fz] using this
          have hci : wr.cell? ⟨b, off + k2, none⟩ = some (.int .i16 (zs[k2]?.getD 0)) := (HB.out.cell hb).trans (HC.out k2 hlt2)
          have hzb := elem_bd zs HZ.out k2
          generalize zs[k2]?.getD 0 = z at *
          have hord : FloatKind.f64.format.order (floatOfInt .f64 z) (floatOfInt .f64 z) = some .eq := by
            have := order_int z z (by omega) (by omega)
            rw [show compare z z = .eq from by simp] at this
            exact this
          go_wp2_with fail
          go_quiet (fail)
          go_wp2
          go_roundw
          case rel => exact ⟨k2 + 1, _, by omega, by go_num, rfl⟩
          case measure => simp [intOf]; omega
        · have hrun : ∀ ty w, (binOp .quo ty (.float .f64 (floatOfInt .f64 s)) (.float .f64 (floatOfInt .f64 k))).run Yba.prog w = .ok (.float .f64 got) w := fun ty w => run_div_some (P := Yba.prog) E1.out ty w
          have hord : FloatKind.f64.format.order got got = some .eq := E2.out
          have HBE : Hid (Below w.heap.size w (wr.drewN m)) := below_drewN HB.out _
          go_wp2
          go_ret
          exact ⟨rfl, HBE.out⟩
end Go.Proofs.Ybulkbulm.Fl
