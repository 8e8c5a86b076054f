import Derived.Test.YbulkburyTbH
namespace Go.Proofs.Ybulkbury.Tb
open Go.RowKit

/-- A slice of numbers that came in. -/
structure In (w : World) (ao : Option Addr) (len : Nat) (kd : IntKind) (f : Nat → Nat) (hi : Nat) : Prop where
  ex : 0 < len → ∃ b o, ao = some ⟨b, o, none⟩ ∧ b < w.heap.size ∧ ∀ i, i < len → w.cell? ⟨b, o + i, none⟩ = some (.int kd (f i)) ∧ f i < hi

def Sm (ws : Nat → Nat) (n : Nat) : Nat := sumTo (fun i => ws i + 1) n
theorem Sm_le {ws : Nat → Nat} {rows : Nat} (h : ∀ i, i < rows → ws i < 65536) : ∀ n, n ≤ rows → Sm ws n ≤ n * 65536
  | 0, _ => by simp [Sm, sumTo]
  | n + 1, hn => by
    have ih := Sm_le h n (by omega)
    have := h n (by omega)
    have e : Sm ws (n + 1) = Sm ws n + (ws n + 1) := rfl
    rw [e, Nat.succ_mul]
    omega
def fOf (last : Bool) (f rows : Nat) : Nat := if last then rows - 1 else f % (rows + 1)

theorem zc1 : Yba.zeroCells43[1]? = some (.slice none 0 0) := by kernel_rfl
theorem zc0 : 1 < Yba.zeroCells43.size := of_decide_eq_true (by kernel_rfl)
/-- The weights' block, before its arrivals. -/
theorem wblk {wr : World} {tb rows : Nat} : (wr.alloc (.cells (Yba.zeroCells43.setIfInBounds 0 (.slice (some ⟨tb, 0, none⟩) rows rows)) 43)).cell? ⟨wr.heap.size, 0, none⟩ = some (.slice (some ⟨tb, 0, none⟩) rows rows) ∧
    (wr.alloc (.cells (Yba.zeroCells43.setIfInBounds 0 (.slice (some ⟨tb, 0, none⟩) rows rows)) 43)).cell? ⟨wr.heap.size, 1, none⟩ = some (.slice none 0 0) := by
  have h := Go.Deep.blk_alloc_new wr (.cells (Yba.zeroCells43.setIfInBounds 0 (.slice (some ⟨tb, 0, none⟩) rows rows)) 43)
  have hz := zc0
  constructor
  · rw [cell_of_row _ _ 0 _ _ _ h, Array.getElem?_setIfInBounds_self]
    rw [if_pos (by omega)]
  · rw [cell_of_row _ _ 1 _ _ _ h, Array.getElem?_setIfInBounds_ne (by omega)]
    exact zc1
theorem wfree {wr : World} {c : Array Value} {t : TypeId} : ∀ i, (wr.alloc (.cells c t)).frozen? ⟨wr.heap.size, i, none⟩ = false := fun i => by
  have h := Go.Deep.blk_alloc_new wr (.cells c t)
  unfold World.frozen?
  rw [h]
  simp
theorem Wt_of {w : World} {y tb rows : Nat} {al : Option Nat} {ws ar : Nat → Nat} (c0 : w.cell? ⟨y, 0, none⟩ = some (.slice (some ⟨tb, 0, none⟩) rows rows)) (c1 : w.cell? ⟨y, 1, none⟩ = some (avOf rows al)) (yl : y < w.heap.size) (ht : R1 w tb rows rows (fun m => Sm ws (m + 1)))
    (ha : ∀ ab, al = some ab → R1 w ab rows rows (fun m => ar m % 4294967296 + 1)) (hr : rows ≤ 1024) (hS : ∀ n, n ≤ rows → Sm ws n ≤ n * 65536) : Wt w y tb rows al (fun m => Sm ws (m + 1)) (fun m => ar m % 4294967296 + 1) := by
  refine ⟨c0, c1, yl, ht, ha, fun m h0 hm => ?_, fun m hm => ?_, fun m hm => ?_⟩
  · have e : Sm ws (m + 1) = Sm ws m + (ws m + 1) := rfl
    show Sm ws (m - 1 + 1) < Sm ws (m + 1)
    rw [show m - 1 + 1 = m by omega, e]
    omega
  · have e : Sm ws (m + 1) = Sm ws m + (ws m + 1) := rfl
    have h1 := hS (m + 1) (by omega)
    show 1 ≤ Sm ws (m + 1) ∧ Sm ws (m + 1) ≤ 100000000
    omega
  · show 1 ≤ ar m % 4294967296 + 1 ∧ ar m % 4294967296 + 1 ≤ 4294967296
    omega

theorem made_cr (wc : World) (o1 : Obj) (kv Fv rows : Nat) (v1 v2 v3 a b c : Value) : Cr ((wc.alloc o1).alloc (.cells #[.int .i64 kv, v1, v2, v3, .int .i64 Fv, .int .i64 rows, .int .i64 ((kv : Int) + 1), a, b, c] 61)) (wc.heap.size + 1) kv Fv rows (kv + 1) v1 v2 v3 a b c := by
  have h := Go.Deep.blk_alloc_new (wc.alloc o1) (.cells #[.int .i64 kv, v1, v2, v3, .int .i64 Fv, .int .i64 rows, .int .i64 ((kv : Int) + 1), a, b, c] 61)
  have hs : (wc.alloc o1).heap.size = wc.heap.size + 1 := by simp
  rw [hs] at h
  unfold Cr crC
  rw [h, Int.natCast_add, Int.natCast_one]

set_option maxHeartbeats 8000000 in
set_option maxRecDepth 100000 in
theorem make_any {w : World} (kk f rows cap1 len2 cap2 : Nat) (ao1 ao2 : Option Addr) (useArr last : Bool) (ws ar : Nat → Nat) (h1 : In w ao1 rows .u16 ws 65536) (h2 : In w ao2 len2 .u32 ar 4294967296) (hkk : kk < 256) (hf : f < 65536) (hr0 : 0 < rows) (hr : rows ≤ 1024) :
    Calls Yba.prog 9 #[.int .u8 kk, .slice ao1 rows cap1, .slice ao2 len2 cap2, .bool useArr, .int .u16 f, .bool last] w fun e w' => ∃ (z y tb : Nat) (al : Option Nat) (v1 v2 v3 : Value), e = .returned (.tuple #[.pointer (some ⟨z, 0, none⟩), .pointer (some ⟨y, 0, none⟩)]) ∧
      Cr w' z (kk % 32 + 1) (fOf last f rows) rows (kk % 32 + 1 + 1) v1 v2 v3 (.slice none 0 0) (.slice none 0 0) (.slice none 0 0) ∧ Wt w' y tb rows al (fun m => Sm ws (m + 1)) (fun m => ar m % 4294967296 + 1) ∧ w.heap.size ≤ z ∧ w.heap.size ≤ y ∧ y ≠ z ∧ w.heap.size ≤ tb ∧ tb ≠ z ∧ (∀ ab, al = some ab → ab ≠ z) ∧ Below w.heap.size w w' := by
  obtain ⟨b1, o1, rfl, hb1, hc1⟩ := h1.ex hr0
  have hmk := run_make_row' (P := Yba.prog) 26 25 (.int .u64 0) 8 Yba.underlying26 info25 rfl .i64 .i64 rows (by omega) (by omega)
  have HC1 := (show Hid _ from hc1)
  have H2 := (show Hid _ from h2)
  have HSL := (show Hid _ from Sm_le (ws := ws) (rows := rows) (fun i hi => (hc1 i hi).2))
  clear h1 h2 hc1
  go_enter Yba.func9, Yba.ntmps9
  go_wp2_with fail
  go_loopg [17, 35] rows (fun g s17 s35 wr => ∃ n : Nat, g = rows - n ∧ n ≤ rows ∧ s35 = .int .i64 n ∧ s17 = .int .u64 (Sm ws n) ∧ R1 wr w.heap.size rows rows (fun i => if i < n then Sm ws (i + 1) else 0) ∧ Below w.heap.size w wr)
  case atStart => exact ⟨0, by omega, by omega, rfl, rfl, (R1.made w rows).congr (fun i _ => by simp), (Below.refl _ _).alloc (Nat.le_refl _) _⟩
  case round =>
    obtain ⟨n, hg, hn, rfl, rfl, hR, hbel⟩ := hrel
    have HG := (show Hid _ from hg)
    clear hg
    by_cases hlt : n < rows
    · have c1 := (hbel.cell (p := ⟨b1, o1 + n, none⟩) hb1).trans (HC1.out n hlt).1
      have bw := (HC1.out n hlt).2
      have bS := HSL.out n hn
      have cR := hR.cell hlt
      have fR := hR.frozen n
      obtain ⟨S, hS⟩ : ∃ S, S = Sm ws n := ⟨_, rfl⟩
      obtain ⟨S2, hS2⟩ : ∃ S2, S2 = Sm ws (n + 1) := ⟨_, rfl⟩
      have hSS : S2 = S + (ws n + 1) := by rw [hS2, hS]; rfl
      have rS : (S : Int) + ((ws n : Int) + 1) = (S2 : Int) := by omega
      rw [← hS] at bS ⊢
      have bS' : S ≤ 67108864 := by omega
      have HS := (show Hid (_ ∧ _) from ⟨hS, hS2⟩)
      have HRR := (show Hid (_ ∧ _) from ⟨hR, hbel⟩)
      clear hS hS2 bS hSS hR hbel
      go_wp2_with fail
      go_roundg (rows - (n + 1))
      case rel =>
        obtain ⟨hR, hbel⟩ := HRR.out
        refine ⟨n + 1, rfl, by omega, by go_num, by rw [HS.out.2], ?_, hbel.setCell (Nat.le_refl _) _⟩
        have e := hR.set n S2
        refine e.congr (fun i _ => ?_)
        by_cases ei : i = n
        · subst ei; rw [if_pos rfl, if_pos (by omega), HS.out.2]
        · rw [if_neg ei]
          by_cases e2 : i < n
          · rw [if_pos e2, if_pos (by omega)]
          · rw [if_neg e2, if_neg (by omega)]
      case measure => have := HG.out; omega
    · have hnr : n = rows := by omega
      have HRR := (show Hid (_ ∧ _ ∧ _) from ⟨hR, hbel, hnr⟩)
      clear hR hbel hnr
      go_upto_region 11 with fail
      go_cut [20] (fun s20 wx => ∃ y, s20 = .pointer (some ⟨y, 0, none⟩) ∧ wx.cell? ⟨y, 0, none⟩ = some (.slice (some ⟨w.heap.size, 0, none⟩) rows rows) ∧ wx.cell? ⟨y, 1, none⟩ = some (.slice none 0 0) ∧ (∀ i, wx.frozen? ⟨y, i, none⟩ = false) ∧ y < wx.heap.size ∧ w.heap.size < y ∧ R1 wx w.heap.size rows rows (fun m => Sm ws (m + 1)) ∧ Below w.heap.size w wx)
      case first =>
        go_wp2_with fail
        go_meet
        obtain ⟨hR, hbel, hnr⟩ := HRR.out
        have hb0 : ∀ o, Below wr.heap.size wr (wr.alloc o) := fun o => (Below.refl _ _).alloc (Nat.le_refl _) o
        exact ⟨_, rfl, wblk.1, wblk.2, wfree, by simp, hR.lt, (hR.below (hb0 _)).congr (fun i hi => by rw [if_pos (by omega)]), hbel.trans ((hb0 _).mono hbel.size)⟩
      case rest =>
      clear HRR
      obtain ⟨y, rfl, y0, y1, yf, yl, yB, hT, hbel⟩ := hcut
      have HT := (show Hid (_ ∧ _ ∧ _) from ⟨hT, hbel, yf⟩)
      have hf1 := yf 1
      clear hT hbel yf
      go_upto_region 12 with fail
      go_cut [59] (fun s59 wx => s59 = .bool (useArr && decide (rows ≤ len2)) ∧ wx = wc)
      case first =>
        cases useArr with
        | true =>
          go_wp2_with fail
          go_meet
          exact ⟨by simp, rfl⟩
        | false =>
          go_wp2_with fail
          go_meet
          exact ⟨by simp, rfl⟩
      case rest =>
      obtain ⟨rfl, hw⟩ := hcut
      subst hw
      generalize hqd : (useArr && decide (rows ≤ len2)) = q
      have HQD := (show Hid _ from hqd)
      clear hqd
      go_upto_if 59 with fail
      go_cut [21, 22, 59] (fun _ _ _ wx => ∃ al, Wt wx y w.heap.size rows al (fun m => Sm ws (m + 1)) (fun m => ar m % 4294967296 + 1) ∧ Below w.heap.size w wx)
      case first =>
        cases q with
        | true =>
          have hlen : rows ≤ len2 := by
            have h := HQD.out
            simp at h
            exact h.2
          obtain ⟨b2, o2, rfl, hb2, hc2⟩ := H2.out.ex (by omega)
          have HC2 := (show Hid _ from hc2)
          clear hc2
          go_wp2_with fail
          go_loopg [22] rows (fun g s22 wr => ∃ n : Nat, g = rows - n ∧ n ≤ rows ∧ s22 = .int .i64 n ∧ R1 wr wc.heap.size rows rows (fun i => if i < n then ar i % 4294967296 + 1 else 0) ∧ Below wc.heap.size wc wr)
          case atStart => exact ⟨0, by omega, by omega, rfl, (R1.made wc rows).congr (fun i _ => by simp), (Below.refl _ _).alloc (Nat.le_refl _) _⟩
          case round =>
            obtain ⟨n, hg, hn, rfl, hR, hbx⟩ := hrel
            have HG := (show Hid _ from hg)
            clear hg hmk
            have hsz := HT.out.2.1.size
            by_cases hlt : n < rows
            · have c2 := (hbx.cell (p := ⟨b2, o2 + n, none⟩) (by show b2 < wc.heap.size; omega)).trans ((HT.out.2.1.cell (p := ⟨b2, o2 + n, none⟩) hb2).trans (HC2.out n (by omega)).1)
              have bw := (HC2.out n (by omega)).2
              have cR := hR.cell hlt
              have fR := hR.frozen n
              have HRR := (show Hid (_ ∧ _) from ⟨hR, hbx⟩)
              clear hR hbx
              go_wp2_with fail
              go_roundg (rows - (n + 1))
              case rel =>
                obtain ⟨hR, hbx⟩ := HRR.out
                refine ⟨n + 1, rfl, by omega, by go_num, ?_, hbx.setCell (Nat.le_refl _) _⟩
                have e := hR.set n (ar n + 1)
                rw [Int.natCast_add, Int.natCast_one] at e
                refine e.congr (fun i _ => ?_)
                by_cases ei : i = n
                · subst ei; rw [if_pos rfl, if_pos (by omega), Nat.mod_eq_of_lt bw]
                · rw [if_neg ei]
                  by_cases e2 : i < n
                  · rw [if_pos e2, if_pos (by omega)]
                  · rw [if_neg e2, if_neg (by omega)]
              case measure => have := HG.out; omega
            · have hnr : n = rows := by omega
              have m0 := (hbx.cell (p := ⟨y, 0, none⟩) yl).trans y0
              have m1 := (hbx.cell (p := ⟨y, 1, none⟩) yl).trans y1
              have mf : wr.frozen? ⟨y, 1, none⟩ = false := (World.frozen?_of_block (hbx.block y yl)).trans hf1
              have HRR := (show Hid (_ ∧ _ ∧ _) from ⟨hR, hbx, hnr⟩)
              have hyl2 : y < wr.heap.size := Nat.lt_of_lt_of_le yl hbx.size
              clear hR hbx hnr
              go_wp2_with fail
              go_meet
              obtain ⟨hR, hbx, hnr⟩ := HRR.out
              have hT := HT.out.1.below hbx
              have hbl := HT.out.2.1.trans (hbx.mono HT.out.2.1.size)
              refine ⟨some wc.heap.size, Wt_of ?_ ?_ (by simpa [World.setCell] using hyl2) (hT.setOther (by show w.heap.size ≠ y; omega) _) (fun ab e => ?_) hr HSL.out, hbl.setCell (by show w.heap.size ≤ y; omega) _⟩
              · rw [World.cell?_setCell_other _ _ _ _ (by simp)]
                exact m0
              · exact World.cell?_setCell_same _ _ _ m1
              · cases e
                exact (hR.setOther (by show wc.heap.size ≠ y; omega) _).congr (fun i hi => by rw [if_pos (by omega)])
        | false =>
          go_wp2_with fail
          go_meet
          exact ⟨none, Wt_of y0 y1 yl HT.out.1 (fun ab e => by cases e) hr HSL.out, HT.out.2.1⟩
      case rest =>
      obtain ⟨al, hW, hbel⟩ := hcut
      have HW := (show Hid (_ ∧ _) from ⟨hW, hbel⟩)
      clear hW hbel y0 y1 hf1 HT H2 HQD
      obtain ⟨Fv, hFv⟩ : ∃ Fv, Fv = fOf last f rows := ⟨_, rfl⟩
      have HFV := (show Hid _ from hFv)
      clear hFv
      go_upto_if 85 with fail
      go_cut [23, 85] (fun s23 _ wx => s23 = .int .i64 Fv ∧ wx = wc)
      case first =>
        cases last with
        | true =>
          have hv : (rows : Int) - 1 = (Fv : Int) := by rw [HFV.out]; simp only [fOf, if_true]; omega
          go_wp2_with fail
          go_meet
          exact ⟨rfl, rfl⟩
        | false =>
          have hv : (f : Int) % ((rows : Int) + 1) = (Fv : Int) := by rw [HFV.out]; simp [fOf]
          go_wp2_with fail
          go_meet
          exact ⟨by rw [hv], rfl⟩
      case rest =>
      obtain ⟨rfl, hw⟩ := hcut
      subst hw
      obtain ⟨kv, hkv⟩ : ∃ kv, kv = kk % 32 + 1 := ⟨_, rfl⟩
      have rk : (kk : Int) % 32 + 1 = (kv : Int) := by omega
      have bk : kv ≤ 32 := by omega
      have HK := (show Hid _ from hkv)
      clear hkv
      go_wp2_with fail
      go_ret2
      rw [← HFV.out, ← HK.out]
      obtain ⟨hW, hbel⟩ := HW.out
      have hs : ∀ o1 : Obj, (wc.alloc o1).heap.size = wc.heap.size + 1 := fun o1 => by simp
      have ha : ∀ o1 o2 : Obj, Below wc.heap.size wc ((wc.alloc o1).alloc o2) := fun o1 o2 => ((Below.refl _ _).alloc (Nat.le_refl _) o1).alloc (by rw [hs]; omega) o2
      have hy := hW.yl
      have ht := hW.t.lt
      exact ⟨wc.heap.size + 1, y, w.heap.size, al, _, _, _, rfl, made_cr wc _ kv Fv rows _ _ _ _ _ _, hW.below (ha _ _), by have := hbel.size; omega, by omega, by omega, Nat.le_refl _, by omega, fun ab e => by have := (hW.a ab e).lt; omega, hbel.trans ((ha _ _).mono hbel.size)⟩
end Go.Proofs.Ybulkbury.Tb
