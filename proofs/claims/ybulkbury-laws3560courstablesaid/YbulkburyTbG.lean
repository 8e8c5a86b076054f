import Derived.Test.YbulkburyTbF
import Derived.Deep.RegionHeld3
namespace Go.Proofs.Ybulkbury.Tb
open Go.RowKit

/-- While givenIn runs: the chain that it makes, the chances at x; nothing old has turned. -/
structure GS (w0 : World) (gb gcap ab acap rows width : Nat) (f : Nat → Nat) (G : Nat → Nat → Nat) (wr : World) : Prop where
  g : M2 wr gb gcap rows width G
  a : R1 wr ab acap width f
  gB : w0.heap.size ≤ gb
  aB : w0.heap.size ≤ ab
  ne : ab ≠ gb
  g1 : ∀ m, m < rows → ∀ j, j < width → G m j ≤ one
  g0 : ∀ m, m < rows → G m 0 = 0
  fb : ∀ j, j < width → f j ≤ one
  bel : Below w0.heap.size w0 wr

section
variable {w0 : World} {gb gcap ab acap rows width : Nat} {f : Nat → Nat} {G : Nat → Nat → Nat} {wr w' : World}
theorem GS.below (h : GS w0 gb gcap ab acap rows width f G wr) (hb : Below wr.heap.size wr w') : GS w0 gb gcap ab acap rows width f G w' :=
  ⟨h.g.below hb, h.a.below hb, h.gB, h.aB, h.ne, h.g1, h.g0, h.fb, h.bel.trans (hb.mono h.bel.size)⟩
theorem GS.setG (h : GS w0 gb gcap ab acap rows width f G wr) {m j x : Nat} (hm : m < rows) (hj : j + 1 < width) (hx : x ≤ one) {M : Nat} (hM : M = m * width) :
    GS w0 gb gcap ab acap rows width f (fun r i => if r = m ∧ i = j + 1 then x else G r i) (wr.setCell ⟨gb, M + (j + 1), none⟩ (.int .u64 x)) := by
  subst hM
  refine ⟨h.g.set hm hj x, h.a.setOther (by show ab ≠ gb; exact h.ne) _, h.gB, h.aB, h.ne, fun r hr i hi => ?_, fun r hr => ?_, h.fb, h.bel.setCell h.gB _⟩
  · show (if r = m ∧ i = j + 1 then x else G r i) ≤ one
    split
    · exact hx
    · exact h.g1 r hr i hi
  · show (if r = m ∧ 0 = j + 1 then x else G r 0) = 0
    rw [if_neg (by omega)]
    exact h.g0 r hr
end

theorem GS.setG' {w0 : World} {gb gcap ab acap rows width : Nat} {f : Nat → Nat} {G : Nat → Nat → Nat} {wr : World} (h : GS w0 gb gcap ab acap rows width f G wr) {m n x M : Nat} {v : Int} (hm : m < rows) (hn0 : 1 ≤ n) (hn : n < width) (hx : x ≤ one) (hM : M = m * width) (hv : v = (x : Int)) :
    ∃ G', GS w0 gb gcap ab acap rows width f G' (wr.setCell ⟨gb, M + n, none⟩ (.int .u64 v)) := by
  obtain ⟨j, rfl⟩ : ∃ j, n = j + 1 := ⟨n - 1, by omega⟩
  subst hv
  exact ⟨_, h.setG hm hn hx hM⟩
theorem GS.setNew {w0 : World} {gb gcap ab acap rows width : Nat} {f : Nat → Nat} {G : Nat → Nat → Nat} {wr : World} (h : GS w0 gb gcap ab acap rows width f G wr) {nb i : Nat} (h1 : ab ≠ nb) (h2 : gb ≠ nb) (h3 : w0.heap.size ≤ nb) (v : Value) : GS w0 gb gcap ab acap rows width f G (wr.setCell ⟨nb, i, none⟩ v) :=
  ⟨h.g.setOther h2 _, h.a.setOther h1 _, h.gB, h.aB, h.ne, h.g1, h.g0, h.fb, h.bel.setCell h3 _⟩
theorem one_int : (9223372036854775808 : Int) = ((one : Nat) : Int) := rfl
theorem mix_le {h a b : Nat} (hh : h ≤ one) (ha : a ≤ one) (hb : b ≤ one) : mulC h a + mulC (one - h) b ≤ one := by
  have h1 := mulC_le h a ha
  have h2 := mulC_le (one - h) b hb
  omega

set_option maxHeartbeats 8000000 in
set_option maxRecDepth 100000 in
theorem givenIn_any {w : World} {cb capc rows width N x : Nat} {C : Nat → Nat → Nat} (h : M2 w cb capc rows width C) (hc : Chain C rows) (hx : x < rows) (hr : rows ≤ 1024) (hW0 : 1 < width) (hW : width ≤ 33) (hN : N = rows * width) (hcap : N ≤ capc) :
    Calls Yba.prog 17 #[.slice (some ⟨cb, 0, none⟩) N capc, .int .i64 rows, .int .i64 width, .int .i64 x] w fun e w' => ∃ (ch gb gcap : Nat) (G : Nat → Nat → Nat),
      e = .returned (.tuple #[.int .u64 ch, .slice (some ⟨gb, 0, none⟩) N gcap]) ∧ M2 w' gb gcap rows width G ∧ w.heap.size ≤ gb ∧ (∀ m, m < rows → ∀ j, j < width → G m j ≤ one) ∧ (∀ m, m < rows → G m 0 = 0) ∧ ch ≤ one ∧ (x + 1 = rows → ch = C x (width - 1)) ∧ Below w.heap.size w w' := by
  have bN : N ≤ 33792 := by rw [hN]; exact Nat.mul_le_mul hr hW
  have b0N : 0 < N := by rw [hN]; exact Nat.mul_pos (by omega) (by omega)
  obtain ⟨X, hX⟩ : ∃ X, X = x * width := ⟨_, rfl⟩
  have rX : (x : Int) * (width : Int) = (X : Int) := by rw [hX]; exact (Int.natCast_mul x width).symm
  have bX : X + width ≤ N := by
    have := Nat.mul_le_mul_right width (show x + 1 ≤ rows by omega)
    rw [Nat.succ_mul] at this
    rw [hX, hN]
    exact this
  have HH := (show Hid _ from h)
  have HC : Hid (Chain C rows) := hc
  have HN := (show Hid (_ ∧ _) from ⟨hN, hX⟩)
  have hcl := clone_any (w := w) (b := cb) (off := 0) (n := N) (cap := capc) (f := fun i => C (i / width) (i % width)) (fun i hi => by
    have hw : 0 < width := by omega
    have e1 : i / width < rows := by rw [Nat.div_lt_iff_lt_mul hw]; omega
    have e2 := Nat.mod_lt i hw
    have e3 := h.cell e1 e2
    rw [Nat.div_add_mod'] at e3
    rw [Nat.zero_add]
    exact e3) h.lt b0N bN
  clear h hc hN hX
  go_enter Yba.func17, Yba.ntmps17
  go_upto_region 2 with (go_at_call 25; refine hcl.mono ?_; rintro e w1 ⟨gb, gcap, rfl, hR1, hgB, hb1⟩)
  have hG := M2.of_row (V := C) hR1 HN.out.1 (fun m hm j hj => by rw [(flat hj).1, (flat hj).2])
  have hcl2 := clone_any (w := w1) (b := cb) (off := X) (n := width) (cap := capc - X) (f := fun i => C x i) (fun i hi => by
    have e := HH.out.cell hx hi
    rw [← HN.out.2] at e
    exact (hb1.cell (p := ⟨cb, X + i, none⟩) HH.out.lt).trans e) (Nat.lt_of_lt_of_le HH.out.lt hb1.size) (by omega) (by omega)
  have HG := (show Hid (_ ∧ _ ∧ _) from ⟨hG, hgB, hb1⟩)
  have hgl := hG.lt
  clear hG hR1 hgB hb1 hcl
  go_upto_region 3 with (go_at_call 25; refine hcl2.mono ?_; rintro e w2 ⟨ab, acap, rfl, hR2, haB, hb2⟩)
  have hgs : GS w gb gcap ab acap rows width (fun i => C x i) C w2 := by
    obtain ⟨hG, hgB, hb1⟩ := HG.out
    exact ⟨hG.below hb2, hR2, hgB, Nat.le_trans hb1.size haB, by omega, fun m hm j _ => HC.out.1 m hm j, fun m hm => HC.out.2 m hm, fun j _ => HC.out.1 x hx j, hb1.trans (hb2.mono hb1.size)⟩
  have HGS := (show Hid _ from hgs)
  clear hgs hR2 haB hb2 hcl2 HG hgl
  go_wp2_with fail
  go_loopg [12] (width - 1) (fun g s12 wr => ∃ (n : Nat) (G : Nat → Nat → Nat), g = width - n ∧ 1 ≤ n ∧ n ≤ width ∧ s12 = .int .i64 n ∧ GS w gb gcap ab acap rows width (fun i => C x i) G wr)
  case atStart => exact ⟨1, C, by omega, by omega, by omega, rfl, HGS.out⟩
  case round =>
    obtain ⟨n, G, hg, hn1, hn, rfl, hgs⟩ := hrel
    have HG := (show Hid _ from hg)
    clear hg HGS
    by_cases hlt : n < width
    · have cg := hgs.g.cell hx hlt
      rw [← HN.out.2] at cg
      have fg := hgs.g.frozen (X + n)
      have HGS := (show Hid _ from hgs)
      clear hgs
      go_wp2_with fail
      go_roundg (width - (n + 1))
      case rel =>
        obtain ⟨G', hG'⟩ := HGS.out.setG' hx hn1 hlt (Nat.le_refl one) HN.out.2 one_int
        exact ⟨n + 1, G', rfl, by omega, by omega, by go_num, hG'⟩
      case measure => have := HG.out; omega
    · have HGS := (show Hid _ from hgs)
      clear hgs
      go_wp2_with fail
      go_loopg [11, 13] (rows - (x + 1)) (fun g s11 s13 wr => ∃ (m ab acap : Nat) (f : Nat → Nat) (G : Nat → Nat → Nat), g = rows - m ∧ x + 1 ≤ m ∧ m ≤ rows ∧ s13 = .int .i64 m ∧ s11 = .slice (some ⟨ab, 0, none⟩) width acap ∧ GS w gb gcap ab acap rows width f G wr ∧ (m = x + 1 → f (width - 1) = C x (width - 1)))
      case atStart => exact ⟨x + 1, ab, acap, _, G, by omega, by omega, by omega, by go_num, rfl, HGS.out, fun _ => rfl⟩
      case round =>
        obtain ⟨m, ab2, acap2, f, G2, hg2, hm1, hm, rfl, rfl, hgs, hfin⟩ := hrel
        have HG2 := (show Hid _ from hg2)
        have HFIN := (show Hid _ from hfin)
        clear hg2 HGS HG hfin
        by_cases hmr : m < rows
        · obtain ⟨M, hM⟩ : ∃ M, M = m * width := ⟨_, rfl⟩
          have rM : (m : Int) * (width : Int) = (M : Int) := by rw [hM]; exact (Int.natCast_mul m width).symm
          have bM : M + width ≤ N := by
            have := Nat.mul_le_mul_right width (show m + 1 ≤ rows by omega)
            rw [Nat.succ_mul] at this
            rw [hM, HN.out.1]
            exact this
          have HM := (show Hid _ from hM)
          have hmk := run_make_row' (P := Yba.prog) 26 25 (.int .u64 0) 8 Yba.underlying26 info25 rfl .i64 .i64 width (by omega) (by omega)
          have HGS := (show Hid _ from hgs)
          have hal := hgs.a.lt
          have hgl := hgs.g.lt
          have hsz := hgs.bel.size
          clear hM hgs
          go_wp2_with fail
          go_loopg [15] (width - 1) (fun g s15 wx => ∃ (n : Nat) (G : Nat → Nat → Nat) (h : Nat → Nat), g = width - n ∧ 1 ≤ n ∧ n ≤ width ∧ s15 = .int .i64 n ∧ GS w gb gcap ab2 acap2 rows width f G wx ∧ R1 wx wr.heap.size width width h ∧ ∀ j, j < width → h j ≤ one)
          case atStart => exact ⟨1, G2, fun _ => 0, by omega, by omega, by omega, rfl, HGS.out.below ((Below.refl _ _).alloc (Nat.le_refl _) _), R1.made wr width, fun _ _ => Nat.zero_le _⟩
          case round =>
            obtain ⟨n, G3, h3, hg3, hn1', hn', rfl, hgs, hR, hh⟩ := hrel
            have HG3 := (show Hid _ from hg3)
            clear hg3 HGS hmk
            by_cases hlt3 : n < width
            · have cC : wr.cell? ⟨cb, M + n, none⟩ = some (.int .u64 (C m n)) := by
                have e2 := HH.out.cell hmr hlt3
                rw [← HM.out] at e2
                exact (hgs.bel.cell (p := ⟨cb, M + n, none⟩) HH.out.lt).trans e2
              have cA1 := hgs.a.cell hlt3
              obtain ⟨n1, hn1e⟩ : ∃ n1, n1 = n - 1 := ⟨_, rfl⟩
              have rn1 : (n : Int) - 1 = (n1 : Int) := by omega
              have hn1w : n1 < width := by omega
              have cA0 := hgs.a.cell hn1w
              have cN := hR.cell hlt3
              have fN := hR.frozen n
              have bC : C m n ≤ one := HC.out.1 m hmr n
              have bA1 := hgs.fb n hlt3
              have bA0 := hgs.fb n1 hn1w
              generalize C m n = Cv at cC bC
              generalize f n = A1 at cA1 bA1
              generalize f n1 = A0 at cA0 bA0
              obtain ⟨E, hE⟩ : ∃ E, E = one - Cv := ⟨_, rfl⟩
              have rE : (9223372036854775808 : Int) - (Cv : Int) = (E : Int) := by rw [hE]; simp only [one] at bC ⊢; omega
              have bE : E ≤ one := by omega
              obtain ⟨Hv, hHv⟩ : ∃ Hv, Hv = mulC Cv A0 := ⟨_, rfl⟩
              obtain ⟨Kv, hKv⟩ : ∃ Kv, Kv = mulC E A1 := ⟨_, rfl⟩
              have bV : Hv + Kv ≤ one := by rw [hHv, hKv, hE]; exact mix_le bC bA0 bA1
              obtain ⟨V, hV⟩ : ∃ V, V = Hv + Kv := ⟨_, rfl⟩
              have rV : (Hv : Int) + (Kv : Int) = (V : Int) := by omega
              have m1 := mul_any Cv A0 bC bA0
              have m2 := mul_any E A1 bE bA1
              rw [← hHv] at m1
              rw [← hKv] at m2
              rw [← hV] at bV
              have HVV := (show Hid _ from hV)
              have bV' : V ≤ 9223372036854775808 := bV
              have HGS := (show Hid _ from hgs)
              have HR := (show Hid (_ ∧ _) from ⟨hR, hh⟩)
              have HB := (show Hid (_ ∧ _ ∧ _ ∧ _) from ⟨bC, bE, bV, hn1e⟩)
              simp only [one] at bC bE
              clear hE hHv hKv hV hgs hR hh bA1 bA0 bV hn1e
              go_upto_region 17 with (first | (go_at_call_of 18 (Value.int IntKind.u64 (Cv : Int)); refine (m1 _).mono ?_; rintro e w5 ⟨rfl, rfl⟩) | (go_at_call_of 18 (Value.int IntKind.u64 (E : Int)); refine (m2 _).mono ?_; rintro e w5 ⟨rfl, rfl⟩))
              have hgs2 := HGS.out.setNew (nb := wr.heap.size) (i := n) (by omega) (by omega) hsz (.int .u64 (V : Int))
              have hR2 := HR.out.1.set n V
              have hh2 : ∀ j, j < width → (if j = n then V else h3 j) ≤ one := fun j hj => by
                split
                · exact bV'
                · exact HR.out.2 j hj
              generalize World.setCell w5 ⟨wr.heap.size, n, none⟩ (.int .u64 (V : Int)) = W at hgs2 hR2 ⊢
              have cN2 : W.cell? ⟨wr.heap.size, n, none⟩ = some (.int .u64 V) := (hR2.cell hlt3).trans (by simp)
              have cg := hgs2.g.cell hmr hlt3
              rw [← HM.out] at cg
              have fg := hgs2.g.frozen (M + n)
              have hgl2 := hgs2.g.lt
              have hnl2 := hR2.lt
              have HGS2 := (show Hid _ from hgs2)
              have HR2 := (show Hid (_ ∧ _) from ⟨hR2, hh2⟩)
              clear hgs2 hR2 hh2 HGS HR cC cA1 cA0 cN fN m1 m2 rE rV
              by_cases hV0 : V = 0
              · subst hV0
                go_wp2_with fail
                go_roundg (width - (n + 1))
                case rel => exact ⟨n + 1, _, _, rfl, by omega, by omega, by go_num, HGS2.out, HR2.out.1, HR2.out.2⟩
                case measure => have := HG3.out; omega
              · have hVp : (0 : Int) < (V : Int) := by omega
                have rmin : min (Hv : Int) (V : Int) = (Hv : Int) := by have := HVV.out; omega
                have sc := scale_any Hv V (by have := HVV.out; omega) (by omega) (by omega)
                have bsc : scC Hv V ≤ one := scC_le (by have := HVV.out; omega) (by omega)
                generalize scC Hv V = Sv at sc bsc
                have hidx : (M : Int) + (n : Int) < (N : Int) := by omega
                have hidx0 : (0 : Int) ≤ (M : Int) + (n : Int) := by omega
                have hwr : IntKind.i64.wrap ((M : Int) + (n : Int)) = (M : Int) + (n : Int) := by rw [IntKind.wrap_i64]; omega
                have hwM : IntKind.i64.wrap (M : Int) = (M : Int) := by rw [IntKind.wrap_i64]; omega
                have htn : ((M : Int) + (n : Int)).toNat = M + n := by omega
                go_upto_region 18 with fail
                go_region_held3 (fun w' => w'.cell? ⟨wr.heap.size, n, none⟩ = some (.int .u64 V))
                  (first | exact cN2 | exact hS6 _ | exact cN6)
                  ((go_at_call 15; refine (sc _).mono ?_; rintro e w6 ⟨rfl, hb6⟩; have hg6 := (HGS2.out.below (Below.refl _ _).drew).below hb6; have cg6 := hg6.g.cell hmr hlt3; rw [← HM.out] at cg6; have fg6 := hg6.g.frozen (M + n); have hR6 := (HR2.out.1.below (Below.refl _ _).drew).below hb6; have cN6 : w6.cell? ⟨wr.heap.size, n, none⟩ = some (.int .u64 V) := ((hR6.cell hlt3).trans (by simp)); have hS6 : ∀ v, (w6.setCell ⟨gb, M + n, none⟩ v).cell? ⟨wr.heap.size, n, none⟩ = some (.int .u64 V) := (fun v => ((hR6.setOther (a := ⟨gb, M + n, none⟩) (by show wr.heap.size ≠ gb; omega) v).cell hlt3).trans (by simp)); have HG6 := (show Hid (_ ∧ _) from ⟨hg6, hR6⟩); clear hg6 hR6; dsimp only))
                go_wp2_with fail
                go_roundg (width - (n + 1))
                case rel =>
                  obtain ⟨hg6, hR6⟩ := HG6.out
                  obtain ⟨G', hG'⟩ := hg6.setG' hmr hn1' hlt3 bsc HM.out rfl
                  exact ⟨n + 1, G', _, rfl, by omega, by omega, by go_num, hG', hR6.setOther (by show wr.heap.size ≠ gb; omega) _, HR2.out.2⟩
                case measure => have := HG3.out; omega
            · have HGS := (show Hid _ from hgs)
              have HR := (show Hid (_ ∧ _) from ⟨hR, hh⟩)
              clear hgs hR hh
              go_wp2_with fail
              go_roundg (rows - (m + 1))
              case rel => exact ⟨m + 1, _, width, h3, G3, rfl, by omega, by omega, by go_num, rfl, ⟨HGS.out.g, HR.out.1, HGS.out.gB, hsz, by omega, HGS.out.g1, HGS.out.g0, HR.out.2, HGS.out.bel⟩, fun e => by omega⟩
              case measure => have := HG2.out; omega
        · have hmm : m = rows := by omega
          have ca := hgs.a.cell (i := width - 1) (by omega)
          obtain ⟨v, hv⟩ : ∃ v, v = width - 1 := ⟨_, rfl⟩
          have rv : (width : Int) - 1 = (v : Int) := by omega
          have hvw : v < width := by omega
          rw [← hv] at ca
          have HV := (show Hid (_ ∧ _) from ⟨hv, hmm⟩)
          have HGS := (show Hid _ from hgs)
          clear hgs hv hmm
          go_wp2_with fail
          go_ret2
          refine ⟨f v, gb, gcap, G2, rfl, HGS.out.g, HGS.out.gB, HGS.out.g1, HGS.out.g0, HGS.out.fb v hvw, fun e => ?_, HGS.out.bel⟩
          rw [HV.out.1]
          exact HFIN.out (by rw [HV.out.2]; omega)
end Go.Proofs.Ybulkbury.Tb
