import Derived.Test.Qxb6605452aOrder
import Derived.Test.Qxb6605452aModel
import Derived.Test.Qxb6605452aSame
import Derived.Deep.DeepCutAuto
import Derived.BigQuiet
namespace Go.Proofs.Qxb6605452a
open Go.RowKit

set_option maxHeartbeats 2000000 in
set_option maxRecDepth 100000 in
theorem exact_any (hC : CompSpec) (ts : List Int) (out : List (List Int)) (vt vo : Value) (w : World) (ht : Row w vt (zV ts)) (ho : RowsZ w vo out) :
    Calls Try.prog 3 #[vt, vo] w fun e w' => e = .returned (.bool true) ∧ Below w.heap.size w w' := by
  have HC := hide hC
  have HT := hide ht
  have HO := hide ho
  obtain ⟨at', ct, rfl, ht1, ht2, _⟩ := ht
  obtain ⟨ao, co, rfl, ho1, ho2, _⟩ := ho
  rw [zV_length] at *
  have C15 := hide (bytes7_any ts out _ _ w HT.out HO.out)
  have C8 := hide (bytes8_any ts out _ _ w HT.out HO.out)
  unfold maxLen at ht2 ho2
  clear hC
  go_enter Try.func3, Try.ntmps3
  go_wp2_with fail
  refine C15.out.mono ?_
  rintro e w1 ⟨⟨b, rfl⟩, hw⟩
  obtain rfl := hw.symm
  clear C15
  cases b with
  | false =>
    go_wp2_with fail
    go_ret
    exact ⟨rfl, Below.refl _ _⟩
  | true =>
  go_wp2_with fail
  refine C8.out.mono ?_
  rintro e w1 ⟨⟨r, rfl, hr0, hr1, hr2⟩, hw⟩
  obtain rfl := hw.symm
  clear C8
  by_cases hr : r ≤ 1048576
  · have hsum := hr2 hr
    clear hr2
    by_cases hn1 : ts.length ≤ 4096
    · by_cases hn2 : out.length ≤ 4096
      · have HLn : Hid (∀ l ∈ out, l.length ≤ 1048576) := fun l hl => by have := totZ_mem hl; omega
        have C9 := hide (inRange_any ts out _ _ w HT.out HO.out (by omega) HLn.out)
        go_wp2_with fail
        refine C9.out.mono ?_
        rintro e w1 ⟨⟨b, rfl, hb⟩, hw⟩
        obtain rfl := hw.symm
        clear C9
        cases b with
        | false =>
          go_wp2_with fail
          go_ret
          exact ⟨rfl, Below.refl _ _⟩
        | true =>
        obtain ⟨hlen, hrng⟩ := hb rfl
        have C10 := hide (cloneInts_any ts _ w HT.out (by omega))
        have HRG := hide hrng
        have HLE := hide hlen
        clear hb hrng hlen
        go_wp2_with fail
        refine C10.out.mono ?_
        rintro e w1 ⟨a1, c1, rfl, hO1, hB1⟩
        have C11 := hide (cloneRows_any out _ w1 (HO.out.below hB1) (by omega) HLn.out)
        clear C10
        have HB1 := hide hB1
        have HO1 := hide hO1
        clear hB1 hO1
        go_wp2_with fail
        refine C11.out.mono ?_
        rintro e w2 ⟨v2, rfl, hR2, hB2⟩
        clear C11
        obtain ⟨N, hN⟩ : ∃ N, N = natRows out := ⟨_, rfl⟩
        have hNl : N.length = ts.length := by rw [hN, natRows_length, HLE.out]
        have hN2 := hR2.nat HRG.out
        rw [← hN] at hN2
        have HNO : Hid (∀ v w, E N v w → w < N.length) := fun v w h => by rw [hN] at h; rw [hNl]; exact natRows_edge HRG.out h
        have HNL : Hid (∀ l ∈ N, l.length ≤ 1048576) := by rw [hN]; exact natRows_len HLn.out
        have HNT : Hid ((N.map List.length).sum ≤ 1048576) := by rw [hN, totZ_nat]; show _ ≤ _; omega
        have HN2 := hide hN2
        have HNl := hide hNl
        have HB2 := hide hB2
        clear hB2 hN2 hR2 hN hNl
        have C12 := zzComponents_any HC.out N a1 c1 v2 w2 HN2.out (by rw [HNl.out]; exact hn1) HNO.out HNL.out
        rw [HNl.out] at C12
        have HC12 := hide C12
        clear C12
        go_wp2_with fail
        refine HC12.out.mono ?_
        rintro e w3 ⟨s1, x1, z1, rfl, hr1, hw1, ⟨p1, q1, rfl⟩, ⟨p2, q2, rfl⟩, hc1, hz1, hnil, hne, hB3⟩
        rw [HNl.out] at hne
        rw [HNl.out]
        have HF1 := hide (Row.of_owns hc1)
        have HZ1 := hide (Row.of_owns hz1)
        have HR1 := hide hr1
        have HB3 := hide hB3
        have HP1 : Hid (p1.isNone = false) := by
          show p1.isNone = false
          have h := HF1.out
          rw [HNl.out] at h
          cases p1 with
          | some _ => rfl
          | none =>
            exfalso
            obtain ⟨a', c', hv, h1, h2, h3, _⟩ := h
            simp only [Value.slice.injEq] at hv
            obtain ⟨rfl, h4, rfl⟩ := hv
            have h5 := h3 rfl
            rw [tabI_length] at h4 h1
            exact hne (by rw [h5, show ts.length = 0 by omega])
        have HP2 : Hid (p2.isNone = decide (s1.size.length = 0)) := by
          show p2.isNone = decide (s1.size.length = 0)
          by_cases h0 : s1.size.length = 0
          · have := hnil (List.length_eq_zero_iff.1 h0)
            simp only [Value.slice.injEq] at this
            rw [this.1]
            simp [h0]
          · obtain ⟨a', c', hv, _, _, hg⟩ := own_form hz1
            simp only [Value.slice.injEq] at hv
            obtain ⟨g, hg⟩ := hg (by omega)
            rw [hv.1, hg]
            simp [h0]
        have HZL := hide (hr1.comps HNO.out hw1).len_le
        clear HC12 hr1 hw1 hc1 hz1 hB3 hnil hne HC
        have C13 := model_any N v2 w3 (HN2.out.below HB3.out) (by rw [HNl.out]; exact hn1) HNO.out HNL.out
        rw [HNl.out] at C13
        have HC13 := hide C13
        clear C13
        go_wp2_with fail
        refine HC13.out.mono ?_
        rintro e w4 ⟨s2, F, cF, az, cz, rfl, hr2, _, hf2, hz2, hn2', hB4⟩
        obtain rfl := hr2.uniq HR1.out
        rw [HNl.out]
        have HF2 := hide hf2
        have HZ2 := hide hz2
        have HN2' := hide hn2'
        have HB4 := hide hB4
        have hsl : s2.size.length ≤ 4096 := by have := HZL.out; have := HNl.out; omega
        clear HC13 hr2 hf2 hz2 hn2' hB4
        have et : ∀ f, tabI N.length f = intsV ((List.range N.length).map f) := fun f => by simp [tabI, intsV]
        have hf1 := HF1.out.below HB4.out
        have hf2 := HF2.out
        rw [et, HNl.out] at hf1 hf2
        have C14 := same_any ((List.range ts.length).map s2.comp) p1 (some ⟨F, 0, none⟩) q1 cF w4 (by rw [List.length_map, List.length_range]; exact hf1) (by rw [List.length_map, List.length_range]; exact hf2) (by rw [HP1.out]; rfl) (by rw [List.length_map, List.length_range]; omega)
        rw [List.length_map, List.length_range] at C14
        have HC14 := hide C14
        clear C14 hf1 hf2 et
        go_wp2_with fail
        refine HC14.out.mono ?_
        rintro e w5 ⟨rfl, hB5⟩
        have HB5 := hide hB5
        clear HC14 hB5
        have C14 := hide (same_any s2.size p2 az q2 cz w5 ((HZ1.out.below HB4.out).below HB5.out) (HZ2.out.below HB5.out) (by rw [HP2.out, HN2'.out]) (by omega))
        go_wp2_with fail
        refine C14.out.mono ?_
        rintro e w6 ⟨rfl, hB6⟩
        have hB46 := HB5.out.trans (hB6.mono HB5.out.size)
        have hB36 := HB4.out.trans (hB46.mono HB4.out.size)
        have hB26 := HB3.out.trans (hB36.mono HB3.out.size)
        have hB16 := HB2.out.trans (hB26.mono HB2.out.size)
        have HB := hide (HB1.out.trans (hB16.mono HB1.out.size))
        clear C14 hB6 hB46 hB36 hB26 hB16
        go_wp2_with fail
        go_ret
        exact ⟨rfl, HB.out⟩
      · go_wp2_with fail
        go_ret
        exact ⟨rfl, Below.refl _ _⟩
    · go_wp2_with fail
      go_ret
      exact ⟨rfl, Below.refl _ _⟩
  · go_wp2_with fail
    go_ret
    exact ⟨rfl, Below.refl _ _⟩
end Go.Proofs.Qxb6605452a
