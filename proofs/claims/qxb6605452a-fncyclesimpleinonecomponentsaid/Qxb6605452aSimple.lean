import Derived.Test.Qxb6605452aOrder
import Derived.Test.Qxb6605452aZcyc
import Derived.Test.Qxb6605452aFind
import Derived.Test.Qxb6605452aModel
import Derived.Deep.DeepCutAuto
import Derived.BigQuiet
namespace Go.Proofs.Qxb6605452a
open Go.RowKit

/-- v lies on a cycle through another node. -/
def Big (out : List (List Nat)) (v : Nat) : Prop := ∃ w, w ≠ v ∧ E out v w ∧ Reach (E out) w v

set_option maxHeartbeats 2000000 in
set_option maxRecDepth 100000 in
theorem simple_any (hC : CompSpec) (ts : List Int) (out : List (List Int)) (vt vo : Value) (w : World) (ht : Row w vt (zV ts)) (ho : RowsZ w vo out) :
    Calls Try.prog 6 #[vt, vo] w fun e w' => e = .returned (.bool true) ∧ Below w.heap.size w w' := by
  have HC := hide hC
  have HT := hide ht
  have HO := hide ho
  obtain ⟨at', ct, rfl, ht1, ht2, _⟩ := ht
  obtain ⟨ao, co, rfl, ho1, ho2, _⟩ := ho
  rw [zV_length] at *
  have C15 := hide (bytes23_any ts out _ _ w HT.out HO.out)
  have C8 := hide (bytes8_any ts out _ _ w HT.out HO.out)
  unfold maxLen at ht2 ho2
  clear hC
  go_enter Try.func6, Try.ntmps6
  go_wp2_with fail
  refine C15.out.mono ?_
  rintro e w1 ⟨⟨b, rfl⟩, hw⟩
  obtain rfl := hw.symm
  clear C15
  cases b with
  | false =>
    go_wp2_with fail
    go_ret
    exact ⟨rfl, Below.refl _ _⟩
  | true =>
  go_wp2_with fail
  refine C8.out.mono ?_
  rintro e w1 ⟨⟨r, rfl, hr0, hr1, hr2⟩, hw⟩
  obtain rfl := hw.symm
  clear C8
  by_cases hr : r ≤ 1048576
  · have hsum := hr2 hr
    clear hr2
    by_cases hn1 : ts.length ≤ 4096
    · by_cases hn2 : out.length ≤ 4096
      · have HLn : Hid (∀ l ∈ out, l.length ≤ 1048576) := fun l hl => by have := totZ_mem hl; omega
        have C9 := hide (inRange_any ts out _ _ w HT.out HO.out (by omega) HLn.out)
        go_wp2_with fail
        refine C9.out.mono ?_
        rintro e w1 ⟨⟨b, rfl, hb⟩, hw⟩
        obtain rfl := hw.symm
        clear C9
        cases b with
        | false =>
          go_wp2_with fail
          go_ret
          exact ⟨rfl, Below.refl _ _⟩
        | true =>
        obtain ⟨hlen, hrng⟩ := hb rfl
        have HRG := hide hrng
        have HLE := hide hlen
        clear hb hrng hlen
        have C24 := hide (increasing_any ts _ w HT.out (by omega))
        go_wp2_with fail
        refine C24.out.mono ?_
        rintro e w1 ⟨⟨b, rfl, hb⟩, hBa⟩
        have HBa := hide hBa
        clear C24 hBa
        cases b with
        | false =>
          clear hb
          go_wp2_with fail
          go_ret
          exact ⟨rfl, HBa.out⟩
        | true =>
        have HRise := hide (hb rfl)
        clear hb
        have C10 := hide (cloneInts_any ts _ w1 (HT.out.below HBa.out) (by omega))
        go_wp2_with fail
        refine C10.out.mono ?_
        rintro e w2 ⟨a1, c1, rfl, hO1, hB1⟩
        have C11 := hide (cloneRows_any out _ w2 ((HO.out.below HBa.out).below hB1) (by omega) HLn.out)
        clear C10
        have HB1 := hide (HBa.out.trans (hB1.mono HBa.out.size))
        have HT1 := hide (Row.of_owns hO1)
        clear hB1 hO1 HBa HT
        go_wp2_with fail
        refine C11.out.mono ?_
        rintro e w3 ⟨v2, rfl, hR2, hB2⟩
        clear C11
        obtain ⟨N, hN⟩ : ∃ N, N = natRows out := ⟨_, rfl⟩
        have hNl : N.length = ts.length := by rw [hN, natRows_length, HLE.out]
        have hN2 := hR2.nat HRG.out
        rw [← hN] at hN2
        have HNO : Hid (∀ v w, E N v w → w < N.length) := fun v w h => by rw [hN] at h; rw [hNl]; exact natRows_edge HRG.out h
        have HNL : Hid (∀ l ∈ N, l.length ≤ 1048576) := by rw [hN]; exact natRows_len HLn.out
        have HN2 := hide hN2
        have HNl := hide hNl
        have HB3 := hide (HB1.out.trans (hB2.mono HB1.out.size))
        have HT3 := hide (HT1.out.below hB2)
        clear hB2 hN2 hR2 hN hNl HB1 HT1 HLn HRG HLE HO
        have C21 := zzCycle_any HC.out N ts a1 c1 v2 w3 (by rw [HNl.out]; exact HT3.out) HN2.out (by rw [HNl.out]; exact hn1) HNO.out HNL.out
        rw [HNl.out] at C21
        have HC21 := hide C21
        clear C21
        go_wp2_with fail
        refine HC21.out.mono ?_
        rintro e w4 ⟨s, vg, rfl, hRs, hWs, hB4, hV⟩
        have HRs := hide hRs
        have HV := hide hV
        have HB4 := hide hB4
        have HK := hide (hRs.comps HNO.out hWs)
        clear HC21 hRs hWs hB4 hV
        have C12 := zzComponents_any HC.out N a1 c1 v2 w4 (HN2.out.below HB4.out) (by rw [HNl.out]; exact hn1) HNO.out HNL.out
        rw [HNl.out] at C12
        have HC12 := hide C12
        clear C12
        go_wp2_with fail
        refine HC12.out.mono ?_
        rintro e w5 ⟨s1, x1, z1, rfl, hr1, hw1, ⟨p1, q1, rfl⟩, ⟨p2, q2, rfl⟩, hc1, hz1, _, _, hB5⟩
        obtain rfl := hr1.uniq HRs.out
        rw [HNl.out]
        have HF1 := hide (Row.of_owns hc1)
        have HZ1 := hide (Row.of_owns hz1)
        have HB5 := hide hB5
        clear HC12 hr1 hw1 hc1 hz1 hB5 HC HRs
        have C18 := wellFormed_any HK.out _ _ w5 HF1.out HZ1.out (by rw [HNl.out]; exact hn1)
        rw [HNl.out] at C18
        have HC18 := hide C18
        clear C18
        go_wp2_with fail
        refine HC18.out.mono ?_
        rintro e w6 ⟨rfl, hB6⟩
        have HB6 := hide hB6
        clear HC18 hB6
        have hB46 := HB5.out.trans (HB6.out.mono HB5.out.size)
        have hB36 := HB4.out.trans (hB46.mono HB4.out.size)
        have C16 := reach_any N v2 w6 (HN2.out.below hB36) (by rw [HNl.out]; exact hn1) HNO.out HNL.out
        rw [HNl.out] at C16
        have HC16 := hide C16
        clear C16 hB46 hB36
        go_wp2_with fail
        refine HC16.out.mono ?_
        rintro e w7 ⟨f, rfl, hf, hO7, hB7⟩
        rw [HNl.out] at hf hO7
        rw [HNl.out]
        have hB57 := HB6.out.trans (hB7.mono HB6.out.size)
        have hB47 := HB5.out.trans (hB57.mono HB5.out.size)
        have hB37 := HB4.out.trans (hB47.mono HB4.out.size)
        have HB8 := hide (HB3.out.trans (hB37.mono HB3.out.size))
        have hF8 := HF1.out.below hB57
        rw [HNl.out] at hF8
        have HF8 := hide hF8
        have HZ8 := hide (HZ1.out.below hB57)
        have HN8 := hide (HN2.out.below hB37)
        have HT8 := hide (HT3.out.below hB37)
        have HV8 := hide (HV.out.below hB47)
        have HTab : Hid (∀ i, i < ts.length * ts.length → w7.cell? ⟨w6.heap.size, i, none⟩ = some (.bool (f i))) := fun i hi => by
          rw [hO7.cellAt i (by omega)]
          exact tabB_get _ hi
        have HFr := hide hf
        have HBig : Hid (∀ v m, v < ts.length → s1.size[s1.comp v]? = some m → (1 < m ↔ Big N v)) := fun v m hv hm => HK.out.big HNO.out (by rw [HNl.out]; exact hv) hm
        obtain ⟨a8, c8, hv2, _, _⟩ := HN2.out
        rw [HNl.out] at hv2
        subst hv2
        clear HC16 hf hO7 hB7 hB57 hB47 hB37 hF8 HB3 HB4 HB5 HB6 HF1 HZ1 HN2 HT3 HV
        go_wp2_with fail
        go_loopw [10, 11] (fun sv vv wr => ∃ (v : Nat) (q : Int), v ≤ ts.length ∧ sv = .int .i64 q ∧ vv = .int .i64 v ∧ Hid (((q = -1 ∧ ∀ x, x < v → ¬ Big N x) ∨ ∃ st : Nat, q = (st : Int) ∧ st < ts.length ∧ Big N st ∧ ∀ x, x < st → ¬ Big N x) ∧ Below w7.heap.size w7 wr)) (fun _ vv _ => ts.length - (intOf vv).toNat)
        case atStart => exact ⟨0, -1, by omega, rfl, rfl, .inl ⟨rfl, fun x hx => by omega⟩, Below.refl _ _⟩
        case round =>
        obtain ⟨v, q, hv, rfl, rfl, HJ⟩ := hrel
        obtain ⟨bb, hbb⟩ : ∃ bb : Bool, bb = decide (v < ts.length ∧ q = -1) := ⟨_, rfl⟩
        have HBB := hide hbb
        clear hbb
        go_upto_region 19 with fail
        go_cut [77] (fun t wx => t = .bool bb ∧ wx = wr)
        case first =>
          by_cases hvl : v < ts.length
          · have hvl' : (v : Int) < (ts.length : Int) := by omega
            rcases HJ.out.1 with ⟨rfl, _⟩ | ⟨st, rfl, hst, _, _⟩
            · go_wp2_with fail
              go_meet
              case rel => exact ⟨by rw [HBB.out]; simp [hvl], rfl⟩
            · go_wp2_with fail
              go_meet
              case rel => exact ⟨by rw [HBB.out]; simp; try omega, rfl⟩
          · have hve : v = ts.length := by omega
            subst hve
            go_wp2_with fail
            go_meet
            case rel => exact ⟨by rw [HBB.out]; simp, rfl⟩
        case rest =>
        obtain ⟨rfl, hw⟩ := hcut
        obtain rfl := hw.symm
        cases bb with
        | true =>
          have hvq : v < ts.length ∧ q = -1 := by simpa using HBB.out.symm
          obtain ⟨hvl, rfl⟩ := hvq
          obtain ⟨b, o, ar, cr, hab, cr0, hrow⟩ := HN8.out.at (v := v) (by rw [HNl.out]; exact hvl)
          subst hab
          have crw := cell_later HJ.out.2 cr0
          have hrl : (row N v).length ≤ 1048576 := by
            have hun : v < N.length := by rw [HNl.out]; exact hvl
            have e : row N v = N[v] := by simp [row, List.getD, hun]
            rw [e]
            exact HNL.out _ (List.getElem_mem _)
          have hvl' : (v : Int) < (ts.length : Int) := by omega
          have HRow := hide hrow
          have HPre : Hid (∀ x, x < v → ¬ Big N x) := by
            rcases HJ.out.1 with ⟨_, h⟩ | ⟨st, h, _⟩
            · exact h
            · omega
          have HW := hide HJ.out.2
          clear hrow cr0 HJ HBB
          go_wp2_with fail
          go_loopw [10, 85] (fun sv jv wr => ∃ (j : Nat) (q : Int), j ≤ (row N v).length ∧ sv = .int .i64 q ∧ jv = .int .i64 j ∧ Hid (((q = -1 ∧ ∀ y ∈ (row N v).take j, ¬ (y ≠ v ∧ Reach (E N) y v)) ∨ (q = (v : Int) ∧ Big N v)) ∧ Below w7.heap.size w7 wr)) (fun _ jv _ => (row N v).length - (intOf jv).toNat)
          case atStart => exact ⟨0, -1, by omega, rfl, rfl, .inl ⟨rfl, fun y hy => by simp at hy⟩, HW.out⟩
          case round =>
          clear HW crw
          obtain ⟨j, q, hj, rfl, rfl, HJ⟩ := hrel
          by_cases hjl : j < (row N v).length
          · obtain ⟨x, hx⟩ : ∃ x, (row N v)[j]? = some x := ⟨_, List.getElem?_eq_getElem hjl⟩
            have hE : E N v x := List.mem_of_getElem? hx
            have hxn : x < ts.length := by rw [← HNl.out]; exact HNO.out v x hE
            obtain ⟨bx, ox, hab, cx0⟩ := HRow.out.atI hx
            subst hab
            have cx := cell_later HJ.out.2 cx0
            have hjl' : (j : Int) < ((row N v).length : Int) := by omega
            have hxn' : (x : Int) < (ts.length : Int) := by omega
            obtain ⟨R, hRR⟩ : ∃ R : Nat, R = x * ts.length := ⟨_, rfl⟩
            have hRI : (x : Int) * (ts.length : Int) = (R : Int) := by rw [hRR, Int.natCast_mul]
            have hnn : ts.length * ts.length ≤ 16777216 := Nat.mul_le_mul hn1 hn1
            have hR1 : R + ts.length ≤ ts.length * ts.length := by
              have h : (x + 1) * ts.length ≤ ts.length * ts.length := Nat.mul_le_mul_right _ hxn
              rw [Nat.add_mul] at h
              omega
            have t1 := cell_later HJ.out.2 (HTab.out (R + v) (by omega))
            have e1 := HFr.out x v hxn hvl
            rw [← hRR] at e1
            have HE := hide hE
            have HX := hide hx
            clear hE hx cx0 hRR
            by_cases hxv : x = v
            · have hd : ((x : Int) != (v : Int)) = false := by simp; omega
              have HN : Hid ((q = -1 ∧ ∀ y ∈ (row N v).take (j + 1), ¬ (y ≠ v ∧ Reach (E N) y v)) ∨ (q = (v : Int) ∧ Big N v)) := by
                rcases HJ.out.1 with ⟨h1, h2⟩ | h1
                · refine .inl ⟨h1, fun y hy => ?_⟩
                  rcases take_succ_mem HX.out hy with hy | hy
                  · exact h2 y hy
                  · rw [hy]; exact fun h => h.1 hxv
                · exact .inr h1
              generalize f (R + v) = fa at *
              clear e1 hxv
              go_wp2_with fail
              go_roundw
              case rel => exact ⟨j + 1, q, by omega, rfl, by go_num, HN.out, HJ.out.2⟩
              case measure => simp [intOf]; omega
            · have hd : ((x : Int) != (v : Int)) = true := by simp; omega
              cases hfa : f (R + v) with
              | false =>
                rw [hfa] at t1
                have HN : Hid ((q = -1 ∧ ∀ y ∈ (row N v).take (j + 1), ¬ (y ≠ v ∧ Reach (E N) y v)) ∨ (q = (v : Int) ∧ Big N v)) := by
                  rcases HJ.out.1 with ⟨h1, h2⟩ | h1
                  · refine .inl ⟨h1, fun y hy => ?_⟩
                    rcases take_succ_mem HX.out hy with hy | hy
                    · exact h2 y hy
                    · rw [hy]
                      intro h
                      have := e1.2 h.2
                      rw [hfa] at this
                      cases this
                  · exact .inr h1
                clear e1 hxv hfa
                go_wp2_with fail
                go_roundw
                case rel => exact ⟨j + 1, q, by omega, rfl, by go_num, HN.out, HJ.out.2⟩
                case measure => simp [intOf]; omega
              | true =>
                rw [hfa] at t1
                have HN : Hid (Big N v) := ⟨x, hxv, HE.out, e1.1 hfa⟩
                clear e1 hxv hfa
                go_wp2_with fail
                go_roundw
                case rel => exact ⟨j + 1, v, by omega, rfl, by go_num, .inr ⟨rfl, HN.out⟩, HJ.out.2⟩
                case measure => simp [intOf]; omega
          · have hje : j = (row N v).length := by omega
            subst hje
            have HN : Hid ((q = -1 ∧ ∀ x, x < v + 1 → ¬ Big N x) ∨ ∃ st : Nat, q = (st : Int) ∧ st < ts.length ∧ Big N st ∧ ∀ x, x < st → ¬ Big N x) := by
              rcases HJ.out.1 with ⟨h1, h2⟩ | ⟨h1, h2⟩
              · rw [List.take_length] at h2
                refine .inl ⟨h1, fun x hx => ?_⟩
                by_cases e : x = v
                · subst e
                  rintro ⟨w, g1, g2, g3⟩
                  exact h2 w g2 ⟨g1, g3⟩
                · exact HPre.out x (by omega)
              · exact .inr ⟨v, h1, hvl, h2, HPre.out⟩
            go_wp2_with fail
            go_roundw
            case rel => exact ⟨v + 1, q, by omega, rfl, by go_num, HN.out, HJ.out.2⟩
            case measure => simp [intOf]; omega
        | false =>
        have HB9 := hide (HB8.out.trans (HJ.out.2.mono HB8.out.size))
        have HF9 := hide (HF8.out.below HJ.out.2)
        have HZ9 := hide (HZ8.out.below HJ.out.2)
        have HN9 := hide (HN8.out.below HJ.out.2)
        have HT9 := hide (HT8.out.below HJ.out.2)
        have HV9 := hide (HV8.out.below HJ.out.2)
        have HQ := hide HJ.out.1
        have hsl := HK.out.len_le
        rw [HNl.out] at hsl
        have HBF : Hid (¬ (v < ts.length ∧ q = -1)) := fun h => by
          have h1 := HBB.out
          rw [decide_eq_true h] at h1
          cases h1
        clear HB8 HF8 HZ8 HN8 HT8 HV8 HJ HBB HTab HFr
        rename World => w8
        rcases HQ.out with ⟨rfl, hno⟩ | ⟨st, rfl, hst, hbig, hfst⟩
        · have HNo : Hid (∀ x, x < ts.length → ¬ Big N x) := fun x hx => hno x (by have := HBF.out; omega)
          clear hno HQ HBF
          have hvg : vg = .slice none 0 0 := by
            rcases HV9.out with ⟨h, _⟩ | ⟨st, m, _, _, _, _, h1, h2, h3, _⟩
            · exact h
            · rw [HNl.out] at h1
              exact (HNo.out st h1 ((HBig.out st m h1 h2).1 h3)).elim
          subst hvg
          have q22 := eql_nil22
          clear HV9
          go_wp2_with fail
          go_loopw [4, 14] (fun rv cv wr => ∃ c : Nat, c ≤ s1.size.length ∧ rv = .bool false ∧ cv = .int .i64 c ∧ wr = w8) (fun _ cv _ => s1.size.length - (intOf cv).toNat)
          case atStart => exact ⟨0, by omega, rfl, rfl, rfl⟩
          case round =>
          obtain ⟨c, hc, rfl, rfl, hw⟩ := hrel
          obtain rfl := hw.symm
          by_cases hcl : c < s1.size.length
          · obtain ⟨m, hm⟩ : ∃ m, s1.size[c]? = some m := ⟨_, List.getElem?_eq_getElem hcl⟩
            have hm1 : m = 1 := by
              have h0 := (HK.out.cnt c m hm).1
              obtain ⟨x, hx, hxc⟩ := HK.out.rep hcl
              rw [HNl.out] at hx
              have h1 : ¬ 1 < m := fun h => HNo.out x hx ((HBig.out x m hx (by rw [hxc]; exact hm)).1 h)
              omega
            subst hm1
            obtain ⟨bz, oz, hab, cz⟩ := HZ9.out.atI hm
            subst hab
            have hcl' : (c : Int) < (s1.size.length : Int) := by omega
            clear hm
            go_wp2_with fail
            go_roundw
            case rel => exact ⟨c + 1, by omega, rfl, by go_num, (by first | trivial | rfl)⟩
            case measure => simp [intOf]; omega
          · have hce : c = s1.size.length := by omega
            subst hce
            go_wp2_with fail
            go_ret
            exact ⟨by simp, HB9.out⟩
        · have hC : ∃ (m : Nat) (C : List Nat) (g c : Nat), vg = .slice (some ⟨g, 0, none⟩) C.length c ∧ s1.size[s1.comp st]? = some m ∧ 1 < m ∧ CycOk N s1.comp st C ∧ Row w8 (.slice (some ⟨g, 0, none⟩) C.length c) (zV (C.map (tau ts))) := by
            rcases HV9.out with ⟨_, h⟩ | ⟨st', m, C, g, c, h1, h2, h3, h4, h5, h6, h7⟩
            · exfalso
              have hcl := HK.out.lt st (by rw [HNl.out]; exact hst)
              obtain ⟨m, hm⟩ : ∃ m, s1.size[s1.comp st]? = some m := ⟨_, List.getElem?_eq_getElem hcl⟩
              have h8 := h st m (by rw [HNl.out]; exact hst) hm
              have h9 := (HBig.out st m hst hm).2 hbig
              omega
            · rw [HNl.out] at h2
              have hb' := (HBig.out st' m h2 h3).1 h4
              have e : st' = st := by
                rcases Nat.lt_trichotomy st' st with hlt | heq | hgt
                · exact (hfst st' hlt hb').elim
                · exact heq
                · have hcl := HK.out.lt st (by rw [HNl.out]; exact hst)
                  obtain ⟨m', hm'⟩ : ∃ m, s1.size[s1.comp st]? = some m := ⟨_, List.getElem?_eq_getElem hcl⟩
                  have h8 := h5 st m' hgt hm'
                  have h9 := (HBig.out st m' hst hm').2 hbig
                  omega
              subst e
              exact ⟨m, C, g, c, h1, h3, h4, h6, h7⟩
          obtain ⟨m, C, g, cg, rfl, hm, h1m, hCO, hRC⟩ := hC
          have hCm : C.length ≤ m := by
            have h := hCO.le
            rw [← (HK.out.cnt _ m hm).2] at h
            exact h
          have hCn : C.length ≤ ts.length := by
            have h := hCO.le
            have h2 := cntB_le N.length (fun x => s1.comp x == s1.comp st)
            rw [HNl.out] at h h2
            omega
          have hC1 : 0 < C.length := (List.getElem?_eq_some_iff.1 hCO.hd).1
          have HCO := hide hCO
          have HRC := hide hRC
          have HM := hide hm
          have HFst := hide hfst
          have hst' : (st : Int) < (ts.length : Int) := by omega
          have hcst := HK.out.lt st (by rw [HNl.out]; exact hst)
          clear hm hCO hRC hbig hfst HQ HV9 HBF
          have m22 := fun kl kc => run_make_row' (P := Try.prog) 22 3 (.int .i64 0) 8 Try.underlying22 Try.info3 rfl kl kc C.length (by omega) (by omega)
          have m32 := fun kl kc => run_make_row' (P := Try.prog) 32 4 (.bool false) 1 Try.underlying32 Try.info4 rfl kl kc ts.length (by omega) (by omega)
          have HM32 := hide m32
          clear m32
          have HI0 := hide (made_tab w8 C.length (fun _ => 0) (fun _ => rfl) (by omega))
          have hdz : ((C.length : Int) == 0) = false := by rw [beq_eq_false_iff_ne]; omega
          go_wp2_with fail
          clear m22
          go_loopw [4, 16] (fun rv iv wr => ∃ (i : Nat) (cf : Nat → Nat), i ≤ C.length ∧ rv = .bool false ∧ iv = .int .i64 i ∧ Hid ((∀ j x, j < i → C[j]? = some x → cf j = x) ∧ wr.ownsRow w8.heap.size 3 1 (.slice (some ⟨w8.heap.size, 0, none⟩) C.length C.length) C.length (tabI C.length cf) ∧ Below w8.heap.size w8 wr)) (fun _ iv _ => C.length - (intOf iv).toNat)
          case atStart => exact ⟨0, fun _ => 0, by omega, rfl, rfl, (fun j x hj => by omega), HI0.out, (Below.refl _ _).alloc (Nat.le_refl _) _⟩
          case round =>
          clear HI0
          obtain ⟨i, cf, hi, rfl, rfl, HJ⟩ := hrel
          by_cases hil : i < C.length
          · obtain ⟨x, hx⟩ : ∃ x, C[i]? = some x := ⟨_, List.getElem?_eq_getElem hil⟩
            obtain ⟨j1, j2, j3⟩ := HJ.out
            have hxn : x < ts.length := by
              have := (HCO.out.mem x (List.mem_of_getElem? hx)).1
              rw [HNl.out] at this
              exact this
            obtain ⟨bg, og, hab, cg0⟩ := HRC.out.atZ (k := i) (x := tau ts x) (by rw [List.getElem?_map, hx]; rfl)
            simp only [Option.some.injEq, Addr.mk.injEq, and_true] at hab
            obtain ⟨rfl, rfl⟩ := hab
            rw [Nat.zero_add] at cg0
            have cgg := cell_later j3 cg0
            have ci : wr.cell? ⟨w8.heap.size, i, none⟩ = some (.int .i64 (cf i : Int)) := by rw [j2.cellAt _ (by omega)]; exact tabI_get _ hil
            have fi : wr.frozen? ⟨w8.heap.size, i, none⟩ = false := j2.frozenAt _
            have C25 := hide (find_any ts x (tau ts x) _ wr (HT9.out.below j3) (by omega) HRise.out (tau_get hxn))
            have hil' : (i : Int) < (C.length : Int) := by omega
            have h5 := (j2.stored i (.int .i64 (x : Int))).1
            rw [tabI_set] at h5
            have HE : Hid ((∀ j y, j < i + 1 → C[j]? = some y → upd cf i x j = y) ∧ (wr.setCell ⟨w8.heap.size, i, none⟩ (.int .i64 (x : Int))).ownsRow w8.heap.size 3 1 (.slice (some ⟨w8.heap.size, 0, none⟩) C.length C.length) C.length (tabI C.length (upd cf i x)) ∧ Below w8.heap.size w8 (wr.setCell ⟨w8.heap.size, i, none⟩ (.int .i64 (x : Int)))) := by
              refine ⟨fun j y hj hy => ?_, h5, j3.setCell (Nat.le_refl _) _⟩
              by_cases e : j = i
              · subst e
                rw [hx] at hy
                rw [upd_same]
                simpa using hy
              · rw [upd_ne _ _ _ e]; exact j1 j y (by omega) hy
            generalize cf i = ci0 at ci
            clear j1 j2 j3 h5 hx cg0 HJ
            go_wp2_with fail
            refine C25.out.mono ?_
            rintro e wf ⟨rfl, hw⟩
            obtain rfl := hw.symm
            clear C25
            go_wp2_with fail
            go_roundw
            case rel => exact ⟨i + 1, upd cf i x, by omega, rfl, by go_num, HE.out⟩
            case measure => simp [intOf]; omega
          · have hie : i = C.length := by omega
            subst hie
            obtain ⟨j1, j2, j3⟩ := HJ.out
            have hIx : ∀ (j x : Nat), C[j]? = some x → wr.cell? ⟨w8.heap.size, j, none⟩ = some (.int .i64 (x : Int)) := fun j x hx => by
              have hj := (List.getElem?_eq_some_iff.1 hx).1
              rw [j2.cellAt _ (by omega), ← j1 j x hj hx]
              exact tabI_get _ hj
            have HIx := hide hIx
            have k0 := hIx 0 st HCO.out.hd
            have HB10 := hide (HB9.out.trans (j3.mono HB9.out.size))
            have HF10 := hide (HF9.out.below j3)
            have HZ10 := hide (HZ9.out.below j3)
            have HN10 := hide (HN9.out.below j3)
            have hds : ((st : Int) != (st : Int)) = false := by simp
            have HS0 : Hid ((wr.alloc (.cells (madeCells #[.bool false] ts.length) 4)).ownsRow wr.heap.size 4 1 (.slice (some ⟨wr.heap.size, 0, none⟩) ts.length ts.length) ts.length (tabB ts.length (fun _ => false))) := by
              have h1 := own_made wr (.bool false) ts.length 4 (by unfold maxLen; omega)
              have e1 : List.replicate ts.length (Value.bool false) = tabB ts.length (fun _ => false) := by
                apply List.ext_getElem?
                intro j
                by_cases hj : j < ts.length
                · rw [tabB_get _ hj, List.getElem?_replicate, if_pos hj]
                · rw [List.getElem?_eq_none (by simp; omega), List.getElem?_eq_none (by rw [tabB_length]; omega)]
              rw [e1] at h1
              exact h1
            clear j1 j2 j3 hIx HJ HB9 HF9 HZ9 HN9 HT9 HRC
            rename World => w9
            have m32 := HM32.out
            go_wp2_with fail
            clear m32
            go_loopw [4, 19] (fun rv iv wr => ∃ (i : Nat) (sf : Nat → Bool), i ≤ C.length ∧ rv = .bool false ∧ iv = .int .i64 i ∧ Hid ((∀ x, x < ts.length → (sf x = true ↔ x ∈ C.take i)) ∧ wr.ownsRow w9.heap.size 4 1 (.slice (some ⟨w9.heap.size, 0, none⟩) ts.length ts.length) ts.length (tabB ts.length sf) ∧ Below w9.heap.size w9 wr)) (fun _ iv _ => C.length - (intOf iv).toNat)
            case atStart => exact ⟨0, fun _ => false, by omega, rfl, rfl, (fun x hx => by simp), HS0.out, (Below.refl _ _).alloc (Nat.le_refl _) _⟩
            case round =>
            clear HS0 k0
            obtain ⟨i, sf, hi, rfl, rfl, HJ⟩ := hrel
            by_cases hil : i < C.length
            · obtain ⟨x, hx⟩ : ∃ x, C[i]? = some x := ⟨_, List.getElem?_eq_getElem hil⟩
              obtain ⟨j1, j2, j3⟩ := HJ.out
              obtain ⟨hxn, hxc⟩ := HCO.out.mem x (List.mem_of_getElem? hx)
              rw [HNl.out] at hxn
              have hil' : (i : Int) < (C.length : Int) := by omega
              have hxn' : (x : Int) < (ts.length : Int) := by omega
              have ci := cell_later j3 (HIx.out i x hx)
              have c0 := cell_later j3 (HIx.out 0 st HCO.out.hd)
              have hsf : sf x = false := by
                have hni : x ∉ C.take i := fun hm => by
                  obtain ⟨k, hk⟩ := List.getElem?_of_mem hm
                  have hkl := (List.getElem?_eq_some_iff.1 hk).1
                  rw [List.length_take] at hkl
                  rw [List.getElem?_take_of_lt (by omega)] at hk
                  obtain ⟨g1, g2⟩ := List.getElem?_eq_some_iff.1 hk
                  obtain ⟨g3, g4⟩ := List.getElem?_eq_some_iff.1 hx
                  exact (List.pairwise_iff_getElem.1 HCO.out.nd k i g1 g3 (by omega)) (by rw [g2, g4])
                cases h : sf x with
                | false => rfl
                | true => exact (hni ((j1 x hxn).1 h)).elim
              have cs : wr.cell? ⟨w9.heap.size, x, none⟩ = some (.bool false) := by rw [j2.cellAt _ (by omega), ← hsf]; exact tabB_get _ hxn
              have fs : wr.frozen? ⟨w9.heap.size, x, none⟩ = false := j2.frozenAt _
              have h5 := (j2.stored x (.bool true)).1
              rw [tabB_set] at h5
              have hB5 : Below w9.heap.size w9 (wr.setCell ⟨w9.heap.size, x, none⟩ (.bool true)) := j3.setCell (Nat.le_refl _) _
              have HE : Hid ((∀ y, y < ts.length → (upd sf x true y = true ↔ y ∈ C.take (i + 1))) ∧ (wr.setCell ⟨w9.heap.size, x, none⟩ (.bool true)).ownsRow w9.heap.size 4 1 (.slice (some ⟨w9.heap.size, 0, none⟩) ts.length ts.length) ts.length (tabB ts.length (upd sf x true)) ∧ Below w9.heap.size w9 (wr.setCell ⟨w9.heap.size, x, none⟩ (.bool true))) := by
                refine ⟨fun y hy => ?_, h5, hB5⟩
                have et : C.take (i + 1) = C.take i ++ [x] := by
                  rw [List.take_succ_eq_append_getElem hil, (List.getElem?_eq_some_iff.1 hx).2]
                rw [et]
                by_cases e : y = x
                · subst e; rw [upd_same]; simp
                · rw [upd_ne _ _ _ e, j1 y hy]; simp [e]
              obtain ⟨b, o, ar, cr, hab, cr0, hrow⟩ := HN10.out.at (v := x) (by rw [HNl.out]; exact hxn)
              subst hab
              have hrl : (row N x).length ≤ 1048576 := by
                have hun : x < N.length := by rw [HNl.out]; exact hxn
                have e : row N x = N[x] := by simp [row, List.getD, hun]
                rw [e]
                exact HNL.out _ (List.getElem_mem _)
              obtain ⟨b1, o1, hp1, k1⟩ := HF10.out.tabAt hxn
              subst hp1
              obtain ⟨b2, o2, hp2, k2⟩ := HF10.out.tabAt hst
              simp only [Option.some.injEq, Addr.mk.injEq, and_true] at hp2
              obtain ⟨rfl, rfl⟩ := hp2
              rw [hxc] at k1
              have hdc : ((s1.comp st : Int) != (s1.comp st : Int)) = false := by simp
              -- all that is read behind the store
              obtain ⟨wq, hwq⟩ : ∃ wq, wq = wr.setCell ⟨w9.heap.size, x, none⟩ (.bool true) := ⟨_, rfl⟩
              rw [← hwq] at HE hB5
              have c0q := cell_later hB5 (HIx.out 0 st HCO.out.hd)
              have crq := cell_later hB5 cr0
              have k1q := cell_later hB5 k1
              have k2q := cell_later hB5 k2
              have HRowq := hide (hrow.below hB5)
              have HX := hide hx
              have HWQ := hide hwq
              have HB5 := hide hB5
              clear j1 j2 j3 h5 hB5 hx cr0 hrow k1 k2 hsf HJ hxc c0
              by_cases hin : i + 1 < C.length
              · obtain ⟨y, hy⟩ : ∃ y, C[i + 1]? = some y := ⟨_, List.getElem?_eq_getElem hin⟩
                have hEd := HCO.out.edge i x y HX.out hy
                have c1q := cell_later HB5.out (HIx.out (i + 1) y hy)
                have C26 := hide (hasEdge_any (row N x) y _ wq HRowq.out hrl hEd)
                have hin' : (i : Int) + 1 < (C.length : Int) := by omega
                clear hy hEd
                go_upto_region 54 with fail
                rw [← HWQ.out]
                clear hwq cs fs ci
                go_wp2_with fail
                refine C26.out.mono ?_
                rintro e wf ⟨rfl, hw⟩
                obtain rfl := hw.symm
                clear C26
                go_wp2_with fail
                go_quiet (fail)
                go_wp2_with fail
                go_roundw
                case rel => exact ⟨i + 1, upd sf x true, by omega, rfl, by go_num, HE.out.1, HE.out.2.1, ⟨HE.out.2.2.os, HE.out.2.2.tape, HE.out.2.2.output, HE.out.2.2.size, HE.out.2.2.block⟩⟩
                case measure => simp [intOf]; omega
              · have hEd := HCO.out.last x (by rw [show C.length - 1 = i by omega]; exact HX.out)
                have C26 := hide (hasEdge_any (row N x) st _ wq HRowq.out hrl hEd)
                have hin' : decide ((i : Int) + 1 < (C.length : Int)) = false := by simp; omega
                clear hEd
                go_upto_region 54 with fail
                rw [← HWQ.out]
                clear hwq cs fs ci
                go_wp2_with fail
                refine C26.out.mono ?_
                rintro e wf ⟨rfl, hw⟩
                obtain rfl := hw.symm
                clear C26
                go_wp2_with fail
                go_quiet (fail)
                go_wp2_with fail
                go_roundw
                case rel => exact ⟨i + 1, upd sf x true, by omega, rfl, by go_num, HE.out.1, HE.out.2.1, ⟨HE.out.2.2.os, HE.out.2.2.tape, HE.out.2.2.output, HE.out.2.2.size, HE.out.2.2.block⟩⟩
                case measure => simp [intOf]; omega
            · have hie : i = C.length := by omega
              subst hie
              obtain ⟨j1, j2, j3⟩ := HJ.out
              have HB11 := hide (HB10.out.trans (j3.mono HB10.out.size))
              have HF11 := hide (HF10.out.below j3)
              have HZ11 := hide (HZ10.out.below j3)
              obtain ⟨b1, o1, hp1, k1⟩ := HF11.out.tabAt hst
              subst hp1
              obtain ⟨bz, oz, hp2, kz⟩ := HZ11.out.atI HM.out
              subst hp2
              have hd1 : decide ((m : Int) < 2) = false := by simp; omega
              have hd2 : decide ((m : Int) < (C.length : Int)) = false := by simp; omega
              have hcst' : (s1.comp st : Int) < (s1.size.length : Int) := by omega
              clear j1 j2 j3 HJ HB10 HF10 HZ10 HN10
              rename World => w10
              go_wp2_with fail
              go_loopw [4, 22] (fun rv vv wr => ∃ v : Nat, v ≤ st ∧ rv = .bool false ∧ vv = .int .i64 v ∧ wr = w10) (fun _ vv _ => st - (intOf vv).toNat)
              case atStart => exact ⟨0, by omega, rfl, rfl, rfl⟩
              case round =>
              clear k1 kz
              obtain ⟨x, hx, rfl, rfl, hw⟩ := hrel
              obtain rfl := hw.symm
              by_cases hxl : x < st
              · have hxn : x < ts.length := by omega
                have hcx := HK.out.lt x (by rw [HNl.out]; exact hxn)
                obtain ⟨m', hm'⟩ : ∃ m', s1.size[s1.comp x]? = some m' := ⟨_, List.getElem?_eq_getElem hcx⟩
                have hle : m' ≤ 1 := by
                  apply Decidable.byContradiction
                  intro h
                  exact HFst.out x hxl ((HBig.out x m' hxn hm').1 (by omega))
                obtain ⟨b3, o3, hp3, k3⟩ := HF11.out.tabAt hxn
                simp only [Option.some.injEq, Addr.mk.injEq, and_true] at hp3
                obtain ⟨rfl, rfl⟩ := hp3
                obtain ⟨b4, o4, hp4, k4⟩ := HZ11.out.atI hm'
                simp only [Option.some.injEq, Addr.mk.injEq, and_true] at hp4
                obtain ⟨rfl, rfl⟩ := hp4
                have hxl' : (x : Int) < (st : Int) := by omega
                have hxn' : (x : Int) < (ts.length : Int) := by omega
                have hcx' : (s1.comp x : Int) < (s1.size.length : Int) := by omega
                have hd3 : decide ((1 : Int) < (m' : Int)) = false := by simp; omega
                clear hm'
                go_wp2_with fail
                go_roundw
                case rel => exact ⟨x + 1, by omega, rfl, by go_num, (by first | trivial | rfl)⟩
                case measure => simp [intOf]; omega
              · have hxe : x = st := by omega
                subst hxe
                go_wp2_with fail
                go_ret
                exact ⟨by simp, HB11.out⟩
      · go_wp2_with fail
        go_ret
        exact ⟨rfl, Below.refl _ _⟩
    · go_wp2_with fail
      go_ret
      exact ⟨rfl, Below.refl _ _⟩
  · go_wp2_with fail
    go_ret
    exact ⟨rfl, Below.refl _ _⟩
end Go.Proofs.Qxb6605452a
