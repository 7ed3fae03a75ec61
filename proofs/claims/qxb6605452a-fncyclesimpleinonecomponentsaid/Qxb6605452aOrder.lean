import Derived.Test.Qxb6605452aWell
import Derived.Test.Qxb6605452aCompSpec
import Derived.Deep.DeepCutAuto
import Derived.BigQuiet
namespace Go.Proofs.Qxb6605452a
open Go.RowKit

theorem totZ_nat (out : List (List Int)) : ((natRows out).map List.length).sum = totZ out := by
  unfold natRows totZ
  rw [List.map_map]
  congr 1
  exact List.map_congr_left fun l _ => by simp
theorem totZ_mem {out : List (List Int)} {l : List Int} (h : l ∈ out) : l.length ≤ totZ out := sum_mem (List.mem_map.2 ⟨l, h, rfl⟩)

theorem Reach.turn {out rev : List (List Nat)} (h : ∀ x y, E rev y x ↔ E out x y) {a b : Nat} (hr : Reach (E out) a b) : Reach (E rev) b a :=
  hr (fun z => Reach (E rev) z a) (Reach.refl a) (fun x y hx hxy => (Reach.edge ((h x y).2 hxy)).trans hx)
theorem Mut.turn {out rev : List (List Nat)} (h : ∀ x y, E rev y x ↔ E out x y) (x y : Nat) : Mut (E out) x y ↔ Mut (E rev) x y :=
  ⟨fun k => ⟨k.2.turn h, k.1.turn h⟩, fun k => ⟨k.2.turn (fun a b => (h b a).symm), k.1.turn (fun a b => (h b a).symm)⟩⟩

theorem E_lt {out : List (List Nat)} {u v : Nat} (h : E out u v) : u < out.length := by
  apply Decidable.byContradiction
  intro hn
  have e : row out u = [] := by unfold row; rw [List.getD, List.getElem?_eq_none (by omega)]; rfl
  unfold E at h
  rw [e] at h
  cases h

set_option maxHeartbeats 2000000 in
set_option maxRecDepth 100000 in
theorem order_any (hC : CompSpec) (ts : List Int) (out : List (List Int)) (vt vo : Value) (w : World) (ht : Row w vt (zV ts)) (ho : RowsZ w vo out) :
    Calls Try.prog 4 #[vt, vo] w fun e w' => e = .returned (.bool true) ∧ Below w.heap.size w w' := by
  have HC := hide hC
  have HT := hide ht
  have HO := hide ho
  obtain ⟨at', ct, rfl, ht1, ht2, _⟩ := ht
  obtain ⟨ao, co, rfl, ho1, ho2, _⟩ := ho
  rw [zV_length] at *
  have C15 := hide (bytes15_any ts out _ _ w HT.out HO.out)
  have C8 := hide (bytes8_any ts out _ _ w HT.out HO.out)
  unfold maxLen at ht2 ho2
  clear hC
  go_enter Try.func4, Try.ntmps4
  go_wp2_with fail
  refine C15.out.mono ?_
  rintro e w1 ⟨⟨b, rfl⟩, hw⟩
  obtain rfl := hw.symm
  clear C15
  cases b with
  | false =>
    go_wp2_with fail
    go_ret
    exact ⟨rfl, Below.refl _ _⟩
  | true =>
  go_wp2_with fail
  refine C8.out.mono ?_
  rintro e w1 ⟨⟨r, rfl, hr0, hr1, hr2⟩, hw⟩
  obtain rfl := hw.symm
  clear C8
  by_cases hr : r ≤ 1048576
  · have hsum := hr2 hr
    clear hr2
    by_cases hn1 : ts.length ≤ 4096
    · by_cases hn2 : out.length ≤ 4096
      · have HLn : Hid (∀ l ∈ out, l.length ≤ 1048576) := fun l hl => by have := totZ_mem hl; omega
        have C9 := hide (inRange_any ts out _ _ w HT.out HO.out (by omega) HLn.out)
        go_wp2_with fail
        refine C9.out.mono ?_
        rintro e w1 ⟨⟨b, rfl, hb⟩, hw⟩
        obtain rfl := hw.symm
        clear C9
        cases b with
        | false =>
          go_wp2_with fail
          go_ret
          exact ⟨rfl, Below.refl _ _⟩
        | true =>
        obtain ⟨hlen, hrng⟩ := hb rfl
        have C10 := hide (cloneInts_any ts _ w HT.out (by omega))
        have HRG := hide hrng
        have HLE := hide hlen
        clear hb hrng hlen
        go_wp2_with fail
        refine C10.out.mono ?_
        rintro e w1 ⟨a1, c1, rfl, hO1, hB1⟩
        have C11 := hide (cloneRows_any out _ w1 (HO.out.below hB1) (by omega) HLn.out)
        clear C10
        have HB1 := hide hB1
        have HO1 := hide hO1
        clear hB1 hO1
        go_wp2_with fail
        refine C11.out.mono ?_
        rintro e w2 ⟨v2, rfl, hR2, hB2⟩
        clear C11
        obtain ⟨N, hN⟩ : ∃ N, N = natRows out := ⟨_, rfl⟩
        have hNl : N.length = ts.length := by rw [hN, natRows_length, HLE.out]
        have hN2 := hR2.nat HRG.out
        rw [← hN] at hN2
        have HNO : Hid (∀ v w, E N v w → w < N.length) := fun v w h => by rw [hN] at h; rw [hNl]; exact natRows_edge HRG.out h
        have HNL : Hid (∀ l ∈ N, l.length ≤ 1048576) := by rw [hN]; exact natRows_len HLn.out
        have HNT : Hid ((N.map List.length).sum ≤ 1048576) := by rw [hN, totZ_nat]; show _ ≤ _; omega
        have HN2 := hide hN2
        have C16 := reach_any N v2 w2 HN2.out (by omega) HNO.out HNL.out
        rw [hNl] at C16
        have HC16 := hide C16
        have HB2 := hide hB2
        have HNl := hide hNl
        clear C16 hB2 hN2 hR2 hN hNl
        go_wp2_with fail
        refine HC16.out.mono ?_
        rintro e w3 ⟨f, rfl, hf, hO3, hB3⟩
        clear HC16
        have C17 := turn_any N v2 w3 (HN2.out.below hB3) (by have := HNl.out; omega) HNO.out HNT.out
        rw [HNl.out] at C17
        have HC17 := hide C17
        have HF := hide hf
        have HO3 := hide hO3
        have HB3 := hide hB3
        clear C17 hf hO3 hB3
        rw [HNl.out]
        go_wp2_with fail
        refine HC17.out.mono ?_
        rintro e w4 ⟨rev, v4, rfl, hR4, hl4, hE4, hL4, hB4⟩
        clear HC17
        have HR4 := hide hR4
        have HE4 := hide hE4
        have HL4 := hide hL4
        have HB4 := hide hB4
        have HRN := hide hl4
        have HRl : Hid (rev.length = ts.length) := hl4.trans HNl.out
        have HRO : Hid (∀ v w, E rev v w → w < rev.length) := fun v w h => by rw [hl4]; exact E_lt ((hE4 w v).1 h)
        clear hR4 hE4 hL4 hB4 hl4
        have hB24 := HB3.out.trans (HB4.out.mono HB3.out.size)
        have C12 := zzComponents_any HC.out N a1 c1 v2 w4 (HN2.out.below hB24) (by rw [HNl.out]; exact hn1) HNO.out HNL.out
        rw [HNl.out] at C12
        have HC12 := hide C12
        clear C12 hB24
        go_wp2_with fail
        refine HC12.out.mono ?_
        rintro e w5 ⟨s1, x1, z1, rfl, hr1, hw1, ⟨p1, q1, rfl⟩, ⟨p2, q2, rfl⟩, hc1, hz1, _, _, hB5⟩
        rw [HNl.out]
        have HF1 := hide (Row.of_owns hc1)
        have HZ1 := hide (Row.of_owns hz1)
        have HK1 := hide (hr1.comps HNO.out hw1)
        have HB5 := hide hB5
        clear HC12 hr1 hw1 hc1 hz1 hB5
        have C12 := zzComponents_any HC.out rev a1 c1 v4 w5 (HR4.out.below HB5.out) (by rw [HRl.out]; exact hn1) HRO.out HL4.out
        rw [HRl.out] at C12
        have HC12 := hide C12
        clear C12
        go_wp2_with fail
        refine HC12.out.mono ?_
        rintro e w6 ⟨s2, x2, z2, rfl, hr2, hw2, ⟨p3, q3, rfl⟩, ⟨p4, q4, rfl⟩, hc2, hz2, _, _, hB6⟩
        rw [HRl.out]
        have HF2 := hide (Row.of_owns hc2)
        have HZ2 := hide (Row.of_owns hz2)
        have HK2 := hide (hr2.comps HRO.out hw2)
        have HB6 := hide hB6
        clear HC12 hr2 hw2 hc2 hz2 hB6 HC
        have C18 := wellFormed_any HK1.out _ _ w6 (HF1.out.below HB6.out) (HZ1.out.below HB6.out) (by rw [HNl.out]; exact hn1)
        rw [HNl.out] at C18
        have HC18 := hide C18
        clear C18
        have hss : s1.size.length = s2.size.length := Nat.le_antisymm (HK1.out.len_eq HK2.out HRN.out (Mut.turn HE4.out)) (HK2.out.len_eq HK1.out HRN.out.symm (fun x y => (Mut.turn HE4.out x y).symm))
        have hds : ((s1.size.length : Int) != (s2.size.length : Int)) = false := by rw [hss]; simp
        clear hss
        go_wp2_with fail
        refine HC18.out.mono ?_
        rintro e w7 ⟨rfl, hB7⟩
        have HB7 := hide hB7
        clear HC18 hB7
        have C18 := wellFormed_any HK2.out _ _ w7 (HF2.out.below HB7.out) (HZ2.out.below HB7.out) (by rw [HRl.out]; exact hn1)
        rw [HRl.out] at C18
        have HC18 := hide C18
        clear C18
        go_wp2_with fail
        refine HC18.out.mono ?_
        rintro e w8 ⟨rfl, hB8⟩
        have hB68 := HB7.out.trans (hB8.mono HB7.out.size)
        have hB58 := HB6.out.trans (hB68.mono HB6.out.size)
        have hB48 := HB5.out.trans (hB58.mono HB5.out.size)
        have hB38 := HB4.out.trans (hB48.mono HB4.out.size)
        have hB28 := HB3.out.trans (hB38.mono HB3.out.size)
        have hB18 := HB2.out.trans (hB28.mono HB2.out.size)
        have HB8 := hide (HB1.out.trans (hB18.mono HB1.out.size))
        have HF1' := hide (HF1.out.below hB58)
        have HF2' := hide (HF2.out.below hB68)
        have HN8 := hide (HN2.out.below hB28)
        have HT8 : Hid (∀ i, i < ts.length * ts.length → w8.cell? ⟨w2.heap.size, i, none⟩ = some (.bool (f i))) := fun i hi => cell_later hB38 (by
          have h := HO3.out
          rw [HNl.out] at h
          rw [h.cellAt i (by omega)]
          exact tabB_get _ hi)
        have HF8 : Hid (∀ u v, u < ts.length → v < ts.length → (f (u * ts.length + v) = true ↔ Reach (E N) u v)) := by
          have h := HF.out
          rw [HNl.out] at h
          exact h
        rw [HNl.out] at HF1'
        rw [HRl.out] at HF2'
        obtain ⟨a8, c8, hv2, _, _⟩ := HN2.out
        rw [HNl.out] at hv2
        subst hv2
        clear HC18 hB8 hB68 hB58 hB48 hB38 hB28 hB18 HB1 HB2 HB3 HB4 HB5 HB6 HB7 HF1 HF2 HZ1 HZ2 HN2 HO1 HO3 HF HR4 HNT HRG HT HO
        go_wp2_with fail
        go_loopw [4, 12] (fun rv uv wr => ∃ u : Nat, u ≤ ts.length ∧ rv = .bool false ∧ uv = .int .i64 u ∧ Hid (Below w8.heap.size w8 wr)) (fun _ uv _ => ts.length - (intOf uv).toNat)
        case atStart => exact ⟨0, by omega, rfl, rfl, Below.refl _ _⟩
        case round =>
          obtain ⟨u, hu, rfl, rfl, HW⟩ := hrel
          by_cases hlt : u < ts.length
          · have hlt' : (u : Int) < (ts.length : Int) := by omega
            go_wp2_with fail
            go_loopw [4, 13] (fun rv vv wr => ∃ v : Nat, v ≤ ts.length ∧ rv = .bool false ∧ vv = .int .i64 v ∧ Hid (Below w8.heap.size w8 wr)) (fun _ vv _ => ts.length - (intOf vv).toNat)
            case atStart => exact ⟨0, by omega, rfl, rfl, HW.out⟩
            case round =>
              clear HW
              obtain ⟨v, hv, rfl, rfl, HW⟩ := hrel
              by_cases hvl : v < ts.length
              · have hvl' : (v : Int) < (ts.length : Int) := by omega
                obtain ⟨R, hRR⟩ : ∃ R : Nat, R = u * ts.length := ⟨_, rfl⟩
                obtain ⟨S, hSS⟩ : ∃ S : Nat, S = v * ts.length := ⟨_, rfl⟩
                have hRI : (u : Int) * (ts.length : Int) = (R : Int) := by rw [hRR, Int.natCast_mul]
                have hSI : (v : Int) * (ts.length : Int) = (S : Int) := by rw [hSS, Int.natCast_mul]
                have hnn : ts.length * ts.length ≤ 16777216 := Nat.mul_le_mul hn1 hn1
                have hR1 : R + ts.length ≤ ts.length * ts.length := by
                  have h : (u + 1) * ts.length ≤ ts.length * ts.length := Nat.mul_le_mul_right _ hlt
                  rw [Nat.add_mul] at h
                  omega
                have hS1 : S + ts.length ≤ ts.length * ts.length := by
                  have h : (v + 1) * ts.length ≤ ts.length * ts.length := Nat.mul_le_mul_right _ hvl
                  rw [Nat.add_mul] at h
                  omega
                have t1 := cell_later HW.out (HT8.out (R + v) (by omega))
                have t2 := cell_later HW.out (HT8.out (S + u) (by omega))
                have e1 := HF8.out u v hlt hvl
                have e2 := HF8.out v u hvl hlt
                rw [← hRR] at e1
                rw [← hSS] at e2
                obtain ⟨b1, o1, hp1, k1⟩ := HF1'.out.tabAt hlt
                subst hp1
                obtain ⟨b2, o2, hp2, k2⟩ := HF1'.out.tabAt hvl
                obtain ⟨b3, o3, hp3, k3⟩ := HF2'.out.tabAt hlt
                subst hp3
                obtain ⟨b4, o4, hp4, k4⟩ := HF2'.out.tabAt hvl
                simp only [Option.some.injEq, Addr.mk.injEq, and_true] at hp2 hp4
                obtain ⟨rfl, rfl⟩ := hp2
                obtain ⟨rfl, rfl⟩ := hp4
                have k1 := cell_later HW.out k1
                have k2 := cell_later HW.out k2
                have k3 := cell_later HW.out k3
                have k4 := cell_later HW.out k4
                have g1 := HK1.out.part u v (by rw [HNl.out]; exact hlt) (by rw [HNl.out]; exact hvl)
                have g2 := HK2.out.part u v (by rw [HRl.out]; exact hlt) (by rw [HRl.out]; exact hvl)
                rw [← Mut.turn HE4.out] at g2
                unfold Mut at g1 g2
                rw [← e1, ← e2] at g1 g2
                have d1 : ((s1.comp u : Int) == (s1.comp v : Int)) = (f (R + v) && f (S + u)) := by
                  rw [Bool.eq_iff_iff, Bool.and_eq_true, ← g1, beq_iff_eq]; omega
                have d2 : ((s2.comp u : Int) == (s2.comp v : Int)) = (f (R + v) && f (S + u)) := by
                  rw [Bool.eq_iff_iff, Bool.and_eq_true, ← g2, beq_iff_eq]; omega
                clear g1 g2 e1 e2 hRR hSS
                generalize f (R + v) = fa at *
                generalize f (S + u) = fb at *
                cases fa with
                | false =>
                  simp only [Bool.false_and] at d1 d2
                  go_wp2_with fail
                  go_quiet (fail)
                  go_wp2_with fail
                  go_roundw
                  case rel => exact ⟨v + 1, by omega, rfl, by go_num, ⟨HW.out.os, HW.out.tape, HW.out.output, HW.out.size, HW.out.block⟩⟩
                  case measure => simp [intOf]; omega
                | true =>
                  cases fb with
                  | false =>
                    simp only [Bool.true_and] at d1 d2
                    go_wp2_with fail
                    go_quiet (fail)
                    go_wp2_with fail
                    go_roundw
                    case rel => exact ⟨v + 1, by omega, rfl, by go_num, ⟨HW.out.os, HW.out.tape, HW.out.output, HW.out.size, HW.out.block⟩⟩
                    case measure => simp [intOf]; omega
                  | true =>
                    simp only [Bool.true_and] at d1 d2
                    go_wp2_with fail
                    go_quiet (fail)
                    go_wp2_with fail
                    go_roundw
                    case rel => exact ⟨v + 1, by omega, rfl, by go_num, ⟨HW.out.os, HW.out.tape, HW.out.output, HW.out.size, HW.out.block⟩⟩
                    case measure => simp [intOf]; omega
              · obtain ⟨b, o, ar, cr, hab, cr0, hrow⟩ := HN8.out.at (v := u) (by rw [HNl.out]; exact hlt)
                subst hab
                have crw := cell_later HW.out cr0
                have hrl : (row N u).length ≤ 1048576 := by
                  have hun : u < N.length := by rw [HNl.out]; exact hlt
                  have e : row N u = N[u] := by simp [row, List.getD, hun]
                  rw [e]
                  exact HNL.out _ (List.getElem_mem _)
                have hve : v = ts.length := by omega
                subst hve
                have HRow := hide hrow
                clear hrow cr0
                go_wp2_with fail
                go_loopw [4, 137] (fun rv jv wr => ∃ j : Nat, j ≤ (row N u).length ∧ rv = .bool false ∧ jv = .int .i64 j ∧ Hid (Below w8.heap.size w8 wr)) (fun _ jv _ => (row N u).length - (intOf jv).toNat)
                case atStart => exact ⟨0, by omega, rfl, rfl, HW.out⟩
                case round =>
                  clear HW crw
                  obtain ⟨j, hj, rfl, rfl, HW⟩ := hrel
                  by_cases hjl : j < (row N u).length
                  · obtain ⟨x, hx⟩ : ∃ x, (row N u)[j]? = some x := ⟨_, List.getElem?_eq_getElem hjl⟩
                    have hE : E N u x := List.mem_of_getElem? hx
                    have hxn : x < ts.length := by rw [← HNl.out]; exact HNO.out u x hE
                    obtain ⟨bx, ox, hab, cx0⟩ := HRow.out.atI hx
                    subst hab
                    have cx := cell_later HW.out cx0
                    have hjl' : (j : Int) < ((row N u).length : Int) := by omega
                    have hxn' : (x : Int) < (ts.length : Int) := by omega
                    obtain ⟨b1, o1, hp1, k1⟩ := HF1'.out.tabAt hlt
                    subst hp1
                    obtain ⟨b2, o2, hp2, k2⟩ := HF1'.out.tabAt hxn
                    obtain ⟨b3, o3, hp3, k3⟩ := HF2'.out.tabAt hlt
                    subst hp3
                    obtain ⟨b4, o4, hp4, k4⟩ := HF2'.out.tabAt hxn
                    simp only [Option.some.injEq, Addr.mk.injEq, and_true] at hp2 hp4
                    obtain ⟨rfl, rfl⟩ := hp2
                    obtain ⟨rfl, rfl⟩ := hp4
                    have k1 := cell_later HW.out k1
                    have k2 := cell_later HW.out k2
                    have k3 := cell_later HW.out k3
                    have k4 := cell_later HW.out k4
                    have g1 := HK1.out.edge u x (by rw [HNl.out]; exact hlt) hE
                    have g2 := HK2.out.edge x u (by rw [HRl.out]; exact hxn) ((HE4.out u x).2 hE)
                    have d1 : decide ((s1.comp u : Int) < (s1.comp x : Int)) = false := by simp; omega
                    have d2 : decide ((s2.comp x : Int) < (s2.comp u : Int)) = false := by simp; omega
                    clear hx hE cx0 g1 g2
                    generalize (s1.comp u : Int) = A1 at k1 d1
                    generalize (s1.comp x : Int) = A2 at k2 d1
                    generalize (s2.comp u : Int) = A3 at k3 d2
                    generalize (s2.comp x : Int) = A4 at k4 d2
                    go_wp2_with fail
                    go_quiet (fail)
                    go_wp2_with fail
                    go_roundw
                    case rel => exact ⟨j + 1, by omega, rfl, by go_num, ⟨HW.out.os, HW.out.tape, HW.out.output, HW.out.size, HW.out.block⟩⟩
                    case measure => simp [intOf]; omega
                  · have hje : j = (row N u).length := by omega
                    subst hje
                    go_wp2_with fail
                    go_roundw
                    case rel => exact ⟨u + 1, by omega, rfl, by go_num, HW.out⟩
                    case measure => simp [intOf]; omega
          · have hue : u = ts.length := by omega
            subst hue
            go_wp2_with fail
            go_ret
            exact ⟨rfl, HB8.out.trans (HW.out.mono HB8.out.size)⟩
      · go_wp2_with fail
        go_ret
        exact ⟨rfl, Below.refl _ _⟩
    · go_wp2_with fail
      go_ret
      exact ⟨rfl, Below.refl _ _⟩
  · go_wp2_with fail
    go_ret
    exact ⟨rfl, Below.refl _ _⟩
end Go.Proofs.Qxb6605452a
