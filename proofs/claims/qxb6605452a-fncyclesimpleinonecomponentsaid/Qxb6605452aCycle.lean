import Derived.Test.Qxb6605452aSmall
import Derived.Test.Qxb6605452aCompSpec
import Derived.Test.Qxb6605452aCyc
import Derived.Test.Qxb6605452aRoot
import Derived.Deep.DeepCutAuto
import Derived.BigQuiet
namespace Go.Proofs.Qxb6605452a
open Go.RowKit

/-- A node's number. -/
def tau (ts : List Int) (x : Nat) : Int := ts.getD x 0
theorem tau_get {ts : List Int} {x : Nat} (h : x < ts.length) : ts[x]? = some (tau ts x) := by
  rw [tau, List.getD, List.getElem?_eq_getElem h]
  rfl
theorem tau_snoc (ts : List Int) (A : List Nat) (u : Nat) : zV (A.map (tau ts)) ++ [.int .i64 (tau ts u)] = zV ((A ++ [u]).map (tau ts)) := by simp [zV]

/-- What 'cycle' leaves. -/
def CycE (out : List (List Nat)) (ts : List Int) (w : World) (e : Ending) (w' : World) : Prop :=
  ∃ s : St, Rch out out.length s ∧ s.wlk = [] ∧ Below w.heap.size w w' ∧
    ((e = .returned (.slice none 0 0) ∧ ∀ x m, x < out.length → s.size[s.comp x]? = some m → m ≤ 1) ∨
     ∃ (st m : Nat) (C : List Nat) (g c : Nat), e = .returned (.slice (some ⟨g, 0, none⟩) C.length c) ∧ st < out.length ∧ s.size[s.comp st]? = some m ∧ 1 < m ∧ (∀ x m, x < st → s.size[s.comp x]? = some m → m ≤ 1) ∧
       CycOk out s.comp st C ∧ Row w' (.slice (some ⟨g, 0, none⟩) C.length c) (zV (C.map (tau ts))))

theorem filM_made (w : World) (n : Nat) (hn : n ≤ 4096) : (w.alloc (.cells (madeCells #[.int .i64 0] n) 3)).ownsRow w.heap.size 3 1 (.slice (some ⟨w.heap.size, 0, none⟩) n n) n (tabZ n (filM 0)) := by
  have h1 := own_made w (.int .i64 0) n 3 (by unfold maxLen; omega)
  have e1 : List.replicate n (Value.int .i64 0) = tabZ n (filM 0) := by
    apply List.ext_getElem?
    intro j
    by_cases hj : j < n
    · rw [tabZ_get _ hj, List.getElem?_replicate, if_pos hj]; rfl
    · rw [List.getElem?_eq_none (by simp; omega), List.getElem?_eq_none (by rw [tabZ_length]; omega)]
  rw [e1] at h1
  exact h1
theorem filM_full (n : Nat) : tabZ n (filM n) = tabZ n (dsc (fun _ => 0)) := by
  apply List.ext_getElem?
  intro j
  by_cases hj : j < n
  · rw [tabZ_get _ hj, tabZ_get _ hj]
    simp [filM, hj, dsc]
  · rw [List.getElem?_eq_none (by rw [tabZ_length]; omega), List.getElem?_eq_none (by rw [tabZ_length]; omega)]

set_option maxHeartbeats 2000000 in
set_option maxRecDepth 100000 in
theorem cycle_any (hC : CompSpec) (out : List (List Nat)) (ts : List Int) (atx : Option Addr) (ctx bg : Nat) (vout : Value) (w : World) (hg0 : w.cell? ⟨bg, 0, none⟩ = some (.slice atx out.length ctx)) (hg1 : w.cell? ⟨bg, 1, none⟩ = some vout)
    (ht : Row w (.slice atx out.length ctx) (zV ts)) (hr : Rows2 w vout out) (hn : out.length ≤ 4096) (hout : ∀ v w, E out v w → w < out.length) (hlen : ∀ l ∈ out, l.length ≤ 1048576) :
    Calls Try.prog 29 #[.pointer (some ⟨bg, 0, none⟩)] w fun e w' => CycE out ts w e w' := by
  have m22 := fun kl kc => run_make_row' (P := Try.prog) 22 3 (.int .i64 0) 8 Try.underlying22 Try.info3 rfl kl kc out.length (by omega) (by omega)
  have C27 := hide (hC out atx ctx bg vout w hg0 hg1 hr hn hout hlen)
  have HR := hide hr
  have HO := hide hout
  have HL := hide hlen
  have HT := hide ht
  have HG0 := hide hg0
  have HG1 := hide hg1
  have HM22 := hide m22
  clear hr hout hlen ht hg0 hg1 hC m22
  obtain ⟨ao, co, rfl, _, _⟩ := HR.out
  go_enter Try.func29, Try.ntmps29
  go_wp2_with fail
  refine C27.out.mono ?_
  rintro e w1 ⟨s, sz, rfl, hR, hW, hc, hz, hnil, hB⟩
  obtain ⟨az, cz, rfl, _, _, hgz⟩ := own_form hz
  have HRW := hide (And.intro hR hW)
  have HK := hide (hR.comps HO.out hW)
  have HF := hide (Row.of_owns hc)
  have HZ := hide (Row.of_owns hz)
  have HB1 := hide hB
  clear hR hW hc hz hnil hB C27 hgz
  have hB12 : Below w1.heap.size w1 (w1.alloc (.cells #[.slice az s.size.length cz] 22)) := (Below.refl _ _).alloc (Nat.le_refl _) _
  have C32 := hide (index_any out.length s.comp s.size (some ⟨w.heap.size + 6, 0, none⟩) az out.length cz w1.heap.size (w1.alloc (.cells #[.slice az s.size.length cz] 22)) (lit_cell _ _ _ _ rfl) (HZ.out.below hB12) (HF.out.below hB12) HK.out.lt hn)
  have HB12 := hide hB12
  clear hB12
  go_wp2_with fail
  refine C32.out.mono ?_
  rintro e w2 ⟨hE, hw⟩
  have HE := hide hE
  have HB2 : Hid (Below w.heap.size w w2) := by rw [hw]; exact HB1.out.trans (HB12.out.mono HB1.out.size)
  have HF2 : Hid (Row w2 (.slice (some ⟨w.heap.size + 6, 0, none⟩) out.length out.length) (tabI out.length s.comp)) := by rw [hw]; exact HF.out.below HB12.out
  clear hE hw C32 HB12 HB1 HF HZ
  rcases HE.out with ⟨rfl, hall⟩ | ⟨st, m, rfl, hst, hm, h1m, hfst⟩
  · have HA := hide hall
    clear HE hall
    go_wp2_with fail
    go_ret
    exact ⟨s, HRW.out.1, HRW.out.2, HB2.out, .inl ⟨rfl, HA.out⟩⟩
  have HST := hide (And.intro hm (And.intro h1m hfst))
  have HBIG := hide ((HK.out.big HO.out hst hm).1 h1m)
  clear HE hm h1m hfst
  have HT2 := hide (HT.out.below HB2.out)
  have HR2 := hide (HR.out.below HB2.out)
  have HC0 := hide (cell_later HB2.out HG0.out)
  have HC1 := hide (cell_later HB2.out HG1.out)
  have HTL : Hid (ts.length = out.length) := by
    obtain ⟨a', c', hv, _⟩ := HT.out
    simp only [Value.slice.injEq] at hv
    rw [zV_length] at hv
    exact hv.2.1.symm
  have hst' : (st : Int) < (out.length : Int) := by omega
  have hsl := HK.out.len_le
  clear HT HR HG0 HG1
  have c0 := HC0.out
  have m22 := HM22.out
  have HP0 := hide (filM_made w2 out.length hn)
  go_wp2_with fail
  clear m22 c0
  go_loopw [32] (fun kv wr => ∃ k : Nat, k ≤ out.length ∧ kv = .int .i64 k ∧ Hid (wr.ownsRow w2.heap.size 3 1 (.slice (some ⟨w2.heap.size, 0, none⟩) out.length out.length) out.length (tabZ out.length (filM k)) ∧ Below w2.heap.size w2 wr ∧ w2.heap.size + 1 ≤ wr.heap.size)) (fun kv _ => out.length - (intOf kv).toNat)
  case atStart => exact ⟨0, by omega, rfl, HP0.out, (Below.refl _ _).alloc (Nat.le_refl _) _, by simp⟩
  case round =>
  clear HP0
  obtain ⟨k, hk, rfl, HJ⟩ := hrel
  by_cases hlt : k < out.length
  · obtain ⟨j1, j2, j3⟩ := HJ.out
    have cd : wr.cell? ⟨w2.heap.size, k, none⟩ = some (.int .i64 (filM k k)) := by rw [j1.cellAt _ (by omega)]; exact tabZ_get _ hlt
    have fd : wr.frozen? ⟨w2.heap.size, k, none⟩ = false := j1.frozenAt _
    have hlt' : (k : Int) < (out.length : Int) := by omega
    have h5 := (j1.stored k (.int .i64 (-1))).1
    rw [tabZ_set, filM_step] at h5
    have HE := hide (And.intro h5 (And.intro (j2.setCell (Nat.le_refl _) _ : Below w2.heap.size w2 (wr.setCell ⟨w2.heap.size, k, none⟩ (.int .i64 (-1)))) (by simpa using j3 : w2.heap.size + 1 ≤ (wr.setCell ⟨w2.heap.size, k, none⟩ (.int .i64 (-1))).heap.size)))
    generalize filM k k = d at cd
    clear j1 j2 j3 h5 HJ
    go_wp2_with fail
    go_roundw
    case rel => exact ⟨k + 1, by omega, by go_num, HE.out⟩
    case measure => simp [intOf]; omega
  have hke : k = out.length := by omega
  subst hke
  have HQ0 : Hid (QMem w2 w2.heap.size out.length (fun _ => 0) [st] (.slice (some ⟨wr.heap.size, 0, none⟩) 1 1) (wr.alloc (.cells #[.int .i64 (st : Int)] 3))) := by
    obtain ⟨j1, j2, j3⟩ := HJ.out
    rw [filM_full] at j1
    exact ⟨j2.alloc (by omega) _, by simp; omega, j1.alloc _, QRow.lit wr _ _ j3⟩
  clear HJ hlt hk
  go_wp2_with fail
  go_loopg [8] (out.length) (fun gg qv wr => ∃ (h : Nat) (Q : List Nat) (par : Nat → Nat), Hid (gg = out.length - h ∧ h ≤ Q.length ∧ Cyc out s.comp st h Q par ∧ QMem w2 w2.heap.size out.length par (Q.drop h) qv wr))
  case atStart => exact ⟨0, [st], fun _ => 0, by simp, by simp, Cyc.start hst, HQ0.out⟩
  case round =>
  clear HQ0
  obtain ⟨h, Q, par, HJ⟩ := hrel
  by_cases hhq : h < Q.length
  · obtain ⟨hgg, hh, hY, hM⟩ := HJ.out
    obtain ⟨v, hv⟩ : ∃ v, Q[h]? = some v := ⟨_, List.getElem?_eq_getElem hhq⟩
    have hvn := (hY.mem v (List.mem_of_getElem? hv)).1
    have hql := hY.le
    have hdr : Q.drop h = v :: Q.drop (h + 1) := by
      rw [List.drop_eq_getElem_cons hhq]
      rw [(List.getElem?_eq_some_iff.1 hv).2]
    have hqr := hM.qr
    rw [hdr] at hqr
    simp only [List.length_cons] at hqr
    obtain ⟨_, g, o, cap, rfl, _, _, hcap1, hcap2, hcell, _⟩ := hqr
    have cq := hcell 0 (.int .i64 (v : Int)) (by simp [intsV])
    rw [Nat.add_zero] at cq
    have HQR : Hid (QRow wr (w2.heap.size + 1) (.slice (some ⟨g, o, none⟩) ((Q.drop (h + 1)).length + 1) cap) ((Q.drop (h + 1)).length + 1) (.int .i64 (v : Int) :: intsV (Q.drop (h + 1)))) := by
      have := hM.qr
      rw [hdr] at this
      exact this
    have HM := hide hM
    have HY := hide hY
    have HV := hide hv
    have HGG := hide hgg
    have hLl : (Q.drop (h + 1)).length ≤ 4096 := by simp; omega
    obtain ⟨q, hq⟩ : ∃ q, q = (Q.drop (h + 1)).length := ⟨_, rfl⟩
    rw [← hq] at HQR hcap1 hLl ⊢
    have HQ := hide hq
    have hvn' : (v : Int) < (out.length : Int) := by omega
    clear hM hY hv hgg hdr hcell hq HJ
    go_upto_region 14 with fail
    go_cut [8] (fun qv wx => ∃ o' c', qv = .slice (some ⟨g, o', none⟩) q c' ∧ wx = wr ∧ Hid (QRow wr (w2.heap.size + 1) (.slice (some ⟨g, o', none⟩) q c') q (intsV (Q.drop (h + 1)))))
    case first =>
      obtain ⟨o', ho', hq'⟩ := HQR.out.tail
      have HQ' := hide hq'
      by_cases hc1 : cap = 1
      · subst hc1
        have hq0 : q = 0 := by omega
        subst hq0
        rw [if_pos rfl] at ho'
        simp only [Option.some.injEq, Addr.mk.injEq, and_true, true_and] at ho'
        subst ho'
        clear hq'
        go_wp2_with fail
        go_meet
        case rel => exact ⟨o, 0, rfl, rfl, HQ'.out⟩
      · rw [if_neg hc1] at ho'
        simp only [Option.map_some, Option.some.injEq, Addr.add_lit, Addr.mk.injEq, and_true, true_and] at ho'
        subst ho'
        clear hq'
        go_wp2_with fail
        go_meet
        case rel => exact ⟨o + 1, cap - 1, rfl, rfl, HQ'.out⟩
    case rest =>
    obtain ⟨o', c', rfl, hwc, HQ1⟩ := hcut
    obtain rfl := hwc.symm
    have HM1 : Hid (QMem w2 w2.heap.size out.length par (Q.drop (h + 1)) (.slice (some ⟨g, o', none⟩) q c') wr) := ⟨HM.out.bel, HM.out.big, HM.out.pr, by rw [← HQ.out]; exact HQ1.out⟩
    have c1 := cell_later HM1.out.bel HC1.out
    obtain ⟨b, o2, ar, cr, hab, cr0, hrow⟩ := HR2.out.at hvn
    subst hab
    have crw := cell_later HM1.out.bel cr0
    have hrl : (row out v).length ≤ 1048576 := by
      have e : row out v = out[v] := by simp [row, List.getD, hvn]
      rw [e]
      exact HL.out _ (List.getElem_mem _)
    have HRow := hide hrow
    clear hrow cr0 HQ1 HQR HM cq hcap1 hcap2
    go_wp2_with fail
    go_loopw [8, 57] (fun qv jv wr => ∃ (j : Nat) (Q : List Nat) (par : Nat → Nat), j ≤ (row out v).length ∧ jv = .int .i64 j ∧ Hid (Cyc out s.comp st h Q par ∧ Q[h]? = some v ∧ (∀ y ∈ (row out v).take j, y ≠ st ∧ (s.comp y = s.comp st → y ∈ Q)) ∧ QMem w2 w2.heap.size out.length par (Q.drop (h + 1)) qv wr)) (fun _ jv _ => (row out v).length - (intOf jv).toNat)
    case atStart => exact ⟨0, Q, par, by omega, rfl, HY.out, HV.out, (fun y hy => by simp at hy), HM1.out⟩
    case round =>
    clear HM1 c1 crw HY HV hhq hql hLl HQ hh
    obtain ⟨j, Q, par, hj, rfl, HJ⟩ := hrel
    by_cases hjl : j < (row out v).length
    · obtain ⟨x, hx⟩ : ∃ x, (row out v)[j]? = some x := ⟨_, List.getElem?_eq_getElem hjl⟩
      have hEx : E out v x := List.mem_of_getElem? hx
      have hxn : x < out.length := HO.out v x hEx
      obtain ⟨bx, ox, hab, cx0⟩ := HRow.out.atI hx
      subst hab
      obtain ⟨hY, hv, hall, hM⟩ := HJ.out
      have cx := cell_later hM.bel cx0
      have hjl' : (j : Int) < ((row out v).length : Int) := by omega
      have hxn' : (x : Int) < (out.length : Int) := by omega
      have HEx := hide hEx
      have HX := hide hx
      clear hEx hx cx0
      by_cases hxs : x = st
      · subst hxs
        have hxx : ((x : Int) == (x : Int)) = true := by simp
        have HY := hide hY
        have HM := hide hM
        have HV := hide hv
        clear hY hM hv hall HJ
        rename World => w5
        have hh := (List.getElem?_eq_some_iff.1 HV.out).1
        have hql := HY.out.le
        obtain ⟨_, gq, oq, cq, hqv, _⟩ := HM.out.qr
        subst hqv
        obtain ⟨ql, hql2⟩ : ∃ ql, ql = (Q.drop (h + 1)).length := ⟨_, rfl⟩
        rw [← hql2]
        clear hql2
        go_wp2_with fail
        go_loopg [12, 13] (h) (fun gg cv uv wr => ∃ (A : List Nat) (u j' : Nat), u < out.length ∧ A.length + j' ≤ h ∧ uv = .int .i64 u ∧ Hid (gg = j' ∧ Chn out Q v A u j' ∧ wr.ownsRow w5.heap.size 3 1 cv A.length (zV (A.map (tau ts))) ∧ Below w5.heap.size w5 wr))
        case atStart => exact ⟨[], v, h, hvn, by simp, rfl, rfl, Chn.start HV.out, World.ownsRow_nil _ _ _ _, Below.refl _ _⟩
        case round =>
        clear cx
        obtain ⟨A, u, j', hun, hAj, rfl, HJ4⟩ := hrel
        obtain ⟨hgj, hCh, hOA, hB5⟩ := HJ4.out
        obtain ⟨ac, cc, rfl, _, _, _⟩ := own_form hOA
        have hB25 := HM.out.bel.trans (hB5.mono HM.out.bel.size)
        have c0 := cell_later hB25 HC0.out
        have htu : ts[u]? = some (tau ts u) := tau_get (by rw [HTL.out]; exact hun)
        obtain ⟨bt, ot, hab, ct0⟩ := HT2.out.atZ htu
        subst hab
        have ctt := cell_later hB25 ct0
        have hun' : (u : Int) < (out.length : Int) := by omega
        obtain ⟨i0, hi0, hz0, hz1, hz2⟩ := info_parts Try.info3
        have HOA := hide hOA
        have HB5 := hide hB5
        have HCH := hide hCh
        have HGJ := hide hgj
        by_cases hux : u = x
        · subst hux
          have hd : ((u : Int) != (u : Int)) = false := by simp
          clear hgj hCh hOA hB5 hB25 htu ct0 HJ4
          go_wp2_with (at_builtin; refine wpList_append_src _ rfl (.tmp 82) (.tmp 90) 22 22 rfl (w5.heap.size) 3 i0 (.int .i64 0) 1 8 Try.underlying22 hi0 hz0 hz1 hz2 rfl _ _ _ rfl (HOA.out.alloc _) _ _ _ rfl (Src.one Try.underlying22 _ _ rfl _) (by unfold maxLen; omega) (by omega) (by have := HB5.out.size; simp; omega) ?_)
          intro v6 w6 hO6 hG6 hF6
          rw [tau_snoc] at hO6
          have hB6 : Below w5.heap.size w5 w6 := (HB5.out.alloc HB5.out.size _).grown hG6 (by have := HB5.out.size; simp; omega) (fun k hk => (HOA.out.lt k hk).1)
          obtain ⟨a6, c6, rfl, _, _, hg6⟩ := own_form hO6
          obtain ⟨g6, rfl⟩ := hg6 (by omega)
          have hAl : ((A ++ [u]).map (tau ts)).length = A.length + 1 := by simp
          have C34 := reverse_any ((A ++ [u]).map (tau ts)) g6 c6 w5.heap.size w6 (by rw [hAl]; exact hO6) (by rw [hAl]; omega)
          rw [hAl] at C34
          have HC34 := hide C34
          have HB6 := hide hB6
          clear hO6 hG6 hF6 hB6 hAl C34
          go_wp2_with fail
          refine HC34.out.mono ?_
          rintro e w7 ⟨rfl, hO7, hB7⟩
          have HO7 := hide hO7
          have HB7 := hide hB7
          clear hO7 hB7 HC34
          go_wp2_with fail
          go_ret
          have hCO := HCH.out.ok HY.out HEx.out
          have hB57 := HB6.out.trans (HB7.out.mono (Nat.le_refl _))
          have hB27 := HM.out.bel.trans (hB57.mono HM.out.bel.size)
          have hBw := HB2.out.trans (hB27.mono HB2.out.size)
          have hl : (A ++ [u]).reverse.length = A.length + 1 := by simp
          refine ⟨s, HRW.out.1, HRW.out.2, hBw, .inr ⟨u, m, (A ++ [u]).reverse, g6, c6, (by rw [hl]; first | rfl | simp), hst, HST.out.1, HST.out.2.1, HST.out.2.2, hCO, ?_⟩⟩
          rw [hl, List.map_reverse]
          exact Row.of_owns HO7.out
        · have hd : ((u : Int) != (x : Int)) = true := by simp; omega
          obtain ⟨p, i, hij, hpu, hpn, hCh2⟩ := hCh.step HY.out hux
          obtain ⟨cp5, _⟩ := HM.out.parAt hun
          have hdp : dsc par u = (p : Int) := by unfold dsc; rw [hpu]; omega
          rw [hdp] at cp5
          have HCH2 := hide hCh2
          clear hgj hCh hOA hB5 htu ct0 HJ4 hCh2 hB25
          go_wp2_with (at_builtin; refine wpList_append_src _ rfl (.tmp 72) (.tmp 80) 22 22 rfl (w5.heap.size) 3 i0 (.int .i64 0) 1 8 Try.underlying22 hi0 hz0 hz1 hz2 rfl _ _ _ rfl (HOA.out.alloc _) _ _ _ rfl (Src.one Try.underlying22 _ _ rfl _) (by unfold maxLen; omega) (by omega) (by have := HB5.out.size; simp; omega) ?_)
          intro v6 w6 hO6 hG6 hF6
          rw [tau_snoc] at hO6
          have hB6 : Below w5.heap.size w5 w6 := (HB5.out.alloc HB5.out.size _).grown hG6 (by have := HB5.out.size; simp; omega) (fun k hk => (HOA.out.lt k hk).1)
          have cp6 := cell_later hB6 cp5
          have HO6 := hide hO6
          have HB6 := hide hB6
          clear hO6 hG6 hF6 hB6 cp5
          go_wp2_with fail
          go_roundg i
          case measure => rw [HGJ.out]; exact hij
          case rel => exact ⟨A ++ [u], p, i, hpn, by simp; omega, rfl, rfl, HCH2.out, by simpa using HO6.out, HB6.out⟩
      · have hxx : ((x : Int) == (st : Int)) = false := by simp; omega
        obtain ⟨b1, o1, hp1, k1⟩ := HF2.out.tabAt hxn
        obtain ⟨b2, o2', hp2, k2⟩ := HF2.out.tabAt hst
        simp only [Option.some.injEq, Addr.mk.injEq, and_true] at hp1 hp2
        obtain ⟨rfl, rfl⟩ := hp1
        obtain ⟨rfl, rfl⟩ := hp2
        rw [Nat.zero_add] at k1 k2
        have k1 := cell_later hM.bel k1
        have k2 := cell_later hM.bel k2
        obtain ⟨cp, fp⟩ := hM.parAt hxn
        have hh := (List.getElem?_eq_some_iff.1 hv).1
        have hql := hY.le
        by_cases hce : s.comp x = s.comp st
        · have hd1 : ((s.comp x : Int) == (s.comp st : Int)) = true := by simp; omega
          by_cases hp0 : par x = 0
          · have hd2 : decide (dsc par x < 0) = true := by unfold dsc; simp; omega
            have hY1 := hY.push hv HEx.out hxn hxs hce hp0
            have hle := hY1.le
            simp only [List.length_append, List.length_singleton] at hle
            have hdl : (Q.drop (h + 1)).length ≤ 4096 := by simp; omega
            obtain ⟨_, gq, oq, cq, hqv, _⟩ := hM.qr
            subst hqv
            have HE : Hid (Cyc out s.comp st h (Q ++ [x]) (upd par x (v + 1)) ∧ (Q ++ [x])[h]? = some v ∧ (∀ y ∈ (row out v).take (j + 1), y ≠ st ∧ (s.comp y = s.comp st → y ∈ Q ++ [x]))) := by
              refine ⟨hY1, by rw [List.getElem?_append_left hh]; exact hv, fun y hy => ?_⟩
              rcases take_succ_mem HX.out hy with hy | hy
              · exact ⟨(hall y hy).1, fun hc => List.mem_append_left _ ((hall y hy).2 hc)⟩
              · rw [hy]; exact ⟨hxs, fun _ => by simp⟩
            have HDR : Hid ((Q ++ [x]).drop (h + 1) = Q.drop (h + 1) ++ [x]) := List.drop_append_of_le_length (by omega)
            obtain ⟨ql, hql2⟩ : ∃ ql, ql = (Q.drop (h + 1)).length := ⟨_, rfl⟩
            have HQL := hide hql2
            have HM := hide hM
            rw [← hql2] at HM hdl ⊢
            generalize dsc par x = dp at *
            generalize s.comp x = cxx at *
            generalize s.comp st = cst at *
            obtain ⟨i0, hi0, hz0, hz1, hz2⟩ := info_parts Try.info3
            clear hY hv hall hM hY1 hql2 HJ hce
            go_upto_region 27 with fail
            go_cut [110] (fun t wx => t = .bool true ∧ Hid (QMem w2 w2.heap.size out.length par (Q.drop (h + 1)) (.slice (some ⟨gq, oq, none⟩) ql cq) wx))
            case first =>
              go_wp2_with fail
              go_quiet (fail)
              go_wp2_with fail
              go_meet
              case rel => exact ⟨rfl, HM.out.drew _⟩
            case rest =>
            obtain ⟨rfl, HM2⟩ := hcut
            clear cp fp HM k1 k2 cx
            obtain ⟨cp, fp⟩ := HM2.out.parAt hxn
            have hqs := (HM2.out.setPar x v).qr
            rw [← HQL.out] at hqs
            have HQS := hide hqs
            clear hqs
            go_wp2_with (at_builtin; refine wpList_append_q _ rfl (.tmp 115) (.tmp 117) 22 rfl i0 (.int .i64 0) 8 Try.underlying22 hi0 hz0 hz1 hz2 rfl (w2.heap.size + 1) (by have := HM2.out.big; simp; omega) _ ql _ rfl (HQS.out.alloc _) wc.heap.size (.int .i64 (x : Int)) rfl (lit_cell _ _ _ _ (by simp)) rfl (by unfold maxLen; omega) (by omega) ?_)
            intro v6 w6 hq6 hg6
            have h6 := ((HM2.out.setPar x v).alloc (.cells #[.int .i64 (x : Int)] 3)).push (by rw [← HQL.out]; exact hq6) hg6
            rw [← HDR.out] at h6
            have H6 := hide h6
            obtain ⟨_, g6, o6, c6, hv6, _⟩ := hq6
            subst hv6
            clear h6 hg6 HM2 HQS cp fp
            go_wp2_with fail
            go_roundw
            case rel => exact ⟨j + 1, Q ++ [x], upd par x (v + 1), by omega, by go_num, HE.out.1, HE.out.2.1, HE.out.2.2, H6.out⟩
            case measure => simp [intOf]; omega
          · have hd2 : decide (dsc par x < 0) = false := by unfold dsc; simp; omega
            have HE : Hid (∀ y ∈ (row out v).take (j + 1), y ≠ st ∧ (s.comp y = s.comp st → y ∈ Q)) := fun y hy => by
              rcases take_succ_mem HX.out hy with hy | hy
              · exact hall y hy
              · rw [hy]
                refine ⟨hxs, fun _ => ?_⟩
                apply Decidable.byContradiction
                intro hxq
                exact hp0 ((hY.par0 x).2 (.inl hxq))
            obtain ⟨_, gq, oq, cq, hqv, _⟩ := hM.qr
            subst hqv
            generalize dsc par x = dp at *
            clear hY hv hall hM hce hp0
            go_wp2_with fail
            go_quiet (fail)
            go_wp2_with fail
            go_roundw
            case rel => exact ⟨j + 1, Q, par, by omega, by go_num, HJ.out.1, HJ.out.2.1, HE.out, HJ.out.2.2.2.drew _⟩
            case measure => simp [intOf]; omega
        · have hd1 : ((s.comp x : Int) == (s.comp st : Int)) = false := by simp; omega
          have HE : Hid (∀ y ∈ (row out v).take (j + 1), y ≠ st ∧ (s.comp y = s.comp st → y ∈ Q)) := fun y hy => by
            rcases take_succ_mem HX.out hy with hy | hy
            · exact hall y hy
            · rw [hy]; exact ⟨hxs, fun hc => (hce hc).elim⟩
          obtain ⟨_, gq, oq, cq, hqv, _⟩ := hM.qr
          subst hqv
          generalize dsc par x = dp at *
          clear hY hv hall hM hce
          go_wp2_with fail
          go_quiet (fail)
          go_wp2_with fail
          go_roundw
          case rel => exact ⟨j + 1, Q, par, by omega, by go_num, HJ.out.1, HJ.out.2.1, HE.out, HJ.out.2.2.2.drew _⟩
          case measure => simp [intOf]; omega
    · have hje : j = (row out v).length := by omega
      subst hje
      obtain ⟨hY, hv, hall, hM⟩ := HJ.out
      rw [List.take_length] at hall
      have hh := (List.getElem?_eq_some_iff.1 hv).1
      have hql := hY.le
      have HE := hide (And.intro (hY.next hv hall) hM)
      obtain ⟨_, gq, oq, cq, hqv, _⟩ := hM.qr
      subst hqv
      clear hY hv hall hM HJ
      go_wp2_with fail
      go_roundg (out.length - (h + 1))
      case measure => rw [HGG.out]; omega
      case rel => exact ⟨h + 1, Q, par, rfl, by omega, HE.out.1, HE.out.2⟩
  exfalso
  obtain ⟨hgg, hh, hY, hM⟩ := HJ.out
  have hhe : h = Q.length := by omega
  subst hhe
  exact hY.back HO.out HK.out hst HBIG.out
end Go.Proofs.Qxb6605452a
