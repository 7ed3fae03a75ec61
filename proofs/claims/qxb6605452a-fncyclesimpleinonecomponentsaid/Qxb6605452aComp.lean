import Derived.Test.Qxb6605452aPop
import Derived.Test.Qxb6605452aCompSpec
import Derived.Deep.DeepCutAuto
import Derived.Deep.OwnRows
import Derived.Deep.QuietTactic
import Derived.BigQuiet
namespace Go.Proofs.Qxb6605452a
open Go.RowKit

theorem W9_eq (w : World) (n : Nat) : ((((((((w.alloc (.cells (madeCells #[.int .i64 0] n) 3)).alloc (.cells #[.slice (some ⟨w.heap.size, 0, none⟩) n n] 22)).alloc (.cells (madeCells #[.int .i64 0] n) 3)).alloc
    (.cells #[.slice (some ⟨w.heap.size + 2, 0, none⟩) n n] 22)).alloc (.cells (madeCells #[.bool false] n) 4)).alloc (.cells #[.slice (some ⟨w.heap.size + 4, 0, none⟩) n n] 32)).alloc
    (.cells (madeCells #[.int .i64 0] n) 3)).alloc (.cells #[.slice none 0 0] 22)).alloc (.cells #[.int .i64 0] 3) = W9 w n := rfl

section
variable {w0 : World} {B n : Nat} {s : St} {vc vs sz wk : Value} {w : World}
theorem Mem.topCells {g c v i : Nat} {W : List (Nat × Nat)} (h : Mem w0 B n s vc vs sz (.slice (some ⟨g, 0, none⟩) (W.length + 1) c) w) (hW : s.wlk = (v, i) :: W) :
    w.cell? ⟨g, W.length * 2, none⟩ = some (.int .i64 (v : Int)) ∧ w.cell? ⟨g, W.length * 2 + 1, none⟩ = some (.int .i64 (i : Int)) ∧ w.frozen? ⟨g, W.length * 2 + 1, none⟩ = false := by
  have hwk := h.rwk
  rw [hW, List.length_cons] at hwk
  have hfg := frV_get (l := ((v, i) :: W).reverse) (k := W.length) (p := (v, i)) (by simp)
  refine ⟨?_, ?_, hwk.frozenAt _⟩
  · rw [hwk.cellAt _ (by omega)]; exact hfg.1
  · rw [hwk.cellAt _ (by omega)]; exact hfg.2
theorem Mem.idxAt (h : Mem w0 B n s vc vs sz wk w) {x : Nat} (hx : x < n) : w.cell? ⟨B, x, none⟩ = some (.int .i64 (s.idx x : Int)) := by rw [h.ix.cellAt x (by omega)]; exact tabI_get _ hx
theorem Mem.lowAt (h : Mem w0 B n s vc vs sz wk w) {x : Nat} (hx : x < n) : w.cell? ⟨B + 2, x, none⟩ = some (.int .i64 (s.low x : Int)) := by rw [h.lw.cellAt x (by omega)]; exact tabI_get _ hx
theorem Mem.onsAt (h : Mem w0 B n s vc vs sz wk w) {x : Nat} (hx : x < n) : w.cell? ⟨B + 4, x, none⟩ = some (.bool (s.ons x)) := by rw [h.on.cellAt x (by omega)]; exact tabB_get _ hx
theorem Mem.compAt (h : Mem w0 B n s vc vs sz wk w) {x : Nat} (hx : x < n) : w.cell? ⟨B + 6, x, none⟩ = some (.int .i64 (s.comp x : Int)) := by rw [h.cp.cellAt x (by omega)]; exact tabI_get _ hx
end

theorem Mem.sizeAt {w0 : World} {B n : Nat} {s : St} {vc vs wk : Value} {w : World} {gz m cz : Nat} (h : Mem w0 B n s vc vs (.slice (some ⟨gz, 0, none⟩) m cz) wk w) (hm : s.size.length = m) {j x : Nat} (hx : s.size[j]? = some x) :
    w.cell? ⟨gz, j, none⟩ = some (.int .i64 (x : Int)) ∧ w.frozen? ⟨gz, j, none⟩ = false := by
  have h1 := h.rsz
  rw [hm] at h1
  have hj := (List.getElem?_eq_some_iff.1 hx).1
  refine ⟨?_, h1.frozenAt j⟩
  rw [h1.cellAt j (by omega)]
  exact intsV_get hx

theorem own_base {w : World} {b b' e size n : Nat} {v : Value} {xs : List Value} (h : w.ownsRow b e size v n xs) (hb : b' ≤ b) : w.ownsRow b' e size v n xs := by
  refine ⟨h.1, ?_⟩
  rcases h.2 with h2 | ⟨g, cap, cur, hv, hg, r⟩
  · exact .inl h2
  · exact .inr ⟨g, cap, cur, hv, by omega, r⟩

theorem Src.pair {P : Program} {t e : TypeId} (ht : P.underlying t = some (.slice e)) (w : World) (x y : Value) (hx : x.oneCell' = true) (hy : y.oneCell' = true) (c : Nat) :
    Src P 2 t (.slice (some ⟨w.heap.size, 0, none⟩) 1 c) 1 [x, y] (w.alloc (.cells #[x, y] e)) := by
  refine Src.ofSlice _ ht _ 1 c [x, y] rfl (fun j u hu => ?_) (fun u hu => ?_)
  · rw [Addr.add_lit, Nat.zero_add, cell_of_row _ w.heap.size j #[x, y] e (0, 0) (heap_last w _)]
    simpa using hu
  · simp at hu
    rcases hu with rfl | rfl
    · exact hx
    · exact hy

set_option maxHeartbeats 2000000 in
set_option maxRecDepth 100000 in
theorem components_any (out : List (List Nat)) (atx : Option Addr) (ctx bg : Nat) (vout : Value) (w : World) (hg0 : w.cell? ⟨bg, 0, none⟩ = some (.slice atx out.length ctx)) (hg1 : w.cell? ⟨bg, 1, none⟩ = some vout)
    (hr : Rows2 w vout out) (hn : out.length ≤ 4096) (hout : ∀ v w, E out v w → w < out.length) (hlen : ∀ l ∈ out, l.length ≤ 1048576) :
    Calls Try.prog 27 #[.pointer (some ⟨bg, 0, none⟩)] w fun e w' => CompE out w e w' := by
  have m22 := fun kl kc => run_make_row' (P := Try.prog) 22 3 (.int .i64 0) 8 Try.underlying22 Try.info3 rfl kl kc out.length (by omega) (by omega)
  have m32 := fun kl kc => run_make_row' (P := Try.prog) 32 4 (.bool false) 1 Try.underlying32 Try.info4 rfl kl kc out.length (by omega) (by omega)
  have HR := hide hr
  have HO := hide hout
  have HL := hide hlen
  have hbg : bg < w.heap.size := World.block_lt_of_cell? _ _ hg0
  clear hr hout hlen
  obtain ⟨ao, co, rfl, _, _⟩ := HR.out
  go_enter Try.func27, Try.ntmps27
  go_wp2
  simp only [Nat.add_assoc, Nat.reduceAdd]
  rw [W9_eq]
  go_loopw [3, 34] (fun zv i wr => ∃ (r : Nat) (s : St) (vs : Value), r ≤ out.length ∧ i = .int .i64 r ∧ Hid (Rch out r s ∧ s.wlk = [] ∧ (s.size = [] → zv = .slice none 0 0) ∧ Mem w w.heap.size out.length s vs vs zv (.slice none 0 0) wr)) (fun _ i _ => out.length - (intOf i).toNat)
  case atStart => exact ⟨0, st0, .slice none 0 0, by omega, rfl, Rch.zero out, rfl, fun _ => rfl, Mem.init w out.length hn⟩
  case round =>
    obtain ⟨r, s, vs, hr, rfl, HRS⟩ := hrel
    by_cases hlt : r < out.length
    · obtain ⟨hR, hW, hZ, hM⟩ := HRS.out
      have c1 := hM.ixv
      have ci : wr.cell? ⟨w.heap.size, r, none⟩ = some (.int .i64 (s.idx r : Int)) := by rw [hM.ix.cellAt r (by omega)]; exact tabI_get _ hlt
      by_cases h0 : s.idx r = 0
      · rw [h0] at ci
        have hvl := hR.visLe HO.out
        obtain ⟨⟨fs, hI⟩, _, _⟩ := hR.inv HO.out
        have hsl := hI.stkLe
        have C31 := hide (visit_any hM r hlt (by omega) (by omega))
        have HS := hide (hR.start hW hlt h0)
        have H0 := hide h0
        clear hR hW hM hI h0 HRS
        go_wp2_with fail
        refine C31.out.mono ?_
        rintro e w1 ⟨rfl, vs1, hM1⟩
        have M1 := hide (hM1.startWalk r)
        have HS1 : Hid (Rch out r { Qxb6605452a.visit r s with wlk := [(r, 0)] } ∧ (Qxb6605452a.visit r s).idx r ≠ 0) := ⟨HS.out, by show upd s.idx r (s.vis + 1) r ≠ 0; rw [upd_same]; omega⟩
        have HZ := hide hZ
        clear hM1 C31 HS hZ c1 ci
        go_wp2_with fail
        go_loopg [3, 12] (meas out { Qxb6605452a.visit r s with wlk := [(r, 0)] }) (fun gg zv kv wr => ∃ (s : St) (vs : Value), Hid (gg = meas out s ∧ Rch out r s ∧ s.idx r ≠ 0 ∧ (s.size = [] → zv = .slice none 0 0) ∧ Mem w w.heap.size out.length s vs vs zv kv wr))
        case atStart => exact ⟨_, vs1, rfl, HS1.out.1, HS1.out.2, HZ.out, M1.out⟩
        case round =>
          obtain ⟨s, vs, HRS⟩ := hrel
          obtain ⟨hgg, hR, hir, hZ, hM⟩ := HRS.out
          obtain ⟨⟨fs, hI⟩, _, _⟩ := hR.inv HO.out
          cases hW : s.wlk with
          | nil =>
            have hwk := hM.rwk
            rw [hW, List.length_nil] at hwk
            obtain ⟨ak, ck, rfl, _, _, _⟩ := own_form hwk
            have HNX := hide (hR.next hW hlt hir)
            have HMD := hide (hM.dropWalk hW)
            have HWN := hide hW
            have HZ' := hide hZ
            clear hwk hM hR hW hZ hI hir hgg HRS m22 m32 hg0 hg1
            go_wp2_with fail
            go_roundw
            case rel => exact ⟨r + 1, s, vs, by omega, by go_num, HNX.out, HWN.out, HZ'.out, HMD.out⟩
            case measure => simp [intOf]; omega
          | cons p W =>
            obtain ⟨v, i⟩ := p
            have T := hI.top hW
            have hwk := hM.rwk
            rw [hW, List.length_cons] at hwk
            obtain ⟨ak, ck, rfl, hck1, hck2, hgk⟩ := own_form hwk
            obtain ⟨g, rfl⟩ := hgk (by omega)
            obtain ⟨cv, cn, fn⟩ := hM.topCells hW
            have cg : wr.cell? ⟨bg, 1, none⟩ = some (.slice ao out.length co) := cell_later hM.bel hg1
            obtain ⟨br, orr, ar, cr, hab, cb0, hrow⟩ := HR.out.at T.vlt
            have cb := cell_later hM.bel cb0
            have hvl := T.vlt
            have hile := T.ile
            have hrl : (row out v).length ≤ 1048576 := by
              have e : row out v = out[v] := by simp [row, List.getD, hvl]
              rw [e]
              exact HL.out _ (List.getElem_mem _)
            have hwl := hI.wlkLe
            rw [hW, List.length_cons] at hwl
            have HM := hide hM
            have HRow := hide hrow
            have HT := hide T
            have HW := hide hW
            have Hgg := hide hgg
            have HR' := hide hR
            have HZ' := hide hZ
            have Hir := hide hir
            have HI := hide hI
            have CB0 := hide cb0
            have HG1 := hide hg1
            subst hab
            clear hM hrow T hW hwk hR hir hZ hI hgg HRS hgk cb0 hg1 m22 m32 hg0
            have hvl' : (v : Int) < (out.length : Int) := by omega
            by_cases hi : i < (row out v).length
            · as_aux_lemma =>
              obtain ⟨x, hx⟩ : ∃ x, (row out v)[i]? = some x := ⟨_, List.getElem?_eq_getElem hi⟩
              have hxn : x < out.length := HO.out v x (List.mem_of_getElem? hx)
              obtain ⟨bx, ox, hab, cx0⟩ := HRow.out.atI hx
              subst hab
              have HX := hide hx
              have CX0 := hide cx0
              have hi' : (i : Int) < ((row out v).length : Int) := by omega
              have cx := cell_later HM.out.bel cx0
              clear hx cx0
              go_wp2_with fail
              go_cut [71] (fun t wx => t = .bool true ∧ Hid (Mem w w.heap.size out.length s vs vs u3 (.slice (some ⟨g, 0, none⟩) (W.length + 1) ck) wx))
              case first =>
                go_region
                all_goals go_wp2_with fail
                go_meet
                case rel => exact ⟨rfl, HM.out.drew⟩
              case rest =>
              obtain ⟨rfl, HMc⟩ := hcut
              clear cv cn fn cg cb cx
              obtain ⟨cv, cn, fn⟩ := HMc.out.topCells HW.out
              have cg := cell_later HMc.out.bel HG1.out
              have cb := cell_later HMc.out.bel CB0.out
              have cx := cell_later HMc.out.bel CX0.out
              go_wp2_with fail
              go_cut [14] (fun t wx => t = .int .i64 (x : Int) ∧ Hid (Mem w w.heap.size out.length s vs vs u3 (.slice (some ⟨g, 0, none⟩) (W.length + 1) ck) wx))
              case first =>
                go_region
                all_goals go_wp2_with fail
                go_meet
                case rel => exact ⟨rfl, HMc.out.drew⟩
              case rest =>
              obtain ⟨rfl, HMd⟩ := hcut
              clear cv cn fn cg cb cx HMc HM
              obtain ⟨cv, cn, fn⟩ := HMd.out.topCells HW.out
              have hi2 : (i : Int) ≤ 1048576 := by omega
              go_upto_region 19 with fail
              go_cut [] (fun wx => Hid (Mem w w.heap.size out.length { s with wlk := (v, i + 1) :: W } vs vs u3 (.slice (some ⟨g, 0, none⟩) (W.length + 1) ck) wx))
              case first =>
                go_wp2_with fail
                go_meet
                case rel =>
                  have h5 := HMd.out.walkNext HW.out (i + 1)
                  simp only [Int.natCast_add, Int.natCast_one] at h5
                  exact h5
              case rest =>
              have HMe := hide hcut.out
              clear cv cn fn hcut HMd
              have c1 := HMe.out.ixv
              have ci := HMe.out.idxAt hxn
              simp only at ci
              by_cases h0 : s.idx x = 0
              · as_aux_lemma =>
                rw [h0] at ci
                have hvis := HR'.out.visLe HO.out
                have hstl := HI.out.stkLe
                have C31 := hide (visit_any HMe.out x hxn (by show s.vis ≤ 8192; omega) (by show s.stk.length ≤ 8192; omega))
                have H0 := hide h0
                clear h0
                go_wp2_with fail
                refine C31.out.mono ?_
                rintro e w3 ⟨rfl, vs3, hM3⟩
                have HM3 := hide hM3
                clear hM3 C31 HMe c1 ci
                have hwk3 := HM3.out.rwk
                have hlw : (Qxb6605452a.visit x { s with wlk := (v, i + 1) :: W }).wlk.length = W.length + 1 := rfl
                rw [hlw] at hwk3
                have HWK := hide hwk3
                clear hwk3 hlw
                obtain ⟨i53, hi53, hy0, hy1, hy2⟩ := info_parts Try.info53
                go_wp2_with (at_builtin; refine wpList_append_src _ rfl (.tmp 103) (.tmp 106) 54 54 rfl (w.heap.size + 9) 53 i53 (.agg #[.int .i64 0, .int .i64 0]) 2 16 Try.underlying54 hi53 hy0 hy1 hy2 rfl _ _ _ rfl (HWK.out.alloc _) _ _ _ rfl (Src.pair Try.underlying54 _ _ _ rfl rfl _) (by unfold maxLen; omega) (by omega) (by have := HM3.out.big; simp; omega) ?_)
                intro k4 w4 hO4 hG4 hF4
                have h4 := (HM3.out.alloc (.cells #[.int .i64 (x : Int), .int .i64 0] 53)).walkPush (p := (x, 0)) hO4 hG4 (fun k hk => by simpa using hF4 k hk)
                have M4 := hide h4
                have hst := HR'.out.step (by rw [HW.out]; simp) hlt
                rw [turn_new HW.out HX.out H0.out] at hst
                have HST := hide hst
                have HMS := hide (meas_new HW.out HX.out hxn H0.out)
                clear h4 hO4 hG4 hF4 hst HWK
                go_wp2_with fail
                go_roundg (meas out { Qxb6605452a.visit x s with wlk := (x, 0) :: (v, i + 1) :: W })
                case measure => rw [Hgg.out]; exact HMS.out
                case rel => exact ⟨_, vs3, rfl, HST.out, visit_seen Hir.out, HZ'.out, M4.out⟩
              · have hz0 : ((s.idx x : Int) == 0) = false := by simp; omega
                have H0 := hide h0
                clear h0
                have c5 := HMe.out.onv
                have cO := HMe.out.onsAt hxn
                simp only at cO
                cases ho : s.ons x with
                | false =>
                  as_aux_lemma =>
                  rw [ho] at cO
                  have hst := HR'.out.step (by rw [HW.out]; simp) hlt
                  rw [turn_skip HW.out HX.out H0.out ho] at hst
                  have HST := hide hst
                  have HMS := hide (meas_old HW.out HX.out s.low)
                  clear hst ho
                  go_wp2_with fail
                  go_roundg (meas out { s with wlk := (v, i + 1) :: W })
                  case measure => rw [Hgg.out]; exact HMS.out
                  case rel => exact ⟨_, vs, rfl, HST.out, Hir.out, HZ'.out, HMe.out⟩
                | true =>
                  as_aux_lemma =>
                  rw [ho] at cO
                  have hst := HR'.out.step (by rw [HW.out]; simp) hlt
                  rw [turn_low HW.out HX.out H0.out ho] at hst
                  have HST := hide hst
                  have HMS := hide (meas_old HW.out HX.out (upd s.low v (min (s.low v) (s.idx x))))
                  clear hst ho
                  obtain ⟨cv, _, _⟩ := HMe.out.topCells (v := v) (i := i + 1) rfl
                  have c3 := HMe.out.lwv
                  have cl := HMe.out.lowAt hvl
                  have fl : wc.frozen? ⟨w.heap.size + 2, v, none⟩ = false := HMe.out.lw.frozenAt v
                  simp only at cl
                  have hx' : (x : Int) < (out.length : Int) := by omega
                  go_wp2_with fail
                  go_region
                  all_goals go_wp2_with fail
                  all_goals
                    go_roundg (meas out { s with low := upd s.low v (min (s.low v) (s.idx x)), wlk := (v, i + 1) :: W })
                    case measure => rw [Hgg.out]; exact HMS.out
                    case rel =>
                      first
                      | (have hmn : s.idx x ≤ s.low v := by omega
                         have e := Nat.min_eq_right hmn
                         rw [e] at HST ⊢
                         exact ⟨_, vs, rfl, HST.out, Hir.out, HZ'.out, (HMe.out.setLow v (s.idx x)).drew⟩)
                      | (have hmn : s.low v ≤ s.idx x := by omega
                         have e := Nat.min_eq_left hmn
                         rw [e] at HST ⊢
                         exact ⟨_, vs, rfl, HST.out, Hir.out, HZ'.out, (HMe.out.setLow v (s.low v)).drew⟩)
            · as_aux_lemma =>
              have hil : i = (row out v).length := by omega
              have HIL := hide hil
              have hi' : decide ((i : Int) < ((row out v).length : Int)) = false := by simp; omega
              clear hil
              go_wp2_with fail
              go_cut [71] (fun t wx => t = .bool false ∧ Hid (Mem w w.heap.size out.length s vs vs u3 (.slice (some ⟨g, 0, none⟩) (W.length + 1) ck) wx))
              case first =>
                go_region
                all_goals go_wp2_with fail
                go_meet
                case rel => exact ⟨by first | rfl | rw [hi'], HM.out.drew⟩
              case rest =>
              obtain ⟨rfl, HMc⟩ := hcut
              clear cv cn fn cg cb HM
              obtain ⟨cv, cn, fn⟩ := HMc.out.topCells HW.out
              have HMp := hide (HMc.out.walkPop HW.out)
              go_upto_if 141 with fail
              go_cut [16] (fun _ wx => Hid (Mem w w.heap.size out.length { s with low := lowUp v W s.low, wlk := W } vs vs u3 (.slice (some ⟨g, 0, none⟩) W.length ck) wx))
              case first =>
                as_aux_lemma =>
                rcases W with _ | ⟨⟨u, j⟩, W'⟩
                · simp only [List.length_nil] at *
                  clear cv cn fn
                  go_wp2_with fail
                  go_meet
                  case rel => exact HMp.out
                · obtain ⟨hun, huv⟩ := HT.out.ult u j W' rfl
                  obtain ⟨cu, _, _⟩ := HMp.out.topCells (v := u) (i := j) (W := W') rfl
                  have c3 := HMp.out.lwv
                  have clu := HMp.out.lowAt hun
                  have clv := HMp.out.lowAt hvl
                  have flu : wc.frozen? ⟨w.heap.size + 2, u, none⟩ = false := HMp.out.lw.frozenAt u
                  simp only at clu clv
                  have hun' : (u : Int) < (out.length : Int) := by omega
                  clear cv cn fn
                  have hwl' : W'.length + 1 + 1 ≤ out.length := hwl
                  have hpos : (0 : Int) < ((((u, j) :: W').length : Nat) : Int) := by rw [List.length_cons]; omega
                  rw [List.length_cons] at *
                  go_wp2_with fail
                  go_region
                  all_goals go_wp2_with fail
                  all_goals
                    go_meet
                    case rel =>
                      rw [show lowUp v ((u, j) :: W') s.low = upd s.low u (min (s.low u) (s.low v)) from rfl]
                      first
                      | (have hmn : s.low v ≤ s.low u := by omega
                         rw [Nat.min_eq_right hmn]
                         exact (HMp.out.setLow u (s.low v)).drew)
                      | (have hmn : s.low u ≤ s.low v := by omega
                         rw [Nat.min_eq_left hmn]
                         exact (HMp.out.setLow u (s.low u)).drew)
              case rest =>
              have HMq := hide hcut.out
              clear cv cn fn hcut HMp HMc
              have c1 := HMq.out.ixv
              have c3 := HMq.out.lwv
              have ci := HMq.out.idxAt hvl
              have cl := HMq.out.lowAt hvl
              simp only at ci cl
              obtain ⟨lo, hlo⟩ : ∃ lo, lo = lowUp v W s.low v := ⟨_, rfl⟩
              rw [← hlo] at cl
              have HLO := hide hlo
              clear hlo
              go_wp2_with fail
              by_cases hroot : lo = s.idx v
              · as_aux_lemma =>
                subst hroot
                obtain ⟨az, cz, rfl, hcz1, hcz2, _⟩ := own_form HMq.out.rsz
                simp only at hcz1
                have hszl := HI.out.sizeLe
                have hst := HR'.out.step (by rw [HW.out]; simp) hlt
                rw [turn_pop HW.out HIL.out.symm HLO.out.symm] at hst
                have HST := hide hst
                have HMS := hide (meas_done (out := out) HW.out (s' := popC v { s with low := lowUp v W s.low, wlk := W }) rfl rfl)
                clear hst
                go_cut [169] (fun t wx => t = .bool true ∧ Hid (Mem w w.heap.size out.length { s with low := lowUp v W s.low, wlk := W } vs vs (.slice az s.size.length cz) (.slice (some ⟨g, 0, none⟩) W.length ck) wx))
                case first =>
                  go_region
                  all_goals go_wp2_with fail
                  go_meet
                  case rel => exact ⟨rfl, HMq.out.drew⟩
                case rest =>
                obtain ⟨rfl, HMr⟩ := hcut
                clear c1 c3 ci cl HMq
                obtain ⟨i3, hi3, hy0, hy1, hy2⟩ := info_parts Try.info3
                go_wp2_with (at_builtin; refine wpList_append_src _ rfl (.tmp 172) (.tmp 173) 22 22 rfl (w.heap.size + 9) 3 i3 (.int .i64 0) 1 8 Try.underlying22 hi3 hy0 hy1 hy2 rfl _ _ _ rfl (HMr.out.rsz.alloc _) _ _ _ rfl (Src.one Try.underlying22 _ _ rfl _) (by unfold maxLen; show s.size.length + 1 ≤ _; omega) (by show (s.size.length + 1) * 8 ≤ _; omega) (by have := HMr.out.big; simp; omega) ?_)
                intro z5 w5 hO5 hG5 hF5
                have h5 := (HMr.out.alloc (.cells #[.int .i64 0] 3)).sizePush (x := 0) hO5 hG5 (fun k hk => by simpa using hF5 k hk)
                obtain ⟨az5, cz5, rfl, hcz5, _, hgz⟩ := own_form hO5
                obtain ⟨gz, rfl⟩ := hgz (by omega)
                obtain ⟨P0, Q0, hPQ, hvP⟩ := HT.out.onst
                have M5 : Hid (Mem w w.heap.size out.length (popJ [] { s with low := lowUp v W s.low, wlk := W }) vs vs (.slice (some ⟨gz, 0, none⟩) (s.size.length + 1) cz5) (.slice (some ⟨g, 0, none⟩) W.length ck) w5) := by
                  rw [popJ_nil]; exact h5
                have HPQ := hide (And.intro hPQ hvP)
                clear h5 hO5 hG5 hF5 HMr hgz hPQ hvP
                go_wp2_with fail
                go_loopg [18] (s.stk.length) (fun gg _ wr => ∃ (P Q : List Nat) (vq : Value), Hid (gg = Q.length ∧ s.stk = P ++ Q ∧ v ∉ P ∧ v ∈ Q ∧ Mem w w.heap.size out.length (popJ P { s with low := lowUp v W s.low, wlk := W }) vq vq (.slice (some ⟨gz, 0, none⟩) (s.size.length + 1) cz5) (.slice (some ⟨g, 0, none⟩) W.length ck) wr))
                case atStart => exact ⟨[], s.stk, vs, rfl, rfl, by simp, by rw [HPQ.out.1]; simp, M5.out⟩
                case round =>
                  obtain ⟨P, Q, vq, HJ⟩ := hrel
                  obtain ⟨hgq, hstk, hvP, hvQ, hMJ⟩ := HJ.out
                  cases Q with
                  | nil => cases hvQ
                  | cons y Q =>
                  have hys : y ∈ s.stk := by rw [hstk]; simp
                  have hyn : y < out.length := HI.out.rng _ (HI.out.vst _ hys)
                  have hsl5 := HI.out.stkLe
                  have hql : Q.length + 1 ≤ out.length := by rw [hstk, List.length_append, List.length_cons] at hsl5; omega
                  have hpl : P.length + 1 ≤ out.length := by rw [hstk, List.length_append, List.length_cons] at hsl5; omega
                  have hjs : (popJ P { s with low := lowUp v W s.low, wlk := W }).stk = y :: Q := popJ_stk hstk
                  have hrs := hMJ.rst
                  rw [hjs, List.length_cons] at hrs
                  obtain ⟨aq, cq, rfl, hcq1, hcq2, hgq2⟩ := own_form hrs
                  obtain ⟨gs, rfl⟩ := hgq2 (by omega)
                  have c7 := hMJ.stv
                  have f7 := hMJ.stf
                  have hMJ2 := hMJ
                  obtain ⟨oy, cyv, cy, c5, cO, fO, cC, fC, cZ, fZ⟩ := hMJ.popFacts hstk hyn
                  have HP5 := hide (hMJ.popStep hstk)
                  have HSTK := hide hstk
                  have HVP := hide hvP
                  have HVQ := hide hvQ
                  have HGQ := hide hgq
                  simp only at cO cC cZ fZ HP5
                  clear hstk hvP hvQ hgq hrs hMJ HJ hjs hgq2 hys hMJ2
                  by_cases hyv : y = v
                  · as_aux_lemma =>
                    subst hyv
                    have hyy : ((y : Int) == (y : Int)) = true := by simp
                    go_wp2_with fail
                    go_roundg (meas out (popC y { s with low := lowUp y W s.low, wlk := W }))
                    case measure => rw [Hgg.out]; exact HMS.out
                    case rel =>
                      have h8 := HP5.out
                      rw [popJ_done (s := { s with low := lowUp y W s.low, wlk := W }) HSTK.out HVP.out] at h8
                      have h9 : (popC y { s with low := lowUp y W s.low, wlk := W }).size = [] → Value.slice (some ⟨gz, 0, none⟩) (s.size.length + 1) cz5 = .slice none 0 0 := fun h => by
                        have h10 := congrArg List.length h
                        simp [popC] at h10
                      exact ⟨popC y { s with low := lowUp y W s.low, wlk := W }, _, rfl, HST.out, Hir.out, h9, h8⟩
                  · as_aux_lemma =>
                    have hyy : ((y : Int) == (v : Int)) = false := by simp; omega
                    go_wp2_with fail
                    go_roundg Q.length
                    case measure => rw [HGQ.out]; simp
                    case rel =>
                      refine ⟨P ++ [y], Q, .slice (some ⟨gs, 0, none⟩) Q.length cq, rfl, by rw [HSTK.out]; simp, ?_, ?_, ?_⟩
                      · have := HVP.out
                        intro hm
                        rcases List.mem_append.1 hm with hm | hm
                        · exact this hm
                        · simp at hm; exact hyv hm.symm
                      · rcases List.mem_cons.1 HVQ.out with h | h
                        · exact (hyv h.symm).elim
                        · exact h
                      · exact HP5.out
              · as_aux_lemma =>
                have hz : ((lo : Int) == (s.idx v : Int)) = false := by simp; omega
                have hst := HR'.out.step (by rw [HW.out]; simp) hlt
                rw [turn_join HW.out HIL.out.symm (by rw [← HLO.out]; exact hroot)] at hst
                have HST := hide hst
                have HMS := hide (meas_done (out := out) HW.out (s' := { s with low := lowUp v W s.low, wlk := W }) rfl rfl)
                clear hst hroot
                go_region
                all_goals go_wp2_with fail
                go_roundg (meas out { s with low := lowUp v W s.low, wlk := W })
                case measure => rw [Hgg.out]; exact HMS.out
                case rel => exact ⟨_, vs, rfl, HST.out, Hir.out, HZ'.out, HMq.out.drew⟩
      · have hz : ((s.idx r : Int) != 0) = true := by simp; omega
        have HN := hide (hR.next hW hlt h0)
        have HM := hide hM
        have HW := hide hW
        have HZ := hide hZ
        clear hR hW hZ hM h0 HRS
        go_wp2_with fail
        go_roundw
        case rel => exact ⟨r + 1, s, vs, by omega, by go_num, HN.out, HW.out, HZ.out, HM.out⟩
        case measure => simp [intOf]; omega
    · have hre : r = out.length := by omega
      subst hre
      obtain ⟨hR, hW, hZ, hM⟩ := HRS.out
      have HE := hide (And.intro hR (And.intro hW (And.intro hZ hM)))
      clear hR hW hZ hM HRS
      go_wp2_with fail
      go_ret2
      obtain ⟨hR, hW, hZ, hM⟩ := HE.out
      exact ⟨s, _, rfl, hR, hW, hM.cp, own_base hM.rsz (by omega), hZ, hM.bel⟩

theorem compSpec : CompSpec := fun out atx ctx bg vout w h0 h1 hr hn ho hl => components_any out atx ctx bg vout w h0 h1 hr hn ho hl
end Go.Proofs.Qxb6605452a
