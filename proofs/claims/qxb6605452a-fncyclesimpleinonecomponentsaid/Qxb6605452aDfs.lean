import Derived.Test.Qxb6605452aPost
import Derived.Test.Qxb6605452aSteps
import Derived.Test.Qxb6605452aReachMem
import Derived.Test.Qxb6605452aVisit
namespace Go.Proofs.Qxb6605452a
open Go.RowKit

/-! ### a table of signed numbers -/
def tabZ (n : Nat) (f : Nat → Int) : List Value := (List.range n).map fun i => .int .i64 (f i)
theorem tabZ_length (n : Nat) (f : Nat → Int) : (tabZ n f).length = n := by simp [tabZ]
theorem tabZ_get {n i : Nat} (f : Nat → Int) (h : i < n) : (tabZ n f)[i]? = some (.int .i64 (f i)) := by simp [tabZ, h]
theorem tabZ_set (n : Nat) (f : Nat → Int) (j : Nat) (x : Int) : (tabZ n f).set j (.int .i64 x) = tabZ n (upd f j x) := tab_set (fun x : Int => Value.int .i64 x) n f j x

/-- The time of discovery, as the plain walk counts it: one less; none: -1. -/
def dsc (f : Nat → Nat) (x : Nat) : Int := (f x : Int) - 1
theorem dsc_upd (f : Nat → Nat) (v t : Nat) : upd (dsc f) v (t : Int) = dsc (upd f v (t + 1)) := by
  funext x
  unfold dsc
  by_cases e : x = v
  · subst e; rw [upd_same, upd_same]; omega
  · rw [upd_ne _ _ _ e, upd_ne _ _ _ e]

/-- What the memory of the plain walk holds: the table of discovery in block B, the record in block B + 1, the finished nodes. -/
structure DMem (w0 : World) (B n : Nat) (vo : Value) (f : Nat → Nat) (t : Nat) (P : List Nat) (vc vp : Value) (w : World) : Prop where
  bel : Below B w0 w
  big : B + 2 ≤ w.heap.size
  dc : w.ownsRow B 3 1 (.slice (some ⟨B, 0, none⟩) n n) n (tabZ n (dsc f))
  fo : w.cell? ⟨B + 1, 0, none⟩ = some vo
  fd : w.cell? ⟨B + 1, 1, none⟩ = some (.slice (some ⟨B, 0, none⟩) n n)
  ft : w.cell? ⟨B + 1, 2, none⟩ = some (.int .i64 (t : Int))
  fp : w.cell? ⟨B + 1, 3, none⟩ = some vc
  f2 : w.frozen? ⟨B + 1, 2, none⟩ = false
  f3 : w.frozen? ⟨B + 1, 3, none⟩ = false
  ps : w.ownsRow (B + 2) 3 1 vp P.length (intsV P)

section
variable {w0 : World} {B n : Nat} {vo : Value} {f : Nat → Nat} {t : Nat} {P : List Nat} {vc vp : Value} {w w' : World}
theorem DMem.discAt (h : DMem w0 B n vo f t P vc vp w) {x : Nat} (hx : x < n) : w.cell? ⟨B, x, none⟩ = some (.int .i64 (dsc f x)) := by rw [h.dc.cellAt x (by omega)]; exact tabZ_get _ hx
theorem DMem.setDisc (h : DMem w0 B n vo f t P vc vp w) (v x : Nat) : DMem w0 B n vo (upd f v (x + 1)) t P vc vp (w.setCell ⟨B, v, none⟩ (.int .i64 (x : Int))) := by
  have g : w.grownBy (w.setCell ⟨B, v, none⟩ (.int .i64 (x : Int))) (some B) := grown_setCell w ⟨B, v, none⟩ (.int .i64 (x : Int))
  have hb := h.big
  exact ⟨h.bel.setCell (Nat.le_refl _) _, by simpa using h.big, by have h5 := (h.dc.stored v (.int .i64 (x : Int))).1; rw [tabZ_set, dsc_upd] at h5; exact h5,
    kept_cell g (by omega) h.fo, kept_cell g (by omega) h.fd, kept_cell g (by omega) h.ft, kept_cell g (by omega) h.fp,
    kept_frozen g (by omega) (by omega) h.f2, kept_frozen g (by omega) (by omega) h.f3, kept_own g (own_lt h.ps (by omega)) h.ps⟩
theorem DMem.setT (h : DMem w0 B n vo f t P vc vp w) (x : Nat) : DMem w0 B n vo f x P vc vp (w.setCell ⟨B + 1, 2, none⟩ (.int .i64 (x : Int))) := by
  have g : w.grownBy (w.setCell ⟨B + 1, 2, none⟩ (.int .i64 (x : Int))) (some (B + 1)) := grown_setCell w ⟨B + 1, 2, none⟩ (.int .i64 (x : Int))
  have hb := h.big
  exact ⟨h.bel.setCell (by show B ≤ B + 1; omega) _, by simpa using h.big, kept_row g (by omega) h.dc,
    by rw [World.cell?_setCell_other _ _ _ _ (by simp)]; exact h.fo, by rw [World.cell?_setCell_other _ _ _ _ (by simp)]; exact h.fd, World.cell?_setCell_same w _ _ (u := .int .i64 (t : Int)) h.ft,
    by rw [World.cell?_setCell_other _ _ _ _ (by simp)]; exact h.fp, by rw [World.frozen?_setCell]; exact h.f2, by rw [World.frozen?_setCell]; exact h.f3, kept_own g (own_lt h.ps (by omega)) h.ps⟩
theorem DMem.setVar (h : DMem w0 B n vo f t P vc vp w) (u : Value) : DMem w0 B n vo f t P u vp (w.setCell ⟨B + 1, 3, none⟩ u) := by
  have g : w.grownBy (w.setCell ⟨B + 1, 3, none⟩ u) (some (B + 1)) := grown_setCell w ⟨B + 1, 3, none⟩ u
  have hb := h.big
  exact ⟨h.bel.setCell (by show B ≤ B + 1; omega) _, by simpa using h.big, kept_row g (by omega) h.dc,
    by rw [World.cell?_setCell_other _ _ _ _ (by simp)]; exact h.fo, by rw [World.cell?_setCell_other _ _ _ _ (by simp)]; exact h.fd, by rw [World.cell?_setCell_other _ _ _ _ (by simp)]; exact h.ft,
    World.cell?_setCell_same w _ _ (u := vc) h.fp, by rw [World.frozen?_setCell]; exact h.f2, by rw [World.frozen?_setCell]; exact h.f3, kept_own g (own_lt h.ps (by omega)) h.ps⟩
theorem DMem.drew (h : DMem w0 B n vo f t P vc vp w) : DMem w0 B n vo f t P vc vp w.drew :=
  ⟨h.bel.drew, h.big, h.dc.drew, h.fo, h.fd, h.ft, h.fp, h.f2, h.f3, h.ps.drew⟩
theorem DMem.alloc (h : DMem w0 B n vo f t P vc vp w) (o : Obj) : DMem w0 B n vo f t P vc vp (w.alloc o) := by
  have g : w.grownBy (w.alloc o) none := World.grownBy_alloc w o none
  have hb := h.big
  have hr : ∀ k, k < B + 2 → (none : Option Nat) ≠ some k := fun k _ e => by cases e
  exact ⟨h.bel.alloc (by omega) _, by simp; omega, keptr_row g (hr _ (by omega)) h.dc, keptr_cell g (hr _ (by omega)) h.fo, keptr_cell g (hr _ (by omega)) h.fd, keptr_cell g (hr _ (by omega)) h.ft,
    keptr_cell g (hr _ (by omega)) h.fp, keptr_frozen g (hr _ (by omega)) (by omega) h.f2, keptr_frozen g (hr _ (by omega)) (by omega) h.f3, h.ps.alloc _⟩
theorem DMem.push (h : DMem w0 B n vo f t P vc vp w) {vp' : Value} {x : Nat} (ho : w'.ownsRow (B + 2) 3 1 vp' (P.length + 1) (intsV P ++ [.int .i64 (x : Int)])) (g : w.grownBy w' vp.ownBlock) :
    DMem w0 B n vo f t (P ++ [x]) vc vp' w' := by
  have hb := h.big
  have hr : ∀ k, k < B + 2 → vp.ownBlock ≠ some k := fun k hk => own_lt h.ps hk
  refine ⟨h.bel.grown g (by omega) (fun k hk => by have := (h.ps.lt k hk).1; omega), Nat.le_trans h.big g.size, keptr_row g (hr _ (by omega)) h.dc, keptr_cell g (hr _ (by omega)) h.fo,
    keptr_cell g (hr _ (by omega)) h.fd, keptr_cell g (hr _ (by omega)) h.ft, keptr_cell g (hr _ (by omega)) h.fp, keptr_frozen g (hr _ (by omega)) (by omega) h.f2, keptr_frozen g (hr _ (by omega)) (by omega) h.f3, ?_⟩
  rw [List.length_append, show intsV (P ++ [x]) = intsV P ++ [.int .i64 (x : Int)] by simp [intsV]]
  exact ho
end

/-! ### the machine's turns, with the finished nodes -/
section
variable {out : List (List Nat)} {s : St} {v i w : Nat} {W : List (Nat × Nat)} {P : List (Nat × Bool)}
theorem turnP_some (hw : s.wlk = (v, i) :: W) (hr : (row out v)[i]? = some w) : stepP out s P = P := by
  unfold stepP
  rw [hw]
  simp only [hr]
theorem turnP_none (hw : s.wlk = (v, i) :: W) (hr : (row out v).length = i) : ∃ b, stepP out s P = P ++ [(v, b)] := by
  unfold stepP
  rw [hw]
  simp only [List.getElem?_eq_none (Nat.le_of_eq hr)]
  exact ⟨_, rfl⟩
theorem turn_same (hw : s.wlk = (v, i) :: W) (hr : (row out v)[i]? = some w) (h0 : s.idx w ≠ 0) : (stepW out s).idx = s.idx ∧ (stepW out s).vis = s.vis ∧ (stepW out s).wlk = (v, i + 1) :: W := by
  cases ho : s.ons w with
  | true => rw [turn_low hw hr h0 ho]; exact ⟨rfl, rfl, rfl⟩
  | false => rw [turn_skip hw hr h0 ho]; exact ⟨rfl, rfl, rfl⟩
theorem turn_end (hw : s.wlk = (v, i) :: W) (hr : (row out v).length = i) : (stepW out s).idx = s.idx ∧ (stepW out s).vis = s.vis ∧ (stepW out s).wlk = W := by
  by_cases he : lowUp v W s.low v = s.idx v
  · rw [turn_pop hw hr he]; exact ⟨rfl, rfl, rfl⟩
  · rw [turn_join hw hr he]; exact ⟨rfl, rfl, rfl⟩
theorem RchP.lenLe (hout : ∀ v w, E out v w → w < out.length) {r : Nat} (h : RchP out r s P) : P.length ≤ s.vis := by
  obtain ⟨fs, _, hp⟩ := h.inv hout
  have := hp.cnt
  omega
end

/-- What the plain walk from a node leaves. -/
def VisitE (out : List (List Nat)) (w0 : World) (B r v : Nat) (vo : Value) (W : List (Nat × Nat)) (s : St) (e : Ending) (w' : World) : Prop :=
  e = .returned (.tuple #[]) ∧ ∃ (s' : St) (P' : List (Nat × Bool)) (vp' : Value), DMem w0 B out.length vo s'.idx s'.vis (P'.map (·.1)) vp' vp' w' ∧ RchP out r s' P' ∧ s'.wlk = W ∧ (∀ x, s.idx x ≠ 0 → s'.idx x ≠ 0) ∧ s'.idx v ≠ 0 ∧ s.vis < s'.vis

set_option maxHeartbeats 2000000 in
set_option maxRecDepth 100000 in
theorem visitD_any (out : List (List Nat)) (w0 : World) (B r : Nat) (ao : Option Addr) (co : Nat) (hr : r < out.length) (hn : out.length ≤ 4096) (hout : ∀ v w, E out v w → w < out.length) (hlen : ∀ l ∈ out, l.length ≤ 1048576)
    (h0 : Rows2 w0 (.slice ao out.length co) out) (hB : B = w0.heap.size) (k : Nat) :
    ∀ (v : Nat) (W : List (Nat × Nat)) (s : St) (P : List (Nat × Bool)) (vp : Value) (w : World), v < out.length → s.idx v = 0 → RchP out r { visit v s with wlk := (v, 0) :: W } P → out.length - s.vis ≤ k →
      DMem w0 B out.length (.slice ao out.length co) s.idx s.vis (P.map (·.1)) vp vp w →
      Calls Try.prog 28 #[.pointer (some ⟨B + 1, 0, none⟩), .int .i64 (v : Int)] w fun e w' => VisitE out w0 B r v (.slice ao out.length co) W s e w' := by
  have HO := hide hout
  have HL := hide hlen
  have HR0 := hide h0
  have HBB := hide hB
  clear hout hlen h0 hB
  induction k with
  | zero =>
    intro v W s P vp w hv hs hR hk hM
    have := hR.rch.visLe HO.out
    have e : ({ visit v s with wlk := (v, 0) :: W } : St).vis = s.vis + 1 := rfl
    rw [e] at this
    omega
  | succ k ih =>
    intro v W s P vp w hv hs hR hk hM
    have HIH := hide ih
    clear ih
    have hvis := hR.rch.visLe HO.out
    have ev : ({ visit v s with wlk := (v, 0) :: W } : St).vis = s.vis + 1 := rfl
    rw [ev] at hvis
    clear ev
    have c0 := hM.fo
    have c1 := hM.fd
    have c2 := hM.ft
    have f2 := hM.f2
    have cv := hM.discAt hv
    have fv : w.frozen? ⟨B, v, none⟩ = false := hM.dc.frozenAt v
    have hv' : (v : Int) < (out.length : Int) := by omega
    obtain ⟨d0, hd0⟩ : ∃ d : Int, d = dsc s.idx v := ⟨_, rfl⟩
    rw [← hd0] at cv
    clear hd0
    have HM := hide hM
    have HRp := hide hR
    clear hM hR
    go_enter Try.func28, Try.ntmps28
    go_wp2_with fail
    go_cut [] (fun wx => Hid (DMem w0 B out.length (.slice ao out.length co) (upd s.idx v (s.vis + 1)) s.vis (P.map (·.1)) vp vp wx))
    case first =>
      go_region
      all_goals go_wp2_with fail
      go_meet
      case rel => exact (HM.out.setDisc v s.vis).drew
    case rest =>
    have HM1 := hide hcut.out
    clear hcut c0 c1 c2 f2 cv fv HM
    have c2 := HM1.out.ft
    have f2 := HM1.out.f2
    have hM2 := HM1.out.setT (s.vis + 1)
    simp only [Int.natCast_add, Int.natCast_one] at hM2
    have c0 := hM2.fo
    obtain ⟨b, o, ar, cr, hab, cr0, hrow⟩ := HR0.out.at hv
    subst hab
    have crw := cell_later (hM2.bel.mono (by rw [HBB.out]; exact Nat.le_refl _)) cr0
    have HRow := hide hrow
    have hrl : (row out v).length ≤ 1048576 := by
      have e : row out v = out[v] := by simp [row, List.getD, hv]
      rw [e]
      exact HL.out _ (List.getElem_mem _)
    have HM2 := hide hM2
    clear hrow hM2 cr0 HM1
    go_wp2_with fail
    go_loopw [31] (fun jv wr => ∃ (j : Nat) (s2 : St) (P2 : List (Nat × Bool)) (vp2 : Value), j ≤ (row out v).length ∧ jv = .int .i64 j ∧
      Hid (RchP out r s2 P2 ∧ s2.wlk = (v, j) :: W ∧ (∀ x, s.idx x ≠ 0 → s2.idx x ≠ 0) ∧ s2.idx v ≠ 0 ∧ s.vis < s2.vis ∧ DMem w0 B out.length (.slice (some ⟨b, o, none⟩) out.length co) s2.idx s2.vis (P2.map (·.1)) vp2 vp2 wr)) (fun jv _ => (row out v).length - (intOf jv).toNat)
    case atStart => exact ⟨0, _, P, vp, by omega, rfl, HRp.out, rfl, fun x hx => visit_seen hx, (by show upd s.idx v (s.vis + 1) v ≠ 0; rw [upd_same]; omega), Nat.lt_succ_self _, HM2.out⟩
    case round =>
      clear HM2 c0 crw HRp c2 f2
      obtain ⟨j, s2, P2, vp2, hj, rfl, HJ⟩ := hrel
      by_cases hjl : j < (row out v).length
      · obtain ⟨hR2, hw2, hx2, hv2, hlt2, hM2⟩ := HJ.out
        obtain ⟨x, hx⟩ : ∃ x, (row out v)[j]? = some x := ⟨_, List.getElem?_eq_getElem hjl⟩
        have hxn : x < out.length := HO.out v x (List.mem_of_getElem? hx)
        obtain ⟨bx, ox, hab, cx0⟩ := HRow.out.atI hx
        subst hab
        have cx := cell_later (hM2.bel.mono (by rw [HBB.out]; exact Nat.le_refl _)) cx0
        have c1 := hM2.fd
        have cd := hM2.discAt hxn
        have hjl' : (j : Int) < ((row out v).length : Int) := by omega
        have hxn' : (x : Int) < (out.length : Int) := by omega
        have hst := hR2.step (by rw [hw2]; simp) hr
        rw [turnP_some hw2 hx] at hst
        by_cases h0 : s2.idx x = 0
        · have hd : dsc s2.idx x < 0 := by unfold dsc; omega
          rw [turn_new hw2 hx h0] at hst
          have C := hide (HIH.out x ((v, j + 1) :: W) s2 P2 vp2 wr hxn h0 hst (by omega) hM2)
          generalize dsc s2.idx x = d at *
          clear hR2 hM2 hst hx cx0 hw2 h0
          go_wp2_with fail
          refine C.out.mono ?_
          rintro e w3 ⟨rfl, s3, P3, vp3, hM3, hR3, hw3, hx3, hv3, hlt3⟩
          have HE := hide (And.intro hR3 (And.intro hw3 (And.intro (fun y hy => hx3 y (hx2 y hy) : ∀ y, s.idx y ≠ 0 → s3.idx y ≠ 0) (And.intro (hx3 v hv2) (And.intro (Nat.lt_trans hlt2 hlt3) hM3)))))
          clear hM3 hR3 hw3 hx3 hv3 hlt3 hx2 hv2 hlt2 C
          go_wp2_with fail
          go_roundw
          case rel => exact ⟨j + 1, s3, P3, vp3, by omega, by go_num, HE.out⟩
          case measure => simp [intOf]; omega
        · have hd : decide (dsc s2.idx x < 0) = false := by unfold dsc; simp; omega
          obtain ⟨e1, e2, e3⟩ := turn_same (out := out) hw2 hx h0
          have hM3 := hM2
          rw [← e1, ← e2] at hM3
          have HE := hide (And.intro hst (And.intro e3 (And.intro (fun y hy => by rw [e1]; exact hx2 y hy : ∀ y, s.idx y ≠ 0 → (stepW out s2).idx y ≠ 0) (And.intro (by rw [e1]; exact hv2 : (stepW out s2).idx v ≠ 0) (And.intro (by rw [e2]; exact hlt2 : s.vis < (stepW out s2).vis) hM3)))))
          generalize dsc s2.idx x = d at *
          clear hR2 hM2 hst hx cx0 hw2 h0 e1 e2 e3 hM3 hx2 hv2 hlt2
          go_wp2_with fail
          go_roundw
          case rel => exact ⟨j + 1, _, P2, vp2, by omega, by go_num, HE.out⟩
          case measure => simp [intOf]; omega
      · have hje : j = (row out v).length := by omega
        subst hje
        obtain ⟨hR2, hw2, hx2, hv2, hlt2, hM2⟩ := HJ.out
        have hpl := hR2.lenLe HO.out
        have hvl := hR2.rch.visLe HO.out
        have hst := hR2.step (by rw [hw2]; simp) hr
        obtain ⟨bb, hbb⟩ := turnP_none (out := out) (P := P2) hw2 rfl
        rw [hbb] at hst
        obtain ⟨e1, e2, e3⟩ := turn_end (out := out) hw2 rfl
        have c3 := hM2.fp
        have HE := hide (And.intro hst (And.intro e3 (And.intro (fun y hy => by rw [e1]; exact hx2 y hy : ∀ y, s.idx y ≠ 0 → (stepW out s2).idx y ≠ 0) (And.intro (by rw [e1]; exact hv2 : (stepW out s2).idx v ≠ 0) (by rw [e2]; exact hlt2 : s.vis < (stepW out s2).vis)))))
        obtain ⟨ap, cp, rfl, _, _, _⟩ := own_form hM2.ps
        have HMM := hide hM2
        have HE1 := hide e1
        have HE2 := hide e2
        rw [List.length_map] at *
        clear hR2 hM2 hst hw2 e1 e2 e3 hx2 hv2 hlt2 hbb HJ
        obtain ⟨i0, hi, hz0, hz1, hz2⟩ := info_parts Try.info3
        have hps := HMM.out.ps
        rw [List.length_map] at hps
        have HPS := hide hps
        clear hps
        go_wp2_with (at_builtin; refine wpList_append_src _ rfl (.tmp 51) (.tmp 53) 22 22 rfl (B + 2) 3 i0 (.int .i64 0) 1 8 Try.underlying22 hi hz0 hz1 hz2 rfl _ _ _ rfl (HPS.out.alloc _) _ _ _ rfl (Src.one Try.underlying22 _ _ rfl _) ?c1 ?c2 ?c3 ?_)
        case c1 => unfold maxLen; omega
        case c2 => omega
        case c3 => have := HMM.out.big; simp; omega
        intro v2 w2 hO2 hG2 hF2
        have h2 := (HMM.out.alloc (.cells #[.int .i64 (v : Int)] 3)).push (by rw [List.length_map]; exact hO2) hG2
        obtain ⟨a2, c2, rfl, _, _, _⟩ := own_form hO2
        have e7 := h2.fp
        have k7 := h2.f3
        have M4 := hide (h2.setVar (.slice a2 (P2.length + 1) c2))
        clear h2 hO2 hG2 hF2 HMM c3 HPS
        go_wp2_with fail
        go_end0
        obtain ⟨g1, g2, g3, g4, g5⟩ := HE.out
        refine ⟨rfl, _, _, .slice a2 (P2.length + 1) c2, ?_, g1, g2, g3, g4, g5⟩
        rw [HE1.out, HE2.out, List.map_append]
        exact M4.out
end Go.Proofs.Qxb6605452a
