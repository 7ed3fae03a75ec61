import Derived.Test.Qxb6605452aRoot
import Derived.Test.Qxb6605452aReach
import Derived.Deep.DeepCutAuto
import Derived.BigQuiet
namespace Go.Proofs.Qxb6605452a
open Go.RowKit

/-- What the model of 'components' leaves. -/
def ModelE (out : List (List Nat)) (w : World) (e : Ending) (w' : World) : Prop :=
  ∃ (s : St) (F cF : Nat) (az : Option Addr) (cz : Nat), e = .returned (.tuple #[.slice (some ⟨F, 0, none⟩) out.length cF, .slice az s.size.length cz]) ∧ Rch out out.length s ∧ s.wlk = [] ∧
    Row w' (.slice (some ⟨F, 0, none⟩) out.length cF) (tabI out.length s.comp) ∧ Row w' (.slice az s.size.length cz) (intsV s.size) ∧ (az.isNone = decide (s.size.length = 0)) ∧ Below w.heap.size w w'

theorem made_tab (w : World) (n : Nat) (f : Nat → Nat) (hf : ∀ x, f x = 0) (hn : n ≤ 4096) :
    (w.alloc (.cells (madeCells #[.int .i64 0] n) 3)).ownsRow w.heap.size 3 1 (.slice (some ⟨w.heap.size, 0, none⟩) n n) n (tabI n f) := by
  have h1 := own_made w (.int .i64 0) n 3 (by unfold maxLen; omega)
  have e : List.replicate n (Value.int .i64 0) = tabI n f := by
    apply List.ext_getElem?
    intro j
    by_cases hj : j < n
    · rw [tabI_get _ hj, List.getElem?_replicate, if_pos hj, hf]; rfl
    · rw [List.getElem?_eq_none (by simp; omega), List.getElem?_eq_none (by rw [tabI_length]; omega)]
  rw [e] at h1
  exact h1

theorem Src.one' {P : Program} {t e : TypeId} (ht : P.underlying t = some (.slice e)) (w : World) (b : Nat) (hb : b = w.heap.size) (x : Value) (hx : x.oneCell' = true) (c : Nat) :
    Src P 1 t (.slice (some ⟨b, 0, none⟩) 1 c) 1 [x] (w.alloc (.cells #[x] e)) := by
  subst hb
  exact Src.one ht w x hx c

set_option maxHeartbeats 2000000 in
set_option maxRecDepth 100000 in
theorem model_any (out : List (List Nat)) (vout : Value) (w : World) (hr : Rows2 w vout out) (hn : out.length ≤ 4096) (hout : ∀ v w, E out v w → w < out.length) (hlen : ∀ l ∈ out, l.length ≤ 1048576) :
    Calls Try.prog 13 #[vout, .int .i64 (out.length : Int)] w fun e w' => ModelE out w e w' := by
  have m22 := fun kl kc => run_make_row' (P := Try.prog) 22 3 (.int .i64 0) 8 Try.underlying22 Try.info3 rfl kl kc out.length (by omega) (by omega)
  have HR := hide hr
  have HO := hide hout
  have HL := hide hlen
  clear hr hout hlen
  obtain ⟨ao, co, rfl, _, _⟩ := HR.out
  have C16 := hide (reach_any out _ w HR.out hn HO.out HL.out)
  go_enter Try.func13, Try.ntmps13
  go_wp2_with fail
  refine C16.out.mono ?_
  rintro e w1 ⟨f, rfl, hf, hO1, hB1⟩
  have HF := hide hf
  have HO1 := hide hO1
  have HB1 := hide hB1
  have HR1 := hide (HR.out.below hB1)
  have HI := hide (DIni.init w1 out.length (.slice ao out.length co) hn)
  clear C16 hf hO1 hB1
  go_wp2_with fail
  have HM22 := hide m22
  clear m22
  go_loopw [8] (fun kv wr => ∃ k : Nat, k ≤ out.length ∧ kv = .int .i64 k ∧ Hid (DIni w1 w1.heap.size out.length (.slice ao out.length co) k wr)) (fun kv _ => out.length - (intOf kv).toNat)
  case atStart => exact ⟨0, by omega, rfl, HI.out⟩
  case round =>
  clear HI
  obtain ⟨k, hk, rfl, HJ⟩ := hrel
  by_cases hlt : k < out.length
  · have c1 := HJ.out.fd
    have cd : wr.cell? ⟨w1.heap.size, k, none⟩ = some (.int .i64 (filM k k)) := by rw [HJ.out.dc.cellAt _ (by omega)]; exact tabZ_get _ hlt
    have fd : wr.frozen? ⟨w1.heap.size, k, none⟩ = false := HJ.out.dc.frozenAt _
    have hlt' : (k : Int) < (out.length : Int) := by omega
    generalize filM k k = d at cd
    go_wp2_with fail
    go_roundw
    case rel => exact ⟨k + 1, by omega, by go_num, HJ.out.set⟩
    case measure => simp [intOf]; omega
  have hke : k = out.length := by omega
  subst hke
  have HD := hide HJ.out.done
  clear HJ hlt hk
  go_wp2_with fail
  go_loopw [9] (fun rv wr => ∃ (r : Nat) (s : St) (P : List (Nat × Bool)) (vp : Value), r ≤ out.length ∧ rv = .int .i64 r ∧ Hid (RchP out r s P ∧ s.wlk = [] ∧ DMem w1 w1.heap.size out.length (.slice ao out.length co) s.idx s.vis (P.map (·.1)) vp vp wr)) (fun rv _ => out.length - (intOf rv).toNat)
  case atStart => exact ⟨0, st0, [], .slice none 0 0, by omega, rfl, RchP.zero out, rfl, HD.out⟩
  case round =>
  clear HD
  obtain ⟨r, s, P, vp, hr, rfl, HJ⟩ := hrel
  by_cases hlt : r < out.length
  · obtain ⟨hR, hw, hM⟩ := HJ.out
    have c1 := hM.fd
    have cd := hM.discAt hlt
    have hlt' : (r : Int) < (out.length : Int) := by omega
    by_cases h0 : s.idx r = 0
    · have hd : dsc s.idx r < 0 := by unfold dsc; omega
      have C := hide (visitD_any out w1 w1.heap.size r ao co hlt hn HO.out HL.out HR1.out rfl (out.length - s.vis) r [] s P vp wr hlt h0 (hR.start hw hlt h0) (Nat.le_refl _) hM)
      generalize dsc s.idx r = d at *
      clear hR hw hM h0
      go_wp2_with fail
      refine C.out.mono ?_
      rintro e w3 ⟨rfl, s3, P3, vp3, hM3, hR3, hw3, _, hv3, _⟩
      have HE := hide (And.intro (hR3.next hw3 hlt hv3) (And.intro hw3 hM3))
      clear hM3 hR3 hw3 hv3 C
      go_wp2_with fail
      go_roundw
      case rel => exact ⟨r + 1, s3, P3, vp3, by omega, by go_num, HE.out⟩
      case measure => simp [intOf]; omega
    · have hd : decide (dsc s.idx r < 0) = false := by unfold dsc; simp; omega
      have HE := hide (And.intro (hR.next hw hlt h0) (And.intro hw hM))
      generalize dsc s.idx r = d at *
      clear hR hw hM h0
      go_wp2_with fail
      go_roundw
      case rel => exact ⟨r + 1, s, P, vp, by omega, by go_num, HE.out⟩
      case measure => simp [intOf]; omega
  have hre : r = out.length := by omega
  subst hre
  obtain ⟨hR, hw, hM⟩ := HJ.out
  have HP := hide (hR.post HO.out hw (hR.rch.visLe HO.out))
  have HK := hide (hR.rch.comps HO.out hw)
  have HRch := hide (And.intro hR.rch hw)
  have HD := hide hM
  have HRt0 := hide (made_tab wr out.length (fun _ => 0) (fun _ => rfl) hn)
  have m22 := HM22.out
  clear HJ hlt hr hR hw hM
  rename World => w2
  go_wp2_with fail
  clear m22
  have HT2 : Hid (∀ i, i < out.length * out.length → w2.cell? ⟨w.heap.size, i, none⟩ = some (.bool (f i))) := fun i hi => cell_later HD.out.bel (by
    rw [HO1.out.cellAt i (by omega)]
    exact tabB_get _ hi)
  have HB2 := hide (HB1.out.trans (HD.out.bel.mono HB1.out.size))
  go_loopw [11] (fun vv w3 => ∃ (v : Nat) (rt : Nat → Nat), v ≤ out.length ∧ vv = .int .i64 v ∧ Hid ((∀ x, x < v → IsRoot out.length s x (rt x)) ∧ w3.ownsRow w2.heap.size 3 1 (.slice (some ⟨w2.heap.size, 0, none⟩) out.length out.length) out.length (tabI out.length rt) ∧ Below w2.heap.size w2 w3)) (fun vv _ => out.length - (intOf vv).toNat)
  case atStart => exact ⟨0, fun _ => 0, by omega, rfl, (fun x hx => by omega), HRt0.out, (Below.refl _ _).alloc (Nat.le_refl _) _⟩
  case round =>
  clear HRt0
  obtain ⟨v, rt, hv, rfl, HJ⟩ := hrel
  by_cases hlt : v < out.length
  · have hlt' : (v : Int) < (out.length : Int) := by omega
    go_wp2_with fail
    go_loopw [12, 13] (fun bv uv w4 => ∃ b u : Nat, b < out.length ∧ u ≤ out.length ∧ bv = .int .i64 b ∧ uv = .int .i64 u ∧ Hid (s.comp b = s.comp v ∧ (∀ x, x < u → s.comp x = s.comp v → s.idx b ≤ s.idx x) ∧ w4.ownsRow w2.heap.size 3 1 (.slice (some ⟨w2.heap.size, 0, none⟩) out.length out.length) out.length (tabI out.length rt) ∧ Below w2.heap.size w2 w4)) (fun _ uv _ => out.length - (intOf uv).toNat)
    case atStart => exact ⟨v, 0, hlt, by omega, rfl, rfl, rfl, (fun x hx => by omega), HJ.out.2.1, HJ.out.2.2⟩
    case round =>
    have HRT := hide HJ.out.1
    clear HJ
    obtain ⟨b, u, hb, hu, rfl, rfl, HJ⟩ := hrel
    by_cases hul : u < out.length
    · obtain ⟨j1, j2, j3, j4⟩ := HJ.out
      have hul' : (u : Int) < (out.length : Int) := by omega
      have hb' : (b : Int) < (out.length : Int) := by omega
      obtain ⟨R, hRR⟩ : ∃ R : Nat, R = v * out.length := ⟨_, rfl⟩
      obtain ⟨S, hSS⟩ : ∃ S : Nat, S = u * out.length := ⟨_, rfl⟩
      have hRI : (v : Int) * (out.length : Int) = (R : Int) := by rw [hRR, Int.natCast_mul]
      have hSI : (u : Int) * (out.length : Int) = (S : Int) := by rw [hSS, Int.natCast_mul]
      have hnn : out.length * out.length ≤ 16777216 := Nat.mul_le_mul hn hn
      have hR1 : R + out.length ≤ out.length * out.length := by
        have h : (v + 1) * out.length ≤ out.length * out.length := Nat.mul_le_mul_right _ hlt
        rw [Nat.add_mul] at h
        omega
      have hS1 : S + out.length ≤ out.length * out.length := by
        have h : (u + 1) * out.length ≤ out.length * out.length := Nat.mul_le_mul_right _ hul
        rw [Nat.add_mul] at h
        omega
      have t1 := cell_later j4 (HT2.out (R + u) (by omega))
      have t2 := cell_later j4 (HT2.out (S + v) (by omega))
      have e1 := HF.out v u hlt hul
      have e2 := HF.out u v hul hlt
      rw [← hRR] at e1
      rw [← hSS] at e2
      have g1 := HK.out.part u v hul hlt
      unfold Mut at g1
      rw [← e1, ← e2] at g1
      have c1 := cell_later j4 HD.out.fd
      have cu := cell_later j4 (HD.out.discAt hul)
      have cb := cell_later j4 (HD.out.discAt hb)
      clear e1 e2 hRR hSS
      generalize f (R + u) = fa at *
      generalize f (S + v) = fb at *
      cases fa with
      | false =>
        have HN : Hid (∀ x, x < u + 1 → s.comp x = s.comp v → s.idx b ≤ s.idx x) := fun x hx hxc => by
          by_cases e : x = u
          · subst e; have := (g1.1 hxc).2; cases this
          · exact j2 x (by omega) hxc
        generalize dsc s.idx u = du at *
        generalize dsc s.idx b = db at *
        clear j1 j2 j3 j4 g1
        go_wp2_with fail
        go_quiet (fail)
        go_wp2_with fail
        go_roundw
        case rel => exact ⟨b, u + 1, hb, by omega, rfl, by go_num, HJ.out.1, HN.out, HJ.out.2.2.1, ⟨HJ.out.2.2.2.os, HJ.out.2.2.2.tape, HJ.out.2.2.2.output, HJ.out.2.2.2.size, HJ.out.2.2.2.block⟩⟩
        case measure => simp [intOf]; omega
      | true =>
      cases fb with
      | false =>
        have HN : Hid (∀ x, x < u + 1 → s.comp x = s.comp v → s.idx b ≤ s.idx x) := fun x hx hxc => by
          by_cases e : x = u
          · subst e; have := (g1.1 hxc).1; cases this
          · exact j2 x (by omega) hxc
        generalize dsc s.idx u = du at *
        generalize dsc s.idx b = db at *
        clear j1 j2 j3 j4 g1
        go_wp2_with fail
        go_quiet (fail)
        go_wp2_with fail
        go_roundw
        case rel => exact ⟨b, u + 1, hb, by omega, rfl, by go_num, HJ.out.1, HN.out, HJ.out.2.2.1, ⟨HJ.out.2.2.2.os, HJ.out.2.2.2.tape, HJ.out.2.2.2.output, HJ.out.2.2.2.size, HJ.out.2.2.2.block⟩⟩
        case measure => simp [intOf]; omega
      | true =>
      have hcu := g1.2 ⟨rfl, rfl⟩
      by_cases hlo : s.idx u < s.idx b
      · have hd : decide (dsc s.idx u < dsc s.idx b) = true := by unfold dsc; simp; omega
        have HN : Hid (∀ x, x < u + 1 → s.comp x = s.comp v → s.idx u ≤ s.idx x) := fun x hx hxc => by
          by_cases e : x = u
          · subst e; exact Nat.le_refl _
          · have := j2 x (by omega) hxc; omega
        have HCU := hide hcu
        generalize dsc s.idx u = du at *
        generalize dsc s.idx b = db at *
        clear j1 j2 j3 j4 g1 hcu hlo
        go_wp2_with fail
        go_quiet (fail)
        go_wp2_with fail
        go_roundw
        case rel => exact ⟨u, u + 1, hul, by omega, rfl, by go_num, HCU.out, HN.out, HJ.out.2.2.1, ⟨HJ.out.2.2.2.os, HJ.out.2.2.2.tape, HJ.out.2.2.2.output, HJ.out.2.2.2.size, HJ.out.2.2.2.block⟩⟩
        case measure => simp [intOf]; omega
      · have hd : decide (dsc s.idx u < dsc s.idx b) = false := by unfold dsc; simp; omega
        have HN : Hid (∀ x, x < u + 1 → s.comp x = s.comp v → s.idx b ≤ s.idx x) := fun x hx hxc => by
          by_cases e : x = u
          · subst e; omega
          · exact j2 x (by omega) hxc
        generalize dsc s.idx u = du at *
        generalize dsc s.idx b = db at *
        clear j1 j2 j3 j4 g1 hcu hlo
        go_wp2_with fail
        go_quiet (fail)
        go_wp2_with fail
        go_roundw
        case rel => exact ⟨b, u + 1, hb, by omega, rfl, by go_num, HJ.out.1, HN.out, HJ.out.2.2.1, ⟨HJ.out.2.2.2.os, HJ.out.2.2.2.tape, HJ.out.2.2.2.output, HJ.out.2.2.2.size, HJ.out.2.2.2.block⟩⟩
        case measure => simp [intOf]; omega
    · have hue : u = out.length := by omega
      subst hue
      obtain ⟨j1, j2, j3, j4⟩ := HJ.out
      have cr : wr.cell? ⟨w2.heap.size, v, none⟩ = some (.int .i64 (rt v : Int)) := by rw [j3.cellAt _ (by omega)]; exact tabI_get _ hlt
      have fr : wr.frozen? ⟨w2.heap.size, v, none⟩ = false := j3.frozenAt _
      have HE : Hid ((∀ x, x < v + 1 → IsRoot out.length s x (upd rt v b x)) ∧ (wr.setCell ⟨w2.heap.size, v, none⟩ (.int .i64 (b : Int))).ownsRow w2.heap.size 3 1 (.slice (some ⟨w2.heap.size, 0, none⟩) out.length out.length) out.length (tabI out.length (upd rt v b)) ∧ Below w2.heap.size w2 (wr.setCell ⟨w2.heap.size, v, none⟩ (.int .i64 (b : Int)))) := by
        refine ⟨fun x hx => ?_, ?_, j4.setCell (Nat.le_refl _) _⟩
        · by_cases e : x = v
          · subst e; rw [upd_same]; exact ⟨hb, j1, j2⟩
          · rw [upd_ne _ _ _ e]; exact HRT.out x (by omega)
        · have h5 := (j3.stored v (.int .i64 (b : Int))).1
          rw [tabI_set] at h5
          exact h5
      generalize rt v = rv at cr
      clear j1 j2 j3 j4 HJ
      go_wp2_with fail
      go_roundw
      case rel => exact ⟨v + 1, upd rt v b, by omega, by go_num, HE.out⟩
      case measure => simp [intOf]; omega
  have hve : v = out.length := by omega
  subst hve
  obtain ⟨hrt, hOr, hB3⟩ := HJ.out
  have HRT := hide hrt
  have HRow := hide (Row.of_owns hOr)
  have HB3 := hide hB3
  have m22 := HM22.out
  have HK0 : Hid (KMem wr wr.heap.size out.length (fun _ => 0) 0 [] (.slice none 0 0) (wr.alloc (.cells (madeCells #[.int .i64 0] out.length) 3))) :=
    ⟨(Below.refl _ _).alloc (Nat.le_refl _) _, by simp, made_tab wr out.length (fun _ => 0) (fun _ => rfl) hn, World.ownsRow_nil _ _ _ _⟩
  clear HJ hlt hv hrt hOr hB3
  rename World => w3
  go_wp2_with fail
  clear m22
  obtain ⟨ap, cp, hvp, _, hcp2, _⟩ := own_form HD.out.ps
  rw [List.length_map] at hvp
  subst hvp
  have HPost := hide (Row.of_owns HD.out.ps)
  have hPl := HP.out.cnt
  go_loopw [15, 16] (fun zv iv w5 => ∃ (i : Nat) (idf : Nat → Nat) (m : Nat), i ≤ P.length ∧ m ≤ out.length ∧ iv = .int .i64 i ∧ Hid (m = (heads (P.take i)).length ∧ IdOk P i idf ∧ (m = 0 → zv = .slice none 0 0) ∧ KMem w3 w3.heap.size out.length idf m (List.replicate m (.int .i64 0)) zv w5)) (fun _ iv _ => P.length - (intOf iv).toNat)
  case atStart => exact ⟨0, fun _ => 0, 0, by omega, by omega, rfl, rfl, IdOk.zero, fun _ => rfl, HK0.out⟩
  case round =>
  clear HK0
  obtain ⟨i, idf, m, hi, hm, rfl, HJ⟩ := hrel
  have c3 := cell_later HJ.out.2.2.2.bel (cell_later HB3.out HD.out.fp)
  by_cases hlt : i < P.length
  · obtain ⟨⟨v, bb⟩, hvb⟩ : ∃ p, P[i]? = some p := ⟨_, List.getElem?_eq_getElem hlt⟩
    have hvm : (P.map (·.1))[i]? = some v := by rw [List.getElem?_map, hvb]; rfl
    obtain ⟨bp, op, hab, cp0⟩ := HPost.out.atI hvm
    subst hab
    have cpp := cell_later HJ.out.2.2.2.bel (cell_later HB3.out cp0)
    have hvn : v < out.length := HP.out.rng v bb (List.mem_of_getElem? hvb)
    obtain ⟨br, or', hab, cr0⟩ := HRow.out.tabAt hvn
    simp only [Option.some.injEq, Addr.mk.injEq, and_true] at hab
    obtain ⟨rfl, rfl⟩ := hab
    have crr := cell_later HJ.out.2.2.2.bel cr0
    rw [Nat.zero_add] at crr
    have hfl := HP.out.flag (List.mem_of_getElem? hvb) (HRT.out v hvn)
    have hvn' : (v : Int) < (out.length : Int) := by omega
    have hlt' : (i : Int) < (P.length : Int) := by omega
    obtain ⟨j1, j2, j3, j4⟩ := HJ.out
    have hht := heads_take P hvb
    generalize rt v = rv at *
    cases bb with
    | false =>
      have HE : Hid (m = (heads (P.take (i + 1))).length ∧ IdOk P (i + 1) idf) := ⟨by rw [hht, j1]; simp, j2.skip hvb⟩
      clear j1 j2 j3 j4 hht hvb hvm cp0 cr0
      go_wp2_with fail
      go_roundw
      case rel => exact ⟨i + 1, idf, m, by omega, hm, by go_num, HE.out.1, HE.out.2, HJ.out.2.2.1, HJ.out.2.2.2⟩
      case measure => simp [intOf]; omega
    | true =>
      obtain ⟨az, cz, rfl, _, _, _⟩ := own_form j4.sz
      have ci : wr.cell? ⟨w3.heap.size, v, none⟩ = some (.int .i64 (idf v : Int)) := by rw [j4.id.cellAt _ (by omega)]; exact tabI_get _ hvn
      have fi : wr.frozen? ⟨w3.heap.size, v, none⟩ = false := j4.id.frozenAt _
      have hm1 : m + 1 ≤ out.length := by
        have h1 := heads_len P (i + 1)
        rw [hht, HP.out.len] at h1
        have h2 := HK.out.len_le
        simp at h1
        omega
      have HE : Hid (m + 1 = (heads (P.take (i + 1))).length ∧ IdOk P (i + 1) (upd idf v m)) := ⟨by rw [hht, j1]; simp, by have := j2.push HP.out hvb; rw [← j1] at this; exact this⟩
      have HS := hide (j4.setId v m)
      generalize idf v = iv at ci
      clear j1 j2 j3 j4 hht hvb hvm cp0 cr0 HJ
      obtain ⟨i0, hi0, hz0, hz1, hz2⟩ := info_parts Try.info3
      go_wp2_with (at_builtin; refine wpList_append_src _ rfl (.tmp 138) (.tmp 139) 22 22 rfl (w3.heap.size + 1) 3 i0 (.int .i64 0) 1 8 Try.underlying22 hi0 hz0 hz1 hz2 rfl _ _ _ rfl (HS.out.sz.alloc _) _ _ _ rfl (Src.one' Try.underlying22 (wr.setCell ⟨w3.heap.size, v, none⟩ (.int .i64 (m : Int))) _ (by simp) _ rfl _) ?c1 ?c2 ?c3 ?_)
      case c1 => unfold maxLen; omega
      case c2 => omega
      case c3 => have := HS.out.big; simp at this ⊢; omega
      intro v2 w6 hO6 hG6 hF6
      have h6 := (HS.out.alloc (.cells #[.int .i64 0] 3)).push hO6 hG6
      have er : List.replicate m (Value.int .i64 0) ++ [.int .i64 0] = List.replicate (m + 1) (.int .i64 0) := (List.replicate_succ' ..).symm
      rw [er] at h6
      have H6 := hide h6
      clear h6 hO6 hG6 hF6 HS er ci fi
      go_wp2_with fail
      go_roundw
      case rel => exact ⟨i + 1, upd idf v m, m + 1, by omega, hm1, by go_num, HE.out.1, HE.out.2, (fun h => by omega), H6.out⟩
      case measure => simp [intOf]; omega
  have hie : i = P.length := by omega
  subst hie
  obtain ⟨j1, j2, j3, j4⟩ := HJ.out
  rw [List.take_length, HP.out.len] at j1
  subst j1
  obtain ⟨az, cz, rfl, _, _, hgz⟩ := own_form j4.sz
  have HID := hide j2
  have HNIL := hide j3
  have HGZ := hide hgz
  have m22 := HM22.out
  have e0 : List.replicate s.size.length (Value.int .i64 0) = tabI s.size.length (cntT s.comp 0) := by
    apply List.ext_getElem?
    intro j
    by_cases hj : j < s.size.length
    · rw [tabI_get _ hj, List.getElem?_replicate, if_pos hj]; rfl
    · rw [List.getElem?_eq_none (by simp; omega), List.getElem?_eq_none (by rw [tabI_length]; omega)]
  rw [e0] at j4
  have HC0 : Hid (CMem w3 w3.heap.size wr.heap.size out.length idf (fun _ => 0) s.size.length (cntT s.comp 0) (.slice az s.size.length cz) (wr.alloc (.cells (madeCells #[.int .i64 0] out.length) 3))) :=
    ⟨j4.alloc _, made_tab wr out.length (fun _ => 0) (fun _ => rfl) hn, fun e => by have := (j4.sz.lt _ e).2; omega, j4.big⟩
  clear HJ hlt hi j2 j3 j4 hgz e0
  rename World => w4
  go_wp2_with fail
  clear m22 c3
  go_loopw [19] (fun vv w7 => ∃ (v : Nat) (cf : Nat → Nat), v ≤ out.length ∧ vv = .int .i64 v ∧ Hid ((∀ x, x < v → cf x = s.comp x) ∧ CMem w3 w3.heap.size w4.heap.size out.length idf cf s.size.length (cntT s.comp v) (.slice az s.size.length cz) w7)) (fun vv _ => out.length - (intOf vv).toNat)
  case atStart => exact ⟨0, fun _ => 0, by omega, rfl, (fun x hx => by omega), HC0.out⟩
  case round =>
  clear HC0
  obtain ⟨v, cf, hv, rfl, HJ⟩ := hrel
  by_cases hlt : v < out.length
  · obtain ⟨j1, j2⟩ := HJ.out
    obtain ⟨br, or', hab, cr0⟩ := HRow.out.tabAt hlt
    simp only [Option.some.injEq, Addr.mk.injEq, and_true] at hab
    obtain ⟨rfl, rfl⟩ := hab
    have crr := cell_later j2.k.bel cr0
    rw [Nat.zero_add] at crr
    have hroot := HRT.out v hlt
    have hcl := HK.out.lt v hlt
    have hid := HID.out.done HP.out hcl hroot
    have hrn := hroot.1
    have ci : wr.cell? ⟨w3.heap.size, rt v, none⟩ = some (.int .i64 (s.comp v : Int)) := by rw [j2.k.id.cellAt _ (by omega), ← hid]; exact tabI_get _ hrn
    have cc : wr.cell? ⟨w4.heap.size, v, none⟩ = some (.int .i64 (cf v : Int)) := by rw [j2.cp.cellAt _ (by omega)]; exact tabI_get _ hlt
    have fc : wr.frozen? ⟨w4.heap.size, v, none⟩ = false := j2.cp.frozenAt _
    obtain ⟨gz, hgz⟩ := HGZ.out (by omega)
    subst hgz
    have h1 := j2.setComp v (s.comp v)
    have cs : (wr.setCell ⟨w4.heap.size, v, none⟩ (.int .i64 (s.comp v : Int))).cell? ⟨gz, s.comp v, none⟩ = some (.int .i64 (cntT s.comp v (s.comp v) : Int)) := by rw [h1.k.sz.cellAt _ (by omega)]; exact tabI_get _ hcl
    have fs : (wr.setCell ⟨w4.heap.size, v, none⟩ (.int .i64 (s.comp v : Int))).frozen? ⟨gz, s.comp v, none⟩ = false := h1.k.sz.frozenAt _
    have hle : cntT s.comp v (s.comp v) ≤ v := cntB_le _ _
    have h2 := h1.setSize (s.comp v) (cntT s.comp v (s.comp v) + 1)
    rw [cntT_step] at h2
    simp only [Int.natCast_add, Int.natCast_one] at h2
    have HE := hide (And.intro (fun x hx => by
      by_cases e : x = v
      · subst e; rw [upd_same]
      · rw [upd_ne _ _ _ e]; exact j1 x (by omega) : ∀ x, x < v + 1 → upd cf v (s.comp v) x = s.comp x) h2)
    have hlt' : (v : Int) < (out.length : Int) := by omega
    have hrn' : (rt v : Int) < (out.length : Int) := by omega
    have hcl' : (s.comp v : Int) < (s.size.length : Int) := by omega
    have hsl := HK.out.len_le
    generalize cf v = cv at cc
    clear j1 j2 h1 h2 hid hroot cr0 HJ
    go_wp2_with fail
    go_roundw
    case rel => exact ⟨v + 1, upd cf v (s.comp v), by omega, by go_num, HE.out⟩
    case measure => simp [intOf]; omega
  have hve : v = out.length := by omega
  subst hve
  go_wp2_with fail
  go_ret2
  obtain ⟨j1, j2⟩ := HJ.out
  have hcp := j2.cp
  have e1 : tabI out.length cf = tabI out.length s.comp := by
    apply List.ext_getElem?
    intro j
    by_cases hj : j < out.length
    · rw [tabI_get _ hj, tabI_get _ hj, j1 j hj]
    · rw [List.getElem?_eq_none (by rw [tabI_length]; omega), List.getElem?_eq_none (by rw [tabI_length]; omega)]
  rw [e1] at hcp
  have hsz := j2.k.sz
  rw [HK.out.sizes] at hsz
  refine ⟨s, w4.heap.size, out.length, az, cz, rfl, HRch.out.1, HRch.out.2, Row.of_owns hcp, Row.of_owns hsz, ?_, ?_⟩
  · by_cases h0 : s.size.length = 0
    · have := HNIL.out h0
      simp only [Value.slice.injEq] at this
      rw [this.1]
      simp [h0]
    · obtain ⟨g, hg⟩ := HGZ.out (by omega)
      rw [hg]
      simp [h0]
  · have hB23 := HB2.out.trans (HB3.out.mono HB2.out.size)
    exact hB23.trans (j2.k.bel.mono hB23.size)
end Go.Proofs.Qxb6605452a
