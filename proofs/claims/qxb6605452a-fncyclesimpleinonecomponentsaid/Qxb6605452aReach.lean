import Derived.Test.Qxb6605452aReachMem
import Derived.Deep.DeepCutAuto
namespace Go.Proofs.Qxb6605452a
open Go.RowKit

theorem RMem.init (w : World) (n : Nat) (hn : n * n ≤ 16777216) (hn' : n ≤ 4096) : RMem w n (fun _ => false) [] (List.replicate n 0) ((w.alloc (.cells (madeCells #[.bool false] (n * n)) 4)).alloc (.cells (madeCells #[.int .i64 0] n) 3)) := by
  have h1 := own_made w (.bool false) (n * n) 4 (by unfold maxLen; omega)
  have h2 := own_made (w.alloc (.cells (madeCells #[.bool false] (n * n)) 4)) (.int .i64 0) n 3 (by unfold maxLen; omega)
  have e1 : List.replicate (n * n) (Value.bool false) = tabB (n * n) (fun _ => false) := by
    apply List.ext_getElem?
    intro j
    by_cases hj : j < n * n
    · rw [tabB_get _ hj, List.getElem?_replicate, if_pos hj]
    · rw [List.getElem?_eq_none (by simp; omega), List.getElem?_eq_none (by rw [tabB_length]; omega)]
  rw [e1] at h1
  have hs : (w.alloc (.cells (madeCells #[.bool false] (n * n)) 4)).heap.size = w.heap.size + 1 := by simp
  rw [hs] at h2
  refine ⟨h1.alloc _, ?_, ((Below.refl _ _).alloc (Nat.le_refl _) _).alloc (by rw [hs]; omega) _⟩
  have e2 : intsV ([] ++ List.replicate n 0) = List.replicate n (.int .i64 0) := by simp [intsV]
  rw [e2]
  exact h2

set_option maxHeartbeats 1000000 in
set_option maxRecDepth 100000 in
theorem reach_any (out : List (List Nat)) (vout : Value) (w : World) (hr : Rows2 w vout out) (hn : out.length ≤ 4096) (hout : ∀ v w, E out v w → w < out.length) (hlen : ∀ l ∈ out, l.length ≤ 1048576) :
    Calls Try.prog 16 #[vout, .int .i64 (out.length : Int)] w fun e w' => ReachE out w e w' := by
  have hnn : out.length * out.length ≤ 16777216 := Nat.mul_le_mul hn hn
  have m22 := fun kl kc => run_make_row' (P := Try.prog) 22 3 (.int .i64 0) 8 Try.underlying22 Try.info3 rfl kl kc out.length (by omega) (by omega)
  have m32 := fun kl kc => run_make_row' (P := Try.prog) 32 4 (.bool false) 1 Try.underlying32 Try.info4 rfl kl kc (out.length * out.length) (by omega) (by omega)
  simp only [Int.natCast_mul] at m32
  have HR := hide hr
  have HO := hide hout
  have HL := hide hlen
  clear hr hout hlen
  obtain ⟨ao, co, rfl, _, _⟩ := HR.out
  have hni : (out.length : Int) * (out.length : Int) ≤ 16777216 := by rw [← Int.natCast_mul]; omega
  have hn0 : (0 : Int) ≤ (out.length : Int) * (out.length : Int) := by rw [← Int.natCast_mul]; omega
  have M0 := hide (RMem.init w out.length hnn hn)
  go_enter Try.func16, Try.ntmps16
  go_wp2
  go_loopw [7] (fun sv wr => ∃ (s : Nat) (f : Nat → Bool) (L : List Nat), s ≤ out.length ∧ sv = .int .i64 s ∧ Hid (RTab out f s [] ∧ RMem w out.length f [] L wr)) (fun sv _ => out.length - (intOf sv).toNat)
  case atStart => exact ⟨0, fun _ => false, List.replicate out.length 0, by omega, rfl, RTab.zero out, M0.out⟩
  case round =>
    obtain ⟨s, f, L, hs, rfl, HJ⟩ := hrel
    by_cases hlt : s < out.length
    · obtain ⟨hT, hM⟩ := HJ.out
      obtain ⟨R, hRR⟩ : ∃ R : Nat, R = s * out.length := ⟨_, rfl⟩
      have hRI : (s : Int) * (out.length : Int) = (R : Int) := by rw [hRR, Int.natCast_mul]
      have hR1 : R + out.length ≤ out.length * out.length := by
        have h : (s + 1) * out.length ≤ out.length * out.length := Nat.mul_le_mul_right _ hlt
        rw [Nat.add_mul] at h
        omega
      have hR2 : (0 : Int) ≤ (s : Int) * (out.length : Int) := by rw [hRI]; omega
      have hR3 : (s : Int) * (out.length : Int) ≤ 16777216 := by rw [hRI]; omega
      have ⟨c1, f1⟩ := hM.tabAt (i := R + s) (by omega)
      have hlen := hM.len
      simp only [List.length_nil, Nat.zero_add] at hlen
      cases L with
      | nil => simp at hlen; omega
      | cons y L =>
      have hM1 := (hM.setTab (R + s) true)
      obtain ⟨⟨y0, c2⟩, f2⟩ := hM1.queAny (i := 0) (by omega)
      have hT1 := hT.push hlt
      rw [← hRR, List.nil_append] at hT1
      have hM2 := hM1.push (x := s)
      simp only [List.length_nil, List.nil_append] at hM2
      have HT1 := hide hT1
      have HM2 := hide hM2
      have HRR := hide hRR
      have hlt' : (s : Int) < (out.length : Int) := by omega
      clear hT hM hM1 hM2 hT1 HJ m22 m32 hRR hlen M0
      go_wp2_with fail
      go_loopw [9, 10] (fun tv hv wr => ∃ (h : Nat) (f : Nat → Bool) (Q L : List Nat), h ≤ Q.length ∧ Q.length ≤ out.length ∧ tv = .int .i64 Q.length ∧ hv = .int .i64 h ∧ Hid (RTab out f s Q ∧ Bfs out s h Q ∧ RMem w out.length f Q L wr)) (fun _ hv _ => out.length - (intOf hv).toNat)
      case atStart => exact ⟨0, upd f (R + s) true, [s], L, by simp, by simp; omega, rfl, rfl, HT1.out, Bfs.start hlt, HM2.out⟩
      case round =>
        clear HT1 HM2 c1 c2 f1 f2
        obtain ⟨h, f, Q, L, hh, hql, rfl, rfl, HJ⟩ := hrel
        by_cases hhq : h < Q.length
        · obtain ⟨hT, hB, hM⟩ := HJ.out
          obtain ⟨v, hv⟩ : ∃ v, Q[h]? = some v := ⟨_, List.getElem?_eq_getElem hhq⟩
          have cq := hM.queAt hv
          have hvn := hB.rng v (List.mem_of_getElem? hv)
          obtain ⟨b, o, ar, cr, hab, cr0, hrow⟩ := HR.out.at hvn
          subst hab
          have crw := cell_later hM.bel cr0
          have hrl : (row out v).length ≤ 1048576 := by
            have e : row out v = out[v] := by simp [row, List.getD, hvn]
            rw [e]
            exact HL.out _ (List.getElem_mem _)
          have HV := hide hv
          have HRow := hide hrow
          have hvn' : (v : Int) < (out.length : Int) := by omega
          have hhq' : (h : Int) < (Q.length : Int) := by omega
          clear hT hB hM hv cr0 hrow
          go_wp2_with fail
          go_loopw [9, 50] (fun tv jv wr => ∃ (j : Nat) (f : Nat → Bool) (Q L : List Nat), j ≤ (row out v).length ∧ Q.length ≤ out.length ∧ tv = .int .i64 Q.length ∧ jv = .int .i64 j ∧
            Hid (RTab out f s Q ∧ Bfs out s h Q ∧ Q[h]? = some v ∧ (∀ y ∈ (row out v).take j, y ∈ Q) ∧ RMem w out.length f Q L wr)) (fun _ jv _ => (row out v).length - (intOf jv).toNat)
          case atStart => exact ⟨0, f, Q, L, by omega, hql, rfl, rfl, HJ.out.1, HJ.out.2.1, HV.out, (fun y hy => by simp at hy), HJ.out.2.2⟩
          case round =>
            clear cq crw HJ HV hh hhq hhq' hql
            obtain ⟨j, f, Q, L, hj, hql, rfl, rfl, HJ⟩ := hrel
            obtain ⟨hT, hB, hQ, hY, hM⟩ := HJ.out
            by_cases hjl : j < (row out v).length
            · obtain ⟨x, hx⟩ : ∃ x, (row out v)[j]? = some x := ⟨_, List.getElem?_eq_getElem hjl⟩
              have hxn : x < out.length := HO.out v x (List.mem_of_getElem? hx)
              obtain ⟨bx, ox, hab, cx0⟩ := HRow.out.atI hx
              subst hab
              have cx := cell_later hM.bel cx0
              obtain ⟨c1, f1⟩ := hM.tabAt (i := R + x) (by omega)
              have hjl' : (j : Int) < ((row out v).length : Int) := by omega
              have hcur := hT.cur x hxn
              rw [← HRR.out] at hcur
              cases hfx : f (R + x) with
              | true =>
                rw [hfx] at c1
                have hxQ := hcur.1 hfx
                have HN := hide (p := ∀ y ∈ (row out v).take (j + 1), y ∈ Q) (fun y hy => by
                  rcases take_succ_mem hx hy with hy | hy
                  · exact hY y hy
                  · rw [hy]; exact hxQ)
                clear hT hB hQ hY hM hx cx0 hcur hfx hxQ
                go_wp2_with fail
                go_roundw
                case rel => exact ⟨j + 1, f, Q, L, by omega, hql, rfl, by go_num, HJ.out.1, HJ.out.2.1, HJ.out.2.2.1, HN.out, HJ.out.2.2.2.2⟩
                case measure => simp [intOf]; omega
              | false =>
                rw [hfx] at c1
                have hxQ : x ∉ Q := fun h => by rw [hcur.2 h] at hfx; cases hfx
                have hh := (List.getElem?_eq_some_iff.1 hQ).1
                have hB1 := hB.push (List.mem_of_getElem? hQ) (List.mem_of_getElem? hx) hxQ hxn (by omega)
                have hle := hB1.le
                simp only [List.length_append, List.length_singleton] at hle
                have hT1 := hT.push hxn
                rw [← HRR.out] at hT1
                have hlen := hM.len
                cases L with
                | nil => simp at hlen; omega
                | cons y0 L =>
                have hM1 := hM.setTab (R + x) true
                obtain ⟨⟨yv, c2⟩, f2⟩ := hM1.queAny (i := Q.length) (by omega)
                have hM2 := hM1.push (x := x)
                have HN := hide (p := ∀ y ∈ (row out v).take (j + 1), y ∈ Q ++ [x]) (fun y hy => by
                  rcases take_succ_mem hx hy with hy | hy
                  · exact List.mem_append_left _ (hY y hy)
                  · rw [hy]; simp)
                have HE := hide (And.intro hT1 (And.intro hB1 (And.intro (by rw [List.getElem?_append_left hh]; exact hQ : (Q ++ [x])[h]? = some v) (And.intro HN.out hM2))))
                clear hT hB hQ hY hM hx cx0 hcur hfx hxQ hB1 hT1 hM1 hM2 hlen HN HJ hh
                go_wp2_with fail
                go_roundw
                case rel => exact ⟨j + 1, _, Q ++ [x], L, by omega, by simpa using hle, by simp, by go_num, HE.out⟩
                case measure => simp [intOf]; omega
            · have hje : j = (row out v).length := by omega
              subst hje
              rw [List.take_length] at hY
              have HB := hide (hB.next hQ hY)
              have hh := (List.getElem?_eq_some_iff.1 hQ).1
              clear hT hB hQ hY hM
              go_wp2_with fail
              go_roundw
              case rel => exact ⟨h + 1, f, Q, L, by omega, hql, rfl, by go_num, HJ.out.1, HB.out, HJ.out.2.2.2.2⟩
              case measure => simp [intOf]; omega
        · have hhe : h = Q.length := by omega
          subst hhe
          go_wp2_with fail
          go_roundw
          case rel =>
            obtain ⟨hT, hB, hM⟩ := HJ.out
            exact ⟨s + 1, f, Q ++ L, by omega, by go_num, hT.next hB.done, hM.drop⟩
          case measure => simp [intOf]; omega
    · have hse : s = out.length := by omega
      subst hse
      clear m22 m32 M0
      go_wp2_with fail
      go_ret
      obtain ⟨hT, hM⟩ := HJ.out
      exact ⟨f, rfl, hT.old, hM.tab, hM.bel⟩
end Go.Proofs.Qxb6605452a
