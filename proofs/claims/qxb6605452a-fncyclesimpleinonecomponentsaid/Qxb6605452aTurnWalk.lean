import Derived.Test.Qxb6605452aTurnMem
import Derived.Deep.DeepCutAuto
namespace Go.Proofs.Qxb6605452a
open Go.RowKit

/-- What 'Transpose' leaves. -/
def TurnE (out : List (List Nat)) (w : World) (e : Ending) (w' : World) : Prop :=
  ∃ rev v, e = .returned v ∧ Rows2 w' v rev ∧ rev.length = out.length ∧ (∀ x y, E rev y x ↔ E out x y) ∧ (∀ l ∈ rev, l.length ≤ 1048576) ∧ Below w.heap.size w w'

set_option maxHeartbeats 1000000 in
set_option maxRecDepth 100000 in
theorem turn_any (out : List (List Nat)) (vout : Value) (w : World) (hr : Rows2 w vout out) (hn : out.length ≤ 4096) (hout : ∀ v w, E out v w → w < out.length) (htot : (out.map List.length).sum ≤ 1048576) :
    Calls Try.prog 17 #[vout, .int .i64 (out.length : Int)] w fun e w' => TurnE out w e w' := by
  have m23 := fun kl kc => run_make_row' (P := Try.prog) 23 22 (.slice none 0 0) 24 Try.underlying23 Try.info22 rfl kl kc out.length (by omega) (by omega)
  have HR := hide hr
  have HO := hide hout
  have HT := hide htot
  clear hr hout htot
  obtain ⟨ao, co, rfl, _, _⟩ := HR.out
  have M0 := hide (TMem.init w out.length hn)
  go_enter Try.func17, Try.ntmps17
  go_wp2
  go_loopw [6] (fun uv wr => ∃ (u : Nat) (rev : List (List Nat)) (vals : List Value), u ≤ out.length ∧ uv = .int .i64 u ∧ Hid (Turned out rev u 0 ∧ TMem w out.length rev vals wr)) (fun uv _ => out.length - (intOf uv).toNat)
  case atStart => exact ⟨0, _, _, by omega, rfl, Turned.zero out, M0.out⟩
  case round =>
    clear M0 m23
    obtain ⟨u, rev, vals, hu, rfl, HJ⟩ := hrel
    by_cases hlt : u < out.length
    · obtain ⟨hT, hM⟩ := HJ.out
      obtain ⟨b, o, ar, cr, hab, cr0, hrow⟩ := HR.out.at hlt
      subst hab
      have crw := cell_later hM.bel cr0
      have hrl : (row out u).length ≤ 1048576 := by
        have e : row out u = out[u] := by simp [row, List.getD, hlt]
        rw [e]
        exact Nat.le_trans (sum_mem (List.mem_map.2 ⟨_, List.getElem_mem hlt, rfl⟩)) HT.out
      have HRow := hide hrow
      have hlt' : (u : Int) < (out.length : Int) := by omega
      clear hT hM cr0 hrow
      go_wp2_with fail
      go_loopw [21] (fun jv wr => ∃ (j : Nat) (rev : List (List Nat)) (vals : List Value), j ≤ (row out u).length ∧ jv = .int .i64 j ∧ Hid (Turned out rev u j ∧ TMem w out.length rev vals wr)) (fun jv _ => (row out u).length - (intOf jv).toNat)
      case atStart => exact ⟨0, rev, vals, by omega, rfl, HJ.out⟩
      case round =>
        clear crw HJ
        obtain ⟨j, rev, vals, hj, rfl, HJ⟩ := hrel
        obtain ⟨hT, hM⟩ := HJ.out
        by_cases hjl : j < (row out u).length
        · obtain ⟨y, hy⟩ : ∃ y, (row out u)[j]? = some y := ⟨_, List.getElem?_eq_getElem hjl⟩
          have hyn : y < out.length := HO.out u y (List.mem_of_getElem? hy)
          obtain ⟨bx, ox, hab, cx0⟩ := HRow.out.atI hy
          subst hab
          have cx := cell_later hM.bel cx0
          have hlen := hM.tab.1
          obtain ⟨uy, huy⟩ : ∃ uy, vals[y]? = some uy := ⟨_, List.getElem?_eq_getElem (by omega)⟩
          have c1 : wr.cell? ⟨w.heap.size, y, none⟩ = some uy := by rw [hM.tab.cellAt y (by omega)]; exact huy
          obtain ⟨⟨ay, cy, rfl⟩, hoy⟩ := hM.rows y uy huy
          have hyl := hT.rowLe (by omega) hlt HT.out y
          have hjl' : (j : Int) < ((row out u).length : Int) := by omega
          have hyn' : (y : Int) < (out.length : Int) := by omega
          have hyr : y < rev.length := by rw [hT.len]; exact hyn
          have HT1 := hide (hT.push hy hyn)
          have HM := hide hM
          have HOY := hide hoy
          have HUY := hide huy
          clear hT hM cx0 hy hlen hoy huy HJ
          obtain ⟨i3, hi3, hy0, hy1, hy2⟩ := info_parts Try.info3
          go_wp2_with (at_builtin; refine wpList_append_src _ rfl (.tmp 30) (.tmp 32) 22 22 rfl (w.heap.size + 1) 3 i3 (.int .i64 0) 1 8 Try.underlying22 hi3 hy0 hy1 hy2 rfl _ _ _ rfl (HOY.out.alloc _) _ _ _ rfl (Src.one Try.underlying22 _ _ rfl _) (by unfold maxLen; show (row rev y).length + 1 ≤ _; omega) (by show ((row rev y).length + 1) * 8 ≤ _; omega) (by have := HM.out.big; simp; omega) ?_)
          intro z5 w5 hO5 hG5 hF5
          obtain ⟨az5, cz5, rfl, hcz5, _, hgz⟩ := own_form hO5
          have hM5 := (HM.out.alloc (.cells #[.int .i64 (u : Int)] 3)).push hyr HUY.out ⟨_, _, rfl⟩ hO5 hG5 (fun k hk => by simpa using hF5 k hk)
          have hB5 : (Value.slice ay (row rev y).length cy).ownBlock ≠ some w.heap.size := own_lt HOY.out (Nat.lt_succ_self _)
          have c5 := keptr_cell hG5 hB5 (HM.out.alloc (.cells #[.int .i64 (u : Int)] 3) |>.tab.cellAt y (by omega) |>.trans HUY.out)
          have f5 := keptr_frozen hG5 hB5 (by have := HM.out.big; simp; omega) ((HM.out.alloc (.cells #[.int .i64 (u : Int)] 3)).tab.frozenAt y)
          have HM5 := hide hM5
          clear hM5 hO5 hG5 hF5 hgz HOY HUY HM c1
          go_wp2_with fail
          go_roundw
          case rel => exact ⟨j + 1, _, _, by omega, by go_num, HT1.out, HM5.out⟩
          case measure => simp [intOf]; omega
        · have hje : j = (row out u).length := by omega
          subst hje
          have HN := hide (hT.next hlt)
          clear hT hM
          go_wp2_with fail
          go_roundw
          case rel => exact ⟨u + 1, rev, vals, by omega, by go_num, HN.out, HJ.out.2⟩
          case measure => simp [intOf]; omega
    · have hue : u = out.length := by omega
      subst hue
      go_wp2_with fail
      go_ret
      obtain ⟨hT, hM⟩ := HJ.out
      refine ⟨rev, _, rfl, hM.rows2 hT.len (by unfold maxLen; omega), hT.len, hT.done, fun l hl => ?_, hM.bel⟩
      have h1 := sum_mem (l := rev.map List.length) (List.mem_map.2 ⟨l, hl, rfl⟩)
      have h2 := hT.tot
      rw [List.take_length] at h2
      have h3 := HT.out
      omega
end Go.Proofs.Qxb6605452a
