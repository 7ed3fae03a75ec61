import Derived.Test.Qxb6605452aMem
import Derived.Deep.DeepCutAuto
namespace Go.Proofs.Qxb6605452a
open Go.RowKit

theorem Try.info3 : (Try.prog.info? 3).map (fun i => (i.zero, i.size, i.bytes)) = some (some (.int .i64 0), 1, 8) := by kernel_rfl
theorem Try.info4 : (Try.prog.info? 4).map (fun i => (i.zero, i.size, i.bytes)) = some (some (.bool false), 1, 1) := by kernel_rfl
theorem Try.info53 : (Try.prog.info? 53).map (fun i => (i.zero, i.size, i.bytes)) = some (some (.agg #[.int .i64 0, .int .i64 0]), 2, 16) := by kernel_rfl

theorem own_form {w : World} {base e size n : Nat} {v : Value} {xs : List Value} (h : w.ownsRow base e size v n xs) : ∃ a c, v = .slice a n c ∧ n ≤ c ∧ c ≤ maxLen ∧ (0 < n → ∃ g, a = some ⟨g, 0, none⟩) := by
  rcases h.2 with ⟨rfl, rfl⟩ | ⟨g, cap, cur, rfl, _, _, h1, h2, _⟩
  · exact ⟨none, 0, rfl, Nat.le_refl _, Nat.zero_le _, fun h => by omega⟩
  · exact ⟨some ⟨g, 0, none⟩, cap, rfl, h1, h2, fun _ => ⟨g, rfl⟩⟩

theorem Src.one {P : Program} {t e : TypeId} (ht : P.underlying t = some (.slice e)) (w : World) (x : Value) (hx : x.oneCell' = true) (c : Nat) :
    Src P 1 t (.slice (some ⟨w.heap.size, 0, none⟩) 1 c) 1 [x] (w.alloc (.cells #[x] e)) := by
  refine Src.ofSlice _ ht _ 1 c [x] rfl (cell_one_new _ _ _) (fun u hu => ?_)
  simp at hu
  subst hu
  exact hx

/-- What 'visit' leaves. -/
def VisE (w0 : World) (B n : Nat) (s : St) (sz wk : Value) (e : Ending) (w' : World) : Prop := e = .returned (.tuple #[]) ∧ ∃ vs', Mem w0 B n s vs' vs' sz wk w'

set_option maxHeartbeats 1000000 in
theorem visit_any {w0 : World} {B n : Nat} {s : St} {vs sz wk : Value} {w : World} (h : Mem w0 B n s vs vs sz wk w) (v : Nat) (hv : v < n) (hvis : s.vis ≤ 8192) (hst : s.stk.length ≤ 8192) :
    Calls Try.prog 31 #[.int .i64 (v : Int), .pointer (some ⟨B + 8, 0, none⟩), .pointer (some ⟨B + 1, 0, none⟩), .pointer (some ⟨B + 3, 0, none⟩), .pointer (some ⟨B + 7, 0, none⟩), .pointer (some ⟨B + 5, 0, none⟩)] w
      fun e w' => VisE w0 B n (visit v s) sz wk e w' := by
  obtain ⟨i0, hi, hz0, hz1, hz2⟩ := info_parts Try.info3
  obtain ⟨av, cv, rfl, _, _, _⟩ := own_form h.rst
  have M := hide h
  have c8 := h.vv
  have f8 := h.vf
  have c1 := h.ixv
  have c3 := h.lwv
  have ci : w.cell? ⟨B, v, none⟩ = some (.int .i64 (s.idx v : Int)) := by rw [h.ix.cellAt v (by omega)]; exact tabI_get _ hv
  have fi : w.frozen? ⟨B, v, none⟩ = false := h.ix.frozenAt v
  have cl : w.cell? ⟨B + 2, v, none⟩ = some (.int .i64 (s.low v : Int)) := by rw [h.lw.cellAt v (by omega)]; exact tabI_get _ hv
  have fl : w.frozen? ⟨B + 2, v, none⟩ = false := h.lw.frozenAt v
  have c7 := h.stv
  have f7 := h.stf
  have hv' : (v : Int) < (n : Int) := by omega
  clear h
  go_enter Try.func31, Try.ntmps31
  go_wp2
  go_cut [] (fun wx => Hid (Mem w0 B n { s with vis := s.vis + 1, idx := upd s.idx v (s.vis + 1), low := upd s.low v (s.vis + 1) } (.slice av s.stk.length cv) (.slice av s.stk.length cv) sz wk wx))
  case first =>
    go_region
    all_goals go_wp2
    go_meet
    case rel =>
      have h5 := (((M.out.setVis (s.vis + 1)).setIdx v (s.vis + 1)).setLow v (s.vis + 1)).drew
      simp only [Int.natCast_add, Int.natCast_one] at h5
      exact h5
  case rest =>
  have M1 := hide hcut.out
  have d7 := M1.out.stv
  clear hcut c8 f8 c1 c3 ci fi cl fl c7 f7 M
  go_wp2_with (at_builtin; refine wpList_append_src _ rfl (.tmp 17) (.tmp 19) 22 22 rfl (B + 9) 3 i0 (.int .i64 0) 1 8 Try.underlying22 hi hz0 hz1 hz2 rfl _ _ _ rfl (M1.out.rst.alloc _) _ _ _ rfl (Src.one Try.underlying22 _ _ rfl _) ?c1 ?c2 ?c3 ?_)
  case c1 => unfold maxLen; omega
  case c2 => omega
  case c3 => have := M1.out.big; simp; omega
  intro v2 w2 hO2 hG2 hF2
  have h2 := (M1.out.alloc (.cells #[.int .i64 (v : Int)] 3)).stackPush hO2 hG2 (fun k hk => by simpa using hF2 k hk)
  obtain ⟨a2, c2, rfl, _, _, _⟩ := own_form hO2
  have e7 := h2.stv
  have k7 := h2.stf
  have h3 := h2.setVar (.slice a2 (s.stk.length + 1) c2)
  have e5 := h3.onv
  have co : (w2.setCell ⟨B + 7, 0, none⟩ (.slice a2 (s.stk.length + 1) c2)).cell? ⟨B + 4, v, none⟩ = some (.bool (s.ons v)) := by rw [h3.on.cellAt v (by omega)]; exact tabB_get _ hv
  have fo : (w2.setCell ⟨B + 7, 0, none⟩ (.slice a2 (s.stk.length + 1) c2)).frozen? ⟨B + 4, v, none⟩ = false := h3.on.frozenAt v
  have M4 := hide (h3.setOn v true)
  clear h2 h3 hO2 hG2 hF2 M1 d7
  go_wp2
  go_end0
  exact ⟨rfl, _, M4.out⟩
end Go.Proofs.Qxb6605452a
