import Derived.Test.Qxb6605452aMem2
namespace Go.Proofs.Qxb6605452a
open Go.RowKit

theorem Mem.popStep' {w0 : World} {B n : Nat} {i l c : Nat → Nat} {o : Nat → Bool} {Q : List Nat} {wl : List (Nat × Nat)} {vi : Nat} {si : List Nat} {wk : Value} {w : World} {gs cq gz m cz y : Nat}
    (h : Mem w0 B n ⟨i, l, c, o, y :: Q, wl, vi, si⟩ (.slice (some ⟨gs, 0, none⟩) (Q.length + 1) cq) (.slice (some ⟨gs, 0, none⟩) (Q.length + 1) cq) (.slice (some ⟨gz, 0, none⟩) m cz) wk w) (hm : m = si.length) (k x : Nat) :
    Mem w0 B n ⟨i, l, upd c y k, upd o y false, Q, wl, vi, si.set k x⟩ (.slice (some ⟨gs, 0, none⟩) Q.length cq) (.slice (some ⟨gs, 0, none⟩) Q.length cq) (.slice (some ⟨gz, 0, none⟩) m cz) wk
      ((((w.setCell ⟨B + 7, 0, none⟩ (.slice (some ⟨gs, 0, none⟩) Q.length cq)).setCell ⟨B + 4, y, none⟩ (.bool false)).setCell ⟨B + 6, y, none⟩ (.int .i64 (k : Int))).setCell ⟨gz, k, none⟩ (.int .i64 (x : Int))) := by
  have h1 : Mem w0 B n ⟨i, l, c, o, Q, wl, vi, si⟩ _ _ _ _ _ := (h.stackPop rfl).setVar (.slice (some ⟨gs, 0, none⟩) Q.length cq)
  have h2 : Mem w0 B n ⟨i, l, c, upd o y false, Q, wl, vi, si⟩ _ _ _ _ _ := h1.setOn y false
  have h3 : Mem w0 B n ⟨i, l, upd c y k, upd o y false, Q, wl, vi, si⟩ _ _ _ _ _ := h2.setComp y k
  exact h3.sizeSet hm k x

theorem popJ_next {s : St} {P Q : List Nat} {y : Nat} (h : s.stk = P ++ y :: Q) :
    (⟨s.idx, s.low, upd (popJ P s).comp y s.size.length, upd (popJ P s).ons y false, Q, s.wlk, s.vis, (popJ P s).size.set s.size.length (P.length + 1)⟩ : St) = popJ (P ++ [y]) s := by
  have hd : s.stk.drop (P ++ [y]).length = Q := by
    rw [h, show P ++ y :: Q = (P ++ [y]) ++ Q by simp, List.drop_left]
  rw [popJ_ons, popJ_comp, popJ_size P s y]
  unfold popJ
  rw [hd]
theorem popJ_stk {s : St} {P Q : List Nat} (h : s.stk = P ++ Q) : (popJ P s).stk = Q := by
  show s.stk.drop P.length = Q
  rw [h, List.drop_left]

/-- One element is taken off the stack. -/
theorem Mem.popStep {w0 : World} {B n : Nat} {s : St} {P Q : List Nat} {wk : Value} {w : World} {gs cq gz cz y : Nat}
    (h : Mem w0 B n (popJ P s) (.slice (some ⟨gs, 0, none⟩) (Q.length + 1) cq) (.slice (some ⟨gs, 0, none⟩) (Q.length + 1) cq) (.slice (some ⟨gz, 0, none⟩) (s.size.length + 1) cz) wk w) (hs : s.stk = P ++ y :: Q) :
    Mem w0 B n (popJ (P ++ [y]) s) (.slice (some ⟨gs, 0, none⟩) Q.length cq) (.slice (some ⟨gs, 0, none⟩) Q.length cq) (.slice (some ⟨gz, 0, none⟩) (s.size.length + 1) cz) wk
      ((((w.setCell ⟨B + 7, 0, none⟩ (.slice (some ⟨gs, 0, none⟩) Q.length cq)).setCell ⟨B + 4, y, none⟩ (.bool false)).setCell ⟨B + 6, y, none⟩ (.int .i64 (s.size.length : Int))).setCell ⟨gz, s.size.length, none⟩ (.int .i64 ((P.length : Int) + 1))) := by
  have e0 : popJ P s = ⟨s.idx, s.low, (popJ P s).comp, (popJ P s).ons, y :: Q, s.wlk, s.vis, (popJ P s).size⟩ := by
    have h1 := popJ_stk hs
    generalize hJ : popJ P s = J at h1
    have e1 : J.idx = s.idx := by rw [← hJ]; rfl
    have e2 : J.low = s.low := by rw [← hJ]; rfl
    have e3 : J.wlk = s.wlk := by rw [← hJ]; rfl
    have e4 : J.vis = s.vis := by rw [← hJ]; rfl
    rw [← h1, ← e1, ← e2, ← e3, ← e4]
  rw [e0] at h
  have h2 := h.popStep' (by simp [popJ]) s.size.length (P.length + 1)
  rw [popJ_next hs] at h2
  simp only [Int.natCast_add, Int.natCast_one] at h2
  exact h2

/-- What the walk must know ahead of it. -/
theorem Mem.popFacts' {w0 : World} {B n : Nat} {i l c : Nat → Nat} {o : Nat → Bool} {Q : List Nat} {wl : List (Nat × Nat)} {vi : Nat} {si : List Nat} {wk : Value} {w : World} {gs cq gz m cz y : Nat}
    (h : Mem w0 B n ⟨i, l, c, o, y :: Q, wl, vi, si⟩ (.slice (some ⟨gs, 0, none⟩) (Q.length + 1) cq) (.slice (some ⟨gs, 0, none⟩) (Q.length + 1) cq) (.slice (some ⟨gz, 0, none⟩) m cz) wk w) (hm : m = si.length) (k p : Nat) (hk : si[k]? = some p) (hy : y < n) :
    w.cell? ⟨gs, Q.length, none⟩ = some (.int .i64 (y : Int)) ∧
    (w.setCell ⟨B + 7, 0, none⟩ (.slice (some ⟨gs, 0, none⟩) Q.length cq)).cell? ⟨B + 5, 0, none⟩ = some (.slice (some ⟨B + 4, 0, none⟩) n n) ∧
    (w.setCell ⟨B + 7, 0, none⟩ (.slice (some ⟨gs, 0, none⟩) Q.length cq)).cell? ⟨B + 4, y, none⟩ = some (.bool (o y)) ∧
    (w.setCell ⟨B + 7, 0, none⟩ (.slice (some ⟨gs, 0, none⟩) Q.length cq)).frozen? ⟨B + 4, y, none⟩ = false ∧
    ((w.setCell ⟨B + 7, 0, none⟩ (.slice (some ⟨gs, 0, none⟩) Q.length cq)).setCell ⟨B + 4, y, none⟩ (.bool false)).cell? ⟨B + 6, y, none⟩ = some (.int .i64 (c y : Int)) ∧
    ((w.setCell ⟨B + 7, 0, none⟩ (.slice (some ⟨gs, 0, none⟩) Q.length cq)).setCell ⟨B + 4, y, none⟩ (.bool false)).frozen? ⟨B + 6, y, none⟩ = false ∧
    (((w.setCell ⟨B + 7, 0, none⟩ (.slice (some ⟨gs, 0, none⟩) Q.length cq)).setCell ⟨B + 4, y, none⟩ (.bool false)).setCell ⟨B + 6, y, none⟩ (.int .i64 (k : Int))).cell? ⟨gz, k, none⟩ = some (.int .i64 (p : Int)) ∧
    (((w.setCell ⟨B + 7, 0, none⟩ (.slice (some ⟨gs, 0, none⟩) Q.length cq)).setCell ⟨B + 4, y, none⟩ (.bool false)).setCell ⟨B + 6, y, none⟩ (.int .i64 (k : Int))).frozen? ⟨gz, k, none⟩ = false := by
  have hrs := h.rst
  simp only [List.length_cons] at hrs
  have h1 : Mem w0 B n ⟨i, l, c, o, Q, wl, vi, si⟩ _ _ _ _ _ := (h.stackPop rfl).setVar (.slice (some ⟨gs, 0, none⟩) Q.length cq)
  have h2 : Mem w0 B n ⟨i, l, c, upd o y false, Q, wl, vi, si⟩ _ _ _ _ _ := h1.setOn y false
  have h3 : Mem w0 B n ⟨i, l, upd c y k, upd o y false, Q, wl, vi, si⟩ _ _ _ _ _ := h2.setComp y k
  subst hm
  have hsz := h3.rsz
  refine ⟨?_, h1.onv, ?_, h1.on.frozenAt y, ?_, h2.cp.frozenAt y, ?_, hsz.frozenAt _⟩
  · rw [hrs.cellAt Q.length (by omega)]
    exact intsV_get (by simp)
  · rw [h1.on.cellAt y (by omega)]; exact tabB_get _ hy
  · rw [h2.cp.cellAt y (by omega)]; exact tabI_get _ hy
  · have hkl := (List.getElem?_eq_some_iff.1 hk).1
    rw [hsz.cellAt k (by show k + 1 ≤ si.length * 1; omega)]
    exact intsV_get hk

theorem popJ_form {s : St} {P Q : List Nat} {y : Nat} (hs : s.stk = P ++ y :: Q) : popJ P s = ⟨s.idx, s.low, (popJ P s).comp, (popJ P s).ons, y :: Q, s.wlk, s.vis, (popJ P s).size⟩ := by
  have h1 := popJ_stk hs
  generalize hJ : popJ P s = J at h1
  have e1 : J.idx = s.idx := by rw [← hJ]; rfl
  have e2 : J.low = s.low := by rw [← hJ]; rfl
  have e3 : J.wlk = s.wlk := by rw [← hJ]; rfl
  have e4 : J.vis = s.vis := by rw [← hJ]; rfl
  rw [← h1, ← e1, ← e2, ← e3, ← e4]

theorem Mem.popFacts {w0 : World} {B n : Nat} {s : St} {P Q : List Nat} {wk : Value} {w : World} {gs cq gz cz y : Nat}
    (h : Mem w0 B n (popJ P s) (.slice (some ⟨gs, 0, none⟩) (Q.length + 1) cq) (.slice (some ⟨gs, 0, none⟩) (Q.length + 1) cq) (.slice (some ⟨gz, 0, none⟩) (s.size.length + 1) cz) wk w) (hs : s.stk = P ++ y :: Q) (hy : y < n) :
    ∃ (o : Bool) (c : Int), w.cell? ⟨gs, Q.length, none⟩ = some (.int .i64 (y : Int)) ∧
    (w.setCell ⟨B + 7, 0, none⟩ (.slice (some ⟨gs, 0, none⟩) Q.length cq)).cell? ⟨B + 5, 0, none⟩ = some (.slice (some ⟨B + 4, 0, none⟩) n n) ∧
    (w.setCell ⟨B + 7, 0, none⟩ (.slice (some ⟨gs, 0, none⟩) Q.length cq)).cell? ⟨B + 4, y, none⟩ = some (.bool o) ∧
    (w.setCell ⟨B + 7, 0, none⟩ (.slice (some ⟨gs, 0, none⟩) Q.length cq)).frozen? ⟨B + 4, y, none⟩ = false ∧
    ((w.setCell ⟨B + 7, 0, none⟩ (.slice (some ⟨gs, 0, none⟩) Q.length cq)).setCell ⟨B + 4, y, none⟩ (.bool false)).cell? ⟨B + 6, y, none⟩ = some (.int .i64 c) ∧
    ((w.setCell ⟨B + 7, 0, none⟩ (.slice (some ⟨gs, 0, none⟩) Q.length cq)).setCell ⟨B + 4, y, none⟩ (.bool false)).frozen? ⟨B + 6, y, none⟩ = false ∧
    (((w.setCell ⟨B + 7, 0, none⟩ (.slice (some ⟨gs, 0, none⟩) Q.length cq)).setCell ⟨B + 4, y, none⟩ (.bool false)).setCell ⟨B + 6, y, none⟩ (.int .i64 (s.size.length : Int))).cell? ⟨gz, s.size.length, none⟩ = some (.int .i64 (P.length : Int)) ∧
    (((w.setCell ⟨B + 7, 0, none⟩ (.slice (some ⟨gs, 0, none⟩) Q.length cq)).setCell ⟨B + 4, y, none⟩ (.bool false)).setCell ⟨B + 6, y, none⟩ (.int .i64 (s.size.length : Int))).frozen? ⟨gz, s.size.length, none⟩ = false := by
  rw [popJ_form hs] at h
  exact ⟨_, _, h.popFacts' (by simp [popJ]) s.size.length P.length (by simp [popJ]) hy⟩
end Go.Proofs.Qxb6605452a
