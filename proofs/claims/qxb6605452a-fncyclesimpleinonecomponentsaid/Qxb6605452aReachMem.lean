import Derived.Test.Qxb6605452aRowsCopy
import Derived.Test.Qxb6605452aBfs
import Derived.Test.Qxb6605452aMem2
import Derived.Deep.OwnRows
namespace Go.Proofs.Qxb6605452a
open Go.RowKit

/-- A slice of slices of numbers. -/
def Rows2 (w : World) (v : Value) (out : List (List Nat)) : Prop :=
  ∃ a c, v = .slice a out.length c ∧ out.length ≤ c ∧ c ≤ maxLen ∧
    ∀ i l, out[i]? = some l → ∃ b o vr, a = some ⟨b, o, none⟩ ∧ w.cell? ⟨b, o + i, none⟩ = some vr ∧ Row w vr (intsV l)
theorem Rows2.below {w w' : World} {v : Value} {out : List (List Nat)} (h : Rows2 w v out) (hb : Below w.heap.size w w') : Rows2 w' v out := by
  obtain ⟨a, c, rfl, h1, h2, h3⟩ := h
  refine ⟨a, c, rfl, h1, h2, fun i l hl => ?_⟩
  obtain ⟨b, o, vr, rfl, hc, hr⟩ := h3 i l hl
  exact ⟨b, o, vr, rfl, cell_later hb hc, hr.below hb⟩

/-- The row of a node, and its cell. -/
theorem Rows2.at {w : World} {a : Option Addr} {n c : Nat} {out : List (List Nat)} (h : Rows2 w (.slice a n c) out) {v : Nat} (hv : v < out.length) :
    ∃ b o ar cr, a = some ⟨b, o, none⟩ ∧ w.cell? ⟨b, o + v, none⟩ = some (.slice ar (row out v).length cr) ∧ Row w (.slice ar (row out v).length cr) (intsV (row out v)) := by
  obtain ⟨a', c', hv', h1, h2, h3⟩ := h
  simp only [Value.slice.injEq] at hv'
  obtain ⟨rfl, rfl, rfl⟩ := hv'
  obtain ⟨b, o, vr, rfl, hc, hr⟩ := h3 v out[v] (List.getElem?_eq_getElem hv)
  have e : row out v = out[v] := by simp [row, List.getD, hv]
  obtain ⟨ar, cr, rfl, q1, q2, q3, q4⟩ := hr
  rw [intsV_length] at hc q1
  refine ⟨b, o, ar, cr, rfl, by rw [e]; exact hc, by rw [e]; exact ⟨ar, cr, by rw [intsV_length], by rw [intsV_length]; exact q1, q2, q3, q4⟩⟩
theorem Row.atI {w : World} {a : Option Addr} {n c : Nat} {l : List Nat} (h : Row w (.slice a n c) (intsV l)) {k x : Nat} (hx : l[k]? = some x) : ∃ b o, a = some ⟨b, o, none⟩ ∧ w.cell? ⟨b, o + k, none⟩ = some (.int .i64 (x : Int)) := by
  obtain ⟨a', c', hv, h1, h2, h3, h4⟩ := h
  simp only [Value.slice.injEq] at hv
  obtain ⟨rfl, rfl, rfl⟩ := hv
  exact h4 k _ (intsV_get hx)


/-- What 'Reach' leaves: the table. -/
def ReachE (out : List (List Nat)) (w : World) (e : Ending) (w' : World) : Prop :=
  ∃ f : Nat → Bool, e = .returned (.slice (some ⟨w.heap.size, 0, none⟩) (out.length * out.length) (out.length * out.length)) ∧ (∀ u v, u < out.length → v < out.length → (f (u * out.length + v) = true ↔ Reach (E out) u v)) ∧
    w'.ownsRow w.heap.size 4 1 (.slice (some ⟨w.heap.size, 0, none⟩) (out.length * out.length) (out.length * out.length)) (out.length * out.length) (tabB (out.length * out.length) f) ∧ Below w.heap.size w w'

/-- The memory of the walk in breadth. -/
structure RMem (w0 : World) (n : Nat) (f : Nat → Bool) (Q R : List Nat) (w : World) : Prop where
  tab : w.ownsRow w0.heap.size 4 1 (.slice (some ⟨w0.heap.size, 0, none⟩) (n * n) (n * n)) (n * n) (tabB (n * n) f)
  que : w.ownsRow (w0.heap.size + 1) 3 1 (.slice (some ⟨w0.heap.size + 1, 0, none⟩) n n) n (intsV (Q ++ R))
  bel : Below w0.heap.size w0 w
section
variable {w0 w : World} {n : Nat} {f : Nat → Bool} {Q R : List Nat}
theorem RMem.setTab (h : RMem w0 n f Q R w) (j : Nat) (b : Bool) : RMem w0 n (upd f j b) Q R (w.setCell ⟨w0.heap.size, j, none⟩ (.bool b)) := by
  refine ⟨?_, ownsRow_setCell_below h.que (Nat.lt_succ_self _) _, h.bel.setCell (Nat.le_refl _) _⟩
  have h1 := (h.tab.stored j (.bool b)).1
  rw [tabB_set] at h1
  exact h1
theorem RMem.push {x y : Nat} (h : RMem w0 n f Q (y :: R) w) : RMem w0 n f (Q ++ [x]) R (w.setCell ⟨w0.heap.size + 1, Q.length, none⟩ (.int .i64 (x : Int))) := by
  refine ⟨?_, ?_, h.bel.setCell (Nat.le_succ _) _⟩
  · exact kept_row (grown_setCell w ⟨w0.heap.size + 1, Q.length, none⟩ _) (by simp) h.tab
  · have h1 := (h.que.stored Q.length (.int .i64 (x : Int))).1
    rw [intsV_set, List.set_append_right _ _ (Nat.le_refl _), Nat.sub_self, List.set_cons_zero] at h1
    rw [List.append_assoc]
    exact h1
theorem RMem.len (h : RMem w0 n f Q R w) : Q.length + R.length = n := by
  have := h.que.1
  rw [intsV_length, List.length_append] at this
  omega
theorem RMem.queAt (h : RMem w0 n f Q R w) {i x : Nat} (hx : Q[i]? = some x) : w.cell? ⟨w0.heap.size + 1, i, none⟩ = some (.int .i64 (x : Int)) := by
  have hi := (List.getElem?_eq_some_iff.1 hx).1
  have := h.len
  rw [h.que.cellAt i (by omega)]
  exact intsV_get (by rw [List.getElem?_append_left hi]; exact hx)
theorem RMem.queAny (h : RMem w0 n f Q R w) {i : Nat} (hi : i < n) : (∃ x : Int, w.cell? ⟨w0.heap.size + 1, i, none⟩ = some (.int .i64 x)) ∧ w.frozen? ⟨w0.heap.size + 1, i, none⟩ = false := by
  have := h.len
  refine ⟨?_, h.que.frozenAt i⟩
  rw [h.que.cellAt i (by omega)]
  have hi' : i < (Q ++ R).length := by rw [List.length_append]; omega
  exact ⟨_, intsV_get (List.getElem?_eq_getElem hi')⟩
theorem RMem.tabAt (h : RMem w0 n f Q R w) {i : Nat} (hi : i < n * n) : w.cell? ⟨w0.heap.size, i, none⟩ = some (.bool (f i)) ∧ w.frozen? ⟨w0.heap.size, i, none⟩ = false := by
  refine ⟨?_, h.tab.frozenAt i⟩
  rw [h.tab.cellAt i (by omega)]
  exact tabB_get _ hi
theorem RMem.drop (h : RMem w0 n f Q R w) : RMem w0 n f [] (Q ++ R) w := ⟨h.tab, h.que, h.bel⟩
end
theorem sq_lt {s v n : Nat} (hs : s < n) (hv : v < n) : s * n + v < n * n := by
  have h : (s + 1) * n ≤ n * n := Nat.mul_le_mul_right _ hs
  rw [Nat.add_mul] at h
  omega
end Go.Proofs.Qxb6605452a
