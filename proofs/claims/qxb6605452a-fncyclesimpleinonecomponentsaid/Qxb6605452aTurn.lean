import Derived.Test.Qxb6605452aNat
namespace Go.Proofs.Qxb6605452a
open Go.RowKit

/-- Half turned round: the rows below u, and the first j of row u. -/
structure Turned (out rev : List (List Nat)) (u j : Nat) : Prop where
  len : rev.length = out.length
  iff : ∀ x y, E rev y x ↔ (x < u ∧ E out x y) ∨ (x = u ∧ y ∈ (row out u).take j)
  tot : (rev.map List.length).sum = ((out.take u).map List.length).sum + j

theorem row_set {rev : List (List Nat)} {y x : Nat} (hy : y < rev.length) (z : Nat) : row (rev.set y (row rev y ++ [x])) z = if z = y then row rev y ++ [x] else row rev z := by
  unfold row
  by_cases h : z = y
  · subst h; simp [List.getD, hy]
  · rw [if_neg h, List.getD, List.getElem?_set_ne (by omega)]; rfl
theorem sum_set {l : List Nat} {y : Nat} (hy : y < l.length) (a : Nat) : (l.set y a).sum + l[y] = l.sum + a := by
  induction l generalizing y with
  | nil => simp at hy
  | cons b l ih =>
    cases y with
    | zero => simp; omega
    | succ y =>
      simp only [List.length_cons] at hy
      have := ih (y := y) (by omega)
      simp only [List.set_cons_succ, List.sum_cons, List.getElem_cons_succ]
      omega
theorem row_at {rev : List (List Nat)} {y : Nat} (hy : y < rev.length) : row rev y = rev[y] := by simp [row, List.getD, hy]

theorem Turned.zero (out : List (List Nat)) : Turned out (List.replicate out.length []) 0 0 := by
  refine ⟨by simp, fun x y => ?_, ?_⟩
  · have : ¬ E (List.replicate out.length []) y x := by
      unfold E row
      rw [List.getD, List.getElem?_replicate]
      split <;> simp
    simp [this]
  · simp
theorem Turned.push {out rev : List (List Nat)} {u j y : Nat} (h : Turned out rev u j) (hy : (row out u)[j]? = some y) (hn : y < out.length) : Turned out (rev.set y (row rev y ++ [u])) u (j + 1) := by
  have hyr : y < rev.length := by rw [h.len]; exact hn
  refine ⟨by rw [List.length_set]; exact h.len, fun x z => ?_, ?_⟩
  · unfold E
    rw [row_set hyr, List.take_add_one, hy]
    have hiff := h.iff x z
    unfold E at hiff
    by_cases hz : z = y
    · subst hz
      rw [if_pos rfl, List.mem_append, hiff]
      simp only [List.mem_singleton, Option.toList_some, List.mem_append]
      constructor
      · rintro ((h1 | h1) | h1)
        · exact .inl h1
        · exact .inr ⟨h1.1, .inl h1.2⟩
        · exact .inr ⟨h1, .inr trivial⟩
      · rintro (h1 | ⟨h1, h2 | h2⟩)
        · exact .inl (.inl h1)
        · exact .inl (.inr ⟨h1, h2⟩)
        · exact .inr h1
    · rw [if_neg hz, hiff]
      simp only [Option.toList_some, List.mem_append, List.mem_singleton, hz, or_false]
  · have h1 := h.tot
    rw [List.map_set]
    have h2 := sum_set (l := rev.map List.length) (y := y) (by simpa using hyr) (row rev y ++ [u]).length
    rw [List.getElem_map, ← row_at hyr, List.length_append, List.length_singleton] at h2
    rw [List.length_append, List.length_singleton]
    omega
theorem Turned.next {out rev : List (List Nat)} {u : Nat} (h : Turned out rev u (row out u).length) (hu : u < out.length) : Turned out rev (u + 1) 0 := by
  refine ⟨h.len, fun x y => ?_, ?_⟩
  · rw [h.iff x y, List.take_length]
    constructor
    · rintro (h1 | ⟨rfl, h1⟩)
      · exact .inl ⟨by omega, h1.2⟩
      · exact .inl ⟨by omega, h1⟩
    · rintro (h1 | h1)
      · by_cases hx : x = u
        · exact .inr ⟨hx, by rw [← hx]; exact h1.2⟩
        · exact .inl ⟨by omega, h1.2⟩
      · simp at h1
  · rw [h.tot, List.take_add_one, List.getElem?_eq_getElem hu, row_at hu, List.map_append, List.sum_append]
    rfl
theorem Turned.done {out rev : List (List Nat)} (h : Turned out rev out.length 0) (x y : Nat) : E rev y x ↔ E out x y := by
  rw [h.iff x y]
  constructor
  · rintro (h1 | h1)
    · exact h1.2
    · simp at h1
  · intro h1
    refine .inl ⟨?_, h1⟩
    unfold E row at h1
    rw [List.getD] at h1
    by_cases hx : x < out.length
    · exact hx
    · rw [List.getElem?_eq_none (by omega)] at h1; simp at h1
theorem sum_mem {l : List Nat} {a : Nat} (h : a ∈ l) : a ≤ l.sum := by
  induction l with
  | nil => cases h
  | cons b l ih =>
    rw [List.sum_cons]
    rcases List.mem_cons.1 h with rfl | h
    · omega
    · have := ih h; omega
theorem sum_take_le (l : List Nat) (k : Nat) : (l.take k).sum ≤ l.sum := by
  have h : l.sum = (l.take k).sum + (l.drop k).sum := by rw [← List.sum_append, List.take_append_drop]
  omega
theorem Turned.rowLe {out rev : List (List Nat)} {u j m : Nat} (h : Turned out rev u j) (hj : j ≤ (row out u).length) (hu : u < out.length) (hm : (out.map List.length).sum ≤ m) (y : Nat) : (row rev y).length ≤ m := by
  have h1 := h.tot
  have h2 := sum_take_le (out.map List.length) (u + 1)
  rw [← List.map_take, List.take_add_one, List.getElem?_eq_getElem hu] at h2
  simp only [Option.toList_some, List.map_append, List.map_cons, List.map_nil, List.sum_append, List.sum_cons, List.sum_nil] at h2
  rw [row_at hu] at hj
  by_cases hy : y < rev.length
  · have h3 := sum_mem (l := rev.map List.length) (a := (row rev y).length) (List.mem_map.2 ⟨_, List.getElem_mem hy, by rw [row_at hy]⟩)
    omega
  · unfold row; rw [List.getD, List.getElem?_eq_none (by omega)]; simp
end Go.Proofs.Qxb6605452a
