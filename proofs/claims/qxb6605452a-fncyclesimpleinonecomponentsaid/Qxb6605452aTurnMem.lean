import Derived.Test.Qxb6605452aTurn
import Derived.Test.Qxb6605452aVisit
import Derived.Deep.OwnRows
namespace Go.Proofs.Qxb6605452a
open Go.RowKit

/-- The memory while the edges are turned round. -/
structure TMem (w0 : World) (n : Nat) (rev : List (List Nat)) (vals : List Value) (w : World) : Prop where
  bel : Below w0.heap.size w0 w
  big : w0.heap.size + 1 ≤ w.heap.size
  tab : w.ownsRow w0.heap.size 22 1 (.slice (some ⟨w0.heap.size, 0, none⟩) n n) n vals
  rows : ∀ (j : Nat) u, vals[j]? = some u → (∃ a c, u = .slice a (row rev j).length c) ∧ w.ownsRow (w0.heap.size + 1) 3 1 u (row rev j).length (intsV (row rev j))
  apart : ∀ (i j : Nat) u v, i ≠ j → vals[i]? = some u → vals[j]? = some v → Apart u v

section
variable {w0 w w' : World} {n : Nat} {rev : List (List Nat)} {vals : List Value}
theorem TMem.alloc (h : TMem w0 n rev vals w) (o : Obj) : TMem w0 n rev vals (w.alloc o) :=
  ⟨h.bel.alloc (by have := h.big; omega) _, by have := h.big; simp; omega, h.tab.alloc _, fun j u hu => ⟨(h.rows j u hu).1, (h.rows j u hu).2.alloc _⟩, h.apart⟩
theorem TMem.push (h : TMem w0 n rev vals w) {y x : Nat} {u u' : Value} (hyr : y < rev.length) (hu : vals[y]? = some u) (hu' : ∃ a c, u' = .slice a ((row rev y).length + 1) c)
    (ho : w'.ownsRow (w0.heap.size + 1) 3 1 u' ((row rev y).length + 1) (intsV (row rev y) ++ [.int .i64 (x : Int)])) (g : w.grownBy w' u.ownBlock)
    (hf : ∀ k, u'.ownBlock = some k → u.ownBlock = some k ∨ w.heap.size ≤ k) :
    TMem w0 n (rev.set y (row rev y ++ [x])) (vals.set y u') (w'.setCell ⟨w0.heap.size, y, none⟩ u') := by
  have hru := (h.rows y u hu).2
  have hb := h.big
  have hB : u.ownBlock ≠ some w0.heap.size := own_lt hru (Nat.lt_succ_self _)
  have hyl := (List.getElem?_eq_some_iff.1 hu).1
  refine ⟨(h.bel.grown g (by omega) (fun k hk => by have := (hru.lt k hk).1; omega)).setCell (Nat.le_refl _) _, by have := g.size; simp; omega, ?_, fun j v hv => ?_, fun i j a b hij ha hb' => ?_⟩
  · exact ((keptr_row g hB h.tab).stored y u').1
  · rw [row_set hyr]
    by_cases hj : j = y
    · subst hj
      rw [List.getElem?_set_self hyl] at hv
      simp only [Option.some.injEq] at hv
      subst hv
      rw [if_pos rfl]
      have e : intsV (row rev j ++ [x]) = intsV (row rev j) ++ [.int .i64 (x : Int)] := by simp [intsV]
      rw [e, List.length_append, List.length_singleton]
      exact ⟨hu', ownsRow_setCell_below ho (Nat.lt_succ_self _) _⟩
    · rw [List.getElem?_set_ne (by omega)] at hv
      rw [if_neg hj]
      have h1 := h.rows j v hv
      exact ⟨h1.1, ownsRow_setCell_below (keptr_own g (h.apart y j u v (by omega) hu hv) h1.2) (Nat.lt_succ_self _) _⟩
  · by_cases hi : i = y
    · subst hi
      rw [List.getElem?_set_self hyl] at ha
      rw [List.getElem?_set_ne hij] at hb'
      simp only [Option.some.injEq] at ha
      subst ha
      exact (h.apart i j u b hij hu hb').fresh (h.rows j b hb').2 hf
    · rw [List.getElem?_set_ne (by omega)] at ha
      by_cases hj : j = y
      · subst hj
        rw [List.getElem?_set_self hyl] at hb'
        simp only [Option.some.injEq] at hb'
        subst hb'
        exact ((h.apart j i u a (by omega) hu ha).fresh (h.rows i a ha).2 hf).symm
      · rw [List.getElem?_set_ne (by omega)] at hb'
        exact h.apart i j a b hij ha hb'
theorem TMem.init (w : World) (n : Nat) (hn : n ≤ 4096) : TMem w n (List.replicate n []) (List.replicate n (.slice none 0 0)) (w.alloc (.cells (madeCells #[.slice none 0 0] n) 22)) := by
  have hrow : ∀ j, row (List.replicate n []) j = [] := fun j => by
    unfold row
    rw [List.getD, List.getElem?_replicate]
    split <;> rfl
  refine ⟨(Below.refl _ _).alloc (Nat.le_refl _) _, by simp, own_made w _ n 22 (by unfold maxLen; omega), fun j u hu => ?_, fun i j u v hij hu hv k hk => ?_⟩
  · rw [List.getElem?_replicate] at hu
    split at hu
    · simp only [Option.some.injEq] at hu
      subst hu
      rw [hrow]
      exact ⟨⟨none, 0, rfl⟩, World.ownsRow_nil _ _ _ _⟩
    · cases hu
  · rw [List.getElem?_replicate] at hu
    split at hu
    · simp only [Option.some.injEq] at hu
      subst hu
      simp [Value.ownBlock] at hk
    · cases hu
theorem TMem.rows2 (h : TMem w0 n rev vals w) (hn : rev.length = n) (hm : n ≤ maxLen) : Rows2 w (.slice (some ⟨w0.heap.size, 0, none⟩) n n) rev := by
  subst hn
  refine ⟨_, _, rfl, Nat.le_refl _, hm, fun i l hl => ?_⟩
  have hi := (List.getElem?_eq_some_iff.1 hl).1
  have hlen := h.tab.1
  obtain ⟨u, hu⟩ : ∃ u, vals[i]? = some u := ⟨_, List.getElem?_eq_getElem (by omega)⟩
  have h1 := (h.rows i u hu).2
  have e : row rev i = l := by rw [row_at hi]; exact (List.getElem?_eq_some_iff.1 hl).2
  rw [e] at h1
  exact ⟨_, _, u, rfl, by rw [Nat.zero_add, h.tab.cellAt i (by omega)]; exact hu, Row.of_owns h1⟩
end
end Go.Proofs.Qxb6605452a
