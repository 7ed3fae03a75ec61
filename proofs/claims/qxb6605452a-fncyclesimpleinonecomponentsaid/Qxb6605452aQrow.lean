import Derived.Test.Qxb6605452aDfs
import Derived.ArgAppend
import Derived.BigQuiet
import Derived.Deep.DeepCutAuto
namespace Go.Proofs.Qxb6605452a
open Go.RowKit

/-! ### a slice somewhere in a row of the call's own: what 'q = q[1:]' leaves -/
def QRow (w : World) (base : Nat) (v : Value) (n : Nat) (xs : List Value) : Prop :=
  xs.length = n ∧ ∃ g o cap, v = .slice (some ⟨g, o, none⟩) n cap ∧ base ≤ g ∧ g < w.heap.size ∧ n ≤ cap ∧ cap ≤ maxLen ∧ (∀ j u, xs[j]? = some u → w.cell? ⟨g, o + j, none⟩ = some u) ∧
    ∀ j, j < cap → (w.cell? ⟨g, o + j, none⟩).isSome = true ∧ w.frozen? ⟨g, o + j, none⟩ = false

theorem QRow.lit (w : World) (base : Nat) (x : Value) (hb : base ≤ w.heap.size) : QRow (w.alloc (.cells #[x] 3)) base (.slice (some ⟨w.heap.size, 0, none⟩) 1 1) 1 [x] := by
  refine ⟨rfl, w.heap.size, 0, 1, rfl, hb, by simp, Nat.le_refl _, by unfold maxLen; omega, fun j u hu => ?_, fun j hj => ?_⟩
  · rw [cell_of_row _ w.heap.size (0 + j) _ 3 (0, 0) (heap_last w _)]
    simpa using hu
  · have : j = 0 := by omega
    subst this
    rw [cell_of_row _ w.heap.size (0 + 0) _ 3 (0, 0) (heap_last w _)]
    exact ⟨rfl, frozen_of_row _ w.heap.size 0 #[x] 3 (heap_last w _)⟩

theorem QRow.ofOwn {w : World} {base n : Nat} {v : Value} {xs : List Value} (h : w.ownsRow base 3 1 v n xs) (hn : 0 < n) : QRow w base v n xs := by
  have hl := h.1
  rw [Nat.mul_one] at hl
  have h0 := h
  rcases h.2 with ⟨_, h1⟩ | ⟨g, cap, cur, rfl, h1, h2, h3, h4, h5, h6⟩
  · omega
  · have hg : g < w.heap.size := by
      apply Decidable.byContradiction
      intro hge
      rw [Array.getElem?_eq_none (by omega)] at h2
      cases h2
    refine ⟨hl, g, 0, cap, rfl, h1, hg, h3, h4, fun j u hu => ?_, fun j hj => ?_⟩
    · rw [cell_of_row _ g (0 + j) _ 3 (0, 0) h2, ← Array.getElem?_toList, Nat.zero_add]
      rw [← h6] at hu
      rw [List.getElem?_take] at hu
      split at hu
      · exact hu
      · cases hu
    · rw [cell_of_row _ g (0 + j) _ 3 (0, 0) h2, Nat.zero_add]
      refine ⟨?_, frozen_of_row _ g j cur 3 h2⟩
      rw [Array.getElem?_eq_getElem (by omega)]
      rfl

section
variable {w w' : World} {base n : Nat} {v : Value} {xs : List Value}
theorem QRow.kept (h : QRow w base v n xs) {r : Option Nat} (g : w.grownBy w' r) (hr : v.ownBlock ≠ r) : QRow w' base v n xs := by
  obtain ⟨h0, b, o, cap, rfl, h1, h2, h3, h4, h5, h6⟩ := h
  have hb := g.block b h2 hr
  refine ⟨h0, b, o, cap, rfl, h1, Nat.lt_of_lt_of_le h2 g.size, h3, h4, fun j u hu => ?_, fun j hj => ?_⟩
  · rw [World.cell?_of_block (a := ⟨b, o + j, none⟩) hb]; exact h5 j u hu
  · rw [World.cell?_of_block (a := ⟨b, o + j, none⟩) hb, World.frozen?_of_block (a := ⟨b, o + j, none⟩) hb]; exact h6 j hj
theorem QRow.alloc (h : QRow w base v n xs) (o : Obj) : QRow (w.alloc o) base v n xs :=
  h.kept (World.grownBy_alloc w o none) (by obtain ⟨_, b, o, cap, rfl, _⟩ := h; exact fun e => by cases e)
theorem QRow.ge (h : QRow w base v n xs) {k : Nat} (hk : v.ownBlock = some k) : base ≤ k ∧ k < w.heap.size := by
  obtain ⟨_, b, o, cap, rfl, h1, h2, _⟩ := h
  have : b = k := by simpa [Value.ownBlock] using hk
  subst this
  exact ⟨h1, h2⟩
/-- The first goes. -/
theorem QRow.tail {x : Value} {g o n cap : Nat} (h : QRow w base (.slice (some ⟨g, o, none⟩) (n + 1) cap) (n + 1) (x :: xs)) : ∃ o', (if cap = 1 then some (⟨g, o, none⟩ : Addr) else (some (⟨g, o, none⟩ : Addr)).map (·.add 1)) = some ⟨g, o', none⟩ ∧ QRow w base (.slice (some ⟨g, o', none⟩) n (cap - 1)) n xs := by
  obtain ⟨h0, b, o', cap', hv, h1, h2, h3, h4, h5, h6⟩ := h
  simp only [Value.slice.injEq, Option.some.injEq, Addr.mk.injEq, and_true, true_and] at hv
  obtain ⟨⟨rfl, rfl⟩, rfl⟩ := hv
  simp only [List.length_cons, Nat.add_right_cancel_iff] at h0
  by_cases hc : cap = 1
  · subst hc
    have hn : n = 0 := by omega
    subst hn
    refine ⟨o, by simp, h0, g, o, 0, rfl, h1, h2, Nat.le_refl _, Nat.zero_le _, fun j u hu => ?_, fun j hj => by omega⟩
    rw [List.length_eq_zero_iff.1 h0] at hu
    simp at hu
  · refine ⟨o + 1, by rw [if_neg hc]; simp [Addr.add_lit], h0, g, o + 1, cap - 1, rfl, h1, h2, by omega, by omega, fun j u hu => ?_, fun j hj => ?_⟩
    · have := h5 (j + 1) u (by simpa using hu)
      rw [show o + 1 + j = o + (j + 1) by omega]
      exact this
    · have := h6 (j + 1) (by omega)
      rw [show o + 1 + j = o + (j + 1) by omega]
      exact this
end

/-- One more at the end. -/
theorem wpList_append_q {P : Program} (w : World) {ops : Array Oper} {rest : List Oper} {o : Oper} {a : Act} {Q : Exit → Act → World → Prop}
    (hg : o.guard = none) (s x : Operand) (t : TypeId) (hop : o.op = Op.call { callee := Callee.builtin Builtin.append, args := #[s, x], argTypes := #[t, t] })
    (i : TypeInfo) (z : Value) (bytes : Nat) (h1 : P.underlying t = some (.slice 3)) (h2 : P.info? 3 = some i) (h3 : i.zero = some z) (h4 : i.size = 1) (h5 : i.bytes = bytes) (h6 : z.cells.size = 1)
    (base : Nat) (hbase : base ≤ w.heap.size) (v : Value) (n : Nat) (xs : List Value) (hs : a.eval s = v) (hq : QRow w base v n xs)
    (b0 : Nat) (u : Value) (hx : a.eval x = .slice (some ⟨b0, 0, none⟩) 1 1) (hu : w.cell? ⟨b0, 0, none⟩ = some u) (hu1 : u.oneCell' = true)
    (b1 : n + 1 ≤ maxLen) (b2 : (n + 1) * bytes ≤ 140737488355328)
    (h : ∀ v' w', QRow w' base v' (n + 1) (xs ++ [u]) → w.grownBy w' v.ownBlock → wpList P ops Q rest (a.put o.dst v') w') : wpList P ops Q (o :: rest) a w := by
  obtain ⟨h0, g, off, cap, rfl, q1, q2, q3, q4, q5, q6⟩ := hq
  refine wpList_append_arg w hg s x t hop 3 i z 1 bytes h1 h2 h3 h4 h5 h6 (by decide) g off n cap xs hs (by rw [h0, Nat.mul_one]) q5 ⟨b0, 0, none⟩ 1 1 [u] hx rfl ?_ ?_ ?_ b1 b2 ?_ ?_
  · intro j y hy
    cases j with
    | zero => simp at hy; subst hy; exact hu
    | succ j => simp at hy
  · intro y hy
    simp at hy
    subst hy
    exact hu1
  · intro hroom j hj
    simp at hj
    subst hj
    have := q6 n (by omega)
    simpa using this
  · intro hroom
    have e : w.setCells g (off + n * 1) [u] = w.setCell ⟨g, off + n, none⟩ u := by rw [Nat.mul_one]; rfl
    rw [e]
    have hc := (q6 n (by omega)).1
    obtain ⟨u0, hu0⟩ := Option.isSome_iff_exists.1 hc
    refine h _ _ ⟨by simp [h0], g, off, cap, rfl, q1, by simpa using q2, by omega, q4, fun j y hy => ?_, fun j hj => ?_⟩ (grown_setCell w _ _)
    · by_cases hj : j < n
      · rw [List.getElem?_append_left (by omega)] at hy
        rw [World.cell?_setCell_other _ _ _ _ (by simp; try omega)]
        exact q5 j y hy
      · have hje : j = n := by
          have := (List.getElem?_eq_some_iff.1 hy).1
          simp at this
          omega
        subst hje
        rw [List.getElem?_append_right (by omega), h0, Nat.sub_self] at hy
        simp at hy
        subst hy
        exact World.cell?_setCell_same w _ _ hu0
    · rw [World.frozen?_setCell]
      refine ⟨?_, (q6 j hj).2⟩
      by_cases hjn : j = n
      · subst hjn
        rw [World.cell?_setCell_same w _ _ hu0]
        rfl
      · rw [World.cell?_setCell_other _ _ _ _ (by simp; try omega)]
        exact (q6 j hj).1
  · intro hcap v' w' hown hgr
    have h7 := QRow.ofOwn hown (by omega)
    obtain ⟨k0, g', o', c', rfl, k1, k2, k3⟩ := h7
    exact h _ _ ⟨k0, g', o', c', rfl, by omega, k2, k3⟩ ⟨hgr.os, hgr.tape, hgr.output, hgr.size, fun k hk _ => hgr.block k hk (by simp)⟩

/-! ### the memory of the walk in breadth: the parents, the queue -/
structure QMem (w0 : World) (B n : Nat) (par : Nat → Nat) (L : List Nat) (vq : Value) (w : World) : Prop where
  bel : Below B w0 w
  big : B + 1 ≤ w.heap.size
  pr : w.ownsRow B 3 1 (.slice (some ⟨B, 0, none⟩) n n) n (tabZ n (dsc par))
  qr : QRow w (B + 1) vq L.length (intsV L)
section
variable {w0 w w' : World} {B n : Nat} {par : Nat → Nat} {L : List Nat} {vq : Value}
theorem QMem.parAt (h : QMem w0 B n par L vq w) {x : Nat} (hx : x < n) : w.cell? ⟨B, x, none⟩ = some (.int .i64 (dsc par x)) ∧ w.frozen? ⟨B, x, none⟩ = false :=
  ⟨by rw [h.pr.cellAt x (by omega)]; exact tabZ_get _ hx, h.pr.frozenAt x⟩
theorem QMem.setPar (h : QMem w0 B n par L vq w) (x v : Nat) : QMem w0 B n (upd par x (v + 1)) L vq (w.setCell ⟨B, x, none⟩ (.int .i64 (v : Int))) := by
  have g : w.grownBy (w.setCell ⟨B, x, none⟩ (.int .i64 (v : Int))) (some B) := grown_setCell w ⟨B, x, none⟩ (.int .i64 (v : Int))
  exact ⟨h.bel.setCell (Nat.le_refl _) _, by simpa using h.big, by have h5 := (h.pr.stored x (.int .i64 (v : Int))).1; rw [tabZ_set, dsc_upd] at h5; exact h5,
    h.qr.kept g (fun e => by have := (h.qr.ge e).1; omega)⟩
theorem QMem.alloc (h : QMem w0 B n par L vq w) (o : Obj) : QMem w0 B n par L vq (w.alloc o) := by
  have g : w.grownBy (w.alloc o) none := World.grownBy_alloc w o none
  have hb := h.big
  exact ⟨h.bel.alloc (by omega) _, by simp; omega, keptr_row g (fun e => by cases e) h.pr, h.qr.alloc o⟩
theorem QMem.push (h : QMem w0 B n par L vq w) {vq' : Value} {x : Nat} (hq : QRow w' (B + 1) vq' (L.length + 1) (intsV L ++ [.int .i64 (x : Int)])) (g : w.grownBy w' vq.ownBlock) : QMem w0 B n par (L ++ [x]) vq' w' := by
  have hb := h.big
  have hr : ∀ k, k < B + 1 → vq.ownBlock ≠ some k := fun k hk e => by have := (h.qr.ge e).1; omega
  refine ⟨h.bel.grown g (by omega) (fun k hk => by have := (h.qr.ge hk).1; omega), Nat.le_trans h.big g.size, keptr_row g (hr _ (by omega)) h.pr, ?_⟩
  rw [List.length_append, show intsV (L ++ [x]) = intsV L ++ [.int .i64 (x : Int)] by simp [intsV]]
  exact hq
theorem QMem.drew (h : QMem w0 B n par L vq w) (k : Nat) : QMem w0 B n par L vq (w.drewN k) := ⟨⟨h.bel.os, h.bel.tape, h.bel.output, h.bel.size, h.bel.block⟩, h.big, h.pr, h.qr⟩
end
end Go.Proofs.Qxb6605452a
