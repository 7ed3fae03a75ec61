import Derived.Test.Qxb6605452aVisit
import Derived.Test.Qxb6605452aSteps
namespace Go.Proofs.Qxb6605452a
open Go.RowKit

section
variable {w0 : World} {B n : Nat} {s : St} {vc vs sz wk : Value} {w w' : World}

/-- 'f.next++' -/
theorem Mem.walkNext {g c v i : Nat} {W : List (Nat × Nat)} (h : Mem w0 B n s vc vs sz (.slice (some ⟨g, 0, none⟩) (W.length + 1) c) w) (hw : s.wlk = (v, i) :: W) (j : Nat) :
    Mem w0 B n { s with wlk := (v, j) :: W } vc vs sz (.slice (some ⟨g, 0, none⟩) (W.length + 1) c) (w.setCell ⟨g, W.length * 2 + 1, none⟩ (.int .i64 (j : Int))) := by
  have gr : w.grownBy (w.setCell ⟨g, W.length * 2 + 1, none⟩ (.int .i64 (j : Int))) (some g) := grown_setCell w ⟨g, W.length * 2 + 1, none⟩ _
  have hb := h.big
  have hg := h.rwk.lt g rfl
  have hr : ∀ k, k < B + 9 → (some g : Option Nat) ≠ some k := fun k hk e => by simp at e; omega
  have hwk := h.rwk
  rw [hw] at hwk
  have h5 := (hwk.stored (W.length * 2 + 1) (.int .i64 (j : Int))).1
  have e : (frV ((v, i) :: W).reverse).set (W.length * 2 + 1) (.int .i64 (j : Int)) = frV ((v, j) :: W).reverse := by
    rw [List.reverse_cons, List.reverse_cons]
    have := frV_setNext W.reverse v i j
    rw [List.length_reverse] at this
    exact this
  rw [e] at h5
  refine ⟨h.bel.setCell (by show B ≤ g; omega) _, by simpa using h.big, keptr_row gr (hr _ (by omega)) h.ix,
    keptr_cell gr (hr _ (by omega)) h.ixv,
    keptr_row gr (hr _ (by omega)) h.lw,
    keptr_cell gr (hr _ (by omega)) h.lwv,
    keptr_row gr (hr _ (by omega)) h.on,
    keptr_cell gr (hr _ (by omega)) h.onv,
    keptr_row gr (hr _ (by omega)) h.cp,
    keptr_cell gr (hr _ (by omega)) h.stv,
    keptr_frozen gr (hr _ (by omega)) (by omega) h.stf,
    keptr_cell gr (hr _ (by omega)) h.vv,
    keptr_frozen gr (hr _ (by omega)) (by omega) h.vf,
    kept_own gr (fun e => h.a2 g e rfl) h.rst, kept_own gr (fun e => h.a3 g e rfl) h.rsz, h5, h.a1, h.a2, h.a3⟩
theorem Mem.walkPop {g c v i : Nat} {W : List (Nat × Nat)} (h : Mem w0 B n s vc vs sz (.slice (some ⟨g, 0, none⟩) (W.length + 1) c) w) (hw : s.wlk = (v, i) :: W) :
    Mem w0 B n { s with wlk := W } vc vs sz (.slice (some ⟨g, 0, none⟩) W.length c) w := by
  have hwk := h.rwk
  rw [hw, List.reverse_cons, frV_app] at hwk
  exact ⟨h.bel, h.big, h.ix, h.ixv, h.lw, h.lwv, h.on, h.onv, h.cp, h.stv, h.stf, h.vv, h.vf, h.rst, h.rsz, ownsRow_pop (by rw [frV_length, List.length_reverse]) hwk, h.a1, fun k hk hv => h.a2 k hk hv, fun k hk hv => h.a3 k hk hv⟩
theorem Mem.stackPop {g c x : Nat} {Q : List Nat} (h : Mem w0 B n s vc (.slice (some ⟨g, 0, none⟩) (Q.length + 1) c) sz wk w) (hw : s.stk = x :: Q) :
    Mem w0 B n { s with stk := Q } vc (.slice (some ⟨g, 0, none⟩) Q.length c) sz wk w := by
  have hst := h.rst
  rw [hw, List.reverse_cons, show intsV (Q.reverse ++ [x]) = intsV Q.reverse ++ [.int .i64 (x : Int)] by simp [intsV]] at hst
  exact ⟨h.bel, h.big, h.ix, h.ixv, h.lw, h.lwv, h.on, h.onv, h.cp, h.stv, h.stf, h.vv, h.vf, ownsRow_pop (by rw [intsV_length, List.length_reverse, Nat.mul_one]) hst, h.rsz, h.rwk, fun k hk hv => h.a1 k hk hv, fun k hk hv => h.a2 k hk hv, h.a3⟩
theorem Mem.sizeSet {g c m : Nat} (h : Mem w0 B n s vc vs (.slice (some ⟨g, 0, none⟩) m c) wk w) (hm : m = s.size.length) (j x : Nat) :
    Mem w0 B n { s with size := s.size.set j x } vc vs (.slice (some ⟨g, 0, none⟩) m c) wk (w.setCell ⟨g, j, none⟩ (.int .i64 (x : Int))) := by
  have gr : w.grownBy (w.setCell ⟨g, j, none⟩ (.int .i64 (x : Int))) (some g) := grown_setCell w ⟨g, j, none⟩ _
  have hb := h.big
  have hg := h.rsz.lt g rfl
  have hr : ∀ k, k < B + 9 → (some g : Option Nat) ≠ some k := fun k hk e => by simp at e; omega
  have hsz := h.rsz
  rw [← hm] at hsz
  have h5 := (hsz.stored j (.int .i64 (x : Int))).1
  rw [intsV_set] at h5
  refine ⟨h.bel.setCell (by show B ≤ g; omega) _, by simpa using h.big, keptr_row gr (hr _ (by omega)) h.ix,
    keptr_cell gr (hr _ (by omega)) h.ixv,
    keptr_row gr (hr _ (by omega)) h.lw,
    keptr_cell gr (hr _ (by omega)) h.lwv,
    keptr_row gr (hr _ (by omega)) h.on,
    keptr_cell gr (hr _ (by omega)) h.onv,
    keptr_row gr (hr _ (by omega)) h.cp,
    keptr_cell gr (hr _ (by omega)) h.stv,
    keptr_frozen gr (hr _ (by omega)) (by omega) h.stf,
    keptr_cell gr (hr _ (by omega)) h.vv,
    keptr_frozen gr (hr _ (by omega)) (by omega) h.vf,
    kept_own gr (fun e => h.a1 g e rfl) h.rst, ?_, kept_own gr (fun e => h.a3.symm g e rfl) h.rwk, h.a1, h.a2, h.a3⟩
  show (w.setCell ⟨g, j, none⟩ (.int .i64 (x : Int))).ownsRow (B + 9) 3 1 _ (s.size.set j x).length _
  rw [List.length_set, ← hm]
  exact h5
/-- The walk has been emptied: its slice is of no more use. -/
theorem Mem.dropWalk (h : Mem w0 B n s vc vs sz wk w) (hw : s.wlk = []) : Mem w0 B n s vc vs sz (.slice none 0 0) w := by
  have hnil : w.ownsRow (B + 9) 53 2 (.slice none 0 0) s.wlk.length (frV s.wlk.reverse) := by rw [hw]; exact World.ownsRow_nil w (B + 9) 53 2
  exact ⟨h.bel, h.big, h.ix, h.ixv, h.lw, h.lwv, h.on, h.onv, h.cp, h.stv, h.stf, h.vv, h.vf, h.rst, h.rsz, hnil, h.a1, fun k _ hv => by simp [Value.ownBlock] at hv, fun k _ hv => by simp [Value.ownBlock] at hv⟩
/-- 'walk := []frame{{root, 0}}' -/
theorem Mem.startWalk (h : Mem w0 B n s vc vs sz wk w) (r : Nat) :
    Mem w0 B n { s with wlk := [(r, 0)] } vc vs sz (.slice (some ⟨w.heap.size, 0, none⟩) 1 1) (w.alloc (.cells #[.int .i64 (r : Int), .int .i64 0] 53)) := by
  have h1 := h.alloc (.cells #[.int .i64 (r : Int), .int .i64 0] 53)
  have h2 : (w.alloc (.cells #[.int .i64 (r : Int), .int .i64 0] 53)).ownsRow (B + 9) 53 2 (.slice (some ⟨w.heap.size, 0, none⟩) 1 1) 1 (frV [(r, 0)]) :=
    World.ownsRow_lit w #[.int .i64 (r : Int), .int .i64 0] 1 h.big (by unfold maxLen; omega) rfl
  refine ⟨h1.bel, h1.big, h1.ix, h1.ixv, h1.lw, h1.lwv, h1.on, h1.onv, h1.cp, h1.stv, h1.stf, h1.vv, h1.vf, h1.rst, h1.rsz, h2, h1.a1, ?_, ?_⟩
  · intro k hk hv
    simp [Value.ownBlock] at hv
    have := (h.rst.lt k hk).2
    omega
  · intro k hk hv
    simp [Value.ownBlock] at hv
    have := (h.rsz.lt k hk).2
    omega
end

theorem tabI_zero (n : Nat) : tabI n (fun _ => 0) = (madeCells #[Value.int .i64 0] n).toList := by
  rw [toList_madeCells_one]
  simp [tabI, List.map_const']
theorem tabB_zero (n : Nat) : tabB n (fun _ => false) = (madeCells #[Value.bool false] n).toList := by
  rw [toList_madeCells_one]
  simp [tabB, List.map_const']

/-- The world as 'components' has laid it ahead of its loops. -/
def W9 (w : World) (n : Nat) : World :=
  ((((((((w.alloc (.cells (madeCells #[.int .i64 0] n) 3)).alloc (.cells #[.slice (some ⟨w.heap.size, 0, none⟩) n n] 22)).alloc (.cells (madeCells #[.int .i64 0] n) 3)).alloc
    (.cells #[.slice (some ⟨w.heap.size + 2, 0, none⟩) n n] 22)).alloc (.cells (madeCells #[.bool false] n) 4)).alloc (.cells #[.slice (some ⟨w.heap.size + 4, 0, none⟩) n n] 32)).alloc
    (.cells (madeCells #[.int .i64 0] n) 3)).alloc (.cells #[.slice none 0 0] 22)).alloc (.cells #[.int .i64 0] 3)

theorem own_lit' (w : World) (base e : Nat) (z : Value) (n : Nat) (hb : base ≤ w.heap.size) (hn : n ≤ maxLen) (b : Nat) (hbb : b = w.heap.size) :
    (w.alloc (.cells (madeCells #[z] n) e)).ownsRow base e 1 (.slice (some ⟨b, 0, none⟩) n n) n (madeCells #[z] n).toList := by
  subst hbb
  exact World.ownsRow_lit w (madeCells #[z] n) n hb hn (by simp [madeCells])

theorem heap_last (w : World) (o : Obj) : (w.alloc o).heap[w.heap.size]? = some o := by
  show (w.heap.push o)[w.heap.size]? = _
  rw [Array.getElem?_push, if_pos rfl]
theorem lit_cell (w : World) (x : Value) (e b : Nat) (hb : b = w.heap.size) : (w.alloc (.cells #[x] e)).cell? ⟨b, 0, none⟩ = some x := by
  subst hb
  rw [cell_of_row _ w.heap.size 0 #[x] e (0, 0) (heap_last w _)]
  rfl
theorem lit_frozen (w : World) (x : Value) (e b : Nat) (hb : b = w.heap.size) : (w.alloc (.cells #[x] e)).frozen? ⟨b, 0, none⟩ = false := by
  subst hb
  exact frozen_of_row _ w.heap.size 0 #[x] e (heap_last w _)
theorem on_cell {w : World} {a : Addr} {v : Value} (h : w.cell? a = some v) (o : Obj) : (w.alloc o).cell? a = some v :=
  (World.cell?_alloc_lt w o a (World.block_lt_of_cell? _ _ h)).trans h
theorem on_frozen {w : World} {b o : Nat} (h : w.frozen? ⟨b, o, none⟩ = false) (hb : b < w.heap.size) (ob : Obj) : (w.alloc ob).frozen? ⟨b, o, none⟩ = false :=
  (World.frozen?_of_block (w := w) (Below.heap_alloc w ob b hb)).trans h

theorem Mem.init (w : World) (n : Nat) (hn : n ≤ 4096) : Mem w w.heap.size n st0 (.slice none 0 0) (.slice none 0 0) (.slice none 0 0) (.slice none 0 0) (W9 w n) := by
  have hm : n ≤ maxLen := by unfold maxLen; omega
  refine ⟨?_, ?_, ?_, ?_, ?_, ?_, ?_, ?_, ?_, ?_, ?_, ?_, ?_, World.ownsRow_nil _ _ _ _, World.ownsRow_nil _ _ _ _, World.ownsRow_nil _ _ _ _, ?_, ?_, ?_⟩
  · unfold W9
    repeat (refine Below.alloc ?_ (by simp; try omega) _)
    exact Below.refl _ _
  · simp [W9]
  · show (W9 w n).ownsRow w.heap.size 3 1 _ n (tabI n fun _ => 0)
    rw [tabI_zero]
    exact (((((((((own_lit' w w.heap.size 3 (.int .i64 0) n (Nat.le_refl _) hm _ rfl).alloc _).alloc _).alloc _).alloc _).alloc _).alloc _).alloc _).alloc _)
  · exact on_cell (on_cell (on_cell (on_cell (on_cell (on_cell (on_cell (lit_cell _ _ _ _ (by simp)) _) _) _) _) _) _) _
  · show (W9 w n).ownsRow w.heap.size 3 1 _ n (tabI n fun _ => 0)
    rw [tabI_zero]
    exact (((((((own_lit' _ w.heap.size 3 (.int .i64 0) n (by simp; omega) hm _ (by simp)).alloc _).alloc _).alloc _).alloc _).alloc _).alloc _)
  · exact on_cell (on_cell (on_cell (on_cell (on_cell (lit_cell _ _ _ _ (by simp)) _) _) _) _) _
  · show (W9 w n).ownsRow w.heap.size 4 1 _ n (tabB n fun _ => false)
    rw [tabB_zero]
    exact (((((own_lit' _ w.heap.size 4 (.bool false) n (by simp; omega) hm _ (by simp)).alloc _).alloc _).alloc _).alloc _)
  · exact on_cell (on_cell (on_cell (lit_cell _ _ _ _ (by simp)) _) _) _
  · show (W9 w n).ownsRow w.heap.size 3 1 _ n (tabI n fun _ => 0)
    rw [tabI_zero]
    exact (((own_lit' _ w.heap.size 3 (.int .i64 0) n (by simp; omega) hm _ (by simp)).alloc _).alloc _)
  · exact on_cell (lit_cell _ _ _ _ (by simp)) _
  · exact on_frozen (lit_frozen _ _ _ _ (by simp)) (by simp) _
  · exact lit_cell _ _ _ _ (by simp)
  · exact lit_frozen _ _ _ _ (by simp)
  · intro k hk; simp [Value.ownBlock] at hk
  · intro k hk; simp [Value.ownBlock] at hk
  · intro k hk; simp [Value.ownBlock] at hk
end Go.Proofs.Qxb6605452a
