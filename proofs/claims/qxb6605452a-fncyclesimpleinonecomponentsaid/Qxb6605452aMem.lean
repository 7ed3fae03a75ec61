import Derived.Test.Qxb6605452aRows
import Derived.Test.Qxb6605452aGen
import Derived.Test.Qxb6605452aTarjan
namespace Go.Proofs.Qxb6605452a
open Go.RowKit

/-! ### tables as cells -/
def tabI (n : Nat) (f : Nat → Nat) : List Value := (List.range n).map fun i => .int .i64 (f i : Int)
def tabB (n : Nat) (f : Nat → Bool) : List Value := (List.range n).map fun i => .bool (f i)
def intsV (l : List Nat) : List Value := l.map fun x : Nat => Value.int .i64 (x : Int)
def frV (l : List (Nat × Nat)) : List Value := l.flatMap fun p => [.int .i64 (p.1 : Int), .int .i64 (p.2 : Int)]

theorem tabI_length (n : Nat) (f : Nat → Nat) : (tabI n f).length = n := by simp [tabI]
theorem tabB_length (n : Nat) (f : Nat → Bool) : (tabB n f).length = n := by simp [tabB]
theorem intsV_length (l : List Nat) : (intsV l).length = l.length := by simp [intsV]
theorem tabI_get {n i : Nat} (f : Nat → Nat) (h : i < n) : (tabI n f)[i]? = some (.int .i64 (f i : Int)) := by simp [tabI, h]
theorem tabB_get {n i : Nat} (f : Nat → Bool) (h : i < n) : (tabB n f)[i]? = some (.bool (f i)) := by simp [tabB, h]
theorem intsV_get {l : List Nat} {i x : Nat} (h : l[i]? = some x) : (intsV l)[i]? = some (.int .i64 (x : Int)) := by simp [intsV, h]
theorem tab_set {α : Type} (c : α → Value) (n : Nat) (f : Nat → α) (j : Nat) (x : α) : ((List.range n).map fun i => c (f i)).set j (c x) = (List.range n).map fun i => c (upd f j x i) := by
  apply List.ext_getElem?
  intro i
  by_cases hi : i < n
  · by_cases e : i = j
    · subst e
      rw [List.getElem?_set_self (by simpa using hi)]
      simp [hi, upd_same]
    · rw [List.getElem?_set_ne (fun h => e h.symm)]
      simp [hi, upd_ne _ _ _ e]
  · rw [List.getElem?_eq_none (by simp; omega), List.getElem?_eq_none (by simp; omega)]
theorem tabI_set (n : Nat) (f : Nat → Nat) (j x : Nat) : (tabI n f).set j (.int .i64 (x : Int)) = tabI n (upd f j x) := tab_set (fun x : Nat => Value.int .i64 (x : Int)) n f j x
theorem tabB_set (n : Nat) (f : Nat → Bool) (j : Nat) (x : Bool) : (tabB n f).set j (.bool x) = tabB n (upd f j x) := tab_set Value.bool n f j x
theorem intsV_set (l : List Nat) (j x : Nat) : (intsV l).set j (.int .i64 (x : Int)) = intsV (l.set j x) := by simp [intsV, List.map_set]
theorem intsV_one (l : List Nat) : ∀ u ∈ intsV l, u.oneCell' = true := by
  intro u hu
  obtain ⟨_, _, rfl⟩ := List.mem_map.1 hu
  rfl
theorem frV_length (l : List (Nat × Nat)) : (frV l).length = l.length * 2 := by
  induction l with
  | nil => rfl
  | cons p r ih => simp only [frV, List.flatMap_cons, List.length_append, List.length_cons, List.length_nil] at ih ⊢; omega
theorem frV_get {l : List (Nat × Nat)} {k : Nat} {p : Nat × Nat} (hp : l[k]? = some p) : (frV l)[k * 2]? = some (.int .i64 (p.1 : Int)) ∧ (frV l)[k * 2 + 1]? = some (.int .i64 (p.2 : Int)) := by
  induction l generalizing k with
  | nil => simp at hp
  | cons q r ih =>
    cases k with
    | zero => simp at hp; subst hp; simp [frV]
    | succ k =>
      simp at hp
      have h := ih hp
      have e1 : (k + 1) * 2 = k * 2 + 1 + 1 := by omega
      simp only [frV, List.flatMap_cons, e1] at h ⊢
      exact ⟨by simpa using h.1, by simpa using h.2⟩
theorem frV_app (l k : List (Nat × Nat)) : frV (l ++ k) = frV l ++ frV k := by simp [frV]
theorem frV_setNext (l : List (Nat × Nat)) (v i j : Nat) : (frV (l ++ [(v, i)])).set (l.length * 2 + 1) (.int .i64 (j : Int)) = frV (l ++ [(v, j)]) := by
  rw [frV_app, frV_app, List.set_append_right _ _ (by rw [frV_length]; omega)]
  congr 1
  rw [frV_length, show l.length * 2 + 1 - l.length * 2 = 1 by omega]
  rfl

/-! ### worlds -/
theorem grown_setCell (w : World) (a : Addr) (u : Value) : w.grownBy (w.setCell a u) (some a.block) :=
  ⟨rfl, rfl, rfl, by simp, fun k _ hk => Below.heap_setCell w a u k (fun e => hk (by rw [e]))⟩
theorem grown_drew (w : World) (r : Option Nat) : w.grownBy w.drew r := ⟨rfl, rfl, rfl, Nat.le_refl _, fun _ _ _ => rfl⟩

def Apart (v u : Value) : Prop := ∀ k, v.ownBlock = some k → u.ownBlock ≠ some k
theorem Apart.symm {v u : Value} (h : Apart v u) : Apart u v := fun k hk hu => h k hu hk

/-- What the memory of 'components' holds while its loops run. -/
structure Mem (w0 : World) (B n : Nat) (s : St) (vc vs sz wk : Value) (w : World) : Prop where
  bel : Below B w0 w
  big : B + 9 ≤ w.heap.size
  ix : w.ownsRow B 3 1 (.slice (some ⟨B, 0, none⟩) n n) n (tabI n s.idx)
  ixv : w.cell? ⟨B + 1, 0, none⟩ = some (.slice (some ⟨B, 0, none⟩) n n)
  lw : w.ownsRow B 3 1 (.slice (some ⟨B + 2, 0, none⟩) n n) n (tabI n s.low)
  lwv : w.cell? ⟨B + 3, 0, none⟩ = some (.slice (some ⟨B + 2, 0, none⟩) n n)
  on : w.ownsRow B 4 1 (.slice (some ⟨B + 4, 0, none⟩) n n) n (tabB n s.ons)
  onv : w.cell? ⟨B + 5, 0, none⟩ = some (.slice (some ⟨B + 4, 0, none⟩) n n)
  cp : w.ownsRow B 3 1 (.slice (some ⟨B + 6, 0, none⟩) n n) n (tabI n s.comp)
  stv : w.cell? ⟨B + 7, 0, none⟩ = some vc
  stf : w.frozen? ⟨B + 7, 0, none⟩ = false
  vv : w.cell? ⟨B + 8, 0, none⟩ = some (.int .i64 (s.vis : Int))
  vf : w.frozen? ⟨B + 8, 0, none⟩ = false
  rst : w.ownsRow (B + 9) 3 1 vs s.stk.length (intsV s.stk.reverse)
  rsz : w.ownsRow (B + 9) 3 1 sz s.size.length (intsV s.size)
  rwk : w.ownsRow (B + 9) 53 2 wk s.wlk.length (frV s.wlk.reverse)
  a1 : Apart vs sz
  a2 : Apart vs wk
  a3 : Apart sz wk

section
variable {w0 : World} {B n : Nat} {s : St} {vc vs sz wk : Value} {w w' : World}

theorem own_ne {base e size n : Nat} {v : Value} {xs : List Value} (h : w.ownsRow base e size v n xs) {k : Nat} (hk : k < base) : v.ownBlock = none ∨ v.ownBlock ≠ some k :=
  .inr fun hv => by have := (h.lt k hv).1; omega
theorem kept_cell {k : Nat} (g : w.grownBy w' (some k)) {b o : Nat} {u : Value} (hb : b ≠ k) (h : w.cell? ⟨b, o, none⟩ = some u) : w'.cell? ⟨b, o, none⟩ = some u :=
  g.cell h (by simp; exact hb)
theorem kept_frozen {k : Nat} (g : w.grownBy w' (some k)) {b o : Nat} (hb : b ≠ k) (hs : b < w.heap.size) (h : w.frozen? ⟨b, o, none⟩ = false) : w'.frozen? ⟨b, o, none⟩ = false :=
  (World.frozen?_of_block (w := w) (g.block b hs (by simp; exact hb))).trans h
theorem kept_row {k : Nat} (g : w.grownBy w' (some k)) {b base e size m c m' : Nat} {xs : List Value} (hb : b ≠ k) (h : w.ownsRow base e size (.slice (some ⟨b, 0, none⟩) m c) m' xs) : w'.ownsRow base e size (.slice (some ⟨b, 0, none⟩) m c) m' xs :=
  h.kept g (.inr (by simp [Value.ownBlock]; exact hb))
theorem kept_own {k base e size m : Nat} {v : Value} {xs : List Value} (g : w.grownBy w' (some k)) (hk : v.ownBlock ≠ some k) (h : w.ownsRow base e size v m xs) : w'.ownsRow base e size v m xs :=
  h.kept g (.inr hk)
theorem own_lt {base e size m : Nat} {v : Value} {xs : List Value} (h : w.ownsRow base e size v m xs) {k : Nat} (hk : k < base) : v.ownBlock ≠ some k := fun hv => by have := (h.lt k hv).1; omega
theorem Mem.setIdx (h : Mem w0 B n s vc vs sz wk w) (v x : Nat) : Mem w0 B n { s with idx := upd s.idx v x } vc vs sz wk (w.setCell ⟨B, v, none⟩ (.int .i64 (x : Int))) := by
  have g : w.grownBy (w.setCell ⟨B, v, none⟩ (.int .i64 (x : Int))) (some (B)) := grown_setCell w ⟨B, v, none⟩ (.int .i64 (x : Int))
  have hb := h.big
  refine ⟨h.bel.setCell (by show B ≤ B; omega) _, by simpa using h.big, by have h5 := (h.ix.stored v (.int .i64 (x : Int))).1; rw [tabI_set] at h5; exact h5,
    kept_cell g (by omega) h.ixv,
    kept_row g (by omega) h.lw,
    kept_cell g (by omega) h.lwv,
    kept_row g (by omega) h.on,
    kept_cell g (by omega) h.onv,
    kept_row g (by omega) h.cp,
    kept_cell g (by omega) h.stv,
    kept_frozen g (by omega) (by omega) h.stf,
    kept_cell g (by omega) h.vv,
    kept_frozen g (by omega) (by omega) h.vf,
    kept_own g (own_lt h.rst (by omega)) h.rst,
    kept_own g (own_lt h.rsz (by omega)) h.rsz,
    kept_own g (own_lt h.rwk (by omega)) h.rwk,
    h.a1,
    h.a2,
    h.a3⟩
theorem Mem.setLow (h : Mem w0 B n s vc vs sz wk w) (v x : Nat) : Mem w0 B n { s with low := upd s.low v x } vc vs sz wk (w.setCell ⟨B + 2, v, none⟩ (.int .i64 (x : Int))) := by
  have g : w.grownBy (w.setCell ⟨B + 2, v, none⟩ (.int .i64 (x : Int))) (some (B + 2)) := grown_setCell w ⟨B + 2, v, none⟩ (.int .i64 (x : Int))
  have hb := h.big
  refine ⟨h.bel.setCell (by show B ≤ B + 2; omega) _, by simpa using h.big, kept_row g (by omega) h.ix,
    kept_cell g (by omega) h.ixv,
    by have h5 := (h.lw.stored v (.int .i64 (x : Int))).1; rw [tabI_set] at h5; exact h5,
    kept_cell g (by omega) h.lwv,
    kept_row g (by omega) h.on,
    kept_cell g (by omega) h.onv,
    kept_row g (by omega) h.cp,
    kept_cell g (by omega) h.stv,
    kept_frozen g (by omega) (by omega) h.stf,
    kept_cell g (by omega) h.vv,
    kept_frozen g (by omega) (by omega) h.vf,
    kept_own g (own_lt h.rst (by omega)) h.rst,
    kept_own g (own_lt h.rsz (by omega)) h.rsz,
    kept_own g (own_lt h.rwk (by omega)) h.rwk,
    h.a1,
    h.a2,
    h.a3⟩
theorem Mem.setOn (h : Mem w0 B n s vc vs sz wk w) (v : Nat) (x : Bool) : Mem w0 B n { s with ons := upd s.ons v x } vc vs sz wk (w.setCell ⟨B + 4, v, none⟩ (.bool x)) := by
  have g : w.grownBy (w.setCell ⟨B + 4, v, none⟩ (.bool x)) (some (B + 4)) := grown_setCell w ⟨B + 4, v, none⟩ (.bool x)
  have hb := h.big
  refine ⟨h.bel.setCell (by show B ≤ B + 4; omega) _, by simpa using h.big, kept_row g (by omega) h.ix,
    kept_cell g (by omega) h.ixv,
    kept_row g (by omega) h.lw,
    kept_cell g (by omega) h.lwv,
    by have h5 := (h.on.stored v (.bool x)).1; rw [tabB_set] at h5; exact h5,
    kept_cell g (by omega) h.onv,
    kept_row g (by omega) h.cp,
    kept_cell g (by omega) h.stv,
    kept_frozen g (by omega) (by omega) h.stf,
    kept_cell g (by omega) h.vv,
    kept_frozen g (by omega) (by omega) h.vf,
    kept_own g (own_lt h.rst (by omega)) h.rst,
    kept_own g (own_lt h.rsz (by omega)) h.rsz,
    kept_own g (own_lt h.rwk (by omega)) h.rwk,
    h.a1,
    h.a2,
    h.a3⟩
theorem Mem.setComp (h : Mem w0 B n s vc vs sz wk w) (v x : Nat) : Mem w0 B n { s with comp := upd s.comp v x } vc vs sz wk (w.setCell ⟨B + 6, v, none⟩ (.int .i64 (x : Int))) := by
  have g : w.grownBy (w.setCell ⟨B + 6, v, none⟩ (.int .i64 (x : Int))) (some (B + 6)) := grown_setCell w ⟨B + 6, v, none⟩ (.int .i64 (x : Int))
  have hb := h.big
  refine ⟨h.bel.setCell (by show B ≤ B + 6; omega) _, by simpa using h.big, kept_row g (by omega) h.ix,
    kept_cell g (by omega) h.ixv,
    kept_row g (by omega) h.lw,
    kept_cell g (by omega) h.lwv,
    kept_row g (by omega) h.on,
    kept_cell g (by omega) h.onv,
    by have h5 := (h.cp.stored v (.int .i64 (x : Int))).1; rw [tabI_set] at h5; exact h5,
    kept_cell g (by omega) h.stv,
    kept_frozen g (by omega) (by omega) h.stf,
    kept_cell g (by omega) h.vv,
    kept_frozen g (by omega) (by omega) h.vf,
    kept_own g (own_lt h.rst (by omega)) h.rst,
    kept_own g (own_lt h.rsz (by omega)) h.rsz,
    kept_own g (own_lt h.rwk (by omega)) h.rwk,
    h.a1,
    h.a2,
    h.a3⟩
theorem Mem.setVis (h : Mem w0 B n s vc vs sz wk w) (x : Nat) : Mem w0 B n { s with vis := x } vc vs sz wk (w.setCell ⟨B + 8, 0, none⟩ (.int .i64 (x : Int))) := by
  have g : w.grownBy (w.setCell ⟨B + 8, 0, none⟩ (.int .i64 (x : Int))) (some (B + 8)) := grown_setCell w ⟨B + 8, 0, none⟩ (.int .i64 (x : Int))
  have hb := h.big
  refine ⟨h.bel.setCell (by show B ≤ B + 8; omega) _, by simpa using h.big, kept_row g (by omega) h.ix,
    kept_cell g (by omega) h.ixv,
    kept_row g (by omega) h.lw,
    kept_cell g (by omega) h.lwv,
    kept_row g (by omega) h.on,
    kept_cell g (by omega) h.onv,
    kept_row g (by omega) h.cp,
    kept_cell g (by omega) h.stv,
    kept_frozen g (by omega) (by omega) h.stf,
    World.cell?_setCell_same w _ _ (u := .int .i64 (s.vis : Int)) h.vv,
    by rw [World.frozen?_setCell]; exact h.vf,
    kept_own g (own_lt h.rst (by omega)) h.rst,
    kept_own g (own_lt h.rsz (by omega)) h.rsz,
    kept_own g (own_lt h.rwk (by omega)) h.rwk,
    h.a1,
    h.a2,
    h.a3⟩

theorem Mem.drew (h : Mem w0 B n s vc vs sz wk w) : Mem w0 B n s vc vs sz wk w.drew :=
  ⟨h.bel.drew, h.big, h.ix.drew, h.ixv, h.lw.drew, h.lwv, h.on.drew, h.onv, h.cp.drew, h.stv, h.stf, h.vv, h.vf, h.rst.drew, h.rsz.drew, h.rwk.drew, h.a1, h.a2, h.a3⟩

theorem keptr_cell {r : Option Nat} (g : w.grownBy w' r) {b o : Nat} {u : Value} (hb : r ≠ some b) (h : w.cell? ⟨b, o, none⟩ = some u) : w'.cell? ⟨b, o, none⟩ = some u :=
  g.cell h (fun e => hb e.symm)
theorem keptr_frozen {r : Option Nat} (g : w.grownBy w' r) {b o : Nat} (hb : r ≠ some b) (hs : b < w.heap.size) (h : w.frozen? ⟨b, o, none⟩ = false) : w'.frozen? ⟨b, o, none⟩ = false :=
  (World.frozen?_of_block (w := w) (g.block b hs (fun e => hb e.symm))).trans h
theorem keptr_row {r : Option Nat} (g : w.grownBy w' r) {b base e size m c m' : Nat} {xs : List Value} (hb : r ≠ some b) (h : w.ownsRow base e size (.slice (some ⟨b, 0, none⟩) m c) m' xs) : w'.ownsRow base e size (.slice (some ⟨b, 0, none⟩) m c) m' xs :=
  h.kept g (.inr (fun e => hb e.symm))
theorem keptr_own {base e size m : Nat} {v u : Value} {xs : List Value} (g : w.grownBy w' u.ownBlock) (ha : Apart u v) (h : w.ownsRow base e size v m xs) : w'.ownsRow base e size v m xs := by
  refine h.kept g ?_
  cases hv : v.ownBlock with
  | none => exact .inl rfl
  | some k => exact .inr fun e => ha k e.symm hv
/-- A value whose block is the elder one's, or a new one, stays apart from what was there. -/
theorem Apart.fresh {u u' v : Value} {base e size m : Nat} {xs : List Value} (ha : Apart u v) (hv : w.ownsRow base e size v m xs) (hf : ∀ k, u'.ownBlock = some k → u.ownBlock = some k ∨ w.heap.size ≤ k) : Apart u' v := by
  intro k hk hvk
  rcases hf k hk with h | h
  · exact ha k h hvk
  · have := (hv.lt k hvk).2; omega

theorem Mem.alloc (h : Mem w0 B n s vc vs sz wk w) (o : Obj) : Mem w0 B n s vc vs sz wk (w.alloc o) := by
  have g : w.grownBy (w.alloc o) none := World.grownBy_alloc w o none
  have hb := h.big
  have hr : ∀ k, k < B + 9 → (none : Option Nat) ≠ some k := fun k _ e => by cases e
  exact ⟨h.bel.alloc (by omega) _, by simp; omega, keptr_row g (hr _ (by omega)) h.ix,
    keptr_cell g (hr _ (by omega)) h.ixv,
    keptr_row g (hr _ (by omega)) h.lw,
    keptr_cell g (hr _ (by omega)) h.lwv,
    keptr_row g (hr _ (by omega)) h.on,
    keptr_cell g (hr _ (by omega)) h.onv,
    keptr_row g (hr _ (by omega)) h.cp,
    keptr_cell g (hr _ (by omega)) h.stv,
    keptr_frozen g (hr _ (by omega)) (by omega) h.stf,
    keptr_cell g (hr _ (by omega)) h.vv,
    keptr_frozen g (hr _ (by omega)) (by omega) h.vf,
    h.rst.alloc _,
    h.rsz.alloc _,
    h.rwk.alloc _,
    h.a1,
    h.a2,
    h.a3⟩

/-- The stack has been appended to. -/
theorem Mem.stackPush (h : Mem w0 B n s vc vs sz wk w) {vs' : Value} {x : Nat} (ho : w'.ownsRow (B + 9) 3 1 vs' (s.stk.length + 1) (intsV s.stk.reverse ++ [.int .i64 (x : Int)])) (g : w.grownBy w' vs.ownBlock)
    (hf : ∀ k, vs'.ownBlock = some k → vs.ownBlock = some k ∨ w.heap.size ≤ k) : Mem w0 B n { s with stk := x :: s.stk } vc vs' sz wk w' := by
  have hb := h.big
  have hr : ∀ k, k < B + 9 → vs.ownBlock ≠ some k := fun k hk => own_lt h.rst hk
  refine ⟨h.bel.grown g (by omega) (fun k hk => by have := (h.rst.lt k hk).1; omega), Nat.le_trans h.big g.size, keptr_row g (hr _ (by omega)) h.ix,
    keptr_cell g (hr _ (by omega)) h.ixv,
    keptr_row g (hr _ (by omega)) h.lw,
    keptr_cell g (hr _ (by omega)) h.lwv,
    keptr_row g (hr _ (by omega)) h.on,
    keptr_cell g (hr _ (by omega)) h.onv,
    keptr_row g (hr _ (by omega)) h.cp,
    keptr_cell g (hr _ (by omega)) h.stv,
    keptr_frozen g (hr _ (by omega)) (by omega) h.stf,
    keptr_cell g (hr _ (by omega)) h.vv,
    keptr_frozen g (hr _ (by omega)) (by omega) h.vf,
    ?_,
    keptr_own g h.a1 h.rsz,
    keptr_own g h.a2 h.rwk,
    h.a1.fresh h.rsz hf,
    h.a2.fresh h.rwk hf,
    h.a3⟩
  have e : intsV (x :: s.stk).reverse = intsV s.stk.reverse ++ [.int .i64 (x : Int)] := by simp [intsV]
  show w'.ownsRow (B + 9) 3 1 vs' (s.stk.length + 1) (intsV (x :: s.stk).reverse)
  rw [e]
  exact ho
theorem Mem.sizePush (h : Mem w0 B n s vc vs sz wk w) {sz' : Value} {x : Nat} (ho : w'.ownsRow (B + 9) 3 1 sz' (s.size.length + 1) (intsV s.size ++ [.int .i64 (x : Int)])) (g : w.grownBy w' sz.ownBlock)
    (hf : ∀ k, sz'.ownBlock = some k → sz.ownBlock = some k ∨ w.heap.size ≤ k) : Mem w0 B n { s with size := s.size ++ [x] } vc vs sz' wk w' := by
  have hb := h.big
  have hr : ∀ k, k < B + 9 → sz.ownBlock ≠ some k := fun k hk => own_lt h.rsz hk
  refine ⟨h.bel.grown g (by omega) (fun k hk => by have := (h.rsz.lt k hk).1; omega), Nat.le_trans h.big g.size, keptr_row g (hr _ (by omega)) h.ix,
    keptr_cell g (hr _ (by omega)) h.ixv,
    keptr_row g (hr _ (by omega)) h.lw,
    keptr_cell g (hr _ (by omega)) h.lwv,
    keptr_row g (hr _ (by omega)) h.on,
    keptr_cell g (hr _ (by omega)) h.onv,
    keptr_row g (hr _ (by omega)) h.cp,
    keptr_cell g (hr _ (by omega)) h.stv,
    keptr_frozen g (hr _ (by omega)) (by omega) h.stf,
    keptr_cell g (hr _ (by omega)) h.vv,
    keptr_frozen g (hr _ (by omega)) (by omega) h.vf,
    keptr_own g h.a1.symm h.rst,
    ?_,
    keptr_own g h.a3 h.rwk,
    (h.a1.symm.fresh h.rst hf).symm,
    h.a2,
    h.a3.fresh h.rwk hf⟩
  show w'.ownsRow (B + 9) 3 1 sz' (s.size ++ [x]).length (intsV (s.size ++ [x]))
  rw [List.length_append, show intsV (s.size ++ [x]) = intsV s.size ++ [.int .i64 (x : Int)] by simp [intsV]]
  exact ho
theorem Mem.walkPush (h : Mem w0 B n s vc vs sz wk w) {wk' : Value} {p : Nat × Nat} (ho : w'.ownsRow (B + 9) 53 2 wk' (s.wlk.length + 1) (frV s.wlk.reverse ++ [.int .i64 (p.1 : Int), .int .i64 (p.2 : Int)])) (g : w.grownBy w' wk.ownBlock)
    (hf : ∀ k, wk'.ownBlock = some k → wk.ownBlock = some k ∨ w.heap.size ≤ k) : Mem w0 B n { s with wlk := p :: s.wlk } vc vs sz wk' w' := by
  have hb := h.big
  have hr : ∀ k, k < B + 9 → wk.ownBlock ≠ some k := fun k hk => own_lt h.rwk hk
  refine ⟨h.bel.grown g (by omega) (fun k hk => by have := (h.rwk.lt k hk).1; omega), Nat.le_trans h.big g.size, keptr_row g (hr _ (by omega)) h.ix,
    keptr_cell g (hr _ (by omega)) h.ixv,
    keptr_row g (hr _ (by omega)) h.lw,
    keptr_cell g (hr _ (by omega)) h.lwv,
    keptr_row g (hr _ (by omega)) h.on,
    keptr_cell g (hr _ (by omega)) h.onv,
    keptr_row g (hr _ (by omega)) h.cp,
    keptr_cell g (hr _ (by omega)) h.stv,
    keptr_frozen g (hr _ (by omega)) (by omega) h.stf,
    keptr_cell g (hr _ (by omega)) h.vv,
    keptr_frozen g (hr _ (by omega)) (by omega) h.vf,
    keptr_own g h.a2.symm h.rst,
    keptr_own g h.a3.symm h.rsz,
    ?_,
    h.a1,
    (h.a2.symm.fresh h.rst hf).symm,
    (h.a3.symm.fresh h.rsz hf).symm⟩
  show w'.ownsRow (B + 9) 53 2 wk' (s.wlk.length + 1) (frV (p :: s.wlk).reverse)
  rw [List.reverse_cons, frV_app]
  exact ho
/-- The stack's variable has been stored into. -/
theorem Mem.setVar (h : Mem w0 B n s vc vs sz wk w) (u : Value) : Mem w0 B n s u vs sz wk (w.setCell ⟨B + 7, 0, none⟩ u) := by
  have g : w.grownBy (w.setCell ⟨B + 7, 0, none⟩ u) (some (B + 7)) := grown_setCell w ⟨B + 7, 0, none⟩ u
  have hb := h.big
  have hr : ∀ k, k ≠ B + 7 → (some (B + 7) : Option Nat) ≠ some k := fun k hk e => hk (by simpa using e.symm)
  exact ⟨h.bel.setCell (by show B ≤ B + 7; omega) _, by simpa using h.big, keptr_row g (hr _ (by omega)) h.ix,
    keptr_cell g (hr _ (by omega)) h.ixv,
    keptr_row g (hr _ (by omega)) h.lw,
    keptr_cell g (hr _ (by omega)) h.lwv,
    keptr_row g (hr _ (by omega)) h.on,
    keptr_cell g (hr _ (by omega)) h.onv,
    keptr_row g (hr _ (by omega)) h.cp,
    World.cell?_setCell_same w _ _ (u := vc) h.stv,
    by rw [World.frozen?_setCell]; exact h.stf,
    keptr_cell g (hr _ (by omega)) h.vv,
    keptr_frozen g (hr _ (by omega)) (by omega) h.vf,
    kept_own g (own_lt h.rst (by omega)) h.rst,
    kept_own g (own_lt h.rsz (by omega)) h.rsz,
    kept_own g (own_lt h.rwk (by omega)) h.rwk,
    h.a1,
    h.a2,
    h.a3⟩
end
end Go.Proofs.Qxb6605452a
