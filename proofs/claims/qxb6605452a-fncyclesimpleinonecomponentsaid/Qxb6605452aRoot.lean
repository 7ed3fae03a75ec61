import Derived.Test.Qxb6605452aDfs
import Derived.Test.Qxb6605452aWell
namespace Go.Proofs.Qxb6605452a
open Go.RowKit

/-- y is the member of x's component that the plain walk met first. -/
def IsRoot (n : Nat) (s : St) (x y : Nat) : Prop := y < n ∧ s.comp y = s.comp x ∧ ∀ u, u < n → s.comp u = s.comp x → s.idx y ≤ s.idx u

section
variable {out : List (List Nat)} {s : St} {P : List (Nat × Bool)}
theorem IsRoot.uniq (hp : Post out s P) {x y z : Nat} (h : IsRoot out.length s x y) (k : IsRoot out.length s x z) : y = z :=
  hp.inj y z h.1 (Nat.le_antisymm (h.2.2 z k.1 k.2.1) (k.2.2 y h.1 h.2.1))
theorem Post.root (hp : Post out s P) {c r x : Nat} (hc : (heads P)[c]? = some r) (hx : s.comp x = c) : IsRoot out.length s x r := by
  obtain ⟨h1, h2, h3⟩ := hp.head c r hc
  exact ⟨h1, by rw [h2, hx], fun u hu e => h3 u hu (by rw [e, hx])⟩
theorem Post.flag (hp : Post out s P) {v y : Nat} {b : Bool} (hv : (v, b) ∈ P) (hy : IsRoot out.length s v y) : ((y : Int) == (v : Int)) = b := by
  cases b with
  | true =>
    have hm : v ∈ heads P := by
      simp only [heads, List.mem_map, List.mem_filter]
      exact ⟨(v, true), ⟨hv, rfl⟩, rfl⟩
    obtain ⟨c, hc⟩ := List.mem_iff_getElem?.1 hm
    have := hy.uniq hp (hp.root hc (hp.head c v hc).2.1)
    simp [this]
  | false =>
    obtain ⟨r, h1, h2, h3⟩ := hp.tail v hv
    have h4 := hy.2.2 r h1 h2
    have h5 : y ≠ v := fun e => by rw [e] at h4; omega
    simpa using fun e : (y : Int) = (v : Int) => h5 (by omega)
theorem heads_take (P : List (Nat × Bool)) {i v : Nat} {b : Bool} (h : P[i]? = some (v, b)) : heads (P.take (i + 1)) = heads (P.take i) ++ (if b then [v] else []) := by
  rw [List.take_add_one, h]
  cases b <;> simp [heads]
theorem heads_pre {i c r : Nat} (h : (heads (P.take i))[c]? = some r) : (heads P)[c]? = some r := by
  have e : heads P = heads (P.take i) ++ heads (P.drop i) := by
    unfold heads
    rw [← List.map_append, ← List.filter_append, List.take_append_drop]
  rw [e, List.getElem?_append_left (List.getElem?_eq_some_iff.1 h).1]
  exact h
theorem heads_len (P : List (Nat × Bool)) (i : Nat) : (heads (P.take i)).length ≤ (heads P).length := by
  have e : heads P = heads (P.take i) ++ heads (P.drop i) := by
    unfold heads
    rw [← List.map_append, ← List.filter_append, List.take_append_drop]
  rw [e, List.length_append]
  omega

/-- The numbers that the heads have got. -/
def IdOk (P : List (Nat × Bool)) (i : Nat) (idf : Nat → Nat) : Prop := ∀ c r, (heads (P.take i))[c]? = some r → idf r = c
theorem IdOk.zero : IdOk P 0 (fun _ => 0) := fun c r h => by simp [heads] at h
theorem IdOk.skip {i v : Nat} {idf : Nat → Nat} (h : IdOk P i idf) (hi : P[i]? = some (v, false)) : IdOk P (i + 1) idf := fun c r hc => by
  rw [heads_take P hi] at hc
  exact h c r (by simpa using hc)
theorem IdOk.push (hp : Post out s P) {i v : Nat} {idf : Nat → Nat} (h : IdOk P i idf) (hi : P[i]? = some (v, true)) : IdOk P (i + 1) (upd idf v (heads (P.take i)).length) := fun c r hc => by
  have hfull := heads_pre hc
  have hv : (heads (P.take (i + 1)))[(heads (P.take i)).length]? = some v := by rw [heads_take P hi]; simp
  have hvc := (hp.head _ v (heads_pre hv)).2.1
  have hrc := (hp.head _ r hfull).2.1
  by_cases e : r = v
  · subst e
    rw [upd_same, ← hvc, hrc]
  · rw [upd_ne _ _ _ e]
    refine h c r ?_
    rw [heads_take P hi] at hc
    rw [List.getElem?_append_left] at hc
    · exact hc
    · apply Decidable.byContradiction
      intro hn
      have h1 := (List.getElem?_eq_some_iff.1 hc).1
      simp at h1
      have : c = (heads (P.take i)).length := by omega
      rw [this] at hrc
      have hr0 : r = v := by
        rw [this, List.getElem?_append_right (Nat.le_refl _)] at hc
        simpa using hc.symm
      exact e hr0
theorem IdOk.done (hp : Post out s P) {idf : Nat → Nat} (h : IdOk P P.length idf) {x y : Nat} (hx : s.comp x < s.size.length) (hy : IsRoot out.length s x y) : idf y = s.comp x := by
  have hc : s.comp x < (heads P).length := by rw [hp.len]; exact hx
  obtain ⟨r, hr⟩ : ∃ r, (heads P)[s.comp x]? = some r := ⟨_, List.getElem?_eq_getElem hc⟩
  have e := hy.uniq hp (hp.root hr rfl)
  rw [e]
  exact h _ r (by rw [List.take_length]; exact hr)
end

/-- The sizes, counted. -/
theorem Comps.sizes {out : List (List Nat)} {f : Nat → Nat} {size : List Nat} (h : Comps out f size) : tabI size.length (cntT f out.length) = intsV size := by
  apply List.ext_getElem?
  intro j
  by_cases hj : j < size.length
  · obtain ⟨m, hm⟩ : ∃ m, size[j]? = some m := ⟨_, List.getElem?_eq_getElem hj⟩
    rw [tabI_get _ hj, intsV_get hm, (h.cnt j m hm).2]
    rfl
  · rw [List.getElem?_eq_none (by rw [tabI_length]; omega), List.getElem?_eq_none (by rw [intsV_length]; omega)]

/-! ### memory -/
/-- The table of discovery is filled with -1. -/
def filM (k : Nat) (x : Nat) : Int := if x < k then -1 else 0
theorem filM_step (k : Nat) : upd (filM k) k (-1) = filM (k + 1) := by
  funext x
  unfold filM
  by_cases e : x = k
  · subst e; rw [upd_same, if_pos (by omega)]
  · rw [upd_ne _ _ _ e]
    by_cases h : x < k
    · rw [if_pos h, if_pos (by omega)]
    · rw [if_neg h, if_neg (by omega)]

structure DIni (w0 : World) (B n : Nat) (vo : Value) (k : Nat) (w : World) : Prop where
  bel : Below B w0 w
  big : B + 2 ≤ w.heap.size
  dc : w.ownsRow B 3 1 (.slice (some ⟨B, 0, none⟩) n n) n (tabZ n (filM k))
  fo : w.cell? ⟨B + 1, 0, none⟩ = some vo
  fd : w.cell? ⟨B + 1, 1, none⟩ = some (.slice (some ⟨B, 0, none⟩) n n)
  ft : w.cell? ⟨B + 1, 2, none⟩ = some (.int .i64 0)
  fp : w.cell? ⟨B + 1, 3, none⟩ = some (.slice none 0 0)
  f2 : w.frozen? ⟨B + 1, 2, none⟩ = false
  f3 : w.frozen? ⟨B + 1, 3, none⟩ = false

theorem DIni.init (w : World) (n : Nat) (vo : Value) (hn : n ≤ 4096) :
    DIni w w.heap.size n vo 0 ((w.alloc (.cells (madeCells #[.int .i64 0] n) 3)).alloc (.cells #[vo, .slice (some ⟨w.heap.size, 0, none⟩) n n, .int .i64 0, .slice none 0 0] 47)) := by
  have h1 := own_made w (.int .i64 0) n 3 (by unfold maxLen; omega)
  have e1 : List.replicate n (Value.int .i64 0) = tabZ n (filM 0) := by
    apply List.ext_getElem?
    intro j
    by_cases hj : j < n
    · rw [tabZ_get _ hj, List.getElem?_replicate, if_pos hj]; rfl
    · rw [List.getElem?_eq_none (by simp; omega), List.getElem?_eq_none (by rw [tabZ_length]; omega)]
  rw [e1] at h1
  have hs : (w.alloc (.cells (madeCells #[.int .i64 0] n) 3)).heap.size = w.heap.size + 1 := by simp
  have hl := heap_last (w.alloc (.cells (madeCells #[.int .i64 0] n) 3)) (.cells #[vo, .slice (some ⟨w.heap.size, 0, none⟩) n n, .int .i64 0, .slice none 0 0] 47)
  rw [hs] at hl
  refine ⟨((Below.refl _ _).alloc (Nat.le_refl _) _).alloc (by rw [hs]; omega) _, by simp, h1.alloc _, ?_, ?_, ?_, ?_, ?_, ?_⟩
  · rw [cell_of_row _ (w.heap.size + 1) 0 _ 47 (0, 0) hl]; rfl
  · rw [cell_of_row _ (w.heap.size + 1) 1 _ 47 (0, 0) hl]; rfl
  · rw [cell_of_row _ (w.heap.size + 1) 2 _ 47 (0, 0) hl]; rfl
  · rw [cell_of_row _ (w.heap.size + 1) 3 _ 47 (0, 0) hl]; rfl
  · exact frozen_of_row _ (w.heap.size + 1) 2 _ 47 hl
  · exact frozen_of_row _ (w.heap.size + 1) 3 _ 47 hl

section
variable {w0 : World} {B n : Nat} {vo : Value} {k : Nat} {w w' : World}
theorem DIni.set (h : DIni w0 B n vo k w) : DIni w0 B n vo (k + 1) (w.setCell ⟨B, k, none⟩ (.int .i64 (-1))) := by
  have g : w.grownBy (w.setCell ⟨B, k, none⟩ (.int .i64 (-1))) (some B) := grown_setCell w ⟨B, k, none⟩ (.int .i64 (-1))
  have hb := h.big
  exact ⟨h.bel.setCell (Nat.le_refl _) _, by simpa using h.big, by have h5 := (h.dc.stored k (.int .i64 (-1))).1; rw [tabZ_set, filM_step] at h5; exact h5,
    kept_cell g (by omega) h.fo, kept_cell g (by omega) h.fd, kept_cell g (by omega) h.ft, kept_cell g (by omega) h.fp,
    kept_frozen g (by omega) (by omega) h.f2, kept_frozen g (by omega) (by omega) h.f3⟩
theorem DIni.done (h : DIni w0 B n vo n w) : DMem w0 B n vo st0.idx st0.vis [] (.slice none 0 0) (.slice none 0 0) w := by
  have e : tabZ n (filM n) = tabZ n (dsc st0.idx) := by
    apply List.ext_getElem?
    intro j
    by_cases hj : j < n
    · rw [tabZ_get _ hj, tabZ_get _ hj]
      simp [filM, hj, dsc, st0]
    · rw [List.getElem?_eq_none (by rw [tabZ_length]; omega), List.getElem?_eq_none (by rw [tabZ_length]; omega)]
  exact ⟨h.bel, h.big, by rw [← e]; exact h.dc, h.fo, h.fd, h.ft, h.fp, h.f2, h.f3, World.ownsRow_nil _ _ _ _⟩

/-- The numbers of the heads, and the sizes. -/
structure KMem (w0 : World) (D n : Nat) (idf : Nat → Nat) (m : Nat) (xs : List Value) (vz : Value) (w : World) : Prop where
  bel : Below D w0 w
  big : D + 1 ≤ w.heap.size
  id : w.ownsRow D 3 1 (.slice (some ⟨D, 0, none⟩) n n) n (tabI n idf)
  sz : w.ownsRow (D + 1) 3 1 vz m xs
variable {D : Nat} {idf : Nat → Nat} {m : Nat} {xs : List Value} {vz : Value}
theorem KMem.setId (h : KMem w0 D n idf m xs vz w) (v x : Nat) : KMem w0 D n (upd idf v x) m xs vz (w.setCell ⟨D, v, none⟩ (.int .i64 (x : Int))) := by
  have g : w.grownBy (w.setCell ⟨D, v, none⟩ (.int .i64 (x : Int))) (some D) := grown_setCell w ⟨D, v, none⟩ (.int .i64 (x : Int))
  exact ⟨h.bel.setCell (Nat.le_refl _) _, by simpa using h.big, by have h5 := (h.id.stored v (.int .i64 (x : Int))).1; rw [tabI_set] at h5; exact h5, kept_own g (own_lt h.sz (by omega)) h.sz⟩
theorem KMem.alloc (h : KMem w0 D n idf m xs vz w) (o : Obj) : KMem w0 D n idf m xs vz (w.alloc o) := by
  have g : w.grownBy (w.alloc o) none := World.grownBy_alloc w o none
  have hb := h.big
  exact ⟨h.bel.alloc (by omega) _, by simp; omega, keptr_row g (fun e => by cases e) h.id, h.sz.alloc _⟩
theorem KMem.push (h : KMem w0 D n idf m xs vz w) {vz' : Value} {u : Value} (ho : w'.ownsRow (D + 1) 3 1 vz' (m + 1) (xs ++ [u])) (g : w.grownBy w' vz.ownBlock) :
    KMem w0 D n idf (m + 1) (xs ++ [u]) vz' w' := by
  have hb := h.big
  have hr : ∀ k, k < D + 1 → vz.ownBlock ≠ some k := fun k hk => own_lt h.sz hk
  exact ⟨h.bel.grown g (by omega) (fun k hk => by have := (h.sz.lt k hk).1; omega), Nat.le_trans h.big g.size, keptr_row g (hr _ (by omega)) h.id, ho⟩

/-- And each node's component. -/
structure CMem (w0 : World) (D F n : Nat) (idf cf : Nat → Nat) (m : Nat) (zf : Nat → Nat) (vz : Value) (w : World) : Prop where
  k : KMem w0 D n idf m (tabI m zf) vz w
  cp : w.ownsRow F 3 1 (.slice (some ⟨F, 0, none⟩) n n) n (tabI n cf)
  ne : vz.ownBlock ≠ some F
  lt : D + 1 ≤ F
variable {F : Nat} {cf zf : Nat → Nat} {gz cz : Nat}
theorem CMem.setComp (h : CMem w0 D F n idf cf m zf vz w) (v x : Nat) : CMem w0 D F n idf (upd cf v x) m zf vz (w.setCell ⟨F, v, none⟩ (.int .i64 (x : Int))) := by
  have g : w.grownBy (w.setCell ⟨F, v, none⟩ (.int .i64 (x : Int))) (some F) := grown_setCell w ⟨F, v, none⟩ (.int .i64 (x : Int))
  have hl := h.lt
  have hn := h.ne
  exact ⟨⟨h.k.bel.setCell (by show D ≤ F; omega) _, by simpa using h.k.big, kept_row g (by omega) h.k.id, kept_own g hn h.k.sz⟩,
    by have h5 := (h.cp.stored v (.int .i64 (x : Int))).1; rw [tabI_set] at h5; exact h5, hn, hl⟩
theorem CMem.setSize (h : CMem w0 D F n idf cf m zf (.slice (some ⟨gz, 0, none⟩) m cz) w) (c x : Nat) : CMem w0 D F n idf cf m (upd zf c x) (.slice (some ⟨gz, 0, none⟩) m cz) (w.setCell ⟨gz, c, none⟩ (.int .i64 (x : Int))) := by
  have g : w.grownBy (w.setCell ⟨gz, c, none⟩ (.int .i64 (x : Int))) (some gz) := grown_setCell w ⟨gz, c, none⟩ (.int .i64 (x : Int))
  have hl := (h.k.sz.lt gz rfl).1
  have hn : F ≠ gz := fun e => h.ne (by rw [e]; rfl)
  exact ⟨⟨h.k.bel.setCell (by show D ≤ gz; omega) _, by simpa using h.k.big, kept_row g (by omega) h.k.id, by have h5 := (h.k.sz.stored c (.int .i64 (x : Int))).1; rw [tabI_set] at h5; exact h5⟩,
    kept_row g hn h.cp, h.ne, h.lt⟩
end
end Go.Proofs.Qxb6605452a
