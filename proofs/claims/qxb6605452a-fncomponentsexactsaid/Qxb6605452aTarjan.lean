import Derived.Deep.Slices
namespace Go.Proofs.Qxb6605452a

/-! ### graphs -/
def row (out : List (List Nat)) (v : Nat) : List Nat := out.getD v []
def E (out : List (List Nat)) (u w : Nat) : Prop := w ∈ row out u
/-- v is reached from u by edges of R. -/
def Reach (R : Nat → Nat → Prop) (u v : Nat) : Prop := ∀ S : Nat → Prop, S u → (∀ a b, S a → R a b → S b) → S v
theorem Reach.refl {R : Nat → Nat → Prop} (u : Nat) : Reach R u u := fun _ h _ => h
theorem Reach.edge {R : Nat → Nat → Prop} {u v : Nat} (h : R u v) : Reach R u v := fun _ h0 hs => hs _ _ h0 h
theorem Reach.trans {R : Nat → Nat → Prop} {u v w : Nat} (h : Reach R u v) (k : Reach R v w) : Reach R u w := fun S h0 hs => k S (h S h0 hs) hs
/-- Both ways. -/
def Mut (R : Nat → Nat → Prop) (u v : Nat) : Prop := Reach R u v ∧ Reach R v u
theorem Mut.refl {R : Nat → Nat → Prop} (u : Nat) : Mut R u u := ⟨Reach.refl u, Reach.refl u⟩
theorem Mut.symm {R : Nat → Nat → Prop} {u v : Nat} (h : Mut R u v) : Mut R v u := ⟨h.2, h.1⟩
theorem Mut.trans {R : Nat → Nat → Prop} {u v w : Nat} (h : Mut R u v) (k : Mut R v w) : Mut R u w := ⟨h.1.trans k.1, k.2.trans h.2⟩

/-! ### counting below n -/
def cntB : Nat → (Nat → Bool) → Nat
  | 0, _ => 0
  | n + 1, p => cntB n p + (p n).toNat
theorem cntB_congr {n : Nat} {p q : Nat → Bool} (h : ∀ x, x < n → p x = q x) : cntB n p = cntB n q := by
  induction n with
  | zero => rfl
  | succ n ih => simp only [cntB]; rw [ih (fun x hx => h x (by omega)), h n (by omega)]
theorem cntB_or {n : Nat} {p q : Nat → Bool} (h : ∀ x, x < n → p x = true → q x = true → False) : cntB n (fun x => p x || q x) = cntB n p + cntB n q := by
  induction n with
  | zero => rfl
  | succ n ih =>
    simp only [cntB]
    rw [ih (fun x hx => h x (by omega))]
    have h5 := h n (by omega)
    generalize p n = a at h5
    generalize q n = b at h5
    cases a <;> cases b
    · simp
    · simp; omega
    · simp; omega
    · exact (h5 rfl rfl).elim
theorem cntB_zero {n : Nat} {p : Nat → Bool} (h : ∀ x, x < n → p x = false) : cntB n p = 0 := by
  induction n with
  | zero => rfl
  | succ n ih => simp only [cntB]; rw [ih (fun x hx => h x (by omega)), h n (by omega)]; rfl
theorem cntB_one {n a : Nat} (ha : a < n) : cntB n (fun x => x == a) = 1 := by
  induction n with
  | zero => omega
  | succ n ih =>
    simp only [cntB]
    by_cases h : a = n
    · subst h
      rw [cntB_zero (fun x hx => by simp; omega)]
      simp
    · rw [ih (by omega)]
      have h6 : (n == a) = false := by simp; omega
      rw [h6]
      rfl
theorem cntB_list {n : Nat} {l : List Nat} (hn : l.Nodup) (hl : ∀ x ∈ l, x < n) : cntB n (fun x => l.contains x) = l.length := by
  induction l with
  | nil => exact cntB_zero (fun x _ => by simp)
  | cons a l ih =>
    have h1 := List.nodup_cons.1 hn
    have e : ∀ x, x < n → (a :: l).contains x = ((x == a) || l.contains x) := fun x _ => by rw [List.contains_cons]
    rw [cntB_congr e, cntB_or, cntB_one (hl a (by simp)), ih h1.2 (fun x hx => hl x (by simp [hx])), List.length_cons, Nat.add_comm]
    intro x _ hx hc
    simp at hx hc
    subst hx
    exact h1.1 hc
theorem cntB_pos {n a : Nat} {p : Nat → Bool} (ha : a < n) (h : p a = true) : 0 < cntB n p := by
  induction n with
  | zero => omega
  | succ n ih =>
    simp only [cntB]
    by_cases e : a = n
    · subst e; rw [h]; simp
    · have := ih (by omega); omega

/-! ### the machine -/
def upd {α : Type} (f : Nat → α) (k : Nat) (x : α) : Nat → α := fun j => if j = k then x else f j
theorem upd_same {α : Type} (f : Nat → α) (k : Nat) (x : α) : upd f k x k = x := by simp [upd]
theorem upd_ne {α : Type} (f : Nat → α) (k : Nat) (x : α) {j : Nat} (h : j ≠ k) : upd f k x j = f j := by simp [upd, h]

structure St where
  idx : Nat → Nat
  low : Nat → Nat
  comp : Nat → Nat
  ons : Nat → Bool
  stk : List Nat
  wlk : List (Nat × Nat)
  vis : Nat
  size : List Nat

def st0 : St := ⟨fun _ => 0, fun _ => 0, fun _ => 0, fun _ => false, [], [], 0, []⟩
/-- The closure 'visit'. -/
def visit (w : Nat) (s : St) : St := { s with vis := s.vis + 1, idx := upd s.idx w (s.vis + 1), low := upd s.low w (s.vis + 1), stk := w :: s.stk, ons := upd s.ons w true }
def start (r : Nat) (s : St) : St := { visit r s with wlk := [(r, 0)] }
/-- What the loop takes off the stack: down to v. -/
def segOf (v : Nat) (stk : List Nat) : List Nat := stk.takeWhile (· != v) ++ [v]
def restOf (v : Nat) (stk : List Nat) : List Nat := (stk.dropWhile (· != v)).tail
def popC (v : Nat) (s : St) : St :=
  { s with ons := fun x => if (segOf v s.stk).contains x then false else s.ons x, comp := fun x => if (segOf v s.stk).contains x then s.size.length else s.comp x,
           stk := restOf v s.stk, size := s.size ++ [(segOf v s.stk).length] }
def lowUp (v : Nat) (W : List (Nat × Nat)) (low : Nat → Nat) : Nat → Nat :=
  match W with
  | [] => low
  | (u, _) :: _ => upd low u (min (low u) (low v))
/-- One turn of the loop over the walk. -/
def stepW (out : List (List Nat)) (s : St) : St :=
  match s.wlk with
  | [] => s
  | (v, i) :: W =>
    match (row out v)[i]? with
    | some w =>
      if s.idx w = 0 then { visit w s with wlk := (w, 0) :: (v, i + 1) :: W }
      else if s.ons w then { s with low := upd s.low v (min (s.low v) (s.idx w)), wlk := (v, i + 1) :: W }
      else { s with wlk := (v, i + 1) :: W }
    | none =>
      if lowUp v W s.low v = s.idx v then popC v { s with low := lowUp v W s.low, wlk := W }
      else { s with low := lowUp v W s.low, wlk := W }

/-- The states that the loops come to; r: the root's counter. -/
def Rch (out : List (List Nat)) (r : Nat) (s : St) : Prop :=
  ∀ P : Nat → St → Prop, P 0 st0 → (∀ r s, P r s → s.wlk ≠ [] → r < out.length → P r (stepW out s)) →
    (∀ r s, P r s → s.wlk = [] → r < out.length → s.idx r = 0 → P r (start r s)) →
    (∀ r s, P r s → s.wlk = [] → r < out.length → s.idx r ≠ 0 → P (r + 1) s) → P r s
theorem Rch.zero (out : List (List Nat)) : Rch out 0 st0 := fun _ h _ _ _ => h
theorem Rch.step {out : List (List Nat)} {r : Nat} {s : St} (h : Rch out r s) (hw : s.wlk ≠ []) (hr : r < out.length) : Rch out r (stepW out s) :=
  fun P h0 h1 h2 h3 => h1 r s (h P h0 h1 h2 h3) hw hr
theorem Rch.start {out : List (List Nat)} {r : Nat} {s : St} (h : Rch out r s) (hw : s.wlk = []) (hr : r < out.length) (hi : s.idx r = 0) : Rch out r (start r s) :=
  fun P h0 h1 h2 h3 => h2 r s (h P h0 h1 h2 h3) hw hr hi
theorem Rch.next {out : List (List Nat)} {r : Nat} {s : St} (h : Rch out r s) (hw : s.wlk = []) (hr : r < out.length) (hi : s.idx r ≠ 0) : Rch out (r + 1) s :=
  fun P h0 h1 h2 h3 => h3 r s (h P h0 h1 h2 h3) hw hr hi

/-! ### the invariant: the walk's frames, each with the part of the stack above its node -/
structure Fr where
  v : Nat
  i : Nat
  rest : List Nat
def seg (f : Fr) : List Nat := f.rest ++ [f.v]
def stkOf : List Fr → List Nat
  | [] => []
  | f :: fs => seg f ++ stkOf fs

structure FrOk (out : List (List Nat)) (s : St) (f : Fr) (fs : List Fr) : Prop where
  inb : f.i ≤ (row out f.v).length
  up : ∀ g gs, fs = g :: gs → E out g.v f.v
  down : ∀ x ∈ seg f, Reach (E out) f.v x
  back : ∀ x ∈ seg f, ∃ g ∈ f :: fs, Reach (E out) x g.v
  seenR : ∀ x ∈ f.rest, ∀ w, E out x w → s.idx w ≠ 0 ∧ (w ∈ s.stk → s.low f.v ≤ s.idx w)
  seenV : ∀ w ∈ (row out f.v).take f.i, s.idx w ≠ 0 ∧ (w ∈ s.stk → s.low f.v ≤ s.idx w)
  lowLe : s.low f.v ≤ s.idx f.v
  lowAt : ∃ t ∈ stkOf (f :: fs), Reach (E out) f.v t ∧ s.low f.v = s.idx t

def FrsOk (out : List (List Nat)) (s : St) : List Fr → Prop
  | [] => True
  | f :: fs => FrOk out s f fs ∧ FrsOk out s fs

/-- Visited, and off the stack. -/
def dn (s : St) (x : Nat) : Prop := s.idx x ≠ 0 ∧ x ∉ s.stk

structure TInv (out : List (List Nat)) (s : St) (fs : List Fr) : Prop where
  stk : s.stk = stkOf fs
  wlk : s.wlk = fs.map fun f => (f.v, f.i)
  ons : ∀ x, s.ons x = true ↔ x ∈ s.stk
  le : ∀ x, s.idx x ≤ s.vis
  inj : ∀ x y, s.idx x ≠ 0 → s.idx x = s.idx y → x = y
  rng : ∀ x, s.idx x ≠ 0 → x < out.length
  vst : ∀ x ∈ s.stk, s.idx x ≠ 0
  srt : s.stk.Pairwise (fun a b => s.idx b < s.idx a)
  frs : FrsOk out s fs
  fin : ∀ x, dn s x → s.comp x < s.size.length ∧ ∀ w, E out x w → dn s w ∧ s.comp w ≤ s.comp x
  part : ∀ x y, dn s x → dn s y → (s.comp x = s.comp y ↔ Mut (E out) x y)
  cnt : ∀ c m, s.size[c]? = some m → 0 < m ∧ m = cntB out.length (fun x => s.idx x != 0 && !s.ons x && s.comp x == c)

theorem nodup_of_lt {l : List Nat} {f : Nat → Nat} (h : l.Pairwise (fun a b => f b < f a)) : l.Nodup :=
  List.pairwise_iff_getElem.2 fun i j hi hj hij e => by
    have h1 := List.pairwise_iff_getElem.1 h i j hi hj hij
    rw [e] at h1
    omega
theorem mem_seg_v (f : Fr) : f.v ∈ seg f := by simp [seg]
theorem mem_stkOf_v {f : Fr} {fs : List Fr} (h : f ∈ fs) : f.v ∈ stkOf fs := by
  induction fs with
  | nil => cases h
  | cons g gs ih =>
    rcases List.mem_cons.1 h with rfl | h
    · simp [stkOf, seg]
    · simp [stkOf, ih h]
/-- Every node of the stack leads to a node of the walk. -/
theorem FrsOk.back {out : List (List Nat)} {s : St} {fs : List Fr} (h : FrsOk out s fs) {x : Nat} (hx : x ∈ stkOf fs) : ∃ g ∈ fs, Reach (E out) x g.v := by
  induction fs with
  | nil => cases hx
  | cons f fs ih =>
    rcases List.mem_append.1 hx with hx | hx
    · exact h.1.back x hx
    · obtain ⟨g, hg, hr⟩ := ih h.2 hx
      exact ⟨g, by simp [hg], hr⟩

/-- What a frame knows is not lost where nothing that it speaks of turns. -/
theorem FrOk.keep {out : List (List Nat)} {s s' : St} {f : Fr} {fs : List Fr} (h : FrOk out s f fs)
    (hi : ∀ x, s.idx x ≠ 0 → s'.idx x = s.idx x) (hl : s'.low f.v = s.low f.v) (hs : ∀ x, s.idx x ≠ 0 → x ∈ s'.stk → x ∈ s.stk)
    (hv : ∀ x ∈ stkOf (f :: fs), s.idx x ≠ 0) : FrOk out s' f fs := by
  obtain ⟨a, b, c, d, e1, e2, g, t, ht, ht1, ht2⟩ := h
  refine ⟨a, b, c, d, fun x hx w hw => ?_, fun w hw => ?_, ?_, t, ht, ht1, ?_⟩
  · obtain ⟨h1, h2⟩ := e1 x hx w hw
    rw [hi w h1, hl]
    exact ⟨h1, fun hm => h2 (hs w h1 hm)⟩
  · obtain ⟨h1, h2⟩ := e2 w hw
    rw [hi w h1, hl]
    exact ⟨h1, fun hm => h2 (hs w h1 hm)⟩
  · rw [hl, hi f.v (hv f.v (by simp [stkOf, seg]))]; exact g
  · rw [hl, hi t (hv t ht)]; exact ht2
theorem FrsOk.keep {out : List (List Nat)} {s s' : St} {fs : List Fr} (h : FrsOk out s fs)
    (hi : ∀ x, s.idx x ≠ 0 → s'.idx x = s.idx x) (hl : ∀ f ∈ fs, s'.low f.v = s.low f.v) (hs : ∀ x, s.idx x ≠ 0 → x ∈ s'.stk → x ∈ s.stk)
    (hv : ∀ x ∈ stkOf fs, s.idx x ≠ 0) : FrsOk out s' fs := by
  induction fs with
  | nil => trivial
  | cons f fs ih =>
    exact ⟨h.1.keep hi (hl f (by simp)) hs hv, ih h.2 (fun g hg => hl g (by simp [hg])) (fun x hx => hv x (by simp [stkOf, hx]))⟩

theorem TInv.zero (out : List (List Nat)) : TInv out st0 [] := by
  refine ⟨rfl, rfl, ?_, ?_, ?_, ?_, ?_, ?_, trivial, ?_, ?_, ?_⟩ <;> simp [st0, dn]

/-- A node is met for the first time. -/
theorem TInv.visited {out : List (List Nat)} {s : St} {fs : List Fr} (h : TInv out s fs) {w : Nat} (hw : w < out.length) (h0 : s.idx w = 0)
    (fs' : List Fr) (W' : List (Nat × Nat)) (hW : W' = fs'.map fun f => (f.v, f.i)) (hst : stkOf fs' = stkOf fs)
    (hup : ∀ g gs, fs' = g :: gs → E out g.v w) (hfs : FrsOk out { visit w s with wlk := (w, 0) :: W' } fs') :
    TInv out { visit w s with wlk := (w, 0) :: W' } (⟨w, 0, []⟩ :: fs') := by
  have hns : w ∉ s.stk := fun hm => h.vst w hm h0
  have old : ∀ x, s.idx x ≠ 0 → upd s.idx w (s.vis + 1) x = s.idx x := fun x hx => upd_ne _ _ _ (fun e => hx (by rw [e]; exact h0))
  have hdn : ∀ x, dn { visit w s with wlk := (w, 0) :: W' } x ↔ dn s x := by
    intro x
    simp only [dn, visit]
    by_cases e : x = w
    · subst e
      simp [h0]
    · rw [upd_ne _ _ _ e]
      simp [e]
  refine ⟨?_, ?_, ?_, ?_, ?_, ?_, ?_, ?_, ⟨?_, hfs⟩, ?_, ?_, ?_⟩
  · show w :: s.stk = _
    rw [h.stk, ← hst]
    rfl
  · show (w, 0) :: W' = _
    rw [hW]
    rfl
  · intro x
    show upd s.ons w true x = true ↔ x ∈ w :: s.stk
    by_cases e : x = w
    · subst e; simp [upd_same]
    · rw [upd_ne _ _ _ e, h.ons x]; simp [e]
  · intro x
    show upd s.idx w (s.vis + 1) x ≤ s.vis + 1
    by_cases e : x = w
    · subst e; rw [upd_same]; exact Nat.le_refl _
    · rw [upd_ne _ _ _ e]; have := h.le x; omega
  · intro x y
    show upd s.idx w (s.vis + 1) x ≠ 0 → upd s.idx w (s.vis + 1) x = upd s.idx w (s.vis + 1) y → x = y
    by_cases e : x = w <;> by_cases e' : y = w
    · intros; rw [e, e']
    · subst e; rw [upd_same, upd_ne _ _ _ e']; intro _ h5; have := h.le y; omega
    · subst e'; rw [upd_same, upd_ne _ _ _ e]; intro _ h5; have := h.le x; omega
    · rw [upd_ne _ _ _ e, upd_ne _ _ _ e']; exact h.inj x y
  · intro x
    show upd s.idx w (s.vis + 1) x ≠ 0 → _
    by_cases e : x = w
    · subst e; intro _; exact hw
    · rw [upd_ne _ _ _ e]; exact h.rng x
  · intro x hx
    show upd s.idx w (s.vis + 1) x ≠ 0
    rcases List.mem_cons.1 (show x ∈ w :: s.stk from hx) with rfl | hx
    · rw [upd_same]; omega
    · rw [old x (h.vst x hx)]; exact h.vst x hx
  · show (w :: s.stk).Pairwise (fun a b => upd s.idx w (s.vis + 1) b < upd s.idx w (s.vis + 1) a)
    refine List.pairwise_cons.2 ⟨fun b hb => ?_, ?_⟩
    · rw [upd_same, old b (h.vst b hb)]; have := h.le b; omega
    · refine h.srt.imp_of_mem ?_
      intro a b ha hb hab
      rw [old a (h.vst a ha), old b (h.vst b hb)]
      exact hab
  · refine ⟨Nat.zero_le _, hup, ?_, ?_, ?_, ?_, ?_, w, ?_, Reach.refl w, ?_⟩
    · intro x hx; simp [seg] at hx; subst hx; exact Reach.refl _
    · intro x hx; simp [seg] at hx; subst hx; exact ⟨⟨x, 0, []⟩, by simp, Reach.refl _⟩
    · intro x hx; cases hx
    · intro x hx; simp at hx
    · show upd s.low w (s.vis + 1) w ≤ upd s.idx w (s.vis + 1) w; rw [upd_same, upd_same]; exact Nat.le_refl _
    · simp [stkOf, seg]
    · show upd s.low w (s.vis + 1) w = upd s.idx w (s.vis + 1) w; rw [upd_same, upd_same]
  · intro x hx
    obtain ⟨h1, h2⟩ := h.fin x ((hdn x).1 hx)
    exact ⟨h1, fun y hy => ⟨(hdn y).2 (h2 y hy).1, (h2 y hy).2⟩⟩
  · intro x y hx hy
    exact h.part x y ((hdn x).1 hx) ((hdn y).1 hy)
  · intro c m hm
    obtain ⟨h1, h2⟩ := h.cnt c m hm
    refine ⟨h1, h2.trans (cntB_congr fun x _ => ?_)⟩
    show _ = (upd s.idx w (s.vis + 1) x != 0 && !upd s.ons w true x && s.comp x == c)
    by_cases e : x = w
    · subst e; rw [upd_same, upd_same, h0]; simp
    · rw [upd_ne _ _ _ e, upd_ne _ _ _ e]

/-- Only the lows and the walk turn. -/
theorem TInv.relow {out : List (List Nat)} {s : St} {fs fs' : List Fr} (h : TInv out s fs) (low' : Nat → Nat) (W' : List (Nat × Nat)) (hst : stkOf fs' = stkOf fs)
    (hW : W' = fs'.map fun f => (f.v, f.i)) (hf : FrsOk out { s with low := low', wlk := W' } fs') : TInv out { s with low := low', wlk := W' } fs' :=
  ⟨h.stk.trans hst.symm, hW, h.ons, h.le, h.inj, h.rng, h.vst, h.srt, hf, h.fin, h.part, h.cnt⟩

/-- Nodes further down the stack were met earlier. -/
theorem TInv.lt {out : List (List Nat)} {s : St} {f : Fr} {fs : List Fr} (h : TInv out s (f :: fs)) {x y : Nat} (hx : x ∈ seg f) (hy : y ∈ stkOf fs) : s.idx y < s.idx x := by
  have h1 := h.srt
  rw [h.stk] at h1
  exact (List.pairwise_append.1 h1).2.2 x hx y hy
theorem TInv.ltSeg {out : List (List Nat)} {s : St} {f : Fr} {fs : List Fr} (h : TInv out s (f :: fs)) {x : Nat} (hx : x ∈ seg f) : s.idx f.v ≤ s.idx x := by
  have h1 := h.srt
  rw [h.stk] at h1
  have h2 := (List.pairwise_append.1 h1).1
  unfold seg at h2 hx
  rcases List.mem_append.1 hx with hx | hx
  · exact Nat.le_of_lt ((List.pairwise_append.1 h2).2.2 x hx f.v (by simp))
  · simp at hx; subst hx; exact Nat.le_refl _
theorem TInv.neF {out : List (List Nat)} {s : St} {f : Fr} {fs : List Fr} (h : TInv out s (f :: fs)) {g : Fr} (hg : g ∈ fs) : g.v ≠ f.v := by
  intro e
  have := h.lt (mem_seg_v f) (mem_stkOf_v hg)
  rw [e] at this
  omega
theorem TInv.notRest {out : List (List Nat)} {s : St} {f : Fr} {fs : List Fr} (h : TInv out s (f :: fs)) : f.v ∉ f.rest := by
  intro hm
  have h1 := h.srt
  rw [h.stk] at h1
  have h2 := (List.pairwise_append.1 h1).1
  have := (List.pairwise_append.1 h2).2.2 f.v hm f.v (by simp)
  omega
theorem TInv.mem {out : List (List Nat)} {s : St} {fs : List Fr} (h : TInv out s fs) {x : Nat} (hx : x ∈ stkOf fs) : s.idx x ≠ 0 := h.vst x (by rw [h.stk]; exact hx)

theorem take_succ_mem {l : List Nat} {i w x : Nat} (hw : l[i]? = some w) (hx : x ∈ l.take (i + 1)) : x ∈ l.take i ∨ x = w := by
  have hlt := (List.getElem?_eq_some_iff.1 hw).1
  have e := (List.getElem?_eq_some_iff.1 hw).2
  rw [List.take_succ_eq_append_getElem hlt, e] at hx
  simpa using hx

theorem step_new {out : List (List Nat)} (hout : ∀ v w, E out v w → w < out.length) {s : St} {f : Fr} {fs : List Fr} (h : TInv out s (f :: fs)) {w : Nat} (hw : (row out f.v)[f.i]? = some w) (h0 : s.idx w = 0) :
    TInv out { visit w s with wlk := (w, 0) :: (f.v, f.i + 1) :: fs.map fun f => (f.v, f.i) } (⟨w, 0, []⟩ :: ⟨f.v, f.i + 1, f.rest⟩ :: fs) := by
  have hE : E out f.v w := List.mem_of_getElem? hw
  have hlt := (List.getElem?_eq_some_iff.1 hw).1
  have hvv : s.idx f.v ≠ 0 := h.mem (by simp [stkOf, seg])
  have old : ∀ x, s.idx x ≠ 0 → upd s.idx w (s.vis + 1) x = s.idx x := fun x hx => upd_ne _ _ _ (fun e => hx (by rw [e]; exact h0))
  have oldL : ∀ x, s.idx x ≠ 0 → upd s.low w (s.vis + 1) x = s.low x := fun x hx => upd_ne _ _ _ (fun e => hx (by rw [e]; exact h0))
  have hs : ∀ x, s.idx x ≠ 0 → x ∈ w :: s.stk → x ∈ s.stk := fun x hx hm => by
    rcases List.mem_cons.1 hm with rfl | hm
    · exact (hx h0).elim
    · exact hm
  have hfr : FrOk out { visit w s with wlk := (w, 0) :: (f.v, f.i + 1) :: fs.map fun f => (f.v, f.i) } f fs := h.frs.1.keep old (oldL _ hvv) hs (fun x hx => h.mem hx)
  refine h.visited (hout _ _ hE) h0 (⟨f.v, f.i + 1, f.rest⟩ :: fs) _ rfl rfl ?_ ⟨⟨?_, hfr.up, hfr.down, ?_, hfr.seenR, ?_, hfr.lowLe, hfr.lowAt⟩, ?_⟩
  · intro g gs e
    simp only [List.cons.injEq] at e
    obtain ⟨rfl, rfl⟩ := e
    exact hE
  · exact hlt
  · intro x hx
    obtain ⟨g, hg, hr⟩ := hfr.back x hx
    rcases List.mem_cons.1 hg with rfl | hg
    · exact ⟨⟨g.v, g.i + 1, g.rest⟩, by simp, hr⟩
    · exact ⟨g, by simp [hg], hr⟩
  · intro x hx
    rcases take_succ_mem hw hx with hx | rfl
    · exact hfr.seenV x hx
    · refine ⟨?_, fun _ => ?_⟩
      · show upd s.idx x (s.vis + 1) x ≠ 0
        rw [upd_same]; omega
      · show upd s.low x (s.vis + 1) f.v ≤ upd s.idx x (s.vis + 1) x
        rw [upd_same, oldL _ hvv]
        have h5 := h.frs.1.lowLe
        have h6 := h.le f.v
        omega
  · exact h.frs.2.keep old (fun g hg => oldL _ (h.mem (by simp [stkOf, mem_stkOf_v hg]))) hs (fun x hx => h.mem (by simp [stkOf, hx]))

/-- A frame's place among the successors moves on. -/
theorem step_old {out : List (List Nat)} {s : St} {f : Fr} {fs : List Fr} (h : TInv out s (f :: fs)) {w : Nat} (hw : (row out f.v)[f.i]? = some w) (h0 : s.idx w ≠ 0) (l' : Nat) (hl1 : l' ≤ s.low f.v)
    (hl2 : w ∈ s.stk → l' ≤ s.idx w) (hl3 : ∃ t ∈ s.stk, Reach (E out) f.v t ∧ l' = s.idx t) :
    TInv out { s with low := upd s.low f.v l', wlk := (f.v, f.i + 1) :: fs.map fun f => (f.v, f.i) } (⟨f.v, f.i + 1, f.rest⟩ :: fs) := by
  have hlt := (List.getElem?_eq_some_iff.1 hw).1
  have hfr := h.frs.1
  refine h.relow (upd s.low f.v l') _ rfl rfl ⟨⟨hlt, hfr.up, hfr.down, ?_, ?_, ?_, ?_, ?_⟩, ?_⟩
  · intro x hx
    obtain ⟨g, hg, hr⟩ := hfr.back x hx
    rcases List.mem_cons.1 hg with rfl | hg
    · exact ⟨⟨g.v, g.i + 1, g.rest⟩, by simp, hr⟩
    · exact ⟨g, by simp [hg], hr⟩
  · intro x hx y hy
    obtain ⟨h1, h2⟩ := hfr.seenR x hx y hy
    refine ⟨h1, fun hm => ?_⟩
    show upd s.low f.v l' f.v ≤ _
    rw [upd_same]
    exact Nat.le_trans hl1 (h2 hm)
  · intro x hx
    show _ ∧ (_ → upd s.low f.v l' f.v ≤ _)
    rw [upd_same]
    rcases take_succ_mem hw hx with hx | rfl
    · obtain ⟨h1, h2⟩ := hfr.seenV x hx
      exact ⟨h1, fun hm => Nat.le_trans hl1 (h2 hm)⟩
    · exact ⟨h0, hl2⟩
  · show upd s.low f.v l' f.v ≤ _
    rw [upd_same]
    exact Nat.le_trans hl1 hfr.lowLe
  · obtain ⟨t, ht, hr, e⟩ := hl3
    refine ⟨t, ?_, hr, ?_⟩
    · rw [h.stk] at ht; exact ht
    · show upd s.low f.v l' f.v = _
      rw [upd_same, e]
  · exact h.frs.2.keep (fun _ _ => rfl) (fun g hg => upd_ne _ _ _ (h.neF hg)) (fun _ _ hm => hm) (fun x hx => h.mem (by simp [stkOf, hx]))

/-- A node that is done, and is no component's head: its part of the stack goes to the frame below. -/
theorem step_join {out : List (List Nat)} {s : St} {f g : Fr} {fs : List Fr} (h : TInv out s (f :: g :: fs)) (hi : f.i = (row out f.v).length) (hne : s.low f.v ≠ s.idx f.v) :
    TInv out { s with low := upd s.low g.v (min (s.low g.v) (s.low f.v)), wlk := (g :: fs).map fun f => (f.v, f.i) } (⟨g.v, g.i, f.rest ++ f.v :: g.rest⟩ :: fs) := by
  have hf := h.frs.1
  have hg := h.frs.2.1
  have hst : stkOf (⟨g.v, g.i, f.rest ++ f.v :: g.rest⟩ :: fs) = stkOf (f :: g :: fs) := by simp [stkOf, seg]
  have hlow : s.low f.v < s.idx f.v := by have := hf.lowLe; omega
  have hgf : E out g.v f.v := hf.up g fs rfl
  -- the low's node lies further down
  obtain ⟨t, ht, htr, hte⟩ := hf.lowAt
  have ht' : t ∈ stkOf (g :: fs) := by
    rcases List.mem_append.1 ht with ht | ht
    · have := h.ltSeg ht; omega
    · exact ht
  obtain ⟨q, hq, hqr⟩ := h.frs.2.back ht'
  have fback : ∀ x ∈ seg f, ∃ q ∈ g :: fs, Reach (E out) x q.v := by
    intro x hx
    obtain ⟨p, hp, hr⟩ := hf.back x hx
    rcases List.mem_cons.1 hp with rfl | hp
    · exact ⟨q, hq, (hr.trans htr).trans hqr⟩
    · exact ⟨p, hp, hr⟩
  have hl1 : min (s.low g.v) (s.low f.v) ≤ s.low g.v := Nat.min_le_left _ _
  have hl2 : min (s.low g.v) (s.low f.v) ≤ s.low f.v := Nat.min_le_right _ _
  have turn : ∀ q ∈ g :: fs, ∃ q' ∈ (⟨g.v, g.i, f.rest ++ f.v :: g.rest⟩ : Fr) :: fs, q'.v = q.v := by
    intro q hq
    rcases List.mem_cons.1 hq with rfl | hq
    · exact ⟨⟨q.v, q.i, f.rest ++ f.v :: q.rest⟩, by simp, rfl⟩
    · exact ⟨q, by simp [hq], rfl⟩
  refine h.relow _ _ hst rfl ⟨⟨hg.inb, hg.up, ?_, ?_, ?_, ?_, ?_, ?_⟩, ?_⟩
  · intro x hx
    simp only [seg, List.append_assoc, List.cons_append] at hx
    rcases List.mem_append.1 hx with hx | hx
    · exact (Reach.edge hgf).trans (hf.down x (by simp [seg, hx]))
    · rcases List.mem_cons.1 hx with rfl | hx
      · exact Reach.edge hgf
      · exact hg.down x hx
  · intro x hx
    simp only [seg, List.append_assoc, List.cons_append] at hx
    have h5 : ∃ q ∈ g :: fs, Reach (E out) x q.v := by
      rcases List.mem_append.1 hx with hx | hx
      · exact fback x (by simp [seg, hx])
      · rcases List.mem_cons.1 hx with rfl | hx
        · exact fback f.v (mem_seg_v f)
        · exact hg.back x hx
    obtain ⟨q, hq, hr⟩ := h5
    obtain ⟨q', hq', e⟩ := turn q hq
    exact ⟨q', hq', by rw [e]; exact hr⟩
  · intro x hx y hy
    show _ ∧ (_ → upd s.low g.v (min (s.low g.v) (s.low f.v)) g.v ≤ _)
    rw [upd_same]
    rcases List.mem_append.1 hx with hx | hx
    · obtain ⟨h1, h2⟩ := hf.seenR x hx y hy
      exact ⟨h1, fun hm => Nat.le_trans hl2 (h2 hm)⟩
    · rcases List.mem_cons.1 hx with rfl | hx
      · obtain ⟨h1, h2⟩ := hf.seenV y (by rw [hi, List.take_length]; exact hy)
        exact ⟨h1, fun hm => Nat.le_trans hl2 (h2 hm)⟩
      · obtain ⟨h1, h2⟩ := hg.seenR x hx y hy
        exact ⟨h1, fun hm => Nat.le_trans hl1 (h2 hm)⟩
  · intro y hy
    show _ ∧ (_ → upd s.low g.v (min (s.low g.v) (s.low f.v)) g.v ≤ _)
    rw [upd_same]
    obtain ⟨h1, h2⟩ := hg.seenV y hy
    exact ⟨h1, fun hm => Nat.le_trans hl1 (h2 hm)⟩
  · show upd s.low g.v (min (s.low g.v) (s.low f.v)) g.v ≤ _
    rw [upd_same]
    exact Nat.le_trans hl1 hg.lowLe
  · show ∃ t ∈ _, _ ∧ upd s.low g.v (min (s.low g.v) (s.low f.v)) g.v = s.idx t
    rw [upd_same, hst]
    rcases Nat.le_total (s.low g.v) (s.low f.v) with hle | hle
    · rw [Nat.min_eq_left hle]
      obtain ⟨t, ht, hr, e⟩ := hg.lowAt
      exact ⟨t, by simp only [stkOf] at ht ⊢; simp [ht], hr, e⟩
    · rw [Nat.min_eq_right hle]
      exact ⟨t, ht, (Reach.edge hgf).trans htr, hte⟩
  · refine h.frs.2.2.keep (fun _ _ => rfl) (fun q hq => upd_ne _ _ _ ?_) (fun _ _ hm => hm) (fun x hx => h.mem (by simp [stkOf, hx]))
    intro e
    have h1 := h.srt
    rw [h.stk] at h1
    have h2 := (List.pairwise_append.1 h1).2.1
    have := (List.pairwise_append.1 h2).2.2 g.v (mem_seg_v g) q.v (mem_stkOf_v hq)
    rw [e] at this
    omega

theorem TInv.bottom {out : List (List Nat)} {s : St} {f : Fr} (h : TInv out s [f]) : s.low f.v = s.idx f.v := by
  obtain ⟨t, ht, htr, hte⟩ := h.frs.1.lowAt
  have h1 := h.frs.1.lowLe
  simp only [stkOf, List.append_nil] at ht
  have := h.ltSeg ht
  omega

theorem segOf_eq {v : Nat} {r t : List Nat} (h : v ∉ r) : segOf v (r ++ v :: t) = r ++ [v] ∧ restOf v (r ++ v :: t) = t := by
  induction r with
  | nil => simp [segOf, restOf]
  | cons a r ih =>
    have h1 : a ≠ v := fun e => h (by simp [e])
    obtain ⟨i1, i2⟩ := ih (fun hm => h (by simp [hm]))
    simp only [segOf, restOf, List.cons_append] at i1 i2 ⊢
    rw [List.takeWhile_cons_of_pos (by simpa using h1), List.dropWhile_cons_of_pos (by simpa using h1)]
    exact ⟨by rw [List.cons_append, i1], i2⟩

/-- A component's head is done: its part of the stack is a component. -/
theorem step_pop {out : List (List Nat)} {s : St} {f : Fr} {fs : List Fr} (h : TInv out s (f :: fs)) (hi : f.i = (row out f.v).length) (he : s.low f.v = s.idx f.v) (low' : Nat → Nat)
    (hl : ∀ g ∈ fs, low' g.v = s.low g.v) :
    TInv out (popC f.v { s with low := low', wlk := fs.map fun f => (f.v, f.i) }) fs ∧ segOf f.v s.stk = seg f ∧ restOf f.v s.stk = stkOf fs := by
  have hf := h.frs.1
  have hstk : s.stk = f.rest ++ f.v :: stkOf fs := by rw [h.stk]; simp [stkOf, seg]
  obtain ⟨e1, e2⟩ := segOf_eq (t := stkOf fs) h.notRest
  rw [← hstk] at e1 e2
  have e1 : segOf f.v s.stk = seg f := e1
  refine ⟨?_, e1, e2⟩
  have hnd : (seg f).Nodup := by
    have h1 := h.srt
    rw [h.stk] at h1
    exact nodup_of_lt (List.pairwise_append.1 h1).1
  have hin : ∀ x, x ∈ s.stk ↔ x ∈ seg f ∨ x ∈ stkOf fs := fun x => by rw [h.stk]; simp [stkOf]
  have hout' : ∀ x ∈ seg f, x ∉ stkOf fs := fun x hx hm => by have := h.lt hx hm; omega
  -- the edges of the component lead into it, or to what was done
  have edge : ∀ x ∈ seg f, ∀ y, E out x y → y ∈ seg f ∨ dn s y := by
    intro x hx y hy
    have h5 : s.idx y ≠ 0 ∧ (y ∈ s.stk → s.low f.v ≤ s.idx y) := by
      rcases List.mem_append.1 hx with hx | hx
      · exact hf.seenR x hx y hy
      · simp at hx; subst hx; exact hf.seenV y (by rw [hi, List.take_length]; exact hy)
    by_cases hm : y ∈ s.stk
    · rcases (hin y).1 hm with h6 | h6
      · exact .inl h6
      · have := h.lt (mem_seg_v f) h6
        have := h5.2 hm
        omega
    · exact .inr ⟨h5.1, hm⟩
  have closed : ∀ x, (x ∈ seg f ∨ dn s x) → ∀ y, Reach (E out) x y → (y ∈ seg f ∨ dn s y) := by
    intro x hx y hr
    refine hr (fun z => z ∈ seg f ∨ dn s z) hx ?_
    intro a b ha hab
    rcases ha with ha | ha
    · exact edge a ha b hab
    · exact .inr ((h.fin a ha).2 b hab).1
  have dclosed : ∀ x, dn s x → ∀ y, Reach (E out) x y → dn s y := fun x hx y hr => hr (dn s) hx (fun a b ha hab => ((h.fin a ha).2 b hab).1)
  have toHead : ∀ x ∈ seg f, Reach (E out) x f.v := by
    intro x hx
    obtain ⟨g, hg, hr⟩ := hf.back x hx
    rcases List.mem_cons.1 hg with rfl | hg
    · exact hr
    · have hgs := mem_stkOf_v hg
      rcases closed x (.inl hx) g.v hr with h6 | h6
      · exact (hout' _ h6 hgs).elim
      · exact (h6.2 ((hin _).2 (.inr hgs))).elim
  have hdn : ∀ x, dn (popC f.v { s with low := low', wlk := fs.map fun f => (f.v, f.i) }) x ↔ dn s x ∨ x ∈ seg f := by
    intro x
    simp only [dn, popC, e2]
    constructor
    · rintro ⟨h1, h2⟩
      by_cases hx : x ∈ seg f
      · exact .inr hx
      · exact .inl ⟨h1, fun hm => ((hin x).1 hm).elim hx h2⟩
    · rintro (⟨h1, h2⟩ | hx)
      · exact ⟨h1, fun hm => h2 ((hin x).2 (.inr hm))⟩
      · exact ⟨h.vst x ((hin x).2 (.inl hx)), hout' x hx⟩
  have cIn : ∀ x ∈ seg f, (popC f.v { s with low := low', wlk := fs.map fun f => (f.v, f.i) }).comp x = s.size.length := by
    intro x hx
    simp only [popC, e1]
    rw [if_pos (by simpa using hx)]
  have cOut : ∀ x, x ∉ seg f → (popC f.v { s with low := low', wlk := fs.map fun f => (f.v, f.i) }).comp x = s.comp x := by
    intro x hx
    simp only [popC, e1]
    rw [if_neg (by simpa using hx)]
  have notBoth : ∀ x, dn s x → x ∉ seg f := fun x hx hm => hx.2 ((hin x).2 (.inl hm))
  refine ⟨e2, rfl, ?_, h.le, h.inj, h.rng, ?_, ?_, ?_, ?_, ?_, ?_⟩
  · intro x
    show (if (segOf f.v s.stk).contains x then false else s.ons x) = true ↔ x ∈ restOf f.v s.stk
    rw [e1, e2]
    by_cases hx : x ∈ seg f
    · rw [if_pos (by simpa using hx)]
      simp [hout' x hx]
    · rw [if_neg (by simpa using hx), h.ons x, hin x]
      simp [hx]
  · intro x hx
    have hx' : x ∈ restOf f.v s.stk := hx
    rw [e2] at hx'
    exact h.vst x ((hin x).2 (.inr hx'))
  · show (restOf f.v s.stk).Pairwise _
    rw [e2]
    have h1 := h.srt
    rw [h.stk] at h1
    exact (List.pairwise_append.1 h1).2.1
  · refine h.frs.2.keep (fun _ _ => rfl) hl (fun x _ hm => ?_) (fun x hx => h.mem (by simp [stkOf, hx]))
    have hm' : x ∈ restOf f.v s.stk := hm
    rw [e2] at hm'
    exact (hin x).2 (.inr hm')
  · intro x hx
    have hsz : (popC f.v { s with low := low', wlk := fs.map fun f => (f.v, f.i) }).size.length = s.size.length + 1 := by simp [popC]
    rw [hsz]
    rcases (hdn x).1 hx with hd | hm
    · obtain ⟨h1, h2⟩ := h.fin x hd
      rw [cOut x (notBoth x hd)]
      refine ⟨by omega, fun y hy => ⟨(hdn y).2 (.inl (h2 y hy).1), ?_⟩⟩
      rw [cOut y (notBoth y (h2 y hy).1)]
      exact (h2 y hy).2
    · rw [cIn x hm]
      refine ⟨by omega, fun y hy => ?_⟩
      rcases edge x hm y hy with h6 | h6
      · exact ⟨(hdn y).2 (.inr h6), by rw [cIn y h6]; exact Nat.le_refl _⟩
      · refine ⟨(hdn y).2 (.inl h6), ?_⟩
        rw [cOut y (notBoth y h6)]
        exact Nat.le_of_lt (h.fin y h6).1
  · intro x y hx hy
    rcases (hdn x).1 hx with hx | hx <;> rcases (hdn y).1 hy with hy | hy
    · rw [cOut x (notBoth x hx), cOut y (notBoth y hy)]; exact h.part x y hx hy
    · rw [cOut x (notBoth x hx), cIn y hy]
      constructor
      · intro e; have := (h.fin x hx).1; omega
      · intro hm; exact (notBoth y (dclosed x hx y hm.1) hy).elim
    · rw [cIn x hx, cOut y (notBoth y hy)]
      constructor
      · intro e; have := (h.fin y hy).1; omega
      · intro hm; exact (notBoth x (dclosed y hy x hm.2) hx).elim
    · rw [cIn x hx, cIn y hy]
      exact ⟨fun _ => ⟨(toHead x hx).trans (hf.down y hy), (toHead y hy).trans (hf.down x hx)⟩, fun _ => rfl⟩
  · intro c m hm
    have hm' : (s.size ++ [(segOf f.v s.stk).length])[c]? = some m := hm
    rw [e1] at hm'
    by_cases hc : c < s.size.length
    · rw [List.getElem?_append_left hc] at hm'
      obtain ⟨h1, h2⟩ := h.cnt c m hm'
      refine ⟨h1, h2.trans (cntB_congr fun x _ => ?_)⟩
      show _ = (s.idx x != 0 && !(if (segOf f.v s.stk).contains x then false else s.ons x) && (if (segOf f.v s.stk).contains x then s.size.length else s.comp x) == c)
      rw [e1]
      by_cases hx : x ∈ seg f
      · rw [if_pos (by simpa using hx), if_pos (by simpa using hx)]
        have h7 : s.ons x = true := (h.ons x).2 ((hin x).2 (.inl hx))
        have h8 : (s.size.length == c) = false := by simp; omega
        rw [h7, h8]
        simp
      · rw [if_neg (by simpa using hx), if_neg (by simpa using hx)]
    · have hc' : c = s.size.length := by
        have := (List.getElem?_eq_some_iff.1 hm').1
        simp at this
        omega
      subst hc'
      rw [List.getElem?_append_right (Nat.le_refl _), Nat.sub_self] at hm'
      simp at hm'
      subst hm'
      refine ⟨by simp [seg], ?_⟩
      rw [← cntB_list hnd (fun x hx => h.rng x (h.vst x ((hin x).2 (.inl hx))))]
      refine cntB_congr fun x _ => ?_
      show _ = (s.idx x != 0 && !(if (segOf f.v s.stk).contains x then false else s.ons x) && (if (segOf f.v s.stk).contains x then s.size.length else s.comp x) == s.size.length)
      rw [e1]
      by_cases hx : x ∈ seg f
      · have hc : (seg f).contains x = true := by simpa using hx
        have h9 : (s.idx x != 0) = true := by simpa using h.vst x ((hin x).2 (.inl hx))
        rw [if_pos hc, if_pos hc, hc, h9]
        simp
      · have hc : (seg f).contains x = false := by simpa using hx
        rw [if_neg (by rw [hc]; simp), if_neg (by rw [hc]; simp), hc]
        symm
        rw [Bool.and_eq_false_iff]
        by_cases hd : dn s x
        · right
          have := (h.fin x hd).1
          simp
          omega
        · left
          rw [Bool.and_eq_false_iff]
          by_cases h0 : s.idx x = 0
          · left; simp [h0]
          · right
            have hm : x ∈ s.stk := Decidable.byContradiction fun hm => hd ⟨h0, hm⟩
            simp [(h.ons x).2 hm]

theorem TInv.started {out : List (List Nat)} {s : St} (h : TInv out s []) {r : Nat} (hr : r < out.length) (h0 : s.idx r = 0) : TInv out (start r s) [⟨r, 0, []⟩] :=
  h.visited hr h0 [] [] rfl rfl (fun g gs e => by cases e) trivial

/-- One turn of the loop keeps the invariant. -/
theorem TInv.step {out : List (List Nat)} (hout : ∀ v w, E out v w → w < out.length) {s : St} {fs : List Fr} (h : TInv out s fs) : ∃ fs', TInv out (stepW out s) fs' := by
  cases fs with
  | nil =>
    have : stepW out s = s := by unfold stepW; rw [h.wlk]; rfl
    rw [this]
    exact ⟨[], h⟩
  | cons f fs =>
    have hW : s.wlk = (f.v, f.i) :: fs.map fun f => (f.v, f.i) := h.wlk
    unfold stepW
    rw [hW]
    simp only
    cases hw : (row out f.v)[f.i]? with
    | some w =>
      simp only
      by_cases h0 : s.idx w = 0
      · rw [if_pos h0]
        exact ⟨_, step_new hout h hw h0⟩
      · rw [if_neg h0]
        by_cases ho : s.ons w = true
        · rw [if_pos ho]
          have hm := (h.ons w).1 ho
          refine ⟨_, step_old h hw h0 (min (s.low f.v) (s.idx w)) (Nat.min_le_left _ _) (fun _ => Nat.min_le_right _ _) ?_⟩
          rcases Nat.le_total (s.low f.v) (s.idx w) with hle | hle
          · rw [Nat.min_eq_left hle]
            obtain ⟨t, ht, hr, e⟩ := h.frs.1.lowAt
            exact ⟨t, by rw [h.stk]; exact ht, hr, e⟩
          · rw [Nat.min_eq_right hle]
            exact ⟨w, hm, Reach.edge (List.mem_of_getElem? hw), rfl⟩
        · rw [if_neg ho]
          have hm : w ∉ s.stk := fun hm => ho ((h.ons w).2 hm)
          have h5 := step_old h hw h0 (s.low f.v) (Nat.le_refl _) (fun hm' => (hm hm').elim) (by
            obtain ⟨t, ht, hr, e⟩ := h.frs.1.lowAt
            exact ⟨t, by rw [h.stk]; exact ht, hr, e⟩)
          have e : upd s.low f.v (s.low f.v) = s.low := by
            funext x
            by_cases e : x = f.v
            · subst e; rw [upd_same]
            · rw [upd_ne _ _ _ e]
          rw [e] at h5
          exact ⟨_, h5⟩
    | none =>
      have hi : f.i = (row out f.v).length := by
        have h1 := h.frs.1.inb
        have h2 := List.getElem?_eq_none_iff.1 hw
        omega
      simp only
      cases fs with
      | nil =>
        have hb := h.bottom
        simp only [List.map_nil, lowUp]
        rw [if_pos hb]
        exact ⟨[], (step_pop h hi hb s.low (fun g hg => by cases hg)).1⟩
      | cons g gs =>
        have hne : g.v ≠ f.v := h.neF (by simp)
        have hlv : lowUp f.v ((g :: gs).map fun f => (f.v, f.i)) s.low = upd s.low g.v (min (s.low g.v) (s.low f.v)) := rfl
        rw [hlv, upd_ne _ _ _ (fun e => hne e.symm)]
        by_cases he : s.low f.v = s.idx f.v
        · rw [if_pos he]
          refine ⟨g :: gs, (step_pop h hi he _ ?_).1⟩
          intro q hq
          have h1 := h.frs.2.1.lowLe
          have h2 := h.lt (mem_seg_v f) (show g.v ∈ stkOf (g :: gs) by simp [stkOf, seg])
          by_cases e : q.v = g.v
          · rw [e, upd_same]
            exact Nat.min_eq_left (by omega)
          · rw [upd_ne _ _ _ e]
        · rw [if_neg he]
          exact ⟨_, step_join h hi he⟩

theorem visit_seen {w x : Nat} {s : St} (h : s.idx x ≠ 0) : (visit w s).idx x ≠ 0 := by
  show upd s.idx w (s.vis + 1) x ≠ 0
  by_cases e : x = w
  · subst e; rw [upd_same]; omega
  · rw [upd_ne _ _ _ e]; exact h
theorem step_seen {out : List (List Nat)} {x : Nat} {s : St} (h : s.idx x ≠ 0) : (stepW out s).idx x ≠ 0 := by
  unfold stepW
  split
  · exact h
  · split
    · split
      · exact visit_seen h
      · split <;> exact h
    · split <;> exact h

theorem Rch.inv {out : List (List Nat)} (hout : ∀ v w, E out v w → w < out.length) {r : Nat} {s : St} (h : Rch out r s) : (∃ fs, TInv out s fs) ∧ (∀ x, x < r → s.idx x ≠ 0) ∧ r ≤ out.length := by
  refine h (fun r s => (∃ fs, TInv out s fs) ∧ (∀ x, x < r → s.idx x ≠ 0) ∧ r ≤ out.length) ⟨⟨[], TInv.zero out⟩, (fun x hx => by omega), Nat.zero_le _⟩ ?_ ?_ ?_
  · rintro r s ⟨⟨fs, hI⟩, hv, hr⟩ _ _
    exact ⟨hI.step hout, fun x hx => step_seen (hv x hx), hr⟩
  · rintro r s ⟨⟨fs, hI⟩, hv, hr⟩ hw hlt h0
    have hfs : fs = [] := by
      have := hI.wlk
      rw [hw] at this
      cases fs with
      | nil => rfl
      | cons f fs => simp at this
    subst hfs
    exact ⟨⟨_, hI.started hlt h0⟩, fun x hx => visit_seen (hv x hx), hr⟩
  · rintro r s ⟨hI, hv, hr⟩ _ hlt hi
    refine ⟨hI, fun x hx => ?_, hlt⟩
    by_cases e : x = r
    · subst e; exact hi
    · exact hv x (by omega)

theorem cntB_le (n : Nat) (p : Nat → Bool) : cntB n p ≤ n := by
  induction n with
  | zero => exact Nat.le_refl _
  | succ n ih => simp only [cntB]; have := Bool.toNat_le (p n); omega
theorem cntB_some {n : Nat} {p : Nat → Bool} (h : 0 < cntB n p) : ∃ x, x < n ∧ p x = true := by
  induction n with
  | zero => simp [cntB] at h
  | succ n ih =>
    simp only [cntB] at h
    by_cases e : p n = true
    · exact ⟨n, by omega, e⟩
    · have e' : p n = false := by simpa using e
      rw [e'] at h
      obtain ⟨x, hx, hp⟩ := ih (by simpa using h)
      exact ⟨x, by omega, hp⟩
/-- A one-to-one map of the numbers below a into those below b. -/
theorem pigeon {a b : Nat} (g : Nat → Nat) (hg : ∀ x, x < a → g x < b) (hi : ∀ x y, x < a → y < a → g x = g y → x = y) : a ≤ b := by
  have hn : ((List.range a).map g).Nodup := by
    rw [List.Nodup, List.pairwise_map]
    refine List.Pairwise.imp_of_mem ?_ List.nodup_range
    intro x y hx hy hxy e
    exact hxy (hi x y (List.mem_range.1 hx) (List.mem_range.1 hy) e)
  have h1 := cntB_list (n := b) hn (fun x hx => by
    obtain ⟨y, hy, rfl⟩ := List.mem_map.1 hx
    exact hg y (List.mem_range.1 hy))
  have h2 := cntB_le b (fun x => ((List.range a).map g).contains x)
  simp only [List.length_map, List.length_range] at h1
  omega

/-- What the machine has found in the end. -/
structure Comps (out : List (List Nat)) (comp : Nat → Nat) (size : List Nat) : Prop where
  lt : ∀ x, x < out.length → comp x < size.length
  part : ∀ x y, x < out.length → y < out.length → (comp x = comp y ↔ Mut (E out) x y)
  edge : ∀ x w, x < out.length → E out x w → comp w ≤ comp x
  cnt : ∀ c m, size[c]? = some m → 0 < m ∧ m = cntB out.length (fun x => comp x == c)

theorem Rch.comps {out : List (List Nat)} (hout : ∀ v w, E out v w → w < out.length) {s : St} (h : Rch out out.length s) (hw : s.wlk = []) : Comps out s.comp s.size := by
  obtain ⟨⟨fs, hI⟩, hv, _⟩ := h.inv hout
  have hfs : fs = [] := by
    have := hI.wlk
    rw [hw] at this
    cases fs with
    | nil => rfl
    | cons f fs => simp at this
  subst hfs
  have hs : s.stk = [] := hI.stk
  have hd : ∀ x, x < out.length → dn s x := fun x hx => ⟨hv x hx, by rw [hs]; simp⟩
  refine ⟨fun x hx => (hI.fin x (hd x hx)).1, fun x y hx hy => hI.part x y (hd x hx) (hd y hy), fun x w hx he => ((hI.fin x (hd x hx)).2 w he).2, fun c m hm => ?_⟩
  obtain ⟨h1, h2⟩ := hI.cnt c m hm
  refine ⟨h1, h2.trans (cntB_congr fun x hx => ?_)⟩
  have h3 : (s.idx x != 0) = true := by simpa using hv x hx
  have h4 : s.ons x = false := by
    have h5 := hI.ons x
    rw [hs] at h5
    simpa using h5
  rw [h3, h4]
  simp

theorem Comps.rep {out : List (List Nat)} {comp : Nat → Nat} {size : List Nat} (h : Comps out comp size) {c : Nat} (hc : c < size.length) : ∃ x, x < out.length ∧ comp x = c := by
  obtain ⟨h1, h2⟩ := h.cnt c _ (List.getElem?_eq_getElem hc)
  rw [h2] at h1
  obtain ⟨x, hx, hp⟩ := cntB_some h1
  exact ⟨x, hx, by simpa using hp⟩
theorem Comps.len_le {out : List (List Nat)} {comp : Nat → Nat} {size : List Nat} (h : Comps out comp size) : size.length ≤ out.length := by
  obtain ⟨g, hg⟩ := Go.Deep.choose_lt (fun c (hc : c < size.length) => h.rep hc)
  exact pigeon g (fun x hx => (hg x hx).1) (fun x y hx hy e => by rw [← (hg x hx).2, ← (hg y hy).2, e])
/-- Two such numberings of one partition have as many numbers. -/
theorem Comps.len_eq {out rev : List (List Nat)} {c1 c2 : Nat → Nat} {s1 s2 : List Nat} (h1 : Comps out c1 s1) (h2 : Comps rev c2 s2) (hl : rev.length = out.length)
    (hm : ∀ x y, Mut (E out) x y ↔ Mut (E rev) x y) : s1.length ≤ s2.length := by
  obtain ⟨g, hg⟩ := Go.Deep.choose_lt (fun c (hc : c < s1.length) => h1.rep hc)
  refine pigeon (fun c => c2 (g c)) (fun x hx => h2.lt _ (by rw [hl]; exact (hg x hx).1)) (fun x y hx hy e => ?_)
  have h3 := (h2.part (g x) (g y) (by rw [hl]; exact (hg x hx).1) (by rw [hl]; exact (hg y hy).1)).1 e
  have h4 := (h1.part (g x) (g y) (hg x hx).1 (hg y hy).1).2 ((hm _ _).2 h3)
  rw [(hg x hx).2, (hg y hy).2] at h4
  exact h4
end Go.Proofs.Qxb6605452a
