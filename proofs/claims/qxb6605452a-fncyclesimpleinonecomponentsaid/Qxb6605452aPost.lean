import Derived.Test.Qxb6605452aTarjan
namespace Go.Proofs.Qxb6605452a

/-- The nodes that the walk has finished, in order; the mark: the node was a component's head. -/
def stepP (out : List (List Nat)) (s : St) (P : List (Nat × Bool)) : List (Nat × Bool) :=
  match s.wlk with
  | [] => P
  | (v, i) :: W =>
    match (row out v)[i]? with
    | some _ => P
    | none => P ++ [(v, decide (lowUp v W s.low v = s.idx v))]

def RchP (out : List (List Nat)) (r : Nat) (s : St) (P : List (Nat × Bool)) : Prop :=
  ∀ Q : Nat → St → List (Nat × Bool) → Prop, Q 0 st0 [] → (∀ r s P, Q r s P → s.wlk ≠ [] → r < out.length → Q r (stepW out s) (stepP out s P)) →
    (∀ r s P, Q r s P → s.wlk = [] → r < out.length → s.idx r = 0 → Q r (start r s) P) →
    (∀ r s P, Q r s P → s.wlk = [] → r < out.length → s.idx r ≠ 0 → Q (r + 1) s P) → Q r s P
theorem RchP.zero (out : List (List Nat)) : RchP out 0 st0 [] := fun _ h _ _ _ => h
theorem RchP.step {out : List (List Nat)} {r : Nat} {s : St} {P : List (Nat × Bool)} (h : RchP out r s P) (hw : s.wlk ≠ []) (hr : r < out.length) : RchP out r (stepW out s) (stepP out s P) :=
  fun Q h0 h1 h2 h3 => h1 r s P (h Q h0 h1 h2 h3) hw hr
theorem RchP.start {out : List (List Nat)} {r : Nat} {s : St} {P : List (Nat × Bool)} (h : RchP out r s P) (hw : s.wlk = []) (hr : r < out.length) (hi : s.idx r = 0) : RchP out r (start r s) P :=
  fun Q h0 h1 h2 h3 => h2 r s P (h Q h0 h1 h2 h3) hw hr hi
theorem RchP.next {out : List (List Nat)} {r : Nat} {s : St} {P : List (Nat × Bool)} (h : RchP out r s P) (hw : s.wlk = []) (hr : r < out.length) (hi : s.idx r ≠ 0) : RchP out (r + 1) s P :=
  fun Q h0 h1 h2 h3 => h3 r s P (h Q h0 h1 h2 h3) hw hr hi
theorem RchP.rch {out : List (List Nat)} {r : Nat} {s : St} {P : List (Nat × Bool)} (h : RchP out r s P) : Rch out r s :=
  h (fun r s _ => Rch out r s) (Rch.zero out) (fun _ _ _ k hw hr => k.step hw hr) (fun _ _ _ k hw hr hi => k.start hw hr hi) (fun _ _ _ k hw hr hi => k.next hw hr hi)

/-! ### the last state is one -/
def nxt (out : List (List Nat)) (p : Nat × St) : Nat × St :=
  if p.1 < out.length then
    (match p.2.wlk with
     | [] => if p.2.idx p.1 = 0 then (p.1, start p.1 p.2) else (p.1 + 1, p.2)
     | _ :: _ => (p.1, stepW out p.2))
  else p
def iterN (out : List (List Nat)) : Nat → Nat × St → Nat × St
  | 0, p => p
  | k + 1, p => nxt out (iterN out k p)
theorem Rch.iter {out : List (List Nat)} {r : Nat} {s : St} (h : Rch out r s) : ∃ k, iterN out k (0, st0) = (r, s) := by
  refine h (fun r s => ∃ k, iterN out k (0, st0) = (r, s)) ⟨0, rfl⟩ ?_ ?_ ?_
  · rintro r s ⟨k, hk⟩ hw hr
    refine ⟨k + 1, ?_⟩
    simp only [iterN, hk, nxt, if_pos hr]
    cases e : s.wlk with
    | nil => exact (hw e).elim
    | cons a b => rfl
  · rintro r s ⟨k, hk⟩ hw hr hi
    refine ⟨k + 1, ?_⟩
    simp only [iterN, hk, nxt, if_pos hr, hw, if_pos hi]
  · rintro r s ⟨k, hk⟩ hw hr hi
    refine ⟨k + 1, ?_⟩
    simp only [iterN, hk, nxt, if_pos hr, hw, if_neg hi]
theorem iter_fix {out : List (List Nat)} {p q : Nat × St} {k : Nat} (h : iterN out k p = q) (hq : ¬ q.1 < out.length) (j : Nat) : iterN out (k + j) p = q := by
  induction j with
  | zero => exact h
  | succ j ih =>
    show nxt out (iterN out (k + j) p) = q
    rw [ih, nxt, if_neg hq]
theorem Rch.uniq {out : List (List Nat)} {s t : St} (h : Rch out out.length s) (k : Rch out out.length t) : s = t := by
  obtain ⟨i, hi⟩ := h.iter
  obtain ⟨j, hj⟩ := k.iter
  have h1 := iter_fix hi (by simp) j
  have h2 := iter_fix hj (by simp) i
  rw [Nat.add_comm j i, h1] at h2
  exact (Prod.mk.inj h2).2

/-! ### heads -/
def heads (P : List (Nat × Bool)) : List Nat := (P.filter (·.2)).map (·.1)
theorem heads_true (P : List (Nat × Bool)) (v : Nat) : heads (P ++ [(v, true)]) = heads P ++ [v] := by simp [heads]
theorem heads_false (P : List (Nat × Bool)) (v : Nat) : heads (P ++ [(v, false)]) = heads P := by simp [heads]

structure PInv (s : St) (fs : List Fr) (P : List (Nat × Bool)) : Prop where
  cnt : P.length + fs.length = s.vis
  len : (heads P).length = s.size.length
  head : ∀ c r, (heads P)[c]? = some r → dn s r ∧ s.comp r = c ∧ ∀ x, dn s x → s.comp x = c → s.idx r ≤ s.idx x
  tail : ∀ v, (v, false) ∈ P → (∃ f ∈ fs, v ∈ f.rest) ∨ (dn s v ∧ ∃ r, dn s r ∧ s.comp r = s.comp v ∧ s.idx r < s.idx v)

theorem PInv.zero : PInv st0 [] [] := ⟨rfl, rfl, fun c r h => by simp [heads] at h, fun v h => by cases h⟩

theorem PInv.visited {s : St} {fs fs' : List Fr} {P : List (Nat × Bool)} (h : PInv s fs P) {w : Nat} (h0 : s.idx w = 0) (hns : w ∉ s.stk) (W : List (Nat × Nat))
    (hl : fs'.length = fs.length) (hr : ∀ f ∈ fs, ∃ g ∈ fs', g.rest = f.rest) : PInv { visit w s with wlk := W } (⟨w, 0, []⟩ :: fs') P := by
  have old : ∀ x, s.idx x ≠ 0 → upd s.idx w (s.vis + 1) x = s.idx x := fun x hx => upd_ne _ _ _ (fun e => hx (by rw [e]; exact h0))
  have hdn : ∀ x, dn { visit w s with wlk := W } x ↔ dn s x := by
    intro x
    simp only [dn, visit]
    by_cases e : x = w
    · subst e
      simp [h0]
    · rw [upd_ne _ _ _ e]
      simp [e]
  refine ⟨?_, h.len, ?_, ?_⟩
  · have := h.cnt
    simp only [List.length_cons, hl, visit]
    omega
  · intro c r hc
    obtain ⟨h1, h2, h3⟩ := h.head c r hc
    refine ⟨(hdn r).2 h1, h2, fun x hx hxc => ?_⟩
    have hx' := (hdn x).1 hx
    show upd s.idx w (s.vis + 1) r ≤ upd s.idx w (s.vis + 1) x
    rw [old _ h1.1, old _ hx'.1]
    exact h3 x hx' hxc
  · intro v hv
    rcases h.tail v hv with ⟨f, hf, hm⟩ | ⟨h1, r, h2, h3, h4⟩
    · obtain ⟨g, hg, e⟩ := hr f hf
      exact .inl ⟨g, by simp [hg], by rw [e]; exact hm⟩
    · refine .inr ⟨(hdn v).2 h1, r, (hdn r).2 h2, h3, ?_⟩
      show upd s.idx w (s.vis + 1) r < upd s.idx w (s.vis + 1) v
      rw [old _ h1.1, old _ h2.1]
      exact h4

theorem PInv.keep {s : St} {fs fs' : List Fr} {P : List (Nat × Bool)} (h : PInv s fs P) (low' : Nat → Nat) (W : List (Nat × Nat))
    (hl : fs'.length = fs.length) (hr : ∀ f ∈ fs, ∃ g ∈ fs', g.rest = f.rest) : PInv { s with low := low', wlk := W } fs' P := by
  refine ⟨by rw [hl]; exact h.cnt, h.len, h.head, fun v hv => ?_⟩
  rcases h.tail v hv with ⟨f, hf, hm⟩ | h1
  · obtain ⟨g, hg, e⟩ := hr f hf
    exact .inl ⟨g, hg, by rw [e]; exact hm⟩
  · exact .inr h1

theorem PInv.join {s : St} {f g : Fr} {fs : List Fr} {P : List (Nat × Bool)} (h : PInv s (f :: g :: fs) P) (low' : Nat → Nat) (W : List (Nat × Nat)) :
    PInv { s with low := low', wlk := W } (⟨g.v, g.i, f.rest ++ f.v :: g.rest⟩ :: fs) (P ++ [(f.v, false)]) := by
  refine ⟨?_, by rw [heads_false]; exact h.len, by rw [heads_false]; exact h.head, fun v hv => ?_⟩
  · have := h.cnt
    simp only [List.length_cons, List.length_append, List.length_nil] at this ⊢
    omega
  · rcases List.mem_append.1 hv with hv | hv
    · rcases h.tail v hv with ⟨q, hq, hm⟩ | h1
      · left
        rcases List.mem_cons.1 hq with rfl | hq
        · exact ⟨⟨g.v, g.i, q.rest ++ q.v :: g.rest⟩, by simp, by simp [hm]⟩
        · rcases List.mem_cons.1 hq with rfl | hq
          · exact ⟨⟨q.v, q.i, f.rest ++ f.v :: q.rest⟩, by simp, by simp [hm]⟩
          · exact ⟨q, by simp [hq], hm⟩
      · exact .inr h1
    · simp at hv
      subst hv
      exact .inl ⟨⟨g.v, g.i, f.rest ++ f.v :: g.rest⟩, by simp, by simp⟩

theorem PInv.pop {out : List (List Nat)} {s : St} {f : Fr} {fs : List Fr} {P : List (Nat × Bool)} (h : PInv s (f :: fs) P) (hI : TInv out s (f :: fs)) (low' : Nat → Nat) (W : List (Nat × Nat))
    (e1 : segOf f.v s.stk = seg f) (e2 : restOf f.v s.stk = stkOf fs) :
    PInv (popC f.v { s with low := low', wlk := W }) fs (P ++ [(f.v, true)]) := by
  obtain ⟨t, ht⟩ : ∃ t, t = popC f.v { s with low := low', wlk := W } := ⟨_, rfl⟩
  rw [← ht]
  have ti : t.idx = s.idx := by rw [ht]; rfl
  have tk : t.stk = stkOf fs := by rw [ht]; exact e2
  have tc : ∀ x, t.comp x = if (seg f).contains x then s.size.length else s.comp x := by
    intro x
    rw [ht]
    show (if (segOf f.v s.stk).contains x then _ else _) = _
    rw [e1]
  have tz : t.size = s.size ++ [(seg f).length] := by
    rw [ht]
    show s.size ++ [(segOf f.v s.stk).length] = _
    rw [e1]
  have tv : t.vis = s.vis := by rw [ht]; rfl
  have hin : ∀ x, x ∈ s.stk ↔ x ∈ seg f ∨ x ∈ stkOf fs := fun x => by rw [hI.stk]; simp [stkOf]
  have hsep : ∀ x ∈ seg f, x ∉ stkOf fs := fun x hx hm => by have := hI.lt hx hm; omega
  have hseg : ∀ x ∈ seg f, dn t x ∧ t.comp x = s.size.length := fun x hx =>
    ⟨⟨by rw [ti]; exact hI.vst x ((hin x).2 (.inl hx)), by rw [tk]; exact hsep x hx⟩, by rw [tc, if_pos (by simpa using hx)]⟩
  have hold : ∀ x, dn s x → dn t x ∧ t.comp x = s.comp x := fun x hx => by
    have h1 : x ∉ seg f := fun hm => hx.2 ((hin x).2 (.inl hm))
    exact ⟨⟨by rw [ti]; exact hx.1, by rw [tk]; exact fun hm => hx.2 ((hin x).2 (.inr hm))⟩, by rw [tc, if_neg (by simpa using h1)]⟩
  have hback : ∀ x, dn t x → x ∈ seg f ∨ dn s x := fun x hx => by
    by_cases hm : x ∈ seg f
    · exact .inl hm
    · refine .inr ⟨by rw [← ti]; exact hx.1, fun hk => ?_⟩
      rcases (hin x).1 hk with h1 | h1
      · exact hm h1
      · exact hx.2 (by rw [tk]; exact h1)
  refine ⟨?_, ?_, ?_, ?_⟩
  · have := h.cnt
    rw [tv]
    simp only [List.length_cons, List.length_append, List.length_nil] at this ⊢
    omega
  · rw [heads_true, tz, List.length_append, List.length_append, h.len]; rfl
  · intro c r hc
    rw [heads_true] at hc
    by_cases hlt : c < (heads P).length
    · rw [List.getElem?_append_left hlt] at hc
      obtain ⟨h1, h2, h3⟩ := h.head c r hc
      refine ⟨(hold r h1).1, by rw [(hold r h1).2]; exact h2, fun x hx hxc => ?_⟩
      rw [ti]
      rcases hback x hx with h4 | h4
      · rw [(hseg x h4).2] at hxc
        rw [h.len] at hlt
        omega
      · exact h3 x h4 (by rw [← (hold x h4).2]; exact hxc)
    · rw [List.getElem?_append_right (by omega)] at hc
      have hce : c = (heads P).length := by
        by_cases e : c - (heads P).length = 0
        · omega
        · rw [List.getElem?_eq_none (by simp; omega)] at hc; cases hc
      rw [hce, Nat.sub_self] at hc
      simp at hc
      subst hc
      refine ⟨(hseg _ (mem_seg_v f)).1, by rw [(hseg _ (mem_seg_v f)).2, hce, h.len], fun x hx hxc => ?_⟩
      rw [ti]
      rcases hback x hx with h4 | h4
      · exact hI.ltSeg h4
      · rw [(hold x h4).2] at hxc
        have := (hI.fin x h4).1
        rw [← h.len] at this
        omega
  · intro v hv
    rcases List.mem_append.1 hv with hv | hv
    · rcases h.tail v hv with ⟨q, hq, hm⟩ | ⟨h1, r, h2, h3, h4⟩
      · rcases List.mem_cons.1 hq with rfl | hq
        · right
          have hvs : v ∈ seg q := by simp [seg, hm]
          refine ⟨(hseg v hvs).1, q.v, (hseg _ (mem_seg_v q)).1, by rw [(hseg v hvs).2, (hseg _ (mem_seg_v q)).2], ?_⟩
          rw [ti]
          have h5 := hI.ltSeg hvs
          have h6 : s.idx q.v ≠ s.idx v := fun e => hI.notRest (by
            have := hI.inj q.v v (hI.mem (by simp [stkOf, seg])) e
            rw [this]; exact hm)
          omega
        · exact .inl ⟨q, hq, hm⟩
      · exact .inr ⟨(hold v h1).1, r, (hold r h2).1, by rw [(hold v h1).2, (hold r h2).2]; exact h3, by rw [ti]; exact h4⟩
    · simp at hv

theorem PInv.step {out : List (List Nat)} (hout : ∀ v w, E out v w → w < out.length) {s : St} {fs : List Fr} {P : List (Nat × Bool)} (h : TInv out s fs) (hp : PInv s fs P) :
    ∃ fs', TInv out (stepW out s) fs' ∧ PInv (stepW out s) fs' (stepP out s P) := by
  cases fs with
  | nil =>
    have : stepW out s = s := by unfold stepW; rw [h.wlk]; rfl
    have e2 : stepP out s P = P := by unfold stepP; rw [h.wlk]; rfl
    rw [this, e2]
    exact ⟨[], h, hp⟩
  | cons f fs =>
    have hW : s.wlk = (f.v, f.i) :: fs.map fun f => (f.v, f.i) := h.wlk
    unfold stepW stepP
    rw [hW]
    simp only
    cases hw : (row out f.v)[f.i]? with
    | some w =>
      simp only
      have hrest : ∀ q ∈ f :: fs, ∃ g ∈ (⟨f.v, f.i + 1, f.rest⟩ : Fr) :: fs, g.rest = q.rest := by
        intro q hq
        rcases List.mem_cons.1 hq with rfl | hq
        · exact ⟨⟨q.v, q.i + 1, q.rest⟩, by simp, rfl⟩
        · exact ⟨q, by simp [hq], rfl⟩
      by_cases h0 : s.idx w = 0
      · rw [if_pos h0]
        exact ⟨_, step_new hout h hw h0, hp.visited h0 (fun hm => h.vst w hm h0) _ rfl hrest⟩
      · rw [if_neg h0]
        by_cases ho : s.ons w = true
        · rw [if_pos ho]
          have hm := (h.ons w).1 ho
          refine ⟨_, step_old h hw h0 (min (s.low f.v) (s.idx w)) (Nat.min_le_left _ _) (fun _ => Nat.min_le_right _ _) ?_, hp.keep _ _ rfl hrest⟩
          rcases Nat.le_total (s.low f.v) (s.idx w) with hle | hle
          · rw [Nat.min_eq_left hle]
            obtain ⟨t, ht, hr, e⟩ := h.frs.1.lowAt
            exact ⟨t, by rw [h.stk]; exact ht, hr, e⟩
          · rw [Nat.min_eq_right hle]
            exact ⟨w, hm, Reach.edge (List.mem_of_getElem? hw), rfl⟩
        · rw [if_neg ho]
          have hm : w ∉ s.stk := fun hm => ho ((h.ons w).2 hm)
          have h5 := step_old h hw h0 (s.low f.v) (Nat.le_refl _) (fun hm' => (hm hm').elim) (by
            obtain ⟨t, ht, hr, e⟩ := h.frs.1.lowAt
            exact ⟨t, by rw [h.stk]; exact ht, hr, e⟩)
          have e : upd s.low f.v (s.low f.v) = s.low := by
            funext x
            by_cases e : x = f.v
            · subst e; rw [upd_same]
            · rw [upd_ne _ _ _ e]
          rw [e] at h5
          exact ⟨_, h5, hp.keep s.low _ rfl hrest⟩
    | none =>
      have hi : f.i = (row out f.v).length := by
        have h1 := h.frs.1.inb
        have h2 := List.getElem?_eq_none_iff.1 hw
        omega
      simp only
      cases fs with
      | nil =>
        have hb := h.bottom
        simp only [List.map_nil, lowUp]
        rw [if_pos hb, decide_eq_true hb]
        obtain ⟨a1, a2, a3⟩ := step_pop h hi hb s.low (fun g hg => by cases hg)
        exact ⟨[], a1, hp.pop h s.low [] a2 a3⟩
      | cons g gs =>
        have hne : g.v ≠ f.v := h.neF (by simp)
        have hlv : lowUp f.v ((g :: gs).map fun f => (f.v, f.i)) s.low = upd s.low g.v (min (s.low g.v) (s.low f.v)) := rfl
        rw [hlv, upd_ne _ _ _ (fun e => hne e.symm)]
        by_cases he : s.low f.v = s.idx f.v
        · rw [if_pos he, decide_eq_true he]
          obtain ⟨a1, a2, a3⟩ := step_pop h hi he (upd s.low g.v (min (s.low g.v) (s.low f.v))) (by
            intro q hq
            have h1 := h.frs.2.1.lowLe
            have h2 := h.lt (mem_seg_v f) (show g.v ∈ stkOf (g :: gs) by simp [stkOf, seg])
            by_cases e : q.v = g.v
            · rw [e, upd_same]
              exact Nat.min_eq_left (by omega)
            · rw [upd_ne _ _ _ e])
          exact ⟨g :: gs, a1, hp.pop h _ _ a2 a3⟩
        · rw [if_neg he, decide_eq_false he]
          exact ⟨_, step_join h hi he, hp.join _ _⟩

theorem RchP.inv {out : List (List Nat)} (hout : ∀ v w, E out v w → w < out.length) {r : Nat} {s : St} {P : List (Nat × Bool)} (h : RchP out r s P) : ∃ fs, TInv out s fs ∧ PInv s fs P := by
  refine h (fun r s P => ∃ fs, TInv out s fs ∧ PInv s fs P) ⟨[], TInv.zero out, PInv.zero⟩ ?_ ?_ ?_
  · rintro r s P ⟨fs, hI, hp⟩ _ _
    exact hp.step hout hI
  · rintro r s P ⟨fs, hI, hp⟩ hw hlt h0
    have hfs : fs = [] := by
      have := hI.wlk
      rw [hw] at this
      cases fs with
      | nil => rfl
      | cons f fs => simp at this
    subst hfs
    exact ⟨_, hI.started hlt h0, hp.visited h0 (fun hm => hI.vst r hm h0) _ rfl (fun f hf => by cases hf)⟩
  · rintro r s P h _ _ _
    exact h

/-- What the plain walk's order says of the components. -/
structure Post (out : List (List Nat)) (s : St) (P : List (Nat × Bool)) : Prop where
  cnt : P.length ≤ out.length
  rng : ∀ v b, (v, b) ∈ P → v < out.length
  len : (heads P).length = s.size.length
  head : ∀ c r, (heads P)[c]? = some r → r < out.length ∧ s.comp r = c ∧ ∀ x, x < out.length → s.comp x = c → s.idx r ≤ s.idx x
  tail : ∀ v, (v, false) ∈ P → ∃ r, r < out.length ∧ s.comp r = s.comp v ∧ s.idx r < s.idx v
  inj : ∀ x y, x < out.length → s.idx x = s.idx y → x = y

theorem RchP.post {out : List (List Nat)} (hout : ∀ v w, E out v w → w < out.length) {s : St} {P : List (Nat × Bool)} (h : RchP out out.length s P) (hw : s.wlk = []) (hv : s.vis ≤ out.length) : Post out s P := by
  obtain ⟨fs, hI, hp⟩ := h.inv hout
  have hfs : fs = [] := by
    have := hI.wlk
    rw [hw] at this
    cases fs with
    | nil => rfl
    | cons f fs => simp at this
  subst hfs
  have hall := (h.rch.inv hout).2.1
  have hs : s.stk = [] := hI.stk
  have hd : ∀ x, x < out.length → dn s x := fun x hx => ⟨hall x hx, by rw [hs]; simp⟩
  have hrd : ∀ x, dn s x → x < out.length := fun x hx => hI.rng x hx.1
  have htl : ∀ v, (v, false) ∈ P → dn s v ∧ ∃ r, dn s r ∧ s.comp r = s.comp v ∧ s.idx r < s.idx v := fun v hv => by
    rcases hp.tail v hv with ⟨f, hf, _⟩ | h1
    · cases hf
    · exact h1
  refine ⟨?_, ?_, hp.len, fun c r hc => ?_, fun v hv => ?_, fun x y hx e => hI.inj x y (hall x hx) e⟩
  · have := hp.cnt
    simp at this
    omega
  · intro v b hb
    cases b with
    | false => exact hrd v (htl v hb).1
    | true =>
      have hm : v ∈ heads P := by
        simp only [heads, List.mem_map, List.mem_filter]
        exact ⟨(v, true), ⟨hb, rfl⟩, rfl⟩
      obtain ⟨c, hc⟩ := List.mem_iff_getElem?.1 hm
      exact hrd v (hp.head c v hc).1
  · obtain ⟨h1, h2, h3⟩ := hp.head c r hc
    exact ⟨hrd r h1, h2, fun x hx => h3 x (hd x hx)⟩
  · obtain ⟨_, r, h1, h2, h3⟩ := htl v hv
    exact ⟨r, hrd r h1, h2, h3⟩
end Go.Proofs.Qxb6605452a
