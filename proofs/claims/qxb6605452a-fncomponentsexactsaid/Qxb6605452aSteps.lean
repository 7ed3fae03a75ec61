import Derived.Test.Qxb6605452aTarjan
namespace Go.Proofs.Qxb6605452a

/-! ### bounds, and what the walk must know of a state -/
theorem cntB_upd {n w k : Nat} {idx : Nat → Nat} (hw : w < n) (h0 : idx w = 0) (hk : k ≠ 0) : cntB n (fun x => upd idx w k x != 0) = cntB n (fun x => idx x != 0) + 1 := by
  have e : ∀ x, x < n → (upd idx w k x != 0) = ((x == w) || (idx x != 0)) := by
    intro x _
    by_cases hx : x = w
    · subst hx; rw [upd_same]; simp [hk]
    · rw [upd_ne _ _ _ hx]; simp [hx]
  rw [cntB_congr e, cntB_or, cntB_one hw, Nat.add_comm]
  intro x _ h1 h2
  simp at h1 h2
  subst h1
  exact h2 h0

theorem step_vis {out : List (List Nat)} (hout : ∀ v w, E out v w → w < out.length) {s : St} (h : s.vis = cntB out.length (fun x => s.idx x != 0)) : (stepW out s).vis = cntB out.length (fun x => (stepW out s).idx x != 0) := by
  unfold stepW
  split
  · exact h
  · split
    · rename_i w hw
      split
      · rename_i h0
        show s.vis + 1 = cntB out.length (fun x => upd s.idx w (s.vis + 1) x != 0)
        rw [cntB_upd (hout _ _ (List.mem_of_getElem? hw)) h0 (by omega), ← h]
      · split <;> exact h
    · split <;> exact h

theorem Rch.visLe {out : List (List Nat)} (hout : ∀ v w, E out v w → w < out.length) {r : Nat} {s : St} (h : Rch out r s) : s.vis ≤ out.length := by
  have h1 : s.vis = cntB out.length (fun x => s.idx x != 0) := by
    refine h (fun _ s => s.vis = cntB out.length (fun x => s.idx x != 0)) ?_ ?_ ?_ ?_
    · exact (cntB_zero (fun x _ => rfl)).symm
    · intro r s h _ _; exact step_vis hout h
    · intro r s h _ hr h0
      show s.vis + 1 = cntB out.length (fun x => upd s.idx r (s.vis + 1) x != 0)
      rw [cntB_upd hr h0 (by omega), ← h]
    · intro r s h _ _ _; exact h
  rw [h1]
  exact cntB_le _ _

theorem TInv.nodup {out : List (List Nat)} {s : St} {fs : List Fr} (h : TInv out s fs) : s.stk.Nodup :=
  nodup_of_lt h.srt
theorem TInv.stkLe {out : List (List Nat)} {s : St} {fs : List Fr} (h : TInv out s fs) : s.stk.length ≤ out.length := by
  have h1 := cntB_list h.nodup (fun x hx => h.rng x (h.vst x hx))
  have h2 := cntB_le out.length (fun x => s.stk.contains x)
  omega
theorem stkOf_len (fs : List Fr) : fs.length ≤ (stkOf fs).length := by
  induction fs with
  | nil => exact Nat.le_refl _
  | cons f fs ih => simp only [stkOf, seg, List.length_append, List.length_cons, List.length_nil]; omega
theorem TInv.wlkLe {out : List (List Nat)} {s : St} {fs : List Fr} (h : TInv out s fs) : s.wlk.length ≤ out.length := by
  have h1 := stkOf_len fs
  have h2 := h.stkLe
  rw [h.stk] at h2
  rw [h.wlk, List.length_map]
  omega
theorem TInv.sizeLe {out : List (List Nat)} {s : St} {fs : List Fr} (h : TInv out s fs) : s.size.length ≤ out.length := by
  have hr : ∀ c, c < s.size.length → ∃ x, x < out.length ∧ s.comp x = c := by
    intro c hc
    obtain ⟨h1, h2⟩ := h.cnt c _ (List.getElem?_eq_getElem hc)
    rw [h2] at h1
    obtain ⟨x, hx, hp⟩ := cntB_some h1
    simp at hp
    exact ⟨x, hx, hp.2⟩
  obtain ⟨g, hg⟩ := Go.Deep.choose_lt hr
  exact pigeon g (fun x hx => (hg x hx).1) (fun x y hx hy e => by rw [← (hg x hx).2, ← (hg y hy).2, e])

/-- What the walk asks of a state whose walk is not empty. -/
structure Top (out : List (List Nat)) (s : St) (v i : Nat) (W : List (Nat × Nat)) : Prop where
  vlt : v < out.length
  ile : i ≤ (row out v).length
  seen : s.idx v ≠ 0
  ult : ∀ u j W', W = (u, j) :: W' → u < out.length ∧ u ≠ v
  onst : ∃ P Q, s.stk = P ++ v :: Q ∧ v ∉ P
  wl : ∀ p ∈ s.wlk, p.1 < out.length
  bot : i = (row out v).length → W = [] → s.low v = s.idx v
theorem TInv.top {out : List (List Nat)} {s : St} {fs : List Fr} (h : TInv out s fs) {v i : Nat} {W : List (Nat × Nat)} (hw : s.wlk = (v, i) :: W) : Top out s v i W := by
  cases fs with
  | nil => have := h.wlk; rw [hw] at this; simp at this
  | cons f fs =>
    have h1 := h.wlk
    rw [hw] at h1
    simp only [List.map_cons, List.cons.injEq, Prod.mk.injEq] at h1
    obtain ⟨⟨rfl, rfl⟩, rfl⟩ := h1
    have hv := h.mem (show f.v ∈ stkOf (f :: fs) by simp [stkOf, seg])
    refine ⟨h.rng _ hv, h.frs.1.inb, hv, ?_, ⟨f.rest, stkOf fs, ?_, h.notRest⟩, ?_, ?_⟩
    · intro u j W' e
      cases fs with
      | nil => simp at e
      | cons g gs =>
        simp only [List.map_cons, List.cons.injEq, Prod.mk.injEq] at e
        obtain ⟨⟨rfl, rfl⟩, rfl⟩ := e
        exact ⟨h.rng _ (h.mem (by simp [stkOf, seg])), h.neF (by simp)⟩
    · rw [h.stk]; simp [stkOf, seg]
    · intro p hp
      rw [h.wlk] at hp
      obtain ⟨g, hg, rfl⟩ := List.mem_map.1 hp
      exact h.rng _ (h.mem (mem_stkOf_v hg))
    · intro _ e
      cases fs with
      | nil => exact h.bottom
      | cons g gs => simp at e

/-! ### the measure -/
def sumB : Nat → (Nat → Nat) → Nat
  | 0, _ => 0
  | n + 1, f => sumB n f + f n
theorem sumB_congr {n : Nat} {f g : Nat → Nat} (h : ∀ x, x < n → f x = g x) : sumB n f = sumB n g := by
  induction n with
  | zero => rfl
  | succ n ih => simp only [sumB]; rw [ih (fun x hx => h x (by omega)), h n (by omega)]
theorem sumB_upd {n w k : Nat} {idx : Nat → Nat} (g : Nat → Nat) (hw : w < n) (h0 : idx w = 0) (hk : k ≠ 0) :
    sumB n (fun x => if upd idx w k x = 0 then g x else 0) + g w = sumB n (fun x => if idx x = 0 then g x else 0) := by
  induction n with
  | zero => omega
  | succ n ih =>
    simp only [sumB]
    by_cases e : w = n
    · subst e
      rw [upd_same, if_neg hk, if_pos h0, sumB_congr (fun x hx => by rw [upd_ne _ _ _ (by omega)]), Nat.add_zero]
    · rw [upd_ne _ _ _ (fun h => e h.symm)]
      have := ih (by omega)
      omega
def wsum (out : List (List Nat)) (W : List (Nat × Nat)) : Nat := (W.map fun p => (row out p.1).length - p.2 + 1).sum
def meas (out : List (List Nat)) (s : St) : Nat := wsum out s.wlk + sumB out.length (fun x => if s.idx x = 0 then (row out x).length + 2 else 0)
theorem wsum_cons (out : List (List Nat)) (v i : Nat) (W : List (Nat × Nat)) : wsum out ((v, i) :: W) = (row out v).length - i + 1 + wsum out W := by simp [wsum]

theorem meas_new {out : List (List Nat)} {s : St} {v i w : Nat} {W : List (Nat × Nat)} (hw : s.wlk = (v, i) :: W) (hr : (row out v)[i]? = some w) (hlt : w < out.length) (h0 : s.idx w = 0) :
    meas out { visit w s with wlk := (w, 0) :: (v, i + 1) :: W } < meas out s := by
  have hi := (List.getElem?_eq_some_iff.1 hr).1
  have h1 := sumB_upd (fun x => (row out x).length + 2) hlt h0 (show s.vis + 1 ≠ 0 by omega)
  unfold meas
  show wsum out ((w, 0) :: (v, i + 1) :: W) + sumB out.length (fun x => if upd s.idx w (s.vis + 1) x = 0 then (row out x).length + 2 else 0) < _
  rw [hw, wsum_cons, wsum_cons, wsum_cons]
  omega
theorem meas_old {out : List (List Nat)} {s : St} {v i w : Nat} {W : List (Nat × Nat)} (hw : s.wlk = (v, i) :: W) (hr : (row out v)[i]? = some w) (low' : Nat → Nat) :
    meas out { s with low := low', wlk := (v, i + 1) :: W } < meas out s := by
  have hi := (List.getElem?_eq_some_iff.1 hr).1
  unfold meas
  show wsum out ((v, i + 1) :: W) + sumB out.length (fun x => if s.idx x = 0 then (row out x).length + 2 else 0) < _
  rw [hw, wsum_cons, wsum_cons]
  omega
theorem meas_done {out : List (List Nat)} {s s' : St} {v i : Nat} {W : List (Nat × Nat)} (hw : s.wlk = (v, i) :: W) (hw' : s'.wlk = W) (hx : s'.idx = s.idx) : meas out s' < meas out s := by
  unfold meas
  rw [hw, hw', hx, wsum_cons]
  omega

/-! ### the turns, one by one -/
theorem turn_new {out : List (List Nat)} {s : St} {v i w : Nat} {W : List (Nat × Nat)} (hw : s.wlk = (v, i) :: W) (hr : (row out v)[i]? = some w) (h0 : s.idx w = 0) :
    stepW out s = { visit w s with wlk := (w, 0) :: (v, i + 1) :: W } := by
  unfold stepW
  rw [hw]
  simp only [hr]
  rw [if_pos h0]
theorem turn_low {out : List (List Nat)} {s : St} {v i w : Nat} {W : List (Nat × Nat)} (hw : s.wlk = (v, i) :: W) (hr : (row out v)[i]? = some w) (h0 : s.idx w ≠ 0) (ho : s.ons w = true) :
    stepW out s = { s with low := upd s.low v (min (s.low v) (s.idx w)), wlk := (v, i + 1) :: W } := by
  unfold stepW
  rw [hw]
  simp only [hr]
  rw [if_neg h0, if_pos ho]
theorem turn_skip {out : List (List Nat)} {s : St} {v i w : Nat} {W : List (Nat × Nat)} (hw : s.wlk = (v, i) :: W) (hr : (row out v)[i]? = some w) (h0 : s.idx w ≠ 0) (ho : s.ons w = false) :
    stepW out s = { s with wlk := (v, i + 1) :: W } := by
  unfold stepW
  rw [hw]
  simp only [hr]
  rw [if_neg h0, if_neg (by rw [ho]; simp)]
theorem turn_pop {out : List (List Nat)} {s : St} {v i : Nat} {W : List (Nat × Nat)} (hw : s.wlk = (v, i) :: W) (hr : (row out v).length = i) (he : lowUp v W s.low v = s.idx v) :
    stepW out s = popC v { s with low := lowUp v W s.low, wlk := W } := by
  unfold stepW
  rw [hw]
  simp only [List.getElem?_eq_none (Nat.le_of_eq hr)]
  rw [if_pos he]
theorem turn_join {out : List (List Nat)} {s : St} {v i : Nat} {W : List (Nat × Nat)} (hw : s.wlk = (v, i) :: W) (hr : (row out v).length = i) (he : lowUp v W s.low v ≠ s.idx v) :
    stepW out s = { s with low := lowUp v W s.low, wlk := W } := by
  unfold stepW
  rw [hw]
  simp only [List.getElem?_eq_none (Nat.le_of_eq hr)]
  rw [if_neg he]

/-- The state while the component is taken off the stack: P has been taken. -/
def popJ (P : List Nat) (s : St) : St :=
  { s with ons := fun x => if P.contains x then false else s.ons x, comp := fun x => if P.contains x then s.size.length else s.comp x, stk := s.stk.drop P.length, size := s.size ++ [P.length] }
theorem popJ_nil (s : St) : popJ [] s = { s with size := s.size ++ [0] } := by simp [popJ]
theorem popJ_ons (P : List Nat) (s : St) (y : Nat) : upd (popJ P s).ons y false = (popJ (P ++ [y]) s).ons := by
  funext x
  show upd (fun x => if P.contains x then false else s.ons x) y false x = if (P ++ [y]).contains x then false else s.ons x
  by_cases e : x = y
  · subst e; rw [upd_same]; simp
  · rw [upd_ne _ _ _ e]; simp [e]
theorem popJ_comp (P : List Nat) (s : St) (y : Nat) : upd (popJ P s).comp y s.size.length = (popJ (P ++ [y]) s).comp := by
  funext x
  show upd (fun x => if P.contains x then s.size.length else s.comp x) y s.size.length x = if (P ++ [y]).contains x then s.size.length else s.comp x
  by_cases e : x = y
  · subst e; rw [upd_same]; simp
  · rw [upd_ne _ _ _ e]; simp [e]
theorem popJ_size (P : List Nat) (s : St) (y : Nat) : (popJ P s).size.set s.size.length (P.length + 1) = (popJ (P ++ [y]) s).size := by
  show (s.size ++ [P.length]).set s.size.length (P.length + 1) = s.size ++ [(P ++ [y]).length]
  rw [List.set_append_right _ _ (Nat.le_refl _), Nat.sub_self, List.length_append]
  rfl
theorem popJ_done {s : St} {v : Nat} {P Q : List Nat} (h : s.stk = P ++ v :: Q) (hp : v ∉ P) : popJ (P ++ [v]) s = popC v s := by
  obtain ⟨e1, e2⟩ := segOf_eq (t := Q) hp
  rw [← h] at e1 e2
  have hd : s.stk.drop (P ++ [v]).length = Q := by
    rw [h, show P ++ v :: Q = (P ++ [v]) ++ Q by simp, List.drop_left]
  unfold popJ popC
  rw [e1, e2, hd]
end Go.Proofs.Qxb6605452a
