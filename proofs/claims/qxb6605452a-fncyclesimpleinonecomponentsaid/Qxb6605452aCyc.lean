import Derived.Test.Qxb6605452aTarjan
namespace Go.Proofs.Qxb6605452a

theorem cntB_mono {n : Nat} {p q : Nat → Bool} (h : ∀ x, x < n → p x = true → q x = true) : cntB n p ≤ cntB n q := by
  induction n with
  | zero => exact Nat.le_refl _
  | succ n ih =>
    have h1 := ih (fun x hx => h x (by omega))
    simp only [cntB]
    cases hp : p n with
    | false => simp; omega
    | true => rw [h n (by omega) hp]; simp; omega

/-- A list of different nodes with one mark is not longer than the count of the mark. -/
theorem cntB_ge {n : Nat} {p : Nat → Bool} {l : List Nat} (hn : l.Nodup) (hl : ∀ x ∈ l, x < n ∧ p x = true) : l.length ≤ cntB n p := by
  rw [← cntB_list hn (fun x hx => (hl x hx).1)]
  exact cntB_mono fun x _ hx => (hl x (by simpa using hx)).2

/-- The first step away from v. -/
theorem Reach.leave {R : Nat → Nat → Prop} {v y : Nat} (h : Reach R v y) (hne : y ≠ v) : ∃ w, w ≠ v ∧ R v w ∧ Reach R w y := by
  have h1 := h (fun z => z = v ∨ ∃ w, w ≠ v ∧ R v w ∧ Reach R w z) (.inl rfl) (fun a b ha hab => by
    rcases ha with rfl | ⟨w, h1, h2, h3⟩
    · by_cases e : b = a
      · exact .inl e
      · exact .inr ⟨b, e, hab, Reach.refl b⟩
    · exact .inr ⟨w, h1, h2, h3.trans (Reach.edge hab)⟩)
  rcases h1 with h1 | h1
  · exact (hne h1).elim
  · exact h1

/-- A component of more than one member, seen from one of them. -/
theorem Comps.big {out : List (List Nat)} (hout : ∀ v w, E out v w → w < out.length) {comp : Nat → Nat} {size : List Nat} (h : Comps out comp size) {v m : Nat} (hv : v < out.length) (hm : size[comp v]? = some m) :
    1 < m ↔ ∃ w, w ≠ v ∧ E out v w ∧ Reach (E out) w v := by
  obtain ⟨_, h2⟩ := h.cnt _ _ hm
  constructor
  · intro h1
    have h3 : ∃ y, y < out.length ∧ (comp y == comp v && !(y == v)) = true := by
      refine cntB_some ?_
      have h4 := cntB_or (n := out.length) (p := fun x => comp x == comp v && !(x == v)) (q := fun x => x == v) (fun x _ a b => by
        have e : x = v := by simpa using b
        subst e
        simp at a)
      have h5 : cntB out.length (fun x => (comp x == comp v && !(x == v)) || x == v) = cntB out.length (fun x => comp x == comp v) := by
        refine cntB_congr fun x hx => ?_
        show ((comp x == comp v && !(x == v)) || x == v) = (comp x == comp v)
        by_cases e : x = v
        · subst e; simp
        · have e2 : (x == v) = false := by simpa using e
          rw [e2]; simp
      rw [h5, cntB_one hv, ← h2] at h4
      omega
    obtain ⟨y, hy, hp⟩ := h3
    simp at hp
    obtain ⟨m1, m2⟩ := (h.part y v hy hv).1 hp.1
    obtain ⟨w, a1, a2, a3⟩ := m2.leave hp.2
    exact ⟨w, a1, a2, a3.trans m1⟩
  · rintro ⟨w, h1, h3, h4⟩
    have hw := hout v w h3
    have h5 : comp w = comp v := (h.part w v hw hv).2 ⟨h4, Reach.edge h3⟩
    have h6 := cntB_ge (n := out.length) (p := fun x => comp x == comp v) (l := [v, w]) (by simp; exact fun e => h1 e.symm) (by
      intro x hx
      simp at hx
      rcases hx with rfl | rfl
      · exact ⟨hv, by simp⟩
      · exact ⟨hw, by simp [h5]⟩)
    rw [h2]
    exact h6

/-- The walk in breadth of 'cycle' from s: the nodes that it has met, in order, of which the first h have been looked at; par: one more than a node's parent. -/
structure Cyc (out : List (List Nat)) (comp : Nat → Nat) (s h : Nat) (Q : List Nat) (par : Nat → Nat) : Prop where
  nd : Q.Nodup
  hd : Q[0]? = some s
  mem : ∀ x ∈ Q, x < out.length ∧ comp x = comp s
  par0 : ∀ x, par x = 0 ↔ (x ∉ Q ∨ x = s)
  up : ∀ j x, Q[j]? = some x → 0 < j → ∃ i p, i < j ∧ Q[i]? = some p ∧ par x = p + 1 ∧ E out p x
  cls : ∀ i x, i < h → Q[i]? = some x → ∀ y, E out x y → y ≠ s ∧ (comp y = comp s → y ∈ Q)

section
variable {out : List (List Nat)} {comp : Nat → Nat} {s h : Nat} {Q : List Nat} {par : Nat → Nat}
theorem Cyc.start (hs : s < out.length) : Cyc out comp s 0 [s] (fun _ => 0) :=
  ⟨by simp, rfl, by simpa using hs, fun x => ⟨fun _ => (Decidable.em (x = s)).elim Or.inr (fun e => .inl (by simpa using e)), fun _ => rfl⟩,
   fun j x hx hj => (by rw [List.getElem?_eq_none (by simp; omega)] at hx; cases hx), fun i x hi => by omega⟩
theorem Cyc.le (b : Cyc out comp s h Q par) : Q.length ≤ out.length := by
  have h1 := cntB_list b.nd (fun x hx => (b.mem x hx).1)
  have h2 := cntB_le out.length (fun x => Q.contains x)
  omega
theorem Cyc.src (b : Cyc out comp s h Q par) : s ∈ Q := List.mem_of_getElem? b.hd
theorem Cyc.pos (b : Cyc out comp s h Q par) {j : Nat} {x : Nat} (hx : Q[j]? = some x) (hne : x ≠ s) : 0 < j := by
  rcases Nat.eq_zero_or_pos j with rfl | h1
  · rw [b.hd] at hx
    simp at hx
    exact (hne hx.symm).elim
  · exact h1
theorem Cyc.push (b : Cyc out comp s h Q par) {v w : Nat} (hv : Q[h]? = some v) (he : E out v w) (hn : w < out.length) (hws : w ≠ s) (hc : comp w = comp s) (hp : par w = 0) :
    Cyc out comp s h (Q ++ [w]) (upd par w (v + 1)) := by
  have hw : w ∉ Q := by
    rcases (b.par0 w).1 hp with h1 | h1
    · exact h1
    · exact (hws h1).elim
  have hh := (List.getElem?_eq_some_iff.1 hv).1
  refine ⟨?_, ?_, ?_, ?_, ?_, ?_⟩
  · rw [List.nodup_append]
    refine ⟨b.nd, by simp, fun a ha c hc => ?_⟩
    simp at hc
    subst hc
    intro e
    subst e
    exact hw ha
  · rw [List.getElem?_append_left (by omega)]
    exact b.hd
  · intro x hx
    rcases List.mem_append.1 hx with hx | hx
    · exact b.mem x hx
    · simp at hx; subst hx; exact ⟨hn, hc⟩
  · intro x
    by_cases e : x = w
    · subst e
      rw [upd_same]
      simp [hws]
    · rw [upd_ne _ _ _ e, b.par0 x]
      simp [e]
  · intro j x hx hj
    by_cases hjl : j < Q.length
    · rw [List.getElem?_append_left hjl] at hx
      obtain ⟨i, p, h1, h2, h3, h4⟩ := b.up j x hx hj
      have e : x ≠ w := fun e => hw (by rw [← e]; exact List.mem_of_getElem? hx)
      exact ⟨i, p, h1, by rw [List.getElem?_append_left (by omega)]; exact h2, by rw [upd_ne _ _ _ e]; exact h3, h4⟩
    · have hje : j = Q.length := by
        have := (List.getElem?_eq_some_iff.1 hx).1
        simp at this
        omega
      rw [hje, List.getElem?_append_right (Nat.le_refl _)] at hx
      simp at hx
      subst hx
      exact ⟨h, v, by omega, by rw [List.getElem?_append_left hh]; exact hv, upd_same _ _ _, he⟩
  · intro i x hi hx y hy
    rw [List.getElem?_append_left (by omega)] at hx
    obtain ⟨h1, h2⟩ := b.cls i x hi hx y hy
    exact ⟨h1, fun hc => List.mem_append_left _ (h2 hc)⟩
theorem Cyc.next (b : Cyc out comp s h Q par) {v : Nat} (hv : Q[h]? = some v) (hr : ∀ y, E out v y → y ≠ s ∧ (comp y = comp s → y ∈ Q)) : Cyc out comp s (h + 1) Q par := by
  refine ⟨b.nd, b.hd, b.mem, b.par0, b.up, fun i x hi hx y hy => ?_⟩
  by_cases hih : i = h
  · subst hih
    rw [hv] at hx
    simp at hx
    subst hx
    exact hr y hy
  · exact b.cls i x (by omega) hx y hy
/-- The walk comes back. -/
theorem Cyc.back (b : Cyc out comp s Q.length Q par) {size : List Nat} (hout : ∀ v w, E out v w → w < out.length) (hC : Comps out comp size) (hs : s < out.length)
    (hbig : ∃ w, w ≠ s ∧ E out s w ∧ Reach (E out) w s) : False := by
  obtain ⟨w, h1, h2, h3⟩ := hbig
  have hcl : ∀ a, a ∈ Q → ∀ y, E out a y → y ≠ s ∧ (comp y = comp s → y ∈ Q) := fun a ha y hy => by
    obtain ⟨i, hi⟩ := List.getElem?_of_mem ha
    exact b.cls i a (List.getElem?_eq_some_iff.1 hi).1 hi y hy
  have hin : ∀ a, a ∈ Q → ∀ y, E out a y → Reach (E out) y s → y ∈ Q := fun a ha y hy hr => by
    obtain ⟨ha1, ha2⟩ := b.mem a ha
    refine (hcl a ha y hy).2 ((hC.part y s (hout a y hy) hs).2 ⟨hr, ?_⟩)
    exact ((hC.part a s ha1 hs).1 ha2).2.trans (Reach.edge hy)
  have h4 := h3 (fun z => z ≠ s ∧ (Reach (E out) z s → z ∈ Q)) ⟨h1, fun hr => hin s b.src w h2 hr⟩ (fun a c ha hac => by
    refine ⟨fun e => ?_, fun hr => ?_⟩
    · have ha2 := ha.2 (Reach.edge (by rw [← e]; exact hac))
      exact (hcl a ha2 c hac).1 e
    · exact hin a (ha.2 ((Reach.edge hac).trans hr)) c hac hr)
  exact h4.1 rfl

/-- The way back along the parents: the nodes passed, and the node now, which the walk met j-th. -/
structure Chn (out : List (List Nat)) (Q : List Nat) (v : Nat) (A : List Nat) (u j : Nat) : Prop where
  at' : Q[j]? = some u
  pos : ∀ a ∈ A, ∃ i, j < i ∧ Q[i]? = some a
  nd : (A ++ [u]).Nodup
  hd : (A ++ [u])[0]? = some v
  edge : ∀ k a b, (A ++ [u])[k]? = some a → (A ++ [u])[k + 1]? = some b → E out b a

theorem Chn.start {v j : Nat} (hv : Q[j]? = some v) : Chn out Q v [] v j := ⟨hv, (fun a ha => by cases ha), by simp, rfl, fun k a b _ hb => (by
  rw [List.getElem?_eq_none (by simp)] at hb; cases hb)⟩
theorem Chn.step {v u j : Nat} {A : List Nat} (b : Cyc out comp s h Q par) (c : Chn out Q v A u j) (hu : u ≠ s) : ∃ p i, i < j ∧ par u = p + 1 ∧ p < out.length ∧ Chn out Q v (A ++ [u]) p i := by
  obtain ⟨i, p, h1, h2, h3, h4⟩ := b.up j u c.at' (b.pos c.at' hu)
  have hpos : ∀ a ∈ A ++ [u], ∃ k, i < k ∧ Q[k]? = some a := by
    intro a ha
    rcases List.mem_append.1 ha with ha | ha
    · obtain ⟨k, hk, hk2⟩ := c.pos a ha
      exact ⟨k, by omega, hk2⟩
    · simp at ha; subst ha; exact ⟨j, h1, c.at'⟩
  refine ⟨p, i, h1, h3, (b.mem p (List.mem_of_getElem? h2)).1, h2, hpos, ?_, ?_, ?_⟩
  · rw [List.nodup_append]
    refine ⟨c.nd, by simp, fun a ha q hq => ?_⟩
    simp at hq
    subst hq
    intro e
    subst e
    obtain ⟨k, hk, hk2⟩ := hpos a ha
    obtain ⟨hi1, hi2⟩ := List.getElem?_eq_some_iff.1 h2
    obtain ⟨hk1, hk3⟩ := List.getElem?_eq_some_iff.1 hk2
    exact (List.pairwise_iff_getElem.1 b.nd i k hi1 hk1 hk) (by rw [hi2, hk3])
  · rw [List.getElem?_append_left (by simp)]
    exact c.hd
  · intro k a q ha hq
    by_cases hk : k + 1 < (A ++ [u]).length
    · rw [List.getElem?_append_left hk] at hq
      rw [List.getElem?_append_left (by omega)] at ha
      exact c.edge k a q ha hq
    · have hke : k + 1 = (A ++ [u]).length := by
        have := (List.getElem?_eq_some_iff.1 hq).1
        rw [List.length_append, List.length_singleton] at this
        omega
      rw [List.getElem?_append_right (by omega), hke, Nat.sub_self] at hq
      simp at hq
      subst hq
      have hk2 : k = A.length := by simp at hke; omega
      rw [List.getElem?_append_left (by omega), hk2, List.getElem?_append_right (Nat.le_refl _), Nat.sub_self] at ha
      simp at ha
      subst ha
      exact h4

/-- A simple cycle from s inside its component. -/
structure CycOk (out : List (List Nat)) (comp : Nat → Nat) (s : Nat) (C : List Nat) : Prop where
  hd : C[0]? = some s
  nd : C.Nodup
  mem : ∀ x ∈ C, x < out.length ∧ comp x = comp s
  edge : ∀ k a b, C[k]? = some a → C[k + 1]? = some b → E out a b
  last : ∀ a, C[C.length - 1]? = some a → E out a s

theorem Chn.ok {v : Nat} {A : List Nat} {j : Nat} (b : Cyc out comp s h Q par) (c : Chn out Q v A s j) (hv : E out v s) : CycOk out comp s (A ++ [s]).reverse := by
  have hl : (A ++ [s]).reverse.length = A.length + 1 := by simp
  refine ⟨by simp, by rw [List.Nodup, List.pairwise_reverse]; exact List.pairwise_iff_getElem.2 (fun i j hi hj hij e => List.pairwise_iff_getElem.1 c.nd i j hi hj hij e.symm), ?_, ?_, ?_⟩
  · intro x hx
    rw [List.mem_reverse] at hx
    rcases List.mem_append.1 hx with hx | hx
    · obtain ⟨i, _, hi⟩ := c.pos x hx
      exact b.mem x (List.mem_of_getElem? hi)
    · simp at hx; subst hx; exact b.mem _ b.src
  · intro k a q ha hq
    have h1 := (List.getElem?_eq_some_iff.1 hq).1
    rw [hl] at h1
    rw [List.getElem?_reverse (by simp; omega)] at ha hq
    have e1 : (A ++ [s]).length - 1 - k = ((A ++ [s]).length - 1 - (k + 1)) + 1 := by simp; omega
    rw [e1] at ha
    exact c.edge _ q a hq ha
  · intro a ha
    rw [List.getElem?_reverse (by simp), hl] at ha
    have e1 : (A ++ [s]).length - 1 - (A.length + 1 - 1) = 0 := by simp
    rw [e1, c.hd] at ha
    simp at ha
    subst ha
    exact hv
theorem CycOk.le (c : CycOk out comp s Q) : Q.length ≤ cntB out.length (fun x => comp x == comp s) := cntB_ge c.nd fun x hx => ⟨(c.mem x hx).1, by simp [(c.mem x hx).2]⟩
end
end Go.Proofs.Qxb6605452a
