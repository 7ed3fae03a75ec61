import Derived.Test.Qxb6605452aTarjan
namespace Go.Proofs.Qxb6605452a

/-- A walk in breadth from s: the queue, of which the first h have been looked at. -/
structure Bfs (out : List (List Nat)) (s h : Nat) (Q : List Nat) : Prop where
  nd : Q.Nodup
  rng : ∀ x ∈ Q, x < out.length
  rch : ∀ x ∈ Q, Reach (E out) s x
  src : s ∈ Q
  cls : ∀ i x, i < h → Q[i]? = some x → ∀ y, E out x y → y ∈ Q

section
variable {out : List (List Nat)} {s h : Nat} {Q : List Nat}
theorem Bfs.start (hs : s < out.length) : Bfs out s 0 [s] := ⟨by simp, by simpa using hs, by simpa using Reach.refl s, by simp, fun i x hi => by omega⟩
theorem Bfs.le (b : Bfs out s h Q) : Q.length ≤ out.length := by
  have h1 := cntB_list b.nd b.rng
  have h2 := cntB_le out.length (fun x => Q.contains x)
  omega
theorem Bfs.push (b : Bfs out s h Q) {v w : Nat} (hv : v ∈ Q) (he : E out v w) (hw : w ∉ Q) (hn : w < out.length) (hh : h ≤ Q.length) : Bfs out s h (Q ++ [w]) := by
  refine ⟨?_, ?_, ?_, by simp [b.src], ?_⟩
  · rw [List.nodup_append]
    refine ⟨b.nd, by simp, fun a ha c hc => ?_⟩
    simp at hc
    subst hc
    intro e
    subst e
    exact hw ha
  · intro x hx
    rcases List.mem_append.1 hx with hx | hx
    · exact b.rng x hx
    · simp at hx; omega
  · intro x hx
    rcases List.mem_append.1 hx with hx | hx
    · exact b.rch x hx
    · simp at hx; subst hx; exact (b.rch v hv).trans (Reach.edge he)
  · intro i x hi hx y hy
    rw [List.getElem?_append_left (by omega)] at hx
    exact List.mem_append_left _ (b.cls i x hi hx y hy)
theorem Bfs.next (b : Bfs out s h Q) {v : Nat} (hv : Q[h]? = some v) (hr : ∀ y, E out v y → y ∈ Q) : Bfs out s (h + 1) Q := by
  refine ⟨b.nd, b.rng, b.rch, b.src, fun i x hi hx y hy => ?_⟩
  by_cases hih : i = h
  · subst hih
    rw [hv] at hx
    simp at hx
    subst hx
    exact hr y hy
  · exact b.cls i x (by omega) hx y hy
theorem Bfs.done (b : Bfs out s Q.length Q) (x : Nat) : x ∈ Q ↔ Reach (E out) s x := by
  refine ⟨b.rch x, fun hx => ?_⟩
  refine hx (fun y => y ∈ Q) b.src (fun a c ha hac => ?_)
  obtain ⟨i, hi⟩ := List.getElem?_of_mem ha
  exact b.cls i a (List.getElem?_eq_some_iff.1 hi).1 hi c hac
end

/-- The table while the row of s is filled. -/
structure RTab (out : List (List Nat)) (f : Nat → Bool) (s : Nat) (Q : List Nat) : Prop where
  old : ∀ u v, u < s → v < out.length → (f (u * out.length + v) = true ↔ Reach (E out) u v)
  cur : ∀ v, v < out.length → (f (s * out.length + v) = true ↔ v ∈ Q)
  new : ∀ i, (s + 1) * out.length ≤ i → f i = false

theorem RTab.zero (out : List (List Nat)) : RTab out (fun _ => false) 0 [] := ⟨fun u v h => by omega, fun v _ => by simp, fun _ _ => rfl⟩
theorem RTab.push {out : List (List Nat)} {f : Nat → Bool} {s : Nat} {Q : List Nat} (h : RTab out f s Q) {w : Nat} (hw : w < out.length) : RTab out (upd f (s * out.length + w) true) s (Q ++ [w]) := by
  refine ⟨fun u v hu hv => ?_, fun v hv => ?_, fun i hi => ?_⟩
  · have h1 : (u + 1) * out.length ≤ s * out.length := Nat.mul_le_mul_right _ hu
    rw [Nat.add_mul] at h1
    rw [upd_ne _ _ _ (by omega)]
    exact h.old u v hu hv
  · by_cases hvw : v = w
    · subst hvw; rw [upd_same]; simp
    · rw [upd_ne _ _ _ (by omega), h.cur v hv]; simp [hvw]
  · rw [Nat.add_mul] at hi
    rw [upd_ne _ _ _ (by omega)]
    exact h.new i (by rw [Nat.add_mul]; exact hi)
theorem RTab.next {out : List (List Nat)} {f : Nat → Bool} {s : Nat} {Q : List Nat} (h : RTab out f s Q) (hq : ∀ x, x ∈ Q ↔ Reach (E out) s x) : RTab out f (s + 1) [] := by
  refine ⟨fun u v hu hv => ?_, fun v hv => ?_, fun i hi => ?_⟩
  · by_cases hus : u = s
    · subst hus; rw [h.cur v hv, hq]
    · exact h.old u v (by omega) hv
  · rw [h.new _ (by omega)]; simp
  · exact h.new i (by rw [Nat.add_mul] at hi; omega)
end Go.Proofs.Qxb6605452a
