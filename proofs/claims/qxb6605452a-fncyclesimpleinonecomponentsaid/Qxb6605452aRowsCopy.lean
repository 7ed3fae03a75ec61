import Derived.Test.Qxb6605452aClone
namespace Go.Proofs.Qxb6605452a
open Go.RowKit

theorem own_later {B e k n : Nat} {v : Value} {xs : List Value} {w w' : World} (h : w.ownsRow B e k v n xs) (hb : Below w.heap.size w w') : w'.ownsRow B e k v n xs :=
  h.kept (row := none) ⟨hb.os, hb.tape, hb.output, hb.size, fun j hj _ => hb.block j hj⟩ (by cases hv : v.ownBlock <;> simp)
theorem own_down {w : World} {b b' e size n : Nat} {v : Value} {xs : List Value} (h : w.ownsRow b e size v n xs) (hb : b' ≤ b) : w.ownsRow b' e size v n xs := by
  refine ⟨h.1, ?_⟩
  rcases h.2 with h2 | ⟨g, cap, cur, hv, hg, r⟩
  · exact .inl h2
  · exact .inr ⟨g, cap, cur, hv, by omega, r⟩

theorem fill_step (vals : List Value) (z u : Value) (n : Nat) (h : vals.length < n) : (vals ++ List.replicate (n - vals.length) z).set vals.length u = (vals ++ [u]) ++ List.replicate (n - (vals.length + 1)) z := by
  rw [List.set_append_right _ _ (Nat.le_refl _), Nat.sub_self]
  obtain ⟨m, hm⟩ : ∃ m, n - vals.length = m + 1 := ⟨n - vals.length - 1, by omega⟩
  rw [hm, List.replicate_succ, List.set_cons_zero, show n - (vals.length + 1) = m by omega]
  simp

/-- The rows of the copies. -/
def RowsOwn (B : Nat) (w : World) (vals : List Value) (out : List (List Int)) : Prop :=
  ∀ (j : Nat) l u, out[j]? = some l → vals[j]? = some u → ∃ a c, u = .slice a l.length c ∧ w.ownsRow B 3 1 u l.length (zV l)
theorem RowsOwn.below {B : Nat} {w w' : World} {vals : List Value} {out : List (List Int)} (h : RowsOwn B w vals out) (hb : Below w.heap.size w w') : RowsOwn B w' vals out := fun j l u h1 h2 => by
  obtain ⟨a, c, h3, h4⟩ := h j l u h1 h2
  exact ⟨a, c, h3, own_later h4 hb⟩
theorem RowsOwn.set {B : Nat} {w : World} {vals : List Value} {out : List (List Int)} (h : RowsOwn B w vals out) (g o : Nat) (hg : g < B) (x : Value) : RowsOwn B (w.setCell ⟨g, o, none⟩ x) vals out := fun j l u h1 h2 => by
  obtain ⟨a, c, h3, h4⟩ := h j l u h1 h2
  exact ⟨a, c, h3, ownsRow_setCell_below h4 hg x⟩
theorem RowsOwn.snoc {B : Nat} {w : World} {vals : List Value} {out : List (List Int)} (h : RowsOwn B w vals out) {u : Value} {l : List Int} (hl : out[vals.length]? = some l) (hu : ∃ a c, u = .slice a l.length c) (hw : w.ownsRow B 3 1 u l.length (zV l)) : RowsOwn B w (vals ++ [u]) out := fun j l' u' h1 h2 => by
  rcases Nat.lt_trichotomy j vals.length with hj | hj | hj
  · rw [List.getElem?_append_left hj] at h2
    exact h j l' u' h1 h2
  · subst hj
    rw [List.getElem?_append_right (Nat.le_refl _), Nat.sub_self] at h2
    simp at h2
    subst h2
    rw [hl] at h1
    simp at h1
    subst h1
    obtain ⟨a, c, hh⟩ := hu
    exact ⟨a, c, hh, hw⟩
  · rw [List.getElem?_eq_none (by simp; omega)] at h2
    cases h2

def RowsE (w : World) (e : Ending) (w' : World) (out : List (List Int)) : Prop := ∃ v', e = .returned v' ∧ RowsZ w' v' out ∧ Below w.heap.size w w'

set_option maxHeartbeats 400000 in
theorem cloneRows_any (out : List (List Int)) (v : Value) (w : World) (h : RowsZ w v out) (hn : out.length ≤ 1048576) (hl : ∀ l ∈ out, l.length ≤ 1048576) :
    Calls Try.prog 11 #[v] w fun e w' => RowsE w e w' out := by
  have h0 := h
  obtain ⟨a, c, rfl, h1, h2, h3, h4⟩ := h
  have q23 := eql_nil23
  have m23 := fun kl kc => run_make_row' (P := Try.prog) 23 22 (.slice none 0 0) 24 Try.underlying23 Try.info22 rfl kl kc out.length (by omega) (by omega)
  have H0 := hide h0
  have HL := hide hl
  clear h4 h0 hl
  cases a with
  | none =>
    have hl0 : out = [] := List.eq_nil_of_length_eq_zero (by have := h3 rfl; omega)
    subst hl0
    go_enter Try.func11, Try.ntmps11
    go_wp2_with fail
    go_ret
    exact ⟨_, rfl, ⟨none, 0, rfl, Nat.le_refl _, Nat.zero_le _, fun _ => rfl, fun i l h => by simp at h⟩, Below.refl _ _⟩
  | some ad =>
    go_enter Try.func11, Try.ntmps11
    go_wp2_with fail
    have HO := hide (own_made w (.slice none 0 0) out.length 22 (by unfold maxLen; omega))
    go_loopw [4] (fun i wr => ∃ (k : Nat) (vals : List Value), k ≤ out.length ∧ i = .int .i64 k ∧ Hid (vals.length = k ∧ wr.ownsRow w.heap.size 22 1 (.slice (some ⟨w.heap.size, 0, none⟩) out.length out.length) out.length (vals ++ List.replicate (out.length - vals.length) (.slice none 0 0)) ∧
      RowsOwn (w.heap.size + 1) wr vals out ∧ Below w.heap.size w wr ∧ w.heap.size + 1 ≤ wr.heap.size)) (fun i _ => out.length - (intOf i).toNat)
    case atStart => exact ⟨0, [], Nat.zero_le _, rfl, rfl, HO.out, (fun j l u h1 h2 => by simp at h2), (Below.refl _ _).alloc (Nat.le_refl _) _, by simp⟩
    case round =>
      obtain ⟨k, vals, hk, rfl, HJ⟩ := hrel
      obtain ⟨hv, hO, hR, hB, hS⟩ := HJ.out
      by_cases hlt : k < out.length
      · obtain ⟨l, hx⟩ : ∃ x, out[k]? = some x := ⟨_, List.getElem?_eq_getElem hlt⟩
        obtain ⟨b, o, ar, cr, hab, hc, hr⟩ := H0.out.at hx
        simp only [Option.some.injEq] at hab
        subst hab
        have hcr := cell_later hB hc
        have C := hide (cloneInts_any l _ wr (hr.below hB) (HL.out l (List.mem_of_getElem? hx)))
        have HX := hide hx
        have hlt' : (k : Int) < (out.length : Int) := by omega
        clear hx hc hr hv hO hR hB
        go_wp2_with fail
        refine C.out.mono ?_
        rintro e w1 ⟨a1, c1, rfl, hO1, hB1⟩
        obtain ⟨hv, hO, hR, hB, _⟩ := HJ.out
        have hO2 := own_later hO hB1
        obtain ⟨u, hu⟩ : ∃ u, w1.cell? ⟨w.heap.size, k, none⟩ = some u := by
          rw [hO2.cellAt k (by omega)]
          exact ⟨_, List.getElem?_eq_getElem (by have := hO2.1; omega)⟩
        have hf : w1.frozen? ⟨w.heap.size, k, none⟩ = false := hO2.frozenAt _
        have h5 := (hO2.stored k (.slice a1 l.length c1)).1
        rw [← hv, fill_step _ _ _ _ (by omega), hv] at h5
        have h6 := ((hR.below hB1).set w.heap.size k (Nat.lt_succ_self _) (.slice a1 l.length c1)).snoc (u := .slice a1 l.length c1) (l := l) (by rw [hv]; exact HX.out) ⟨_, _, rfl⟩ (ownsRow_setCell_below (own_down hO1 hS) (Nat.lt_succ_self _) _)
        have h7 := (hB.trans (hB1.mono (by omega))).setCell (p := ⟨w.heap.size, k, none⟩) (Nat.le_refl _) (.slice a1 l.length c1)
        have HE := hide (And.intro hv (And.intro h5 (And.intro h6 h7)))
        have hs1 := hB1.size
        have HS := hide (Nat.le_trans hS hs1)
        clear hv hO hR hB hO1 hB1 hO2 h5 h6 h7 C HJ hS hs1
        go_wp2_with fail
        go_roundw
        case rel =>
          obtain ⟨hv, h5, h6, h7⟩ := HE.out
          exact ⟨k + 1, vals ++ [.slice a1 l.length c1], by omega, by go_num, by simp [hv], by rw [List.length_append, List.length_singleton, hv]; exact h5, h6, h7, by simpa using HS.out⟩
        case measure => simp [intOf]; omega
      · have hk' : k = out.length := by omega
        subst hk'
        clear hv hO hR hB hS
        go_wp2_with fail
        go_ret
        obtain ⟨hv, h5, hR, hB, _⟩ := HJ.out
        rw [hv, Nat.sub_self, List.replicate_zero, List.append_nil] at h5
        refine ⟨_, rfl, ⟨_, _, rfl, Nat.le_refl _, by unfold maxLen; omega, (fun h => by cases h), fun i l hl => ?_⟩, hB⟩
        have hi := (List.getElem?_eq_some_iff.1 hl).1
        have hc := h5.cellAt i (by omega)
        obtain ⟨u, hu⟩ : ∃ u, vals[i]? = some u := ⟨_, List.getElem?_eq_getElem (by omega)⟩
        obtain ⟨a', c', hu', ho⟩ := hR i l u hl hu
        subst hu'
        exact ⟨_, _, a', c', rfl, by rw [Nat.zero_add, hc]; exact hu, Row.of_owns ho⟩
end Go.Proofs.Qxb6605452a
