import Derived.Test.Qxb6605452aReach
namespace Go.Proofs.Qxb6605452a
open Go.RowKit

/-- The rows as natural numbers. -/
def natRows (out : List (List Int)) : List (List Nat) := out.map (List.map Int.toNat)
theorem natRows_length (out : List (List Int)) : (natRows out).length = out.length := by simp [natRows]
theorem zV_nat {n : Nat} {l : List Int} (h : InRng n l) : zV l = intsV (l.map Int.toNat) := by
  induction l with
  | nil => rfl
  | cons x l ih =>
    have h1 := h x (by simp)
    have h2 := ih (fun y hy => h y (List.mem_cons_of_mem _ hy))
    simp only [zV, intsV, List.map_cons] at h2 ⊢
    rw [h2, Int.toNat_of_nonneg h1.1]
theorem RowsZ.nat {n : Nat} {w : World} {v : Value} {out : List (List Int)} (h : RowsZ w v out) (hr : ∀ l ∈ out, InRng n l) : Rows2 w v (natRows out) := by
  obtain ⟨a, c, rfl, h1, h2, h3, h4⟩ := h
  refine ⟨a, c, by rw [natRows_length], by rw [natRows_length]; exact h1, h2, fun i l hl => ?_⟩
  simp only [natRows, List.getElem?_map, Option.map_eq_some_iff] at hl
  obtain ⟨l0, hl0, rfl⟩ := hl
  obtain ⟨b, o, ar, cr, rfl, hc, hrow⟩ := h4 i l0 hl0
  rw [zV_nat (hr l0 (List.mem_of_getElem? hl0))] at hrow
  exact ⟨b, o, _, rfl, hc, hrow⟩
theorem natRows_edge {n : Nat} {out : List (List Int)} (hr : ∀ l ∈ out, InRng n l) {v w : Nat} (h : E (natRows out) v w) : w < n := by
  unfold E row at h
  rw [List.getD] at h
  cases hv : (natRows out)[v]? with
  | none => rw [hv] at h; simp at h
  | some l =>
    rw [hv] at h
    simp only [Option.getD_some] at h
    simp only [natRows, List.getElem?_map, Option.map_eq_some_iff] at hv
    obtain ⟨l0, hl0, rfl⟩ := hv
    obtain ⟨x, hx, rfl⟩ := List.mem_map.1 h
    have := hr l0 (List.mem_of_getElem? hl0) x hx
    omega
theorem natRows_len {m : Nat} {out : List (List Int)} (h : ∀ l ∈ out, l.length ≤ m) : ∀ l ∈ natRows out, l.length ≤ m := by
  intro l hl
  obtain ⟨l0, hl0, rfl⟩ := List.mem_map.1 hl
  rw [List.length_map]
  exact h l0 hl0
end Go.Proofs.Qxb6605452a
