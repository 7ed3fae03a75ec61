import Derived.Test.Qxb6605452aRows
import Derived.Test.Qxb6605452aPre
import Derived.WalkKit
import Derived.ProofKit
import Derived.OpenShut
import Derived.ChangeOld
import Derived.Below
import Derived.Deep.Matrix
namespace Go.Proofs.Qxb6605452a
open Go.ChangeShapes Go.WideShapes Go.ChangeAt Go.RowKit Go.Deep

theorem own : ownKnob Try.prog.godebug = none := by kernel_rfl
theorem laidOut : laidOutB Try.prog = true := by kernel_rfl

/-- What the walk is told of a row of numbers. -/
theorem rowOfInts {w : World} {A : Option Addr} {L C : Nat} {Z : List Int} (hl : L ≤ C) (hm : C ≤ maxLen) (hz : Z.length = C) (hn : A = none → C = 0)
    (hc : ∀ a', A = some a' → ∀ c, c < C → w.cell? (a'.add c) = some (.int .i64 (Z.getD c 0))) : Row w (.slice A L C) (zV (Z.take L)) := by
  have hlen : (Z.take L).length = L := by simp; omega
  refine ⟨A, C, ?_, ?_, hm, hn, fun i u hu => ?_⟩
  · rw [zV_length, hlen]
  · rw [zV_length, hlen]; exact hl
  · have hi : i < L := by
      have := (List.getElem?_eq_some_iff.1 hu).1
      rw [zV_length, hlen] at this
      exact this
    cases A with
    | none => have := hn rfl; omega
    | some x =>
      have hcell := hc x rfl i (by omega)
      obtain ⟨b, o, sp⟩ := x
      have hsp : sp = none := by simpa [Addr.add] using World.cell?_spot (hc _ rfl 0 (by omega))
      subst hsp
      rw [Addr.add_lit] at hcell
      refine ⟨b, o, rfl, ?_⟩
      rw [hcell]
      have hiz : i < Z.length := by omega
      have e : (zV (Z.take L))[i]? = some (.int .i64 (Z.getD i 0)) := by
        rw [zV, List.getElem?_map, List.getElem?_take_of_lt hi, List.getElem?_eq_getElem hiz, List.getD, List.getElem?_eq_getElem hiz]
        rfl
      rw [e] at hu
      exact hu

variable {H : Type} {enc : TypeId × Value → H} {w : World}

theorem openInts {v : Value} {d : DataW H} {ps : List MemPlace} (h : DataW.Trod enc Try.prog w 0 (fun _ => true) true 22 v d ps) (hv : ∃ a l c, v = .slice a l c) : ∃ ts, Row w v (zV ts) := by
  obtain ⟨a0, len0, cap0, rfl⟩ := hv
  obtain ⟨fuel, hf⟩ := h
  rcases open_ints Try.underlying22 Try.underlying3 (by kernel_rfl) hf with ⟨hcs, _⟩ | ⟨x, l, c, zs, hcs, _, hl, hm, hz, _, hcell, hwz⟩
  · simp [Value.cells] at hcs
    obtain ⟨rfl, rfl, rfl⟩ := hcs
    exact ⟨[], none, 0, rfl, Nat.le_refl _, Nat.zero_le _, fun _ => rfl, fun i u h => by simp [zV] at h⟩
  · simp [Value.cells] at hcs
    obtain ⟨rfl, rfl, rfl⟩ := hcs
    have hz' : zs.length = cap0 := by simpa using hz
    exact ⟨zs.take len0, rowOfInts hl hm hz' (fun h => by cases h) (fun a' ha c hc => by cases ha; exact hcell c (by omega))⟩

theorem openRows {v : Value} {d : DataW H} {ps : List MemPlace} (h : DataW.Trod enc Try.prog w 0 (fun _ => true) true 23 v d ps) (hv : ∃ a l c, v = .slice a l c) : ∃ out, RowsZ w v out := by
  obtain ⟨a0, len0, cap0, rfl⟩ := hv
  obtain ⟨fuel, hf⟩ := h
  rcases open_int_rows Try.underlying23 Try.underlying22 Try.underlying3 (by kernel_rfl) (by kernel_rfl) hf with ⟨hcs, _⟩ | ⟨x, l, c, A, L, C, Z, hcs, _, hl, hm, _, hr⟩
  · simp [Value.cells] at hcs
    obtain ⟨rfl, rfl, rfl⟩ := hcs
    exact ⟨[], none, 0, rfl, Nat.le_refl _, Nat.zero_le _, fun _ => rfl, fun i u h => by simp at h⟩
  · simp [Value.cells] at hcs
    obtain ⟨rfl, rfl, rfl⟩ := hcs
    refine ⟨(List.range len0).map fun r => (Z r).take (L r), some x, cap0, by simp, by simpa using hl, hm, (fun h => by cases h), fun i l hil => ?_⟩
    have hi : i < len0 := by
      have := (List.getElem?_eq_some_iff.1 hil).1
      simpa using this
    have e : l = (Z i).take (L i) := by
      rw [List.getElem?_map, List.getElem?_range hi] at hil
      simpa using hil.symm
    subst e
    obtain ⟨h1, h2, h3, h4, h5, h6, h7⟩ := hr i (by omega)
    obtain ⟨b, o, sp⟩ := x
    have hsp : sp = none := by simpa [Addr.add] using World.cell?_spot (hr 0 (by omega)).1
    subst hsp
    rw [Addr.add_lit] at h1
    have hlen : ((Z i).take (L i)).length = L i := by simp; omega
    refine ⟨b, o, A i, C i, rfl, ?_, ?_⟩
    · rw [hlen]; exact h1
    · rw [hlen]
      exact rowOfInts h2 h3 h4 h6 (fun a' ha => (h7 a' ha).2)
end Go.Proofs.Qxb6605452a
